import PyProof.Rows.All
import Wide.All
import OpenK.AllK
import Wide.FinOn
import KE.KBytesWalk
import KE.KStar
import KE.KSortAsk
import KE.KEqDict
import PySem.Challenge.RW_ny0272_03
open PySem
set_option maxRecDepth 1000000
set_option maxHeartbeats 0
set_option Elab.async false
set_option linter.all false
set_option linter.defProp false
set_option autoImplicit false
set_option genSizeOf false
set_option genSizeOfSpec false
set_option genInjectivity false
set_option genCtorIdx false
set_option backward.match.sparseCases false
set_option tactic.hygienic false
namespace Mine
noncomputable section
def ah:=@PySem.wpAny_bind
def aJ:=@List.length_map
def aM:=@Nat.le_trans
def bA:=@List.mem_cons_self
def bF:=@List.length_append
def bS:=@List.mem_cons_of_mem
def bW:=@Nat.eq_of_beq_eq_true
def aH:=@PySem.wpAny_pure
def aW:=@Nat.le_of_eq
def bE:=@List.map_cons
def bf:=@Nat.le_refl
def cY:=@PySem.Heap.get?_push_size
def bQ:=@List.mem_cons
def cU:=@Nat.lt_of_le_of_lt
def bU:=@List.mem_map
def dj:=@List.size_toArray
def dU:=@Nat.lt_of_lt_of_le
def bG:=@Nat.blt_eq
def cG:=@List.map_map
def eB:=@Nat.le_add_right
def eW:=@List.append_assoc
def ew:=@List.map_append
def c8:=@PySem.wpAny_holding
def ig:=@PySem.Heap.get?_push_of_some
def gO:=@Nat.le_of_ble_eq_true
def fU:=@List.mem_singleton
def eV:=@List.append_nil
def cz:=@PySem.wpAny_mono
def dM:=@Nat.ne_of_gt
def jT:=@PySem.AutoSeq1.wpAny_loadPart'
def ie:=@List.length_reverse
def dT:=@Nat.ne_of_lt
def iI:=@List.map_congr_left
def k8:=@List.getD_eq_getElem?_getD
def fy:=@PySem.wpAny_standAt
def jS:=@List.mem_of_getElem?
def mE:=@List.getElem?_eq_some_iff
def gN:=@List.nodup_cons
def iH:=@List.lookup_cons
def fx:=@PySem.Heap.lt_size
def ic:=@Nat.le_antisymm
def fF:=@Nat.le_of_lt
def i6:=@List.length_cons
def fT:=@Nat.beq_refl
def pG:=@List.getElem?_append_right
def jw:=@List.all_eq_true
def eO:=@Nat.ble_eq
def mD:=@List.mem_append_right
def i5:=@Nat.le_add_left
def kq:=@Int.natCast_nonneg
def gA:=@Nat.zero_add
def pF:=@List.getElem?_eq_getElem
def jR:=@Option.some.inj
def mB:=@Nat.mul_le_mul_left
def mA:=@Nat.add_le_add_left
def nT:=@List.mem_append_left
def pE:=@PySem.Heap.get?_update_other
def nS:=@PySem.Heap.SameBut.update
def pD:=@List.drop_of_length_le
def mz:=@List.pairwise_cons
def jv:=@PySem.mem_of_lookup
def ko:=@List.mem_append
def pB:=@List.getElem?_toArray
def pA:=@List.getElem?_set_ne
def ib:=@PySem.wpAny_of_eq
def jQ:=@Nat.lt_irrefl
def pz:=@Array.length_toList
def sA:=@Option.isSome_iff_exists
def pq:=@List.mem_map_of_mem
def qJ:=@PySem.Heap.get?_update_self
def nR:=@Nat.le_of_succ_le
def pn:=@Nat.sub_add_cancel
def i4:=@Nat.le_succ
def qI:=@Bool.and_eq_true_iff
def hZ:=@Nat.not_lt
def mw:=@List.nodup_nil
def uh:=@List.getElem?_eq_none_iff
def pj:=@Option.bind_some
def qH:=@List.mem_filterMap
def qG:=@Bool.false_ne_true
def jP:=@Nat.zero_le
def k7:=@List.map_nil
def qF:=@List.getElem?_map
def sy:=@Bool.or_eq_true_iff
def pg:=@Bool.eq_iff_iff
def ug:=@List.getElem?_set_self
def nQ:=@List.cons.inj
def sx:=@Int.negSucc_lt_zero
def fi:=@Ne.symm
def wj:=@Array.getElem?_eq_some_iff
def qE:=@List.length_drop
def pf:=@PySem.Heap.size_push
def wi:=@List.getElem?_append_left
def sq:=@List.nodup_append
def nP:=@Nat.lt_trans
def nO:=@Int.ofNat_le
def wh:=@Option.map_eq_some_iff
def sm:=@List.filter_cons
def sk:=@Nat.succ_le_succ
def qD:=@List.drop_zero
def k9:=@Nat.mod_lt
def ux:=@Nat.add_right_comm
def sG:=@List.filter_map
def zj:=@PySem.MeetsSeq3.plain_eq_loop
def uw:=@List.length_take
def wA:=@List.filterMap_cons
def qO:=@Nat.succ_pos
def qN:=@Nat.succ_add
def nU:=@Nat.sub_le
def qM:=@Int.ofNat_lt
def uu:=@PySem.wpAny_call_entry
def wz:=@List.zip_cons_cons
def uq:=@List.find?_cons
def wy:=@PySem.Obj.data_mapFields
def qL:=@PySem.codeAny_mono
def zi:=@Nat.lt_of_succ_lt_succ
def uo:=@PySem.codeAny_of_tree
def wx:=@Nat.le_succ_of_le
def uk:=@Nat.mul_div_le
def zh:=@List.length_filter_le
def zg:=@List.getElem?_eq_none
def zf:=@PySem.Obj.isFreed_of_fields
def sF:=@Nat.lt_or_ge
def sE:=@Int.le_trans
def wu:=@List.mem_reverse
def wt:=@PySem.wpAny_newObj_type
def qK:=@PySem.wpAny_field
def sD:=@Prod.mk.inj
def wq:=@Nat.not_lt_of_le
def wo:=@Nat.lt_succ_self
def uj:=@PySem.wpAny_setField
def ze:=@Nat.add_le_add_right
def zd:=@PySem.builtinLookup_eq_fast
def ui:=@Nat.add_assoc
def B7:=@Array.getD_eq_getD_getElem?
def sC:=@List.map_id
def wm:=@List.forIn_cons
def wk:=@Nat.min_eq_left
def B6:=@Option.isNone_iff_eq_none
section
open PySem.W PyProof.Rows
inductive AV where
 |none
 |bool (b:Bool)
 |int (i:Int)
 |str (l:List Nat)
 |cE (l:List Nat)
 |tup (l:List AV)
 |lst (l:List AV)
 |dF (a b c:Int)
 |ref (n:Nat)
 |glob (k:Nat)
 |cP (n:Nat)
 |vals (n:Nat)
 |uW
noncomputable def AV.ctorIdx(t:AV):Nat:=@AV.casesOn (λO=>Nat) t 0 (λO=>1) (λO=>2) (λO=>3) (λO=>4) (λO=>5) (λO=>6) (λO O O=>7) (λO=>8) (λO=>9) (λO=>10) (λO=>11) 12
inductive AO where
 |list (l:List AV)
 |dict (ep:Nat) (l:List (List Nat×AV))
 |set (l:List (List Nat))
 |inst (c:Nat) (f:List (Option AV))
 |iter (n i:Nat)
 |dead
noncomputable def AO.ctorIdx(t:AO):Nat:=@AO.casesOn (λO=>Nat) t (λO=>0) (λO O=>1) (λO=>2) (λO O=>3) (λO O=>4) 5
abbrev aC:=List (Option AV)
abbrev Hp:=List AO
inductive C where
 |nil
 |cons (a r:C)
 |cst (c:Const) (v:AV) (k:Nat) (p:Pos)
 |var (x:Str) (k:Nat) (p:Pos)
 |glob (x:Str) (k:Nat) (p:Pos)
 |bin (op:Operator) (a b:C) (p:Pos)
 |neg (a:C) (p:Pos)
 |not (a:C) (p:Pos)
 |cmp (op:CmpOp) (a b:C) (p:Pos)
 |fw (isAnd:Bool) (l:C) (p:Pos)
 |call (f args:C) (p:Pos)
 |star (a:C) (p:Pos)
 |eN (o:C) (x:Str) (m:Nat) (args:C) (ap p:Pos)
 |attr (o:C) (x:Str) (a:Nat) (p:Pos)
 |sub (o i:C) (p:Pos)
 |fL (o lo hi:C) (sp p:Pos)
 |list (l:C) (r:Bool) (p:Pos)
 |tup (l:C) (k:Nat) (p:Pos)
 |dict (p:Pos)
 |dct (k v:C) (p:Pos)
 |fst (c:Const) (k:Nat) (p p':Pos)
 |oF (t a b:C) (p:Pos)
 |gen (tg it elt:C)
 |comp (elt tg it ifs:C) (sc:Scope) (p:Pos)
 |sJ (t e:C) (p:Pos)
 |bad (e:Expr)
inductive S where
 |nil
 |cons (a r:S)
 |asg (ts e:C) (p:Pos)
 |aug (op:Operator) (t e:C) (p:Pos)
 |expr (e:C) (p:Pos)
 |iff (t:C) (a b:S) (p:Pos)
 |gP (t:C) (a b:S) (p:Pos)
 |loop (tg it:C) (b:S) (p:Pos)
 |ret (e:C) (p:Pos)
 |brk (p:Pos)
 |cont (p:Pos)
 |pass (p:Pos)
 |tri (b:S) (x:Str) (k:Nat) (np:Pos) (h:S) (hp p:Pos)
 |del (o i:C) (sp p:Pos)
 |raise (x:Str) (k:Nat) (np:Pos) (args:C) (cp p:Pos)
 |bad (st:Stmt)
noncomputable def iT(l:List Expr):List Comprehension:=match l with
 |[tg,it]=>[⟨tg,it,[],0⟩]
 |_=>[]
noncomputable def un:C->Expr×List Expr
 |.nil=>(.List [] ⟨0,0,0,0⟩,[])
 |.cons a r=>(.List [] ⟨0,0,0,0⟩,(un a).1::(un r).2)
 |.cst c _ k p=>(.Constant c k p,[])
 |.var x _ p=>(.Name x p,[])
 |.glob x _ p=>(.Name x p,[])
 |.bin op a b p=>(.BinOp (un a).1 op (un b).1 p,[])
 |.neg a p=>(.UnaryOp .USub (un a).1 p,[])
 |.not a p=>(.UnaryOp .Not (un a).1 p,[])
 |.cmp op a b p=>(.Compare (un a).1 [op] [(un b).1] p,[])
 |.fw isAnd l p=>(.BoolOp (if isAnd then .And else .Or) (un l).2 p,[])
 |.call f args p=>(.Call (un f).1 (un args).2 [] p,[])
 |.star a p=>(.Starred (un a).1 p,[])
 |.eN o x _ args ap p=>(.Call (.Attribute (un o).1 x ap) (un args).2 [] p,[])
 |.attr o x _ p=>(.Attribute (un o).1 x p,[])
 |.sub o i p=>(.Subscript (un o).1 (un i).1 p,[])
 |.fL o lo hi sp p=>(.Subscript (un o).1 (.Slice (match lo with|.nil=>none|_=>some (un lo).1) (match hi with|.nil=>none|_=>some (un hi).1) none sp) p,[])
 |.list l _ p=>(.List (un l).2 p,[])
 |.tup l k p=>(.Tuple (un l).2 k p,[])
 |.dict p=>(.Dict [] [] p,[])
 |.dct k v p=>(.Dict [some (un k).1] [(un v).1] p,[])
 |.fst c k p p'=>(.JoinedStr [.Constant c k p] p',[])
 |.oF t a b p=>(.IfExp (un t).1 (un a).1 (un b).1 p,[])
 |.gen tg it elt=>((un elt).1,[(un tg).1,(un it).1])
 |.comp elt tg it ifs sc p=>(.ListComp (un elt).1 (⟨(un tg).1,(un it).1,(un ifs).2,0⟩::iT (un elt).2) sc p,[])
 |.sJ t e p=>(.NamedExpr (un t).1 (un e).1 p,[])
 |.bad e=>(e,[])
abbrev au(c:C):Expr:=(un c).1
abbrev bN(c:C):List Expr:=(un c).2
def sO(c:C):Option Expr:=match c with
 |.nil=>none
 |_=>some (au c)
noncomputable def mM:S->Stmt×List Stmt
 |.nil=>(.Pass ⟨0,0,0,0⟩,[])
 |.cons a r=>(.Pass ⟨0,0,0,0⟩,(mM a).1::(mM r).2)
 |.asg ts e p=>(.Assign (bN ts) (au e) p,[])
 |.aug op t e p=>(.AugAssign (au t) op (au e) p,[])
 |.expr e p=>(.Expr (au e) p,[])
 |.iff t a b p=>(.If (au t) (mM a).2 (mM b).2 p,[])
 |.gP t a b p=>(.While (au t) (mM a).2 (mM b).2 p,[])
 |.loop tg it b p=>(.For (au tg) (au it) (mM b).2 [] p,[])
 |.ret e p=>(.Return (sO e) p,[])
 |.brk p=>(.Break p,[])
 |.cont p=>(.Continue p,[])
 |.pass p=>(.Pass p,[])
 |.tri b x _ np h hp p=>(.Try (mM b).2 [.ExceptHandler (some (.Name x np)) none (mM h).2 hp] [] [] p,[])
 |.del o i sp p=>(.Delete [.Subscript (au o) (au i) sp] p,[])
 |.raise x _ np args cp p=>(.Raise (some (.Call (.Name x np) (bN args) [] cp)) none p,[])
 |.bad st=>(st,[])
abbrev wI(s:S):Stmt:=(mM s).1
abbrev c9(s:S):List Stmt:=(mM s).2
inductive Fl where
 |next|brk|cont|ret (v:AV)
noncomputable def Fl.ctorIdx(t:Fl):Nat:=@Fl.casesOn (λO=>Nat) t 0 1 2 (λO=>3)
inductive dG(α:Type) where
 |ok (a:α) (U:aC) (H:Hp)
 |exc (k:Nat) (U:aC) (H:Hp)
 |stuck
variable {α:Type}
noncomputable def dG.ctorIdx(t:dG α):Nat:=@dG.casesOn α (λO=>Nat) t (λO O O=>0) (λO O O=>1) 2
abbrev M(α:Type):=aC->Hp->dG α
noncomputable def cj(a:α):M α:=λU H=>.ok a U H
noncomputable def M.bind{β:Type}(m:M α)(f:α->M β):M β:=λU H=>match m U H with
 |.ok a ρ' H'=>f a ρ' H'
 |.exc k ρ' H'=>.exc k ρ' H'
 |.stuck=>.stuck
noncomputable def M.stuck:M α:=λO O=>.stuck
noncomputable def M.calm(m:M α):M α:=λU H=>match m U H with
 |.ok a ρ' H'=>.ok a ρ' H'
 |.exc ..=>.stuck
 |.stuck=>.stuck
noncomputable def cu(f:Hp->Option α):M α:=λU H=>match f H with
 |some v=>.ok v U H
 |none=>.stuck
noncomputable def mG(f:Hp->Option (α×Hp)):M α:=λU H=>match f H with
 |some r=>.ok r.1 U r.2
 |none=>.stuck
noncomputable def gn(f:Hp->Option Hp):M Unit:=λU H=>match f H with
 |some H'=>.ok () U H'
 |none=>.stuck
noncomputable def aI(b:Bool)(x:Option α):Option α:=match b with
 |true=>x
 |false=>none
set_option genCtorIdx true in
inductive BI where
 |len|abs|divmod|min|sorted|chr|iter|range|int|tuple|bool|set|max
structure FD where
 npar:Nat
 va:Bool
 dflt:List AV
 xE:Nat
 body:S
structure CD where
 init:Nat
 slots:Bool
 meths:List (Nat×Nat)
 bD:List Nat
inductive GE where
 |fn (f:FD)
 |cl (c:CD)
 |exc (k:Nat)
 |bi (b:BI)
 |cv (v:AV)
structure bP where
 gt:List GE
noncomputable def az:Nat:=1000000
noncomputable def VK:Nat:=2^200
noncomputable def ae(l:List α):Nat->Option α:=List.rec (motive:=λO=>Nat->Option α) (λO=>none) (λx O ih n=>match n with|0=>some x|n+1=>ih n) l
noncomputable def ai(l:List α)(y:α):Nat->List α:=List.rec (motive:=λO=>Nat->List α) (λO=>[]) (λx r ih n=>match n with|0=>y::r|n+1=>x::ih n) l
noncomputable def ak(a:List Nat):List Nat->Bool:=List.rec (motive:=λO=>List Nat->Bool) (λl=>match l with|[]=>true|_::_=>false) (λx O ih l=>match l with|[]=>false|y::ys=>match Nat.beq x y with|true=>ih ys|false=>false) a
noncomputable def bu(a:List Nat):List Nat->Bool:=List.rec (motive:=λO=>List Nat->Bool) (λl=>match l with|[]=>false|_::_=>true) (λx O ih l=>match l with|[]=>false|y::ys=>match Nat.beq x y with|true=>ih ys|false=>Nat.blt x y) a
noncomputable def ji(i:Int)(n:Nat):Bool:=match i with
 |.ofNat m=>Nat.beq m n
 |.negSucc _=>false
def dQ(i j:Int):Bool:=match i with
 |.ofNat m=>ji j m
 |.negSucc m=>match j with|.ofNat _=>false|.negSucc n=>Nat.beq m n
noncomputable def fZ(i j:Int):Bool:=match i with
 |.ofNat m=>match j with|.ofNat n=>Nat.blt m n|.negSucc _=>false
 |.negSucc m=>match j with|.ofNat _=>true|.negSucc n=>Nat.blt n m
noncomputable def xK(i:Int):Option Nat:=match i with
 |.ofNat m=>some m
 |.negSucc _=>none
def fK(i:Int):Bool:=Nat.blt i.natAbs VK
def Fn(op:Operator)(i j:Int):Option Int:=match op with
 |.Sub=>some (i-j)
 |.FloorDiv=>aI (!ji j 0&&fK j) (some (i.fdiv j))
 |.Mod=>aI (!ji j 0) (some (i.fmod j))
 |.Pow=>(xK j).bind λn=>aI (Nat.ble n 1000000&&Nat.blt i.natAbs (2^64)) (some (i^n))
 |.RShift=>(xK j).bind λn=>some (i.fdiv (2^n))
 |_=>none
noncomputable def vK(a b:Bool):Bool:=match a with|true=>b|false=>!b
noncomputable def AV.bool?(x:AV):Option Bool:=match x with|.bool a=>some a|_=>.none
noncomputable def AV.int?(x:AV):Option Int:=match x with|.int a=>some a|_=>.none
noncomputable def AV.de(x:AV):Option (List Nat):=match x with|.str l=>some l|_=>.none
noncomputable def AV.MP(x:AV):Option (List Nat):=match x with|.cE l=>some l|_=>.none
noncomputable def AV.Cp(x:AV):Option (List AV):=match x with|.tup l=>some l|_=>.none
noncomputable def AV.nc(x:AV):Option (List AV):=match x with|.lst l=>some l|_=>.none
noncomputable def AV.j3(x:AV):Option Nat:=match x with|.ref n=>some n|_=>.none
noncomputable def AV.tu(x:AV):Bool:=match x with|.none=>true|_=>false
def bx(H:Hp)(n:Nat):Option (List AV):=(ae H n).bind λo=>match o with|.list l=>some l|_=>none
def cD(H:Hp)(n:Nat):Option (Nat×List (List Nat×AV)):=(ae H n).bind λo=>match o with|.dict e l=>some (e,l)|_=>none
def oh(H:Hp)(n:Nat):Option (List (List Nat)):=(ae H n).bind λo=>match o with|.set l=>some l|_=>none
def xZ(H:Hp)(n:Nat):Option (Nat×List (Option AV)):=(ae H n).bind λo=>match o with|.inst c f=>some (c,f)|_=>none
def tG(H:Hp)(n:Nat):Option (Nat×Nat):=(ae H n).bind λo=>match o with|.iter m i=>some (m,i)|_=>none
def cH(H:Hp)(v:AV):Option (List AV):=match v with
 |.lst l=>some l
 |.ref n=>bx H n
 |_=>none
def rh(H:Hp)(v:AV):Option (List AV):=match v with
 |.tup l=>some l
 |.lst l=>some l
 |.ref n=>bx H n
 |_=>none
noncomputable def aV(H:Hp):Nat->AV->AV
 |0,v=>v
 |n+1,v=>match cH H v with
  |some l=>.lst (l.map (aV H n))
  |none=>v
mutual
noncomputable def cw:AV->Nat->Bool
 |.int _,_=>true
 |.bool _,_=>true
 |.str _,_=>true
 |.lst l,n=>match n with|0=>false|n+1=>dh l n
 |.tup l,n=>match n with|0=>false|n+1=>dh l n
 |_,_=>false
noncomputable def dh:List AV->Nat->Bool
 |[],_=>true
 |x::xs,n=>match cw x n with|true=>dh xs n|false=>false
end
mutual
noncomputable def c6:AV->AV->Option Bool
 |.int a,y=>(y.int?).map λb=>dQ a b
 |.bool a,y=>(y.bool?).map λb=>vK a b
 |.str a,y=>(y.de).map λb=>ak a b
 |.lst a,y=>(y.nc).bind λb=>fu a b
 |.tup a,y=>(y.Cp).bind λb=>fu a b
 |_,_=>none
noncomputable def fu:List AV->List AV->Option Bool
 |[],ys=>match ys with|[]=>some true|_::_=>some false
 |x::xs,ys=>match ys with
  |[]=>some false
  |y::ys=>(c6 x y).bind λb=>match b with|true=>fu xs ys|false=>some false
end
def iV(x y:AV):Option Bool:=aI (cw x 3&&cw y 3) (c6 x y)
def AG(x y:AV):Option Bool:=match x with
 |.int a=>(y.int?).map λb=>fZ a b
 |.str a=>(y.de).map λb=>bu a b
 |_=>none
noncomputable def AE:List AV->List AV->Option Bool
 |[],ys=>match ys with|[]=>some false|_::_=>some true
 |x::xs,ys=>match ys with
  |[]=>some false
  |y::ys=>(iV x y).bind λb=>match b with|true=>AE xs ys|false=>AG x y
def AH(x y:AV):Option Bool:=match x with
 |.tup a=>(y.Cp).bind λb=>AE a b
 |_=>AG x y
def Nc(x y:AV)(H:Hp):Option AV:=match x with
 |.int a=>(y.int?).map λb=>.int (a+b)
 |.cE a=>(y.MP).bind λb=>aI (Nat.ble (a.length+b.length) az) (some (.cE (a++b)))
 |.str a=>(y.de).bind λb=>aI (Nat.ble (a.length+b.length) az) (some (.str (a++b)))
 |_=>(cH H x).bind λa=>(cH H y).bind λb=>aI (Nat.ble (a.length+b.length) az) (some (.lst (a++b)))
def I7(x y:AV):Option AV:=(x.int?).bind λi=>(y.int?).bind λj=>aI (fK i&&fK j) (some (.int (i*j)))
def iz(op:Operator)(x y:AV)(H:Hp):Option AV:=match op with
 |.Add=>Nc x y H
 |.Mult=>I7 x y
 |op=>(x.int?).bind λa=>(y.int?).bind λb=>(Fn op a b).map .int
def gR(x:AV)(H:Hp):Option Bool:=match x with
 |.none=>some false
 |.bool b=>some b
 |.int a=>some (!ji a 0)
 |_=>(cH H x).map λl=>!l.isEmpty
def cy(k:List Nat)(l:List (List Nat×AV)):Option AV:=List.rec (motive:=λO=>Option AV) none (λp O ih=>match ak p.1 k with|true=>some p.2|false=>ih) l
def eH(k:List Nat)(v:AV)(l:List (List Nat×AV)):List (List Nat×AV):=List.rec (motive:=λO=>List (List Nat×AV)) [(k,v)] (λp r ih=>match ak p.1 k with|true=>(p.1,v)::r|false=>p::ih) l
def oR(k:List Nat)(l:List (List Nat×AV)):List (List Nat×AV):=List.rec (motive:=λO=>List (List Nat×AV)) [] (λp r ih=>match ak p.1 k with|true=>r|false=>p::ih) l
def c5(k:List Nat)(l:List (List Nat×AV)):Bool:=(cy k l).isSome
def aU(k:List Nat)(l:List (List Nat)):Bool:=List.rec (motive:=λO=>Bool) false (λp O ih=>match ak p k with|true=>true|false=>ih) l
noncomputable def gH(x:AV):List AV->Option Bool
 |[]=>some false
 |y::ys=>(c6 y x).bind λb=>(gH x ys).map λc=>b||c
def gU(x c:AV)(H:Hp):Option Bool:=match cH H c with
 |some l=>aI (cw (aV H 3 x) 3&&dh (l.map (aV H 3)) 3) (gH (aV H 3 x) (l.map (aV H 3)))
 |none=>(c.j3).bind λn=>(x.de).bind λk=>match cD H n with
  |some r=>some (c5 k r.2)
  |none=>(oh H n).map λl=>aU k l
def sT(a b:List (List Nat×AV)):Option Bool:=List.rec (motive:=λO=>Option Bool) (some true) (λp O ih=>match cy p.1 b with
 |some v=>(p.2.int?).bind λi=>(v.int?).bind λj=>ih.map λc=>dQ i j&&c
 |none=>some false) a
def yD(a b:List (List Nat×AV)):Option Bool:=match Nat.beq a.length b.length with|true=>sT a b|false=>some false
def qn(H:Hp)(v:AV):Option (List (List Nat×AV)):=(v.j3).bind λn=>(cD H n).map (·.2)
def gL(x y:AV)(H:Hp):Option Bool:=match qn H x with
 |some a=>(qn H y).bind λb=>yD a b
 |none=>iV (aV H 3 x) (aV H 3 y)
def fO(op:CmpOp)(x y:AV)(H:Hp):Option Bool:=match op with
 |.Eq=>gL x y H
 |.NotEq=>(gL x y H).map (!·)
 |.Lt=>AH x y
 |.Gt=>(x.int?).bind λi=>(y.int?).map λj=>fZ j i
 |.Is=>aI y.tu (some x.tu)
 |.IsNot=>aI y.tu (some !x.tu)
 |.In=>gU x y H
 |.NotIn=>(gU x y H).map (!·)
 |_=>none
def j6(i:Int)(l:List α):Option α:=match i with
 |.ofNat m=>ae l m
 |.negSucc m=>aI (Nat.blt m l.length) (ae l (l.length-(m+1)))
def lB(o i:AV)(H:Hp):Option AV:=match o with
 |.str l=>(i.int?).bind λk=>(j6 k l).map λc=>.str [c]
 |.lst l=>(i.int?).bind λk=>j6 k l
 |.tup l=>(i.int?).bind λk=>j6 k l
 |.ref n=>match bx H n with
  |some l=>(i.int?).bind λk=>j6 k l
  |none=>(cD H n).bind λr=>(i.de).bind λk=>cy k r.2
 |_=>none
def kP(x:AV):Option (Option Int):=match x with
 |.none=>some none
 |_=>(x.int?).bind λi=>aI (Nat.ble i.natAbs az) (some (some i))
noncomputable def vS(n:Nat)(i:Int):Nat:=match i with
 |.ofNat k=>k
 |.negSucc k=>n-(k+1)
def dA(lo hi:Option Int)(l:List α):List α:=
 let l':=match hi with|none=>l|some i=>l.take (vS l.length i)
 match lo with|none=>l'|some i=>l'.drop (vS l.length i)
def kC(o lo hi:AV)(H:Hp):Option AV:=match o with
 |.cE l=>(kP lo).bind λa=>(kP hi).map λb=>.cE (dA a b l)
 |.str l=>(kP lo).bind λa=>(kP hi).map λb=>.str (dA a b l)
 |_=>(cH H o).bind λl=>(kP lo).bind λa=>(kP hi).map λb=>.lst (dA a b l)
inductive bJ where
 |fix (l:List AV)
 |lst (n i:Nat)
 |dct (n i sz ep:Nat)
 |vals (n i sz ep:Nat)
noncomputable def Af(c:Int)(n:Nat):Int->List AV:=Nat.rec (motive:=λO=>Int->List AV) (λO=>[]) (λO ih a=>.int a::ih (a+c)) n
def pV(a b c:Int):Nat:=match fZ a b with
 |true=>((b-a-1)/c+1).toNat
 |false=>0
def eQ(v:AV)(H:Hp):Option bJ:=match v with
 |.tup l=>some (.fix l)
 |.lst l=>some (.fix l)
 |.cE l=>some (.fix (l.map λd=>.int ((65+d:Nat):Int)))
 |.str l=>some (.fix (l.map λd=>.str [d]))
 |.dF a b c=>some (.fix (Af c (pV a b c) a))
 |.ref n=>match bx H n with
  |some _=>some (.lst n 0)
  |none=>(cD H n).map λr=>.dct n 0 r.2.length r.1
 |.vals n=>(cD H n).map λr=>.vals n 0 r.2.length r.1
 |_=>none
def bJ.next(s:bJ)(H:Hp):Option (Option (AV×bJ)):=match s with
 |.fix l=>match l with
  |[]=>some none
  |d::r=>some (some (d,.fix r))
 |.lst n i=>(bx H n).map λl=>(ae l i).map λd=>(d,.lst n (i+1))
 |.dct n i sz e=>(cD H n).bind λr=>aI (Nat.beq r.2.length sz&&Nat.beq r.1 e) (some ((ae r.2 i).map λp=>(.str p.1,.dct n (i+1) sz e)))
 |.vals n i sz e=>(cD H n).bind λr=>aI (Nat.beq r.2.length sz&&Nat.beq r.1 e) (some ((ae r.2 i).map λp=>(p.2,.vals n (i+1) sz e)))
noncomputable def jj(lt:α->α->Bool)(x:α)(l:List α):List α:=List.rec (motive:=λO=>List α) [x] (λy ys ih=>match lt y x with|true=>y::ih|false=>x::y::ys) l
def cC(lt:α->α->Bool)(l:List α):List α:=List.rec (motive:=λO=>List α) [] (λx O ih=>jj lt x ih) l
noncomputable def lS:List AV->Option (List Int)
 |[]=>some []
 |x::r=>(x.int?).bind λi=>(lS r).map (i::·)
noncomputable def lq:List AV->Option (List (List Nat))
 |[]=>some []
 |x::r=>(x.de).bind λi=>(lq r).map (i::·)
def pI:List AV->Option (List (List (List Nat)))
 |[]=>some []
 |x::r=>(x.nc).bind λl=>(lq l).bind λt=>(pI r).map (t::·)
def kI(a:List (List Nat)):List (List Nat)->Bool:=List.rec (motive:=λO=>List (List Nat)->Bool) (λl=>match l with|[]=>false|_::_=>true) (λx O ih l=>match l with|[]=>false|y::ys=>match ak x y with|true=>ih ys|false=>bu x y) a
noncomputable def l9(aY:Nat->Nat->Bool)(n:Nat)(t:KasT α):Option α:=KasT.rec (motive:=λO=>Option α) (λa=>some a) (λi j O ih=>match Nat.blt i n&&Nat.blt j n with|true=>ih (aY i j)|false=>none) t
def rB(l:List α)(is:List Nat):Option (List α):=List.rec (motive:=λO=>Option (List α)) (some []) (λi O ih=>(ae l i).bind λx=>ih.map (x::·)) is
def n9(ts:List (List (List Nat)))(l:List α):Option (List α):=match Nat.blt ts.length 2 with
 |true=>some l
 |false=>(l9 (λi j=>kI (ts.getD i []) (ts.getD j [])) ts.length (kas_sort ts.length)).bind λp=>aI (Nat.beq p.size ts.length) (rB l p.toList)
def jA(l:List AV):Option (List AV):=match lS l with
 |some ns=>some ((cC fZ ns).map .int)
 |none=>match lq l with
  |some ts=>some ((cC bu ts).map .str)
  |none=>(pI l).bind λts=>n9 ts l
def oB(l:List Int):Int->Int:=List.rec (motive:=λO=>Int->Int) (λb=>b) (λx O ih b=>ih (match fZ b x with|true=>x|false=>b)) l
def JC(v:AV)(H:Hp):Option Nat:=match v with
 |.str l=>some l.length
 |.ref n=>match bx H n with
  |some l=>some l.length
  |none=>(cD H n).map λr=>r.2.length
 |.lst l=>some l.length
 |.tup l=>some l.length
 |_=>none
def oy(a b c:Int):Bool:=Nat.ble a.natAbs az&&Nat.ble b.natAbs az&&fZ 0 c&&Nat.ble c.natAbs az
def tW(b:BI)(x:AV)(H:Hp):Option (AV×Hp):=match b with
 |.len=>(JC x H).bind λn=>aI (Nat.ble n az) (some (.int n,H))
 |.abs=>(x.int?).map λa=>(.int (match fZ a 0 with|true=>-a|false=>a),H)
 |.int=>(x.int?).map λa=>(.int a,H)
 |.chr=>(x.int?).bind λa=>(xK a).bind λn=>aI (Nat.ble 65 n&&Nat.blt n 81) (some (.str [n-65],H))
 |.range=>(x.int?).bind λb=>aI (oy 0 b 1) (some (.dF 0 b 1,H))
 |.sorted=>(cH H x).bind λl=>aI (Nat.blt l.length 64) ((jA l).map λr=>(.lst r,H))
 |.max=>(cH H x).bind λl=>(lS l).bind λns=>match ns with|[]=>none|y::ys=>some (.int (oB ys y),H)
 |.iter=>(x.j3).bind λn=>(bx H n).map λO=>(.ref H.length,H++[.iter n 0])
 |.tuple=>(cH H x).map λl=>(.tup l,H)
 |.bool=>(x.j3).bind λn=>(bx H n).map λl=>(.bool (!l.isEmpty),H)
 |_=>none
def MX(b:BI)(x y:AV)(H:Hp):Option (AV×Hp):=match b with
 |.divmod=>(x.int?).bind λa=>(y.int?).bind λc=>aI (!ji c 0&&fK c) (some (.tup [.int (a.fdiv c),.int (a.fmod c)],H))
 |.range=>(x.int?).bind λa=>(y.int?).bind λc=>aI (oy a c 1) (some (.dF a c 1,H))
 |.min=>(x.de).bind λa=>(y.de).map λb=>(.str (match bu b a with|true=>b|false=>a),H)
 |.max=>(x.de).bind λa=>(y.de).map λb=>(.str (match bu a b with|true=>b|false=>a),H)
 |_=>none
def yO(b:BI)(args:List AV)(H:Hp):Option (AV×Hp):=match args with
 |[]=>match b with
  |.set=>some (.ref H.length,H++[.set []])
  |_=>none
 |x::r=>match r with
  |[]=>tW b x H
  |y::r=>match r with
   |[]=>MX b x y H
   |_::_=>none
structure Ev where
 e:Nat->Bool->C->M AV
 t:Nat->Bool->C->M Bool
 s:Nat->Bool->S->M Fl
 w:Nat->Bool->C->S->S->M Fl
 f:Nat->Bool->C->bJ->S->M Fl
 cp:Nat->C->bJ->C->C->Nat->M Unit
 call:Nat->AV->List AV->M AV
noncomputable def cs:C->List C
 |.cons a r=>a::cs r
 |_=>[]
noncomputable def ss:S->List S
 |.cons a r=>a::ss r
 |_=>[]
noncomputable def C.kB(c:C):Option C:=match c with
 |.star a _=>some a
 |_=>Option.none
def gZ(f:C->M AV)(l:List C):M (List AV):=List.rec (motive:=λO=>M (List AV)) (cj []) (λc O ih=>match c.kB with
  |some a=>M.bind (f a) λv=>cu λH=>rh H v
  |none=>M.bind (f c) λv=>M.bind ih λvs=>cj (v::vs)) l
def tQ(f:C->M AV)(c:C):M AV:=match c with
 |.nil=>cj .none
 |_=>f c
def cW(f:S->M Fl)(l:List S):M Fl:=List.rec (motive:=λO=>M Fl) (cj .next) (λs O ih=>M.bind (f s) λfl=>match fl with
  |.next=>ih
  |.brk=>cj .brk
  |.cont=>cj .cont
  |.ret v=>cj (.ret v)) l
def uF(f:C->M Bool)(isAnd:Bool)(l:List C):M Bool:=List.rec (motive:=λO=>M Bool) (cj isAnd) (λc O ih=>M.bind (f c) λb=>match b with
  |true=>match isAnd with|true=>ih|false=>cj true
  |false=>match isAnd with|true=>cj false|false=>ih) l
def BG(f:C->M AV)(isAnd:Bool)(l:List C):M AV:=List.rec (motive:=λO=>M AV) M.stuck (λc r ih=>match r with
  |[]=>f c
  |_::_=>M.bind (f c) λv=>M.bind (cu (gR v)) λb=>match b with
   |true=>match isAnd with|true=>ih|false=>cj v
   |false=>match isAnd with|true=>cj v|false=>ih) l
def mJ(k:Nat):M AV:=λU H=>match ae U k with
 |some o=>match o with
  |some v=>.ok v U H
  |none=>.stuck
 |none=>.stuck
def lE(k:Nat)(v:AV):M Unit:=λU H=>match Nat.blt k U.length with
 |true=>.ok () (ai U (some v) k) H
 |false=>.stuck
noncomputable def C.slot(c:C):Nat:=match c with
 |.var _ k _=>k
 |_=>9999
def sV(l:List C):List AV->M Unit:=List.rec (motive:=λO=>List AV->M Unit) (λvs=>match vs with|[]=>cj ()|_::_=>M.stuck) (λc O ih vs=>match vs with
 |[]=>M.stuck
 |v::vs=>M.bind (lE c.slot v) λO=>ih vs) l
noncomputable def Bj(v:AV):Option (List AV):=match v with
 |.tup l=>some l
 |.lst l=>some l
 |_=>none
def jq(t:C)(v:AV):M Unit:=match t with
 |.var _ k _=>lE k v
 |.tup l _ _=>match Bj v with
  |some vs=>sV (cs l) vs
  |none=>M.stuck
 |_=>M.stuck
inductive MK where
 |user (k:Nat)
 |list|dict|set|str
def u9(mk:MK)(m:Nat):Bool:=match mk with
 |.list=>Nat.blt m 4
 |.dict=>Nat.beq m 6||Nat.beq m 7
 |.set=>Nat.beq m 8
 |.str=>Nat.beq m 5
 |.user _=>false
def l8(P:bP)(c:Nat):Option CD:=(ae P.gt c).bind λg=>match g with
 |.cl cd=>some cd
 |_=>none
def VF(P:bP)(m:Nat)(o:AO):Option MK:=match o with
 |.inst c _=>(l8 P c).bind λcd=>(cd.meths.lookup m).map .user
 |.list _=>some .list
 |.dict _ _=>some .dict
 |.set _=>some .set
 |_=>none
def kL(P:bP)(ov:AV)(m:Nat)(H:Hp):Option MK:=match ov with
 |.ref n=>(ae H n).bind λo=>VF P m o
 |.str _=>some .str
 |_=>none
noncomputable def rI:List AV->Option (List Nat)
 |[]=>some []
 |x::r=>(x.de).bind λa=>(rI r).map (a++·)
def vc(m:Nat)(n:Nat)(l:List AV)(args:List AV)(H:Hp):Option (AV×Hp):=match args with
 |[]=>match m with
  |1=>(l.getLast?).map λv=>(v,ai H (.list l.dropLast) n)
  |2=>some (.none,ai H (.list []) n)
  |_=>none
 |v::r=>match r with
  |[]=>match m with
   |0=>aI (Nat.blt l.length az) (some (.none,ai H (.list (l++[v])) n))
   |m=>aI (Nat.beq m 3) ((cH H v).bind λys=>aI (Nat.ble (l.length+ys.length) az) (some (.none,ai H (.list (l++ys)) n)))
  |_::_=>none
def xP(m:Nat)(n:Nat)(l:List (List Nat×AV))(args:List AV)(H:Hp):Option (AV×Hp):=match args with
 |[]=>aI (Nat.beq m 7) (some (.vals n,H))
 |v::r=>match r with
  |[]=>aI (Nat.beq m 6) ((v.de).map λk=>((cy k l).getD .none,H))
  |x::r=>match r with
   |[]=>aI (Nat.beq m 6) ((v.de).map λk=>((cy k l).getD x,H))
   |_::_=>none
def Ji(n:Nat)(l:List (List Nat))(args:List AV)(H:Hp):Option (AV×Hp):=match args with
 |[]=>none
 |v::r=>match r with
  |[]=>(v.de).bind λk=>aI (Nat.blt l.length 1000) (some (.none,match aU k l with|true=>H|false=>ai H (.set (l++[k])) n))
  |_::_=>none
def Jh(sep:List Nat)(args:List AV)(H:Hp):Option (AV×Hp):=match args with
 |[]=>none
 |v::r=>match r with
  |[]=>aI sep.isEmpty ((cH H v).bind λl=>(rI l).bind λx=>aI (Nat.ble x.length az) (some (.str x,H)))
  |_::_=>none
def lL(mk:MK)(m:Nat)(ov:AV)(args:List AV)(H:Hp):Option (AV×Hp):=match mk with
 |.list=>(ov.j3).bind λn=>(bx H n).bind λl=>vc m n l args H
 |.dict=>(ov.j3).bind λn=>(cD H n).bind λr=>xP m n r.2 args H
 |.set=>(ov.j3).bind λn=>(oh H n).bind λl=>Ji n l args H
 |.str=>(ov.de).bind λl=>Jh l args H
 |.user _=>none
noncomputable def gy(l:List Nat)(a:Nat):Nat:=List.rec (motive:=λO=>Nat) 0 (λx O ih=>match Nat.beq x a with|true=>0|false=>ih+1) l
def qr(P:bP)(a:Nat)(ov:AV)(H:Hp):Option AV:=(ov.j3).bind λn=>(ae H n).bind λo=>match o with
 |.inst c fs=>(l8 P c).bind λcd=>(ae fs (gy cd.bD a)).bind λr=>r
 |.iter _ _=>aI (Nat.beq a 9) (some (.cP n))
 |_=>none
def pP(P:bP)(a:Nat)(ov v:AV)(H:Hp):Option Hp:=(ov.j3).bind λn=>(xZ H n).bind λr=>(l8 P r.1).bind λcd=>aI (Nat.blt (gy cd.bD a) r.2.length) (some (ai H (.inst r.1 (ai r.2 (some v) (gy cd.bD a))) n))
def rb(o i v:AV)(H:Hp):Option Hp:=(o.j3).bind λn=>match bx H n with
 |some l=>(i.int?).bind λk=>(xK k).bind λj=>aI (Nat.blt j l.length) (some (ai H (.list (ai l v j)) n))
 |none=>(cD H n).bind λr=>(i.de).bind λk=>aI (Nat.blt r.2.length az) (some (ai H (.dict (match c5 k r.2 with|true=>r.1|false=>r.1+1) (eH k v r.2)) n))
def yH(o i:AV)(H:Hp):Option Hp:=(o.j3).bind λn=>(cD H n).bind λr=>(i.de).bind λk=>aI (c5 k r.2) (some (ai H (.dict (r.1+1) (oR k r.2)) n))
def zE(P:bP)(f:C->M AV)(q:Bool)(v:AV)(t:C):M Unit:=match t with
 |.var _ k _=>lE k v
 |.sub o i _=>M.bind (f o) λov=>M.bind (f i) λiv=>gn λH=>rb ov iv v H
 |.attr o _ a _=>M.bind (f o) λov=>gn λH=>pP P a ov v H
 |.tup ..=>match q with|true=>jq t v|false=>M.stuck
 |_=>M.stuck
def wV(P:bP)(f:C->M AV)(q:Bool)(v:AV)(l:List C):M Unit:=List.rec (motive:=λO=>M Unit) (cj ()) (λt O ih=>M.bind (zE P f q v t) λO=>ih) l
noncomputable def tU(v:AV):Bool:=match v with
 |.glob _=>true
 |.cP _=>true
 |_=>false
def jn(l:List Nat)(U:aC):aC:=List.rec (motive:=λO=>aC->aC) (λU=>U) (λk O ih U=>ih (ai U none k)) l U
def Hj(t:C):List Nat:=match t with
 |.var _ k _=>[k]
 |.tup l _ _=>(cs l).map C.slot
 |_=>[]
def slots(t elt:C):List Nat:=Hj t++match elt with
 |.gen t2 _ _=>Hj t2
 |_=>[]
def tS(E:Ev)(d:Nat)(elt tg ifs:C)(x:AV):M AV:=λU H=>match eQ x H with
 |some src=>match E.cp d tg src ifs elt H.length (jn (slots tg elt) U) (H++[.list []]) with
  |.ok _ _ H'=>.ok (.ref H.length) U H'
  |.exc ..=>.stuck
  |.stuck=>.stuck
 |none=>.stuck
def vR(E:Ev)(d:Nat)(q:Bool)(elt tg it ifs:C):M AV:=match q with
 |true=>M.bind (E.e d true it) (tS E d elt tg ifs)
 |false=>M.stuck
def yr(P:bP)(k:Nat):M AV:=match ae P.gt k with
 |some g=>match g with
  |.cv v=>cj v
  |_=>cj (.glob k)
 |none=>M.stuck
def MW(E:Ev)(d:Nat)(q:Bool)(op:Operator)(a b:C):M AV:=M.bind (E.e d q a) λx=>M.bind (E.e d q b) λy=>cu (iz op x y)
noncomputable def Dm(x:AV):Option AV:=(x.int?).map λa=>.int (-a)
def I4(E:Ev)(d:Nat)(q:Bool)(a:C):M AV:=M.bind (E.e d q a) λx=>cu λO=>Dm x
def IT(E:Ev)(d:Nat)(q:Bool)(a:C):M AV:=M.bind (E.e d q a) λx=>M.bind (cu (gR x)) λb=>cj (.bool (!b))
def BB(op:CmpOp)(x y:AV)(H:Hp):Option AV:=(fO op x y H).map .bool
def Mr(E:Ev)(d:Nat)(q:Bool)(op:CmpOp)(a b:C):M AV:=M.bind (E.e d q a) λx=>M.bind (E.e d q b) λy=>cu (BB op x y)
def MM(E:Ev)(d:Nat)(q:Bool)(f args:C):M AV:=M.bind (E.e d q f) λfv=>match tU fv&&q with
 |true=>M.bind (gZ (E.e d q) (cs args)) λvs=>E.call d fv vs
 |false=>M.stuck
noncomputable def vB(l:List C):Bool:=l.any λc=>c.kB.isSome
def AB(E:Ev)(d:Nat)(q:Bool)(mk:MK)(ov:AV)(m:Nat)(args:C):M AV:=match u9 mk m&&!vB (cs args) with
 |true=>M.bind (gZ (E.e d q) (cs args)) λvs=>mG λH=>lL mk m ov vs H
 |false=>M.stuck
def I9(E:Ev)(d:Nat)(q:Bool)(k:Nat)(ov:AV)(args:C):M AV:=match q with
 |true=>M.bind (gZ (E.e d q) (cs args)) λvs=>E.call d (.glob k) (ov::vs)
 |false=>M.stuck
def Du(E:Ev)(d:Nat)(q:Bool)(mk:MK)(ov:AV)(m:Nat)(args:C):M AV:=match mk with
 |.user k=>I9 E d q k ov args
 |_=>AB E d q mk ov m args
def Je(P:bP)(E:Ev)(d:Nat)(q:Bool)(o:C)(m:Nat)(args:C):M AV:=M.bind (E.e d q o) λov=>M.bind (cu (kL P ov m)) λmk=>Du E d q mk ov m args
def acT(P:bP)(E:Ev)(d:Nat)(q:Bool)(o:C)(a:Nat):M AV:=M.bind (E.e d q o) λov=>cu (qr P a ov)
def GV(E:Ev)(d:Nat)(q:Bool)(o i:C):M AV:=M.bind (E.e d q o) λov=>M.bind (E.e d q i) λiv=>cu (lB ov iv)
def Hm(E:Ev)(d:Nat)(q:Bool)(o lo hi:C):M AV:=M.bind (E.e d q o) λov=>M.bind (tQ (E.e d q) lo) λa=>M.bind (tQ (E.e d q) hi) λb=>cu (kC ov a b)
noncomputable def Jv(r:Bool)(vs:List AV)(H:Hp):Option (AV×Hp):=match r with
 |true=>some (.ref H.length,H++[.list vs])
 |false=>some (.lst vs,H)
def JB(E:Ev)(d:Nat)(q:Bool)(l:C)(r:Bool):M AV:=M.bind (gZ (E.e d q) (cs l)) λvs=>mG (Jv r vs)
def GJ(E:Ev)(d:Nat)(q:Bool)(l:C):M AV:=M.bind (gZ (E.e d q) (cs l)) λvs=>cj (.tup vs)
noncomputable def yG:M AV:=λU H=>.ok (.ref H.length) U (H++[.dict 0 []])
def Ah(r x y:AV)(H:Hp):Option Hp:=(r.j3).bind λn=>(cD H n).bind λt=>(x.de).bind λk=>aI (Nat.blt t.2.length az) (some (ai H (.dict (match c5 k t.2 with|true=>t.1|false=>t.1+1) (eH k y t.2)) n))
def Mj(E:Ev)(d:Nat)(q:Bool)(k v:C):M AV:=M.bind yG λr=>M.bind (E.e d q k) λx=>M.bind (E.e d q v) λy=>M.bind (gn (Ah r x y)) λO=>cj r
def Kh(E:Ev)(d:Nat)(q:Bool)(t a b:C):M AV:=M.bind (E.t d q t) λc=>match c with
 |true=>E.e d q a
 |false=>E.e d q b
def QO(E:Ev)(d:Nat)(q:Bool)(t e:C):M AV:=M.bind (E.e d q e) λv=>M.bind (lE t.slot v) λO=>cj v
def G5(P:bP)(E:Ev)(d:Nat)(q:Bool)(c:C):M AV:=match c with
 |.cst _ v _ _=>cj v
 |.var _ k _=>mJ k
 |.glob _ k _=>yr P k
 |.bin op a b _=>MW E d q op a b
 |.neg a _=>I4 E d q a
 |.not a _=>IT E d q a
 |.cmp op a b _=>Mr E d q op a b
 |.fw isAnd l _=>BG (E.e d q) isAnd (cs l)
 |.call f args _=>MM E d q f args
 |.eN o _ m args _ _=>Je P E d q o m args
 |.attr o _ a _=>acT P E d q o a
 |.sub o i _=>GV E d q o i
 |.fL o lo hi _ _=>Hm E d q o lo hi
 |.list l r _=>JB E d q l r
 |.tup l _ _=>GJ E d q l
 |.dict _=>yG
 |.dct k v _=>Mj E d q k v
 |.fst _ _ _ _=>cj .uW
 |.oF t a b _=>Kh E d q t a b
 |.comp elt tg it ifs _ _=>vR E d q elt tg it ifs
 |.sJ t e _=>QO E d q t e
 |_=>M.stuck
def IS(E:Ev)(d:Nat)(q:Bool)(a:C):M Bool:=M.bind (E.t d q a) λb=>cj (!b)
def Mq(E:Ev)(d:Nat)(q:Bool)(op:CmpOp)(a b:C):M Bool:=M.bind (E.e d q a) λx=>M.bind (E.e d q b) λy=>cu (fO op x y)
def Gu(E:Ev)(d:Nat)(q:Bool)(c:C):M Bool:=M.bind (E.e d q c) λv=>cu (gR v)
def G2(E:Ev)(d:Nat)(q:Bool)(c:C):M Bool:=match c with
 |.not a _=>IS E d q a
 |.fw isAnd l _=>uF (E.t d q) isAnd (cs l)
 |.cmp op a b _=>Mq E d q op a b
 |.oF ..=>M.stuck
 |.gen ..=>M.stuck
 |_=>Gu E d q c
noncomputable def tX(op:Operator)(x y:AV):Option AV:=(x.int?).bind λi=>(y.int?).bind λj=>match op with
 |.Add=>some (.int (i+j))
 |.Sub=>some (.int (i-j))
 |_=>none
def qT(E:Ev)(d:Nat)(q:Bool)(e:C):M AV:=match e with
 |.comp elt tg it ifs _ _=>vR E d q elt tg it ifs
 |_=>E.e d q e
def Fp(P:bP)(E:Ev)(d:Nat)(q:Bool)(ts e:C):M Fl:=M.bind (qT E d q e) λv=>M.bind (wV P (E.e d q) q v (cs ts)) λO=>cj .next
def acR(E:Ev)(d:Nat)(q:Bool)(op:Operator)(k:Nat)(e:C):M Fl:=M.bind (mJ k) λx=>M.bind (E.e d q e) λy=>M.bind (cu λO=>tX op x y) λv=>M.bind (lE k v) λO=>cj .next
def M4(P:bP)(E:Ev)(d:Nat)(q:Bool)(op:Operator)(o:C)(a:Nat)(e:C):M Fl:=M.bind (E.e d q o) λov=>M.bind (cu (qr P a ov)) λx=>M.bind (E.e d q e) λy=>M.bind (cu λO=>tX op x y) λv=>M.bind (gn λH=>pP P a ov v H) λO=>cj .next
def M5(P:bP)(E:Ev)(d:Nat)(q:Bool)(op:Operator)(t e:C):M Fl:=match t with
 |.var _ k _=>acR E d q op k e
 |.attr o _ a _=>M4 P E d q op o a e
 |_=>M.stuck
def LM(E:Ev)(d:Nat)(q:Bool)(e:C):M Fl:=M.bind (E.e d q e) λO=>cj .next
def Kg(E:Ev)(d:Nat)(q:Bool)(t:C)(a b:S):M Fl:=M.bind (E.t d q t) λc=>match c with
 |true=>cW (E.s d q) (ss a)
 |false=>cW (E.s d q) (ss b)
def AI(E:Ev)(d:Nat)(tg:C)(b:S)(x:AV):M Fl:=λU H=>match eQ x H with
 |some src=>M.calm (E.f d true tg src b) U H
 |none=>.stuck
def Jy(E:Ev)(d:Nat)(q:Bool)(tg it:C)(b:S):M Fl:=match q with
 |true=>M.bind (E.e d true it) (AI E d tg b)
 |false=>M.stuck
def H8(E:Ev)(d:Nat)(q:Bool)(e:C):M Fl:=M.bind (tQ (E.e d q) e) λv=>cj (.ret v)
def vC(P:bP)(E:Ev)(d:Nat)(k:Nat)(h:S)(x:Nat):M Fl:=match ae P.gt k with
 |some (.exc y)=>match Nat.beq y x with
  |true=>M.calm (cW (E.s d false) (ss h))
  |false=>M.stuck
 |_=>M.stuck
def uG(P:bP)(E:Ev)(d:Nat)(q:Bool)(b:S)(k:Nat)(h:S):M Fl:=match q with
 |true=>λU H=>match cW (E.s d true) (ss b) U H with
  |.ok f ρ' H'=>.ok f ρ' H'
  |.exc x ρ' H'=>vC P E d k h x ρ' H'
  |.stuck=>.stuck
 |false=>M.stuck
noncomputable def EK(k:Nat):M α:=λU H=>.exc k U H
def Il(P:bP)(E:Ev)(d:Nat)(q:Bool)(k:Nat)(args:C):M Fl:=match q with
 |true=>match ae P.gt k with
  |some (.exc x)=>match x with
   |0=>M.stuck
   |x+1=>M.bind (gZ (E.e d true) (cs args)) λvs=>match Nat.ble vs.length 100 with|true=>EK (x+1)|false=>M.stuck
  |_=>M.stuck
 |false=>M.stuck
def Mi(E:Ev)(d:Nat)(q:Bool)(o i:C):M Fl:=M.bind (E.e d q o) λov=>M.bind (E.e d q i) λiv=>M.bind (gn λH=>yH ov iv H) λO=>cj .next
def G3(P:bP)(E:Ev)(d:Nat)(q:Bool)(c:S):M Fl:=match c with
 |.asg ts e _=>Fp P E d q ts e
 |.aug op t e _=>M5 P E d q op t e
 |.expr e _=>LM E d q e
 |.iff t a b _=>Kg E d q t a b
 |.gP t a b _=>M.calm (E.w d q t a b)
 |.loop tg it b _=>Jy E d q tg it b
 |.ret e _=>H8 E d q e
 |.brk _=>cj .brk
 |.cont _=>cj .cont
 |.pass _=>cj .next
 |.tri b _ k _ h _ _=>uG P E d q b k h
 |.del o i _ _=>Mi E d q o i
 |.raise _ k _ args _ _=>Il P E d q k args
 |_=>M.stuck
def wJ(again:M Fl)(fl:Fl):M Fl:=match fl with
 |.next=>again
 |.cont=>again
 |.brk=>cj .next
 |.ret v=>cj (.ret v)
def G0(E:Ev)(d:Nat)(q:Bool)(t:C)(b e:S):M Fl:=M.calm (M.bind (E.t d q t) λc=>match c with
 |true=>M.bind (cW (E.s d q) (ss b)) (wJ (E.w d q t b e))
 |false=>cW (E.s d q) (ss e))
def ZW(E:Ev)(d:Nat)(q:Bool)(tg:C)(b:S)(v:AV)(src:bJ):M Fl:=M.calm (M.bind (jq tg v) λO=>M.bind (cW (E.s d q) (ss b)) (wJ (E.f d q tg src b)))
def pL(E:Ev)(d:Nat)(q:Bool)(tg:C)(src:bJ)(b:S):M Fl:=λU H=>match src.next H with
 |none=>.stuck
 |some r=>match r with
  |none=>.ok .next U H
  |some p=>ZW E d q tg b p.1 p.2 U H
def tY(k:Nat)(x:AV)(H:Hp):Option Hp:=(bx H k).bind λl=>aI (Nat.blt l.length az) (some (ai H (.list (l++[x])) k))
def He(x:AV):M bJ:=cu λH=>eQ x H
def vM(E:Ev)(d:Nat)(elt:C)(k:Nat):M Unit:=match elt with
 |.gen tg it e=>M.bind (E.e d true it) λx=>M.bind (He x) λsrc=>E.cp d tg src .nil e k
 |_=>M.bind (E.e d true elt) λx=>gn (tY k x)
def abE(E:Ev)(d:Nat)(tg ifs elt:C)(k:Nat)(v:AV)(src:bJ):M Unit:=M.calm (M.bind (jq tg v) λO=>M.bind (uF (E.t d true) true (cs ifs)) λb=>match b with
 |true=>M.bind (vM E d elt k) λO=>E.cp d tg src ifs elt k
 |false=>E.cp d tg src ifs elt k)
def sU(E:Ev)(d:Nat)(tg:C)(src:bJ)(ifs elt:C)(k:Nat):M Unit:=λU H=>match src.next H with
 |none=>.stuck
 |some r=>match r with
  |none=>.ok () U H
  |some p=>abE E d tg ifs elt k p.1 p.2 U H
def kQ(f:FD)(args:List AV):Option aC:=match f.va with
 |true=>aI (Nat.ble f.npar args.length&&Nat.ble args.length az) (some ((args.take f.npar).map some++[some (.tup (args.drop f.npar))]++List.replicate (f.xE-f.npar-1) none))
 |false=>aI (Nat.beq (args.length+f.dflt.length) f.npar) (some ((args++f.dflt).map some++List.replicate (f.xE-f.npar) none))
noncomputable def qj(U:aC)(r:dG Fl):dG AV:=match r with
 |.ok f _ H'=>match f with
  |.ret v=>.ok v U H'
  |.next=>.ok .none U H'
  |_=>.stuck
 |.exc x _ H'=>.exc x U H'
 |.stuck=>.stuck
def yw(E:Ev)(d:Nat)(fd:FD)(args:List AV):M AV:=λU H=>match d with
 |0=>.stuck
 |d'+1=>match kQ fd args with
  |some ρ'=>qj U (cW (E.s d' true) (ss fd.body) ρ' H)
  |none=>.stuck
noncomputable def tT(U:aC)(k:Nat)(r:dG AV):dG AV:=match r with
 |.ok v _ H'=>match v with
  |.none=>.ok (.ref k) U H'
  |_=>.stuck
 |_=>.stuck
def vT(E:Ev)(d:Nat)(k:Nat)(cd:CD)(args:List AV):M AV:=λU H=>match d with
 |0=>.stuck
 |d'+1=>match cd.slots with
  |true=>tT U (H.length+1) (E.call d' (.glob cd.init) (.ref (H.length+1)::args) U (H++[.dead,.inst k (cd.bD.map λO=>none)]))
  |false=>tT U H.length (E.call d' (.glob cd.init) (.ref H.length::args) U (H++[.inst k (cd.bD.map λO=>none)]))
def s8(n:Nat)(args:List AV):M AV:=λU H=>match args with
 |_::_=>.stuck
 |[]=>match tG H n with
  |none=>.stuck
  |some p=>match bx H p.1 with
   |none=>.stuck
   |some l=>match ae l p.2 with
    |some v=>.ok v U (ai H (.iter p.1 (p.2+1)) n)
    |none=>.exc 0 U (ai H .dead n)
def oN(E:Ev)(d:Nat)(k:Nat)(g:GE)(args:List AV):M AV:=match g with
 |.fn fd=>yw E d fd args
 |.cl cd=>vT E d k cd args
 |.bi b=>mG λH=>yO b args H
 |_=>M.stuck
def wW(P:bP)(E:Ev)(d:Nat)(f:AV)(args:List AV):M AV:=match f with
 |.glob k=>match ae P.gt k with
  |some g=>oN E d k g args
  |none=>M.stuck
 |.cP n=>s8 n args
 |_=>M.stuck
def G4(P:bP)(E:Ev):Ev where
 e:=G5 P E
 t:=G2 E
 s:=G3 P E
 w:=G0 E
 f:=pL E
 cp:=sU E
 call:=wW P E
def ev0:Ev where
 e:=λO O O=>M.stuck
 t:=λO O O=>M.stuck
 s:=λO O O=>M.stuck
 w:=λO O O O O=>M.stuck
 f:=λO O O O O=>M.stuck
 cp:=λO O O O O O=>M.stuck
 call:=λO O O=>M.stuck
def ev(P:bP)(n:Nat):Ev:=Nat.rec ev0 (λO E=>G4 P E) n
end
section
open Nat.Internal
def Kf(U:Linear.Context)(P:Prop)(hs:List (Linear.Expr×Linear.Expr)):Prop:=List.rec (motive:=λO=>Prop) P (λh O ih=>h.1.denote U<=h.2.denote U->ih) hs
noncomputable def uJ(f:Linear.Expr×Linear.Expr->Linear.Expr)(hs:List (Linear.Expr×Linear.Expr))(e:Linear.Expr):Linear.Expr:=List.rec (motive:=λO=>Linear.Expr) e (λh O ih=>.add (f h) ih) hs
noncomputable def lX(l:List Nat):Nat->Lean.RArray Nat:=List.rec (motive:=λO=>Nat->Lean.RArray Nat) (λO=>.leaf 0) (λx O ih i=>.branch (i+1) (.leaf x) (ih (i+1))) l
theorem W9(U:Linear.Context)(x y:Linear.Expr)(hs:List (Linear.Expr×Linear.Expr)):∀c:Nat,c+(uJ (·.2) hs x).denote U<=c+(uJ (·.1) hs y).denote U->Kf U (x.denote U<=y.denote U) hs:=by
 induction hs with
 |nil=>exact λc h=>Nat.le_of_add_le_add_left h
 |cons r hs ih=>intro c h hp;exact ih (c+r.2.denote U) (aM (aW (ui _ _ _)) (aM h (aM (mA (ze hp _) c) (aW (ui _ _ _).symm))))
def ay(l:List Nat)(hs:List (Linear.Expr×Linear.Expr))(x y:Linear.Expr)(ok:(Linear.ExprCnstr.mk false (uJ (·.2) hs x) (uJ (·.1) hs y)).toNormPoly.isValid=true):Kf (lX l 0) (x.denote (lX l 0)<=y.denote (lX l 0)) hs:=W9 _ x y hs 0 (mA (of_eq_true (Linear.ExprCnstr.eq_true_of_isValid (lX l 0) _ ok):Linear.Expr.denote (lX l 0) (uJ (·.2) hs x)<=Linear.Expr.denote (lX l 0) (uJ (·.1) hs y)) 0)
abbrev Lv:=Linear.Expr.var
abbrev Lk:=Linear.Expr.num
abbrev La:=Linear.Expr.add
abbrev Lm:=Linear.Expr.mulL
end
section
section
variable {x0 x1 x2 x3 x4 x5 x6 x7:Nat}
def pb(h0:(x0+(x2+1))=x1):x0<x1:=ay [x0,x1,x2] [(La (Lv 0) (La (Lv 2) (Lk 1)),Lv 1)] (La (Lv 0) (Lk 1)) (Lv 1) rfl (aW h0)
def zc(h0:(x0+(x1+1))<x2):((x0+1)+x1)<x2:=ay [x0,x1,x2] [(La (La (Lv 0) (La (Lv 1) (Lk 1))) (Lk 1),Lv 2)] (La (La (La (Lv 0) (Lk 1)) (Lv 1)) (Lk 1)) (Lv 2) rfl h0
def km(h0:(x0+(x1+1))=x2):((x0+1)+x1)=x2:=ic (ay [x0,x1,x2] [(La (Lv 0) (La (Lv 1) (Lk 1)),Lv 2)] (La (La (Lv 0) (Lk 1)) (Lv 1)) (Lv 2) rfl (aW h0)) (ay [x0,x1,x2] [(Lv 2,La (Lv 0) (La (Lv 1) (Lk 1)))] (Lv 2) (La (La (Lv 0) (Lk 1)) (Lv 1)) rfl (aW h0.symm))
def hU(h0:(x1+0)=x0):x0<=x1:=ay [x0,x1] [(Lv 0,La (Lv 1) (Lk 0))] (Lv 0) (Lv 1) rfl (aW h0.symm)
def ud(h0:(x0+(x2+1))<x1):x0<x1:=ay [x0,x1,x2] [(La (La (Lv 0) (La (Lv 2) (Lk 1))) (Lk 1),Lv 1)] (La (Lv 0) (Lk 1)) (Lv 1) rfl h0
def NN(h0:x1<x2)(h1:x2<=x0):x0≠x1:=dM (ay [x0,x1,x2] [(La (Lv 1) (Lk 1),Lv 2),(Lv 2,Lv 0)] (La (Lv 1) (Lk 1)) (Lv 0) rfl h0 h1)
def qC(h0:(x0+(x1+1))<x2):(x0+x1)<x2:=ay [x0,x1,x2] [(La (La (Lv 0) (La (Lv 1) (Lk 1))) (Lk 1),Lv 2)] (La (La (Lv 0) (Lv 1)) (Lk 1)) (Lv 2) rfl h0
def BX(h0:x0<x1):x0≠x1:=dT (ay [x0,x1] [(La (Lv 0) (Lk 1),Lv 1)] (La (Lv 0) (Lk 1)) (Lv 1) rfl h0)
def ND(h0:x1<=x0):¬(x0<x1):=wq (ay [x0,x1] [(Lv 1,Lv 0)] (Lv 1) (Lv 0) rfl h0)
def FX :x0<=(0+x0):=ay [x0] [] (Lv 0) (La (Lk 0) (Lv 0)) rfl 
def Oj(h0:x0<x1):(0+x0)<x1:=ay [x0,x1] [(La (Lv 0) (Lk 1),Lv 1)] (La (La (Lk 0) (Lv 0)) (Lk 1)) (Lv 1) rfl h0
def B5(h0:x0<=1000000):x0<=3000000:=ay [x0] [(Lv 0,Lk 1000000)] (Lv 0) (Lk 3000000) rfl h0
def B4(h0:1000<=x1)(h1:x0<1000):x0<x1:=ay [x0,x1] [(Lk 1000,Lv 1),(La (Lv 0) (Lk 1),Lk 1000)] (La (Lv 0) (Lk 1)) (Lv 1) rfl h0 h1
def N4(h0:x0<x2)(h1:x2<=x3)(h2:x3<x1):x0<x1:=ay [x0,x1,x2,x3] [(La (Lv 0) (Lk 1),Lv 2),(Lv 2,Lv 3),(La (Lv 3) (Lk 1),Lv 1)] (La (Lv 0) (Lk 1)) (Lv 1) rfl h0 h1 h2
def zb :(x0+2)≠x0:=dM (ay [x0] [] (La (Lv 0) (Lk 1)) (La (Lv 0) (Lk 2)) rfl)
def B3 :x0≠(x0+3):=dT (ay [x0] [] (La (Lv 0) (Lk 1)) (La (Lv 0) (Lk 3)) rfl)
def uf :x0≠(x0+1):=dT (ay [x0] [] (La (Lv 0) (Lk 1)) (La (Lv 0) (Lk 1)) rfl)
def za :x0<=(x0+x1):=ay [x0,x1] [] (Lv 0) (La (Lv 0) (Lv 1)) rfl 
def FT :(x0+1)≠(x0+3):=dT (ay [x0] [] (La (La (Lv 0) (Lk 1)) (Lk 1)) (La (Lv 0) (Lk 3)) rfl)
def B2 :(x0+2)≠(x0+1):=dM (ay [x0] [] (La (La (Lv 0) (Lk 1)) (Lk 1)) (La (Lv 0) (Lk 2)) rfl)
def FR(h0:x0<x1):x0≠(x1+1):=dT (ay [x0,x1] [(La (Lv 0) (Lk 1),Lv 1)] (La (Lv 0) (Lk 1)) (La (Lv 1) (Lk 1)) rfl h0)
def FQ(h0:(x1+4)<=x0):x0≠x1:=dM (ay [x0,x1] [(La (Lv 1) (Lk 4),Lv 0)] (La (Lv 1) (Lk 1)) (Lv 0) rfl h0)
def FP(h0:x0<x1):x0≠(x1+3):=dT (ay [x0,x1] [(La (Lv 0) (Lk 1),Lv 1)] (La (Lv 0) (Lk 1)) (La (Lv 1) (Lk 3)) rfl h0)
def B1(h0:x0<=x1):x0<=(x1+1):=ay [x0,x1] [(Lv 0,Lv 1)] (Lv 0) (La (Lv 1) (Lk 1)) rfl h0
def FO(h0:x0<x1):x0<(x1+4):=ay [x0,x1] [(La (Lv 0) (Lk 1),Lv 1)] (La (Lv 0) (Lk 1)) (La (Lv 1) (Lk 4)) rfl h0
def NO(h0:(x0+x2)<x1):x0<=x1:=ay [x0,x1,x2] [(La (La (Lv 0) (Lv 2)) (Lk 1),Lv 1)] (Lv 0) (Lv 1) rfl h0
def FN(h0:x0<16):(65+x0)<128:=ay [x0] [(La (Lv 0) (Lk 1),Lk 16)] (La (La (Lk 65) (Lv 0)) (Lk 1)) (Lk 128) rfl h0
def FK(h0:x0<x2)(h1:x2<=x1):x0<x1:=ay [x0,x1,x2] [(La (Lv 0) (Lk 1),Lv 2),(Lv 2,Lv 1)] (La (Lv 0) (Lk 1)) (Lv 1) rfl h0 h1
def B0(h0:x0<x2)(h1:x1=x2):x0<x1:=ay [x0,x1,x2] [(La (Lv 0) (Lk 1),Lv 2),(Lv 2,Lv 1)] (La (Lv 0) (Lk 1)) (Lv 1) rfl h0 (aW h1.symm)
def FJ(h0:(x1+4)<=x0):x0≠(x1+1):=dM (ay [x0,x1] [(La (Lv 1) (Lk 4),Lv 0)] (La (La (Lv 1) (Lk 1)) (Lk 1)) (Lv 0) rfl h0)
def FI(h0:(x1+4)<=x0):x0≠(x1+3):=dM (ay [x0,x1] [(La (Lv 1) (Lk 4),Lv 0)] (La (La (Lv 1) (Lk 3)) (Lk 1)) (Lv 0) rfl h0)
def FH(h0:(65+x0)=(65+x1)):x0=x1:=ic (ay [x0,x1] [(La (Lk 65) (Lv 0),La (Lk 65) (Lv 1))] (Lv 0) (Lv 1) rfl (aW h0)) (ay [x0,x1] [(La (Lk 65) (Lv 1),La (Lk 65) (Lv 0))] (Lv 1) (Lv 0) rfl (aW h0.symm))
def FG(h0:((x0+(8*(x1+1)))+8)<x2):(((x0+1)+(8*x1))+8)<x2:=ay [x0,x1,x2] [(La (La (La (Lv 0) (Lm 8 (La (Lv 1) (Lk 1)))) (Lk 8)) (Lk 1),Lv 2)] (La (La (La (La (Lv 0) (Lk 1)) (Lm 8 (Lv 1))) (Lk 8)) (Lk 1)) (Lv 2) rfl h0
def BZ :x0<=x0:=ay [x0] [] (Lv 0) (Lv 0) rfl 
def NM :1<=(x0+1):=ay [x0] [] (Lk 1) (La (Lv 0) (Lk 1)) rfl 
def NL :x0≠(x0+2):=dT (ay [x0] [] (La (Lv 0) (Lk 1)) (La (Lv 0) (Lk 2)) rfl)
def FF :x0<=(x0+3):=ay [x0] [] (Lv 0) (La (Lv 0) (Lk 3)) rfl 
def BY :x0<=(x0+1):=ay [x0] [] (Lv 0) (La (Lv 0) (Lk 1)) rfl 
def NK :(x0+3)≠x0:=dM (ay [x0] [] (La (Lv 0) (Lk 1)) (La (Lv 0) (Lk 3)) rfl)
def NJ :(x0+1)≠x0:=dM (ay [x0] [] (La (Lv 0) (Lk 1)) (La (Lv 0) (Lk 1)) rfl)
def NI :2<=((x0+1)+1):=ay [x0] [] (Lk 2) (La (La (Lv 0) (Lk 1)) (Lk 1)) rfl 
def NH(h0:x0=x1):¬(x0<x1):=wq (ay [x0,x1] [(Lv 1,Lv 0)] (Lv 1) (Lv 0) rfl (aW h0.symm))
def NG(h0:x0<200):x0<9000:=ay [x0] [(La (Lv 0) (Lk 1),Lk 200)] (La (Lv 0) (Lk 1)) (Lk 9000) rfl h0
def FE :(x0+1)<(x0+4):=ay [x0] [] (La (La (Lv 0) (Lk 1)) (Lk 1)) (La (Lv 0) (Lk 4)) rfl 
def NF(h0:x0<x1):x0≠(x1+2):=dT (ay [x0,x1] [(La (Lv 0) (Lk 1),Lv 1)] (La (Lv 0) (Lk 1)) (La (Lv 1) (Lk 2)) rfl h0)
def NC(h0:x0<=x1):x0<=(x1+2):=ay [x0,x1] [(Lv 0,Lv 1)] (Lv 0) (La (Lv 1) (Lk 2)) rfl h0
def NB(h0:(x0+1)<=x1):x0<=x1:=ay [x0,x1] [(La (Lv 0) (Lk 1),Lv 1)] (Lv 0) (Lv 1) rfl h0
def NA(h0:x0<16):(65+x0)<81:=ay [x0] [(La (Lv 0) (Lk 1),Lk 16)] (La (La (Lk 65) (Lv 0)) (Lk 1)) (Lk 81) rfl h0
def OB(h0:(65+x0)<81):x0<16:=ay [x0] [(La (La (Lk 65) (Lv 0)) (Lk 1),Lk 81)] (La (Lv 0) (Lk 1)) (Lk 16) rfl h0
def OA(h0:x0<=x2)(h1:x2<x1):x0<x1:=ay [x0,x1,x2] [(Lv 0,Lv 2),(La (Lv 2) (Lk 1),Lv 1)] (La (Lv 0) (Lk 1)) (Lv 1) rfl h0 h1
def Oz(h0:x0=x2)(h1:x1<x2):x0≠x1:=dM (ay [x0,x1,x2] [(Lv 2,Lv 0),(La (Lv 1) (Lk 1),Lv 2)] (La (Lv 1) (Lk 1)) (Lv 0) rfl (aW h0.symm) h1)
def FW(h0:x0<x2)(h1:x2<=x1):x0<=x1:=ay [x0,x1,x2] [(La (Lv 0) (Lk 1),Lv 2),(Lv 2,Lv 1)] (Lv 0) (Lv 1) rfl h0 h1
def Oy(h0:x0<1000):(x0+1)<4096:=ay [x0] [(La (Lv 0) (Lk 1),Lk 1000)] (La (La (Lv 0) (Lk 1)) (Lk 1)) (Lk 4096) rfl h0
def Ox(h0:1<=x0):1<=((16*0)+x0):=ay [x0] [(Lk 1,Lv 0)] (Lk 1) (La (Lm 16 (Lk 0)) (Lv 0)) rfl h0
def Ow(h0:1<=x0):1<=((16*x0)+x1):=ay [x0,x1] [(Lk 1,Lv 0)] (Lk 1) (La (Lm 16 (Lv 0)) (Lv 1)) rfl h0
def Ov(h0:(x1+4)<=x0):x0≠(x1+2):=dM (ay [x0,x1] [(La (Lv 1) (Lk 4),Lv 0)] (La (La (Lv 1) (Lk 2)) (Lk 1)) (Lv 0) rfl h0)
def Ou(h0:(x0+4)<=x1):x0<(x1+1):=ay [x0,x1] [(La (Lv 0) (Lk 4),Lv 1)] (La (Lv 0) (Lk 1)) (La (Lv 1) (Lk 1)) rfl h0
def Oq(h0:(x0+1)<=(x1+1)):x0<=x1:=ay [x0,x1] [(La (Lv 0) (Lk 1),La (Lv 1) (Lk 1))] (Lv 0) (Lv 1) rfl h0
def Oo(h0:x0<16):(65+x0)<1114112:=ay [x0] [(La (Lv 0) (Lk 1),Lk 16)] (La (La (Lk 65) (Lv 0)) (Lk 1)) (Lk 1114112) rfl h0
def FV(h0:x0<=x1):(x0+1)<=(x1+1):=ay [x0,x1] [(Lv 0,Lv 1)] (La (Lv 0) (Lk 1)) (La (Lv 1) (Lk 1)) rfl h0
def Om(h0:x0<=100):x0<=(16777216+1):=ay [x0] [(Lv 0,Lk 100)] (Lv 0) (La (Lk 16777216) (Lk 1)) rfl h0
def FU(h0:x1<=x2):(x0+x1)<=(x0+x2):=ay [x0,x1,x2] [(Lv 1,Lv 2)] (La (Lv 0) (Lv 1)) (La (Lv 0) (Lv 2)) rfl h0
def Ol(h0:(65+x0)<(65+x1)):x0<x1:=ay [x0,x1] [(La (La (Lk 65) (Lv 0)) (Lk 1),La (Lk 65) (Lv 1))] (La (Lv 0) (Lk 1)) (Lv 1) rfl h0
def Oi(h0:(x0+62)<x1):(x0+60)<x1:=ay [x0,x1] [(La (La (Lv 0) (Lk 62)) (Lk 1),Lv 1)] (La (La (Lv 0) (Lk 60)) (Lk 1)) (Lv 1) rfl h0
def Oh(h0:(x1+4)<=x2)(h1:x0=x2):x0≠x1:=dM (ay [x0,x1,x2] [(La (Lv 1) (Lk 4),Lv 2),(Lv 2,Lv 0)] (La (Lv 1) (Lk 1)) (Lv 0) rfl h0 (aW h1.symm))
def Og(h0:x2=(x0+1))(h1:x2<=x1):x0<=x1:=ay [x0,x1,x2] [(La (Lv 0) (Lk 1),Lv 2),(Lv 2,Lv 1)] (Lv 0) (Lv 1) rfl (aW h0.symm) h1
def Of(h0:x2=(x0+1))(h1:x2<=x1):x0<x1:=ay [x0,x1,x2] [(La (Lv 0) (Lk 1),Lv 2),(Lv 2,Lv 1)] (La (Lv 0) (Lk 1)) (Lv 1) rfl (aW h0.symm) h1
def Oe(h0:(x0+4)<=x2)(h1:x1=x2):x0<x1:=ay [x0,x1,x2] [(La (Lv 0) (Lk 4),Lv 2),(Lv 2,Lv 1)] (La (Lv 0) (Lk 1)) (Lv 1) rfl h0 (aW h1.symm)
def Od(h0:(x2+((2*x0)+1))<x1):x0<=x1:=ay [x0,x1,x2] [(La (La (Lv 2) (La (Lm 2 (Lv 0)) (Lk 1))) (Lk 1),Lv 1)] (Lv 0) (Lv 1) rfl h0
def Oc(h0:(x2+(x0+1))<x1):(0+x0)<x1:=ay [x0,x1,x2] [(La (La (Lv 2) (La (Lv 0) (Lk 1))) (Lk 1),Lv 1)] (La (La (Lk 0) (Lv 0)) (Lk 1)) (Lv 1) rfl h0
def Ob(h0:x0=x2)(h1:x2=(x1+1)):¬(x0<x1):=wq (ay [x0,x1,x2] [(Lv 2,Lv 0),(La (Lv 1) (Lk 1),Lv 2)] (Lv 1) (Lv 0) rfl (aW h0.symm) (aW h1.symm))
def Oa(h0:x0=x2)(h1:x2=(x1+2)):¬(x0<x1):=wq (ay [x0,x1,x2] [(Lv 2,Lv 0),(La (Lv 1) (Lk 2),Lv 2)] (Lv 1) (Lv 0) rfl (aW h0.symm) (aW h1.symm))
def N9(h0:x0<(x1+1))(h1:¬(x0<x1)):x0=x1:=ic (ay [x0,x1] [(La (Lv 0) (Lk 1),La (Lv 1) (Lk 1))] (Lv 0) (Lv 1) rfl h0) (ay [x0,x1] [(Lv 1,Lv 0)] (Lv 1) (Lv 0) rfl (Nat.le_of_not_lt h1))
def N8 :((x0+x1)+x2)=(x0+(x1+x2)):=ic (ay [x0,x1,x2] [] (La (La (Lv 0) (Lv 1)) (Lv 2)) (La (Lv 0) (La (Lv 1) (Lv 2))) rfl) (ay [x0,x1,x2] [] (La (Lv 0) (La (Lv 1) (Lv 2))) (La (La (Lv 0) (Lv 1)) (Lv 2)) rfl)
def N7(h0:(x1+4)<=x2)(h1:x0=x2):x0≠(x1+1):=dM (ay [x0,x1,x2] [(La (Lv 1) (Lk 4),Lv 2),(Lv 2,Lv 0)] (La (La (Lv 1) (Lk 1)) (Lk 1)) (Lv 0) rfl h0 (aW h1.symm))
def N6(h0:(x0+4)<=x2)(h1:x1=x2):(x0+1)<x1:=ay [x0,x1,x2] [(La (Lv 0) (Lk 4),Lv 2),(Lv 2,Lv 1)] (La (La (Lv 0) (Lk 1)) (Lk 1)) (Lv 1) rfl h0 (aW h1.symm)
def N5(h0:(x2+4)<=x0)(h1:x1<(x2+4)):x0≠x1:=dM (ay [x0,x1,x2] [(La (Lv 2) (Lk 4),Lv 0),(La (Lv 1) (Lk 1),La (Lv 2) (Lk 4))] (La (Lv 1) (Lk 1)) (Lv 0) rfl h0 h1)
def N3(h0:x0<x1)(h1:x1=x2)(h2:x2<=100):x0<1000:=ay [x0,x1,x2] [(La (Lv 0) (Lk 1),Lv 1),(Lv 1,Lv 2),(Lv 2,Lk 100)] (La (Lv 0) (Lk 1)) (Lk 1000) rfl h0 (aW h1) h2
def N0(h0:1000<=x1)(h1:x0=x2)(h2:x2<1000):x0<x1:=ay [x0,x1,x2] [(Lk 1000,Lv 1),(Lv 0,Lv 2),(La (Lv 2) (Lk 1),Lk 1000)] (La (Lv 0) (Lk 1)) (Lv 1) rfl h0 (aW h1) h2
def NZ(h0:((x0+(8*(x2+1)))+8)<x1):x0<x1:=ay [x0,x1,x2] [(La (La (La (Lv 0) (Lm 8 (La (Lv 2) (Lk 1)))) (Lk 8)) (Lk 1),Lv 1)] (La (Lv 0) (Lk 1)) (Lv 1) rfl h0
def NY(h0:((x0+1)+x1)<=40):(x0+(x1+1))<=40:=ay [x0,x1] [(La (La (Lv 0) (Lk 1)) (Lv 1),Lk 40)] (La (Lv 0) (La (Lv 1) (Lk 1))) (Lk 40) rfl h0
def NX(h0:(x2+4)<=x3)(h1:x0<x2)(h2:x1=x3):x0<x1:=ay [x0,x1,x2,x3] [(La (Lv 2) (Lk 4),Lv 3),(La (Lv 0) (Lk 1),Lv 2),(Lv 3,Lv 1)] (La (Lv 0) (Lk 1)) (Lv 1) rfl h0 h1 (aW h2.symm)
def NW :3<((((((0+1)+1)+1)+1)+1)+x0):=ay [x0] [] (La (Lk 3) (Lk 1)) (La (La (La (La (La (La (Lk 0) (Lk 1)) (Lk 1)) (Lk 1)) (Lk 1)) (Lk 1)) (Lv 0)) rfl 
def NV(h0:(x0+4)<=x2)(h1:x1=(x2+1)):(x0+1)<x1:=ay [x0,x1,x2] [(La (Lv 0) (Lk 4),Lv 2),(La (Lv 2) (Lk 1),Lv 1)] (La (La (Lv 0) (Lk 1)) (Lk 1)) (Lv 1) rfl h0 (aW h1.symm)
def NU(h0:(x0+4)<=x2)(h1:x1=(x2+1)):(x0+3)<x1:=ay [x0,x1,x2] [(La (Lv 0) (Lk 4),Lv 2),(La (Lv 2) (Lk 1),Lv 1)] (La (La (Lv 0) (Lk 3)) (Lk 1)) (Lv 1) rfl h0 (aW h1.symm)
def NT(h0:((x2+1)+x0)<=40)(h1:40<=x1):(1+x0)<=x1:=ay [x0,x1,x2] [(La (La (Lv 2) (Lk 1)) (Lv 0),Lk 40),(Lk 40,Lv 1)] (La (Lk 1) (Lv 0)) (Lv 1) rfl h0 h1
def NS(h0:((x0+(100*x2))+100)<x1):(x0+62)<x1:=ay [x0,x1,x2] [(La (La (La (Lv 0) (Lm 100 (Lv 2))) (Lk 100)) (Lk 1),Lv 1)] (La (La (Lv 0) (Lk 62)) (Lk 1)) (Lv 1) rfl h0
def NR(h0:((2*x3)+1)<=x1)(h1:x0<=(x3+(x2+1))):x0<=(x1+x2):=ay [x0,x1,x2,x3] [(La (Lm 2 (Lv 3)) (Lk 1),Lv 1),(Lv 0,La (Lv 3) (La (Lv 2) (Lk 1)))] (Lv 0) (La (Lv 1) (Lv 2)) rfl h0 h1
def NQ(h0:((x0+(100*(x1+1)))+100)<x2):(((x0+3)+(100*x1))+100)<x2:=ay [x0,x1,x2] [(La (La (La (Lv 0) (Lm 100 (La (Lv 1) (Lk 1)))) (Lk 100)) (Lk 1),Lv 2)] (La (La (La (La (Lv 0) (Lk 3)) (Lm 100 (Lv 1))) (Lk 100)) (Lk 1)) (Lv 2) rfl h0
def NP(h0:((x0+(100*(x1+1)))+100)<x2):(((x0+1)+(100*x1))+100)<x2:=ay [x0,x1,x2] [(La (La (La (Lv 0) (Lm 100 (La (Lv 1) (Lk 1)))) (Lk 100)) (Lk 1),Lv 2)] (La (La (La (La (Lv 0) (Lk 1)) (Lm 100 (Lv 1))) (Lk 100)) (Lk 1)) (Lv 2) rfl h0
def Qz(h0:(x2+((2*x0)+1))<x1):((x0+1)+1)<=x1:=ay [x0,x1,x2] [(La (La (Lv 2) (La (Lm 2 (Lv 0)) (Lk 1))) (Lk 1),Lv 1)] (La (La (Lv 0) (Lk 1)) (Lk 1)) (Lv 1) rfl h0
def Qy(h0:(x2+(x3+1))=x0)(h1:x0<x1)(h2:x4<=x2):x4<x1:=ay [x0,x1,x2,x3,x4] [(La (Lv 2) (La (Lv 3) (Lk 1)),Lv 0),(La (Lv 0) (Lk 1),Lv 1),(Lv 4,Lv 2)] (La (Lv 4) (Lk 1)) (Lv 1) rfl (aW h0) h1 h2
def Qx(h0:((x0+(100*x1))+100)<x2):(x0+50)<x2:=ay [x0,x1,x2] [(La (La (La (Lv 0) (Lm 100 (Lv 1))) (Lk 100)) (Lk 1),Lv 2)] (La (La (Lv 0) (Lk 50)) (Lk 1)) (Lv 2) rfl h0
def Qw(h0:((x0+(100*x1))+100)<x2):((x0+1)+3)<x2:=ay [x0,x1,x2] [(La (La (La (Lv 0) (Lm 100 (Lv 1))) (Lk 100)) (Lk 1),Lv 2)] (La (La (La (Lv 0) (Lk 1)) (Lk 3)) (Lk 1)) (Lv 2) rfl h0
def Gf(h0:(x0+60)<x1):((x0+1)+3)<x1:=ay [x0,x1] [(La (La (Lv 0) (Lk 60)) (Lk 1),Lv 1)] (La (La (La (Lv 0) (Lk 1)) (Lk 3)) (Lk 1)) (Lv 1) rfl h0
def QC(h0:x0<=20):((301+(8*(x0+1)))+8)<1000:=ay [x0] [(Lm 8 (Lv 0),Lk 160)] (La (La (La (Lk 301) (Lm 8 (La (Lv 0) (Lk 1)))) (Lk 8)) (Lk 1)) (Lk 1000) rfl (mB 8 h0)
def QB(h0:x0<=20):((4+(100*(x0+1)))+100)<9900:=ay [x0] [(Lm 100 (Lv 0),Lk 2000)] (La (La (La (Lk 4) (Lm 100 (La (Lv 0) (Lk 1)))) (Lk 100)) (Lk 1)) (Lk 9900) rfl (mB 100 h0)
def QA(h0:((x0+(100*x1))+100)<x2):(((x0+1)+1)+64)<x2:=ay [x0,x1,x2] [(La (La (La (Lv 0) (Lm 100 (Lv 1))) (Lk 100)) (Lk 1),Lv 2)] (La (La (La (La (Lv 0) (Lk 1)) (Lk 1)) (Lk 64)) (Lk 1)) (Lv 2) rfl h0
def R4{i l:Nat}(h:i<l):l-i=l-(i+1)+1:=(pn (Nat.sub_pos_of_lt h)).symm
end
variable {α:Type}
def aR{x:α}{P:Prop}(e:none=some x):P:=nomatch e
def sj{x y:α}(e:some x=some y):x=y:=jR e
variable {ta:Type}
def aq{p1:ta->Prop}{p2:ta->Prop}{P:Prop}(h:∃a,p1 a/\p2 a)(k:∀a,p1 a->p2 a->P):P:=h.elim λa q0=>q0.elim λh1 h2=>k a h1 h2
def ua{p1:Prop}{p2:Prop}{P:Prop}(h:p1/\p2)(k:p1->p2->P):P:=h.elim λh1 h2=>k h1 h2
def ue{p1:ta->Prop}{P:Prop}(h:∃a,p1 a)(k:∀a,p1 a->P):P:=h.elim λa h1=>k a h1
def ct{tb:Type}{p1:ta->tb->Prop}{P:Prop}(h:∃a,∃b,p1 a b)(k:∀a,∀b,p1 a b->P):P:=h.elim λa q0=>q0.elim λb h1=>k a b h1
variable {tc:Type}
def cO{tb:Type}{p1:ta->tb->tc->Prop}{p2:ta->tb->tc->Prop}{P:Prop}(h:∃a,∃b,∃c,p1 a b c/\p2 a b c)(k:∀a,∀b,∀c,p1 a b c->p2 a b c->P):P:=h.elim λa q0=>q0.elim λb q1=>q1.elim λc q2=>q2.elim λh1 h2=>k a b c h1 h2
def bB{tb:Type}{p1:ta->tb->Prop}{p2:ta->tb->Prop}{p3:ta->tb->Prop}{P:Prop}(h:∃a,∃b,p1 a b/\p2 a b/\p3 a b)(k:∀a,∀b,p1 a b->p2 a b->p3 a b->P):P:=h.elim λa q0=>q0.elim λb q1=>q1.elim λh1 q2=>q2.elim λh2 h3=>k a b h1 h2 h3
def dN{tb:Type}{p1:ta->tb->Prop}{p2:ta->tb->Prop}{P:Prop}(h:∃a,∃b,p1 a b/\p2 a b)(k:∀a,∀b,p1 a b->p2 a b->P):P:=h.elim λa q0=>q0.elim λb q1=>q1.elim λh1 h2=>k a b h1 h2
def gQ{p1:ta->Prop}{p2:ta->Prop}{p3:ta->Prop}{P:Prop}(h:∃a,p1 a/\p2 a/\p3 a)(k:∀a,p1 a->p2 a->p3 a->P):P:=h.elim λa q0=>q0.elim λh1 q1=>q1.elim λh2 h3=>k a h1 h2 h3
def ik{p1:Prop}{p2:ta->Prop}{P:Prop}(h:p1/\∃a,p2 a)(k:p1->∀a,p2 a->P):P:=h.elim λh1 q0=>q0.elim λa h2=>k h1 a h2
variable {td:Type}
def i7{tb:Type}{p1:ta->tb->tc->td->Prop}{p2:ta->tb->tc->td->Prop}{p3:ta->tb->tc->td->Prop}{P:Prop}(h:∃a,∃b,∃c,∃d,p1 a b c d/\p2 a b c d/\p3 a b c d)(k:∀a,∀b,∀c,∀d,p1 a b c d->p2 a b c d->p3 a b c d->P):P:=h.elim λa q0=>q0.elim λb q1=>q1.elim λc q2=>q2.elim λd q3=>q3.elim λh1 q4=>q4.elim λh2 h3=>k a b c d h1 h2 h3
def ll{tb:Type}{p1:Prop}{p2:ta->tb->Prop}{P:Prop}(h:p1/\∃a,∃b,p2 a b)(k:p1->∀a,∀b,p2 a b->P):P:=h.elim λh1 q0=>q0.elim λa q1=>q1.elim λb h2=>k h1 a b h2
def mQ{tb:Type}{p1:ta->tb->tc->Prop}{p2:ta->tb->tc->Prop}{p3:ta->tb->tc->Prop}{P:Prop}(h:∃a,∃b,∃c,p1 a b c/\p2 a b c/\p3 a b c)(k:∀a,∀b,∀c,p1 a b c->p2 a b c->p3 a b c->P):P:=h.elim λa q0=>q0.elim λb q1=>q1.elim λc q2=>q2.elim λh1 q3=>q3.elim λh2 h3=>k a b c h1 h2 h3
def iJ{tb:Type}{p1:ta->tb->tc->Prop}{P:Prop}(h:∃a,∃b,∃c,p1 a b c)(k:∀a,∀b,∀c,p1 a b c->P):P:=h.elim λa q0=>q0.elim λb q1=>q1.elim λc h1=>k a b c h1
def zx{p1:Prop}{p2:Prop}{p3:Prop}{P:Prop}(h:p1/\p2/\p3)(k:p1->p2->p3->P):P:=h.elim λh1 q0=>q0.elim λh2 h3=>k h1 h2 h3
def nZ{tb:Type}{p1:ta->tb->Prop}{p2:ta->tb->Prop}{p3:ta->tb->Prop}{p4:ta->tb->Prop}{P:Prop}(h:∃a,∃b,p1 a b/\p2 a b/\p3 a b/\p4 a b)(k:∀a,∀b,p1 a b->p2 a b->p3 a b->p4 a b->P):P:=h.elim λa q0=>q0.elim λb q1=>q1.elim λh1 q2=>q2.elim λh2 q3=>q3.elim λh3 h4=>k a b h1 h2 h3 h4
def qU{tb:Type}{p1:ta->tb->tc->Prop}{p2:ta->tb->tc->Prop}{p3:ta->tb->tc->Prop}{p4:ta->tb->tc->Prop}{P:Prop}(h:∃a,∃b,∃c,p1 a b c/\p2 a b c/\p3 a b c/\p4 a b c)(k:∀a,∀b,∀c,p1 a b c->p2 a b c->p3 a b c->p4 a b c->P):P:=h.elim λa q0=>q0.elim λb q1=>q1.elim λc q2=>q2.elim λh1 q3=>q3.elim λh2 q4=>q4.elim λh3 h4=>k a b c h1 h2 h3 h4
def mP{tb:Type}{p1:ta->tb->tc->td->Prop}{p2:ta->tb->tc->td->Prop}{P:Prop}(h:∃a,∃b,∃c,∃d,p1 a b c d/\p2 a b c d)(k:∀a,∀b,∀c,∀d,p1 a b c d->p2 a b c d->P):P:=h.elim λa q0=>q0.elim λb q1=>q1.elim λc q2=>q2.elim λd q3=>q3.elim λh1 h2=>k a b c d h1 h2
def zw{tb:Type}{p1:ta->tb->tc->td->Prop}{P:Prop}(h:∃a,∃b,∃c,∃d,p1 a b c d)(k:∀a,∀b,∀c,∀d,p1 a b c d->P):P:=h.elim λa q0=>q0.elim λb q1=>q1.elim λc q2=>q2.elim λd h1=>k a b c d h1
def GB{tb:Type}{p1:ta->tb->tc->Prop}{p2:ta->tb->tc->Prop}{p3:ta->tb->tc->Prop}{p4:ta->tb->tc->Prop}{p5:ta->tb->tc->Prop}{P:Prop}(h:∃a,∃b,∃c,p1 a b c/\p2 a b c/\p3 a b c/\p4 a b c/\p5 a b c)(k:∀a,∀b,∀c,p1 a b c->p2 a b c->p3 a b c->p4 a b c->p5 a b c->P):P:=h.elim λa q0=>q0.elim λb q1=>q1.elim λc q2=>q2.elim λh1 q3=>q3.elim λh2 q4=>q4.elim λh3 q5=>q5.elim λh4 h5=>k a b c h1 h2 h3 h4 h5
def Gz{tb:Type}{p1:ta->tb->tc->td->Prop}{p2:ta->tb->tc->td->Prop}{p3:ta->tb->tc->td->Prop}{p4:ta->tb->tc->td->Prop}{p5:ta->tb->tc->td->Prop}{P:Prop}(h:∃a,∃b,∃c,∃d,p1 a b c d/\p2 a b c d/\p3 a b c d/\p4 a b c d/\p5 a b c d)(k:∀a,∀b,∀c,∀d,p1 a b c d->p2 a b c d->p3 a b c d->p4 a b c d->p5 a b c d->P):P:=h.elim λa q0=>q0.elim λb q1=>q1.elim λc q2=>q2.elim λd q3=>q3.elim λh1 q4=>q4.elim λh2 q5=>q5.elim λh3 q6=>q6.elim λh4 h5=>k a b c d h1 h2 h3 h4 h5
def Co{tb:Type}{p1:ta->Prop}{p2:ta->tb->Prop}{p3:ta->tb->Prop}{P:Prop}(h:∃a,p1 a/\∃b,p2 a b/\p3 a b)(k:∀a,p1 a->∀b,p2 a b->p3 a b->P):P:=h.elim λa q0=>q0.elim λh1 q1=>q1.elim λb q2=>q2.elim λh2 h3=>k a h1 b h2 h3
variable {te:Type}
def Gy{tb tf:Type}{p1:ta->tb->tc->td->te->tf->Prop}{p2:ta->tb->tc->td->te->tf->Prop}{p3:ta->tb->tc->td->te->tf->Prop}{P:Prop}(h:∃a,∃b,∃c,∃d,∃e,∃f,p1 a b c d e f/\p2 a b c d e f/\p3 a b c d e f)(k:∀a,∀b,∀c,∀d,∀e,∀f,p1 a b c d e f->p2 a b c d e f->p3 a b c d e f->P):P:=h.elim λa q0=>q0.elim λb q1=>q1.elim λc q2=>q2.elim λd q3=>q3.elim λe q4=>q4.elim λf q5=>q5.elim λh1 q6=>q6.elim λh2 h3=>k a b c d e f h1 h2 h3
def Rc{tb:Type}{p1:ta->Prop}{p2:ta->tb->tc->Prop}{P:Prop}(h:∃a,p1 a/\∃b,∃c,p2 a b c)(k:∀a,p1 a->∀b,∀c,p2 a b c->P):P:=h.elim λa q0=>q0.elim λh1 q1=>q1.elim λb q2=>q2.elim λc h2=>k a h1 b c h2
def GA{tb:Type}{p1:ta->tb->tc->td->Prop}{p2:ta->tb->tc->td->Prop}{p3:ta->tb->tc->td->Prop}{p4:ta->tb->tc->td->Prop}{P:Prop}(h:∃a,∃b,∃c,∃d,p1 a b c d/\p2 a b c d/\p3 a b c d/\p4 a b c d)(k:∀a,∀b,∀c,∀d,p1 a b c d->p2 a b c d->p3 a b c d->p4 a b c d->P):P:=h.elim λa q0=>q0.elim λb q1=>q1.elim λc q2=>q2.elim λd q3=>q3.elim λh1 q4=>q4.elim λh2 q5=>q5.elim λh3 h4=>k a b c d h1 h2 h3 h4
def Rf{tb:Type}{p1:Prop}{p2:ta->tb->Prop}{p3:ta->tb->Prop}{P:Prop}(h:p1/\∃a,∃b,p2 a b/\p3 a b)(k:p1->∀a,∀b,p2 a b->p3 a b->P):P:=h.elim λh1 q0=>q0.elim λa q1=>q1.elim λb q2=>q2.elim λh2 h3=>k h1 a b h2 h3
def Rg{p1:Prop}{p2:ta->Prop}{p3:ta->Prop}{P:Prop}(h:p1/\∃a,p2 a/\p3 a)(k:p1->∀a,p2 a->p3 a->P):P:=h.elim λh1 q0=>q0.elim λa q1=>q1.elim λh2 h3=>k h1 a h2 h3
def Ra{tb tf tg:Type}{p1:ta->tb->tc->td->te->tf->tg->Prop}{P:Prop}(h:∃a,∃b,∃c,∃d,∃e,∃f,∃g,p1 a b c d e f g)(k:∀a,∀b,∀c,∀d,∀e,∀f,∀g,p1 a b c d e f g->P):P:=h.elim λa q0=>q0.elim λb q1=>q1.elim λc q2=>q2.elim λd q3=>q3.elim λe q4=>q4.elim λf q5=>q5.elim λg h1=>k a b c d e f g h1
def Rb{tb:Type}{p1:ta->tb->tc->td->te->Prop}{P:Prop}(h:∃a,∃b,∃c,∃d,∃e,p1 a b c d e)(k:∀a,∀b,∀c,∀d,∀e,p1 a b c d e->P):P:=h.elim λa q0=>q0.elim λb q1=>q1.elim λc q2=>q2.elim λd q3=>q3.elim λe h1=>k a b c d e h1
def Rd{p1:ta->Prop}{p2:ta->Prop}{p3:ta->Prop}{p4:ta->Prop}{p5:ta->Prop}{P:Prop}(h:∃a,p1 a/\p2 a/\p3 a/\p4 a/\p5 a)(k:∀a,p1 a->p2 a->p3 a->p4 a->p5 a->P):P:=h.elim λa q0=>q0.elim λh1 q1=>q1.elim λh2 q2=>q2.elim λh3 q3=>q3.elim λh4 h5=>k a h1 h2 h3 h4 h5
variable {x:Option α}
def ub{β:Type}{f:α->Option β}{y:β}{P:Prop}(e:x.bind f=some y)(k:∀a,x=some a->f a=some y->P):P:=aq (Option.bind_eq_some_iff.mp e) k
def um{β:Type}{f:α->β}{y:β}{P:Prop}(e:x.map f=some y)(k:∀a,x=some a->f a=y->P):P:=aq (wh.mp e) k
def tw{p:Prop}(h:false=true):p:=absurd h qG
def us{a b:Bool}{P:Prop}(h:(a&&b)=true)(k:a=true->b=true->P):P:=by cases a<;>cases b<;>first|exact k rfl rfl|cases h
variable {a1 a2 a3:Bool}
def jx{P:Prop}(h:((a1&&a2)&&a3)=true)(k:a1=true->a2=true->a3=true->P):P:=us h λq2 p3=>us q2 λq1 p2=>k q1 p2 p3
variable {a4:Bool}
def pH{P:Prop}(h:(((a1&&a2)&&a3)&&a4)=true)(k:a1=true->a2=true->a3=true->a4=true->P):P:=us h λq3 p4=>us q3 λq2 p3=>us q2 λq1 p2=>k q1 p2 p3 p4
variable {a5:Bool}
def Cm{P:Prop}(h:((((a1&&a2)&&a3)&&a4)&&a5)=true)(k:a1=true->a2=true->a3=true->a4=true->a5=true->P):P:=us h λq4 p5=>us q4 λq3 p4=>us q3 λq2 p3=>us q2 λq1 p2=>k q1 p2 p3 p4 p5
variable {a6:Bool}
def zt{P:Prop}(h:(((((a1&&a2)&&a3)&&a4)&&a5)&&a6)=true)(k:a1=true->a2=true->a3=true->a4=true->a5=true->a6=true->P):P:=us h λq5 p6=>us q5 λq4 p5=>us q4 λq3 p4=>us q3 λq2 p3=>us q2 λq1 p2=>k q1 p2 p3 p4 p5 p6
variable {a7:Bool}
def Q2{P:Prop}(h:((((((a1&&a2)&&a3)&&a4)&&a5)&&a6)&&a7)=true)(k:a1=true->a2=true->a3=true->a4=true->a5=true->a6=true->a7=true->P):P:=us h λq6 p7=>us q6 λq5 p6=>us q5 λq4 p5=>us q4 λq3 p4=>us q3 λq2 p3=>us q2 λq1 p2=>k q1 p2 p3 p4 p5 p6 p7
variable {a8:Bool}
def Gw{P:Prop}(h:(((((((a1&&a2)&&a3)&&a4)&&a5)&&a6)&&a7)&&a8)=true)(k:a1=true->a2=true->a3=true->a4=true->a5=true->a6=true->a7=true->a8=true->P):P:=us h λq7 p8=>us q7 λq6 p7=>us q6 λq5 p6=>us q5 λq4 p5=>us q4 λq3 p4=>us q3 λq2 p3=>us q2 λq1 p2=>k q1 p2 p3 p4 p5 p6 p7 p8
def Q4{a9 yU:Bool}{P:Prop}(h:(((((((((a1&&a2)&&a3)&&a4)&&a5)&&a6)&&a7)&&a8)&&a9)&&yU)=true)(k:a1=true->a2=true->a3=true->a4=true->a5=true->a6=true->a7=true->a8=true->a9=true->yU=true->P):P:=us h λq9 uV=>us q9 λq8 p9=>us q8 λq7 p8=>us q7 λq6 p7=>us q6 λq5 p6=>us q5 λq4 p5=>us q4 λq3 p4=>us q3 λq2 p3=>us q2 λq1 p2=>k q1 p2 p3 p4 p5 p6 p7 p8 p9 uV
def Q3{a9 yU Nn Nm Nl:Bool}{P:Prop}(h:((((((((((((a1&&a2)&&a3)&&a4)&&a5)&&a6)&&a7)&&a8)&&a9)&&yU)&&Nn)&&Nm)&&Nl)=true)(k:a1=true->a2=true->a3=true->a4=true->a5=true->a6=true->a7=true->a8=true->a9=true->yU=true->Nn=true->Nm=true->Nl=true->P):P:=us h λU3 Ak=>us U3 λU4 Al=>us U4 λU5 Am=>us U5 λq9 uV=>us q9 λq8 p9=>us q8 λq7 p8=>us q7 λq6 p7=>us q6 λq5 p6=>us q5 λq4 p5=>us q4 λq3 p4=>us q3 λq2 p3=>us q2 λq1 p2=>k q1 p2 p3 p4 p5 p6 p7 p8 p9 uV Am Al Ak
def Q0{P:Prop}(h:(a1&&(a2&&a3))=true)(k:a1=true->a2=true->a3=true->P):P:=us h λp1 q1=>us q1 λp2 q2=>k p1 p2 q2
def QZ{P:Prop}(h:(a1&&(a2&&(a3&&(a4&&a5))))=true)(k:a1=true->a2=true->a3=true->a4=true->a5=true->P):P:=us h λp1 q1=>us q1 λp2 q2=>us q2 λp3 q3=>us q3 λp4 q4=>k p1 p2 p3 p4 q4
def ur{b:Bool}{y:α}{P:Prop}(h:aI b x=some y)(k:b=true->x=some y->P):P:=by
 cases b
 ·exact aR h
 ·exact k rfl h
def jI{a1 a2:Prop}(P:Prop)(e:P=(a1/\a2))(h1:a1)(h2:a2):P:=e▸⟨h1,h2⟩
def lJ{a1 a2 a3:Prop}(P:Prop)(e:P=(a1/\a2/\a3))(h1:a1)(h2:a2)(h3:a3):P:=e▸⟨h1,h2,h3⟩
def fp{a1 a2 a3 a4:Prop}(P:Prop)(e:P=(a1/\a2/\a3/\a4))(h1:a1)(h2:a2)(h3:a3)(h4:a4):P:=e▸⟨h1,h2,h3,h4⟩
def lI{a1 a2 a3 a4 a5:Prop}(P:Prop)(e:P=(a1/\a2/\a3/\a4/\a5))(h1:a1)(h2:a2)(h3:a3)(h4:a4)(h5:a5):P:=e▸⟨h1,h2,h3,h4,h5⟩
def Dv{a1 a2 a3 a4 a5 a6 a7:Prop}(P:Prop)(e:P=(a1/\a2/\a3/\a4/\a5/\a6/\a7))(h1:a1)(h2:a2)(h3:a3)(h4:a4)(h5:a5)(h6:a6)(h7:a7):P:=e▸⟨h1,h2,h3,h4,h5,h6,h7⟩
def I8{a1 a2 a3 a4 a5 a6 a7 a8:Prop}(P:Prop)(e:P=(a1/\a2/\a3/\a4/\a5/\a6/\a7/\a8))(h1:a1)(h2:a2)(h3:a3)(h4:a4)(h5:a5)(h6:a6)(h7:a7)(h8:a8):P:=e▸⟨h1,h2,h3,h4,h5,h6,h7,h8⟩
section
def KG(x:Nat):x<=2*(x/2)+1:=by omega
def rj{a b:Nat}(h:2*a+1<=2*b+2):a<=b:=by omega
variable {x0 x1 x2 x3 x4 x5 x6 x7 x8 x9 x10 x11:Nat}
def Ge(h0:x0≥x1)(h1:x0<x1+1):x0=x1:=ic (Nat.le_of_lt_succ h1) h0
def Gd(h0:x2<x1)(h1:x0<x2):x0<x1:=nP h1 h0
def PW(h0:x0<x1):x0-1<x1:=cU (nU ..) h0
def F5(h0:x1<x0):x0-1<x0:=ay [x0,x1,x0-1] [(La (Lv 2) (Lk 1),Lv 0)] (La (Lv 2) (Lk 1)) (Lv 0) rfl (aW (pn (ay [x0,x1,x0-1] [(La (Lv 1) (Lk 1),Lv 0)] (Lk 1) (Lv 0) rfl h0)))
def F4(h0:x0≥x1-1)(h1:x0<x1):x0=x1-1:=ic (ay [x0,x1,x1-1] [(La (Lv 0) (Lk 1),Lv 1),(Lv 1,La (Lv 2) (Lk 1))] (Lv 0) (Lv 2) rfl h1 (Nat.le_add_of_sub_le (bf (x1-1)))) (ay [x0,x1,x1-1] [(Lv 2,Lv 0)] (Lv 2) (Lv 0) rfl h0)
def Ca(h0:x0+(x2+1)=x1):x0<x1:=cU (eB ..) (aW h0)
def qP(h0:x0+(x2+1)=x1):x0-1<x1:=ay [x0,x1,x2,x0-1] [(La (Lv 0) (La (Lv 2) (Lk 1)),Lv 1),(Lv 3,Lv 0)] (La (Lv 3) (Lk 1)) (Lv 1) rfl (aW h0) (nU (x0) (1))
def B9(h0:x0+(x1+1)=x2):x0+1+x1=x2:=ic (ay [x0,x1,x2] [(La (Lv 0) (La (Lv 1) (Lk 1)),Lv 2)] (La (La (Lv 0) (Lk 1)) (Lv 1)) (Lv 2) rfl (aW h0)) (ay [x0,x1,x2] [(Lv 2,La (Lv 0) (La (Lv 1) (Lk 1)))] (Lv 2) (La (La (Lv 0) (Lk 1)) (Lv 1)) rfl (aW h0.symm))
def OS(h0:1<=x0):x0≠x0-1:=dM (Nat.sub_lt h0 Nat.one_pos)
def OL(h0:x0+1<=x1):x0<=x1:=aM (eB ..) h0
def Qs(h0:x2+(x3+1)=x1)(h1:x0<x2):x0<x1:=ay [x0,x1,x2,x3] [(La (Lv 2) (La (Lv 3) (Lk 1)),Lv 1),(La (Lv 0) (Lk 1),Lv 2)] (La (Lv 0) (Lk 1)) (Lv 1) rfl (aW h0) h1
def Qo(h0:2<=x0):x0≠x0-1:=dM (ay [x0,x0-1] [(La (Lv 1) (Lk 1),Lv 0)] (La (Lv 1) (Lk 1)) (Lv 0) rfl (aW (pn (ay [x0,x0-1] [(Lk 2,Lv 0)] (Lk 1) (Lv 0) rfl h0))))
def Qd(h0:x1<x0)(h1:x2<x1):x0-1-x1<x0-1-x2:=by omega
def P5(h0:x2<x0):x0-1-x1<x0:=ay [x0,x1,x2,x0-1-x1,x0-1] [(Lv 3,Lv 4),(La (Lv 4) (Lk 1),Lv 0)] (La (Lv 3) (Lk 1)) (Lv 0) rfl (nU (x0-1) (x1)) (aW (pn (ay [x0,x1,x2,x0-1-x1,x0-1] [(La (Lv 2) (Lk 1),Lv 0)] (Lk 1) (Lv 0) rfl h0)))
def P4(h0:2<=x0):1+(x0-1)=x0:=ic (ay [x0,x0-1] [(La (Lv 1) (Lk 1),Lv 0)] (La (Lk 1) (Lv 1)) (Lv 0) rfl (aW (pn (ay [x0,x0-1] [(Lk 2,Lv 0)] (Lk 1) (Lv 0) rfl h0)))) (ay [x0,x0-1] [(Lv 0,La (Lv 1) (Lk 1))] (Lv 0) (La (Lk 1) (Lv 1)) rfl (Nat.le_add_of_sub_le (bf (x0-1))))
def P2(h0:x0<1)(h1:x1<x0):False:=Nat.not_succ_le_zero 0 (ay [x0,x1] [(La (Lv 0) (Lk 1),Lk 1),(La (Lv 1) (Lk 1),Lv 0)] (Lk 1) (Lk 0) rfl h0 h1)
def P1(h0:2<=x0):0<x0:=aM (i5 ..) h0
def PZ(h0:x0<=x1)(h1:2<=x1):x0-1<x1:=by omega
def PY(h0:x0>1):0<x0-1:=Nat.sub_pos_of_lt h0
def PX(h0:1<=x0):x0-1<x0:=Nat.sub_lt h0 Nat.one_pos
def PV(h0:¬x0>1)(h1:1<=x0):x0=1:=ic (Nat.le_of_not_lt h0) h1
def PU(h0:2<=x0):2+(x0-(1+1))=x0:=Nat.add_sub_cancel' h0
def PT(h0:x1<2)(h1:x0<x1):x0=0:=ic (ay [x0,x1] [(La (Lv 1) (Lk 1),Lk 2),(La (Lv 0) (Lk 1),Lv 1)] (Lv 0) (Lk 0) rfl h0 h1) (ay [x0,x1] [] (Lk 0) (Lv 0) rfl)
def PS(h0:x0<2)(h1:x1<x0):x0=1:=ic (ay [x0,x1] [(La (Lv 0) (Lk 1),Lk 2)] (Lv 0) (Lk 1) rfl h0) (ay [x0,x1] [(La (Lv 1) (Lk 1),Lv 0)] (Lk 1) (Lv 0) rfl h1)
def F6(h0:x0<=x1):x0+(x1-x0)=x1:=Nat.add_sub_cancel' h0
def PR(h0:x1<=x0+0)(h1:x0<=x1):x0=x1:=ic h1 h0
def PQ(h0:x0≥x1)(h1:x0<=x1):x0=x1:=ic h1 h0
def wB(h0:x1<=x3)(h1:x0<=x1)(h2:x3<x2):(x0+x1)/2<x2:=rj (ay [x0,x1,x2,x3,(x0+x1)/2] [(Lm 2 (Lv 1),Lm 2 (Lv 3)),(Lv 0,Lv 1),(Lm 2 (La (Lv 3) (Lk 1)),Lm 2 (Lv 2)),(Lm 2 (Lv 4),La (Lv 0) (Lv 1))] (La (Lm 2 (La (Lv 4) (Lk 1))) (Lk 1)) (La (Lm 2 (Lv 2)) (Lk 2)) rfl (mB 2 h0) h1 (mB 2 h2) (uk (x0+x1) 2))
def PO(h0:x0<=x1):x0<=(x0+x1)/2:=rj (ay [x0,x1,(x0+x1)/2] [(Lv 0,Lv 1),(La (Lv 0) (Lv 1),La (Lm 2 (Lv 2)) (Lk 1))] (La (Lm 2 (Lv 0)) (Lk 1)) (La (Lm 2 (Lv 2)) (Lk 2)) rfl h0 (KG (x0+x1)))
def PN(h0:x1<=x2)(h1:x0<=x1):(x0+x1)/2<=x2:=rj (ay [x0,x1,x2,(x0+x1)/2] [(Lm 2 (Lv 1),Lm 2 (Lv 2)),(Lv 0,Lv 1),(Lm 2 (Lv 3),La (Lv 0) (Lv 1))] (La (Lm 2 (Lv 3)) (Lk 1)) (La (Lm 2 (Lv 2)) (Lk 2)) rfl (mB 2 h0) h1 (uk (x0+x1) 2))
def PM(h0:x1<=x0+(x2+1)):(x0+x1)/2<=x0+x2:=rj (ay [x0,x1,x2,(x0+x1)/2] [(Lv 1,La (Lv 0) (La (Lv 2) (Lk 1))),(Lm 2 (Lv 3),La (Lv 0) (Lv 1))] (La (Lm 2 (Lv 3)) (Lk 1)) (La (Lm 2 (La (Lv 0) (Lv 2))) (Lk 2)) rfl h0 (uk (x0+x1) 2))
def PL(h0:x0<x2)(h1:x2<x1):x0<x1:=nP h0 h1
def PK(h0:(x1+x2)/2≥x0)(h1:(x1+x2)/2<=x0):x0=(x1+x2)/2:=ic h0 h1
def PJ(h0:¬x1≥x2)(h1:x2<=x0):x0≠(x1+x2)/2:=dM (rj (ay [x0,x1,x2,(x1+x2)/2] [(La (Lv 1) (Lk 1),Lv 2),(Lm 2 (Lv 2),Lm 2 (Lv 0)),(Lm 2 (Lv 3),La (Lv 1) (Lv 2))] (La (Lm 2 (La (Lv 3) (Lk 1))) (Lk 1)) (La (Lm 2 (Lv 0)) (Lk 2)) rfl (Nat.lt_of_not_le h0) (mB 2 h1) (uk (x1+x2) 2)))
def PI(h0:¬x0≥x1):(x0+x1)/2+1<=x1:=rj (ay [x0,x1,(x0+x1)/2] [(La (Lv 0) (Lk 1),Lv 1),(Lm 2 (Lv 2),La (Lv 0) (Lv 1))] (La (Lm 2 (La (Lv 2) (Lk 1))) (Lk 1)) (La (Lm 2 (Lv 1)) (Lk 2)) rfl (Nat.lt_of_not_le h0) (uk (x0+x1) 2))
def PH(h0:x0<=x1+(x2+1)):x0<=(x1+x0)/2+1+x2:=rj (ay [x0,x1,x2,(x1+x0)/2] [(Lv 0,La (Lv 1) (La (Lv 2) (Lk 1))),(La (Lv 1) (Lv 0),La (Lm 2 (Lv 3)) (Lk 1))] (La (Lm 2 (Lv 0)) (Lk 1)) (La (Lm 2 (La (La (Lv 3) (Lk 1)) (Lv 2))) (Lk 2)) rfl h0 (KG (x1+x0)))
def PG(h0:x0<(x2+x3)/2+1)(h1:x3<=x4)(h2:x2<=x3)(h3:x4<x1):x0<x1:=by omega
def PF(h0:¬x0≥x1)(h1:x1<=x2):(x0+x1)/2<x2:=rj (ay [x0,x1,x2,(x0+x1)/2] [(La (Lv 0) (Lk 1),Lv 1),(Lm 2 (Lv 1),Lm 2 (Lv 2)),(Lm 2 (Lv 3),La (Lv 0) (Lv 1))] (La (Lm 2 (La (Lv 3) (Lk 1))) (Lk 1)) (La (Lm 2 (Lv 2)) (Lk 2)) rfl (Nat.lt_of_not_le h0) (mB 2 h1) (uk (x0+x1) 2))
def PE(h0:x0≥(x1+x2)/2)(h1:x0<(x1+x2)/2+1):x0=(x1+x2)/2:=ic (Nat.le_of_lt_succ h1) h0
def PC:x0<=0+x0:=i5 ..
def PB(h0:x0<x1)(h1:x1<=x0):False:=Nat.not_succ_le_zero 0 (ay [x0,x1] [(La (Lv 0) (Lk 1),Lv 1),(Lv 1,Lv 0)] (Lk 1) (Lk 0) rfl h0 h1)
def PA(h0:x1<=x0):x0-(x0-x1)=x1:=by omega
def Pz(h0:x2=x1)(h1:x0<x2):¬x0=x1:=dT (aM h1 (aW h0))
def Py(h0:x3=x0)(h1:x1<x3):¬(x0<x1/\x1<=x2):=by omega
def Px(h0:x2=x1)(h1:x0<x2):x0<x1:=aM h1 (aW h0)
def Pw(h0:x0<x1/\x1<=x2):x0<=x1-1:=Nat.le_sub_one_of_lt h0.1
def Cb(h0:x0<x1+1)(h1:x2<x0):x0-1<x1:=ay [x0,x1,x2,x0-1] [(La (Lv 0) (Lk 1),La (Lv 1) (Lk 1)),(La (Lv 3) (Lk 1),Lv 0)] (La (Lv 3) (Lk 1)) (Lv 1) rfl h0 (aW (pn (ay [x0,x1,x2,x0-1] [(La (Lv 2) (Lk 1),Lv 0)] (Lk 1) (Lv 0) rfl h1)))
def Pu(h0:¬x0=x2)(h1:x2<x1/\x1<=x3)(h2:x0<x1):x0-1<x1-1:=by omega
def Pt(h0:¬(x2<x0/\x0<=x3))(h1:¬x0=x2)(h2:x2<x1/\x1<=x3)(h3:x0<x1):x0<x1-1:=by omega
def Pq(h0:¬(x1<x2/\x2<=x3))(h1:x2<x3+1)(h2:x0<x2):¬x0=x1:=by omega
def Pp(h0:¬(x0<x3/\x3<=x2))(h1:x3<x2+1)(h2:x1<x3):¬(x0<x1/\x1<=x2):=by omega
def Po(h0:¬(x2<x0/\x0<=x1))(h1:¬x0=x2)(h2:x0<x1+1)(h3:x2<=x1):x0<x1:=by omega
def Pn(h0:¬x0<x1)(h1:x0<=x1):x0=x1:=ic h1 (Nat.le_of_not_lt h0)
def Pl(h0:x2=x3+(x4+(x5+x6)))(h1:x0=x7+(x4+(x5+1+x6)))(h2:x7<=x3+1)(h3:x2+2*(x1+1)<4000):x0+2*x1<4000:=ay [x0,x1,x2,x3,x4,x5,x6,x7] [(La (Lv 3) (La (Lv 4) (La (Lv 5) (Lv 6))),Lv 2),(Lv 0,La (Lv 7) (La (Lv 4) (La (La (Lv 5) (Lk 1)) (Lv 6)))),(Lv 7,La (Lv 3) (Lk 1)),(La (La (Lv 2) (Lm 2 (La (Lv 1) (Lk 1)))) (Lk 1),Lk 4000)] (La (La (Lv 0) (Lm 2 (Lv 1))) (Lk 1)) (Lk 4000) rfl (aW h0.symm) (aW h1) h2 h3
def Pk(h0:x5=x4+1)(h1:x6<=x1+1)(h2:x0<=x6+x2/\x3=x5+x2):x0<=x1+(x2+1)/\x3=x4+(x2+1):=⟨ay [x0,x1,x2,x3,x4,x5,x6] [(Lv 6,La (Lv 1) (Lk 1)),(Lv 0,La (Lv 6) (Lv 2))] (Lv 0) (La (Lv 1) (La (Lv 2) (Lk 1))) rfl h1 h2.1,ic (ay [x0,x1,x2,x3,x4,x5,x6] [(Lv 5,La (Lv 4) (Lk 1)),(Lv 3,La (Lv 5) (Lv 2))] (Lv 3) (La (Lv 4) (La (Lv 2) (Lk 1))) rfl (aW h0) (aW h2.2)) (ay [x0,x1,x2,x3,x4,x5,x6] [(La (Lv 4) (Lk 1),Lv 5),(La (Lv 5) (Lv 2),Lv 3)] (La (Lv 4) (La (Lv 2) (Lk 1))) (Lv 3) rfl (aW h0.symm) (aW h2.2.symm))⟩
def Pj(h0:x1=x0+1+(x2+(x3+x4)))(h1:x1+8*(x5+1)<3000):x0<=3000:=ay [x0,x1,x2,x3,x4,x5] [(La (La (Lv 0) (Lk 1)) (La (Lv 2) (La (Lv 3) (Lv 4))),Lv 1),(La (La (Lv 1) (Lm 8 (La (Lv 5) (Lk 1)))) (Lk 1),Lk 3000)] (Lv 0) (Lk 3000) rfl (aW h0.symm) h1
def Pg(h0:x1=x2+1+(x3+(x4+x0)))(h1:x1+8*(x5+1)<3000):x0<3000:=ay [x0,x1,x2,x3,x4,x5] [(La (La (Lv 2) (Lk 1)) (La (Lv 3) (La (Lv 4) (Lv 0))),Lv 1),(La (La (Lv 1) (Lm 8 (La (Lv 5) (Lk 1)))) (Lk 1),Lk 3000)] (La (Lv 0) (Lk 1)) (Lk 3000) rfl (aW h0.symm) h1
def Pf(h0:x0=x5)(h1:x6=x7+1+(x1+(x2+x3)))(h2:x5=x7)(h3:x6+8*(x4+1)<3000):x0+(x1+(x2+(x3+1)))+8*x4<3000:=ay [x0,x1,x2,x3,x4,x5,x6,x7] [(Lv 0,Lv 5),(La (La (Lv 7) (Lk 1)) (La (Lv 1) (La (Lv 2) (Lv 3))),Lv 6),(Lv 5,Lv 7),(La (La (Lv 6) (Lm 8 (La (Lv 4) (Lk 1)))) (Lk 1),Lk 3000)] (La (La (La (Lv 0) (La (Lv 1) (La (Lv 2) (La (Lv 3) (Lk 1))))) (Lm 8 (Lv 4))) (Lk 1)) (Lk 3000) rfl (aW h0) (aW h1.symm) (aW h2) h3
def Pe(h0:x0=x5)(h1:x6=x7+1+(x1+(x2+x3)))(h2:x5=x7)(h3:x6+8*(x4+1)<3000):x0+(x1+(x2+x3))+8*x4<3000:=ay [x0,x1,x2,x3,x4,x5,x6,x7] [(Lv 0,Lv 5),(La (La (Lv 7) (Lk 1)) (La (Lv 1) (La (Lv 2) (Lv 3))),Lv 6),(Lv 5,Lv 7),(La (La (Lv 6) (Lm 8 (La (Lv 4) (Lk 1)))) (Lk 1),Lk 3000)] (La (La (La (Lv 0) (La (Lv 1) (La (Lv 2) (Lv 3)))) (Lm 8 (Lv 4))) (Lk 1)) (Lk 3000) rfl (aW h0) (aW h1.symm) (aW h2) h3
def Pd(h0:x1=x2+1+(x0+(x3+x4)))(h1:x1+8*(x5+1)<3000):x0<3000:=ay [x0,x1,x2,x3,x4,x5] [(La (La (Lv 2) (Lk 1)) (La (Lv 0) (La (Lv 3) (Lv 4))),Lv 1),(La (La (Lv 1) (Lm 8 (La (Lv 5) (Lk 1)))) (Lk 1),Lk 3000)] (La (Lv 0) (Lk 1)) (Lk 3000) rfl (aW h0.symm) h1
def Pc(h0:x0=x5)(h1:x6=x7+1+(x1+(x2+x3)))(h2:x5=x7)(h3:x6+8*(x8+1)<3000)(h4:x4=3):x0+(x1+1+(x2+x3))+2*x4<4000:=by omega
def Pb(h0:x0<=x5+x6/\x2=x7+x6)(h1:x5=x8)(h2:x9=x10+1+(x1+(x7+x3)))(h3:x8=x10)(h4:x9+8*(x4+1)<3000)(h5:x6=3):x0+(x1+1+(x2+x3))+8*x4<3000:=by omega
def Pa(h0:x0+(x1+1)<900):x0<4000:=ay [x0,x1] [(La (La (Lv 0) (La (Lv 1) (Lk 1))) (Lk 1),Lk 900)] (La (Lv 0) (Lk 1)) (Lk 4000) rfl h0
def O9(h0:x0<=x1)(h1:x1<4000):1+x0<=4000:=ay [x0,x1] [(Lv 0,Lv 1),(La (Lv 1) (Lk 1),Lk 4000)] (La (Lk 1) (Lv 0)) (Lk 4000) rfl h0 h1
def O8(h0:x0<=x1)(h1:x1+(x2+1)<900):x0<4000:=ay [x0,x1,x2] [(Lv 0,Lv 1),(La (La (Lv 1) (La (Lv 2) (Lk 1))) (Lk 1),Lk 900)] (La (Lv 0) (Lk 1)) (Lk 4000) rfl h0 h1
def O7(h0:x0<x2)(h1:x2+2<=x1):x0<x1:=ay [x0,x1,x2] [(La (Lv 0) (Lk 1),Lv 2),(La (Lv 2) (Lk 2),Lv 1)] (La (Lv 0) (Lk 1)) (Lv 1) rfl h0 h1
def O6(h0:x0+2<=x1):x0+2<=x1+x2:=aM h0 (eB ..)
def O5(h0:x0+(x1+1)<900):x0+1+x1<900:=cU (aW (qN ..)) h0
def O4(h0:x1+x0<900):x0<900:=aM (i5 ..) h0
def O3(h0:x1<4000)(h1:x0<4000):0+(x0+(3*x1+0))<20000:=ay [x0,x1] [(Lm 3 (La (Lv 1) (Lk 1)),Lm 3 (Lk 4000)),(La (Lv 0) (Lk 1),Lk 4000)] (La (La (Lk 0) (La (Lv 0) (La (Lm 3 (Lv 1)) (Lk 0)))) (Lk 1)) (Lk 20000) rfl (mB 3 h0) h1
def O2(h0:x0=x1)(h1:x1<4000):1+x0<=4000:=ay [x0,x1] [(Lv 0,Lv 1),(La (Lv 1) (Lk 1),Lk 4000)] (La (Lk 1) (Lv 0)) (Lk 4000) rfl (aW h0) h1
def O1(h0:x3+2<=x1)(h1:x0<=x3):x0<=x1+x2:=ay [x0,x1,x2,x3] [(La (Lv 3) (Lk 2),Lv 1),(Lv 0,Lv 3)] (Lv 0) (La (Lv 1) (Lv 2)) rfl h0 h1
def O0(h0:x0<x2)(h1:x3+2<=x1)(h2:x2<=x3):x0<x1:=ay [x0,x1,x2,x3] [(La (Lv 0) (Lk 1),Lv 2),(La (Lv 3) (Lk 2),Lv 1),(Lv 2,Lv 3)] (La (Lv 0) (Lk 1)) (Lv 1) rfl h0 h1 h2
def OZ(h0:x1<=x3)(h1:800000<=x2)(h2:x0+4000*(x4+1)<=800000)(h3:x3<4000):x0+x1<=x2:=ay [x0,x1,x2,x3,x4] [(Lv 1,Lv 3),(Lk 800000,Lv 2),(La (Lv 0) (Lm 4000 (La (Lv 4) (Lk 1))),Lk 800000),(La (Lv 3) (Lk 1),Lk 4000)] (La (Lv 0) (Lv 1)) (Lv 2) rfl h0 h1 h2 h3
def OY(h0:x1<=x3)(h1:x0+4000*(x2+1)<=800000)(h2:x3<4000):x0+x1+4000*x2<=800000:=ay [x0,x1,x2,x3] [(Lv 1,Lv 3),(La (Lv 0) (Lm 4000 (La (Lv 2) (Lk 1))),Lk 800000),(La (Lv 3) (Lk 1),Lk 4000)] (La (La (Lv 0) (Lv 1)) (Lm 4000 (Lv 2))) (Lk 800000) rfl h0 h1 h2
def OX(h0:x0=x2)(h1:x2=x3+(x4+1))(h2:x1<x3):x0≠x1:=dM (ay [x0,x1,x2,x3,x4] [(Lv 2,Lv 0),(La (Lv 3) (La (Lv 4) (Lk 1)),Lv 2),(La (Lv 1) (Lk 1),Lv 3)] (La (Lv 1) (Lk 1)) (Lv 0) rfl (aW h0.symm) (aW h1.symm) h2)
def OW(h0:x1=x0+(x2+1)):x0≠x1:=dT (cU (eB ..) (aW h0.symm))
def OV(h0:x0+(x1+1)<x2):x0+1+x1<x2:=cU (aW (qN ..)) h0
def OU(h0:x0<=x2+1):x0+x1<=x2+(x1+1):=ay [x0,x1,x2] [(Lv 0,La (Lv 2) (Lk 1))] (La (Lv 0) (Lv 1)) (La (Lv 2) (La (Lv 1) (Lk 1))) rfl h0
def OT(h0:x1<=3)(h1:x0+(3*x3+3)<x2):x0+x1<x2:=ay [x0,x1,x2,x3] [(Lv 1,Lk 3),(La (La (Lv 0) (La (Lm 3 (Lv 3)) (Lk 3))) (Lk 1),Lv 2)] (La (La (Lv 0) (Lv 1)) (Lk 1)) (Lv 2) rfl h0 h1
def OQ(h0:x0<=x3+x4)(h1:x4<=3)(h2:x3+(3*x1+3)<x2):x0+3*x1<x2:=ay [x0,x1,x2,x3,x4] [(Lv 0,La (Lv 3) (Lv 4)),(Lv 4,Lk 3),(La (La (Lv 3) (La (Lm 3 (Lv 1)) (Lk 3))) (Lk 1),Lv 2)] (La (La (Lv 0) (Lm 3 (Lv 1))) (Lk 1)) (Lv 2) rfl h0 h1 h2
def OP(h0:x0<=x2+x3)(h1:x3<=3):x0+3*x1<=x2+3*(x1+1):=ay [x0,x1,x2,x3] [(Lv 0,La (Lv 2) (Lv 3)),(Lv 3,Lk 3)] (La (Lv 0) (Lm 3 (Lv 1))) (La (Lv 2) (Lm 3 (La (Lv 1) (Lk 1)))) rfl h0 h1
def OO(h0:x1<=3)(h1:x0+(9*x3+9)<x2):x0+3*x1<x2:=ay [x0,x1,x2,x3] [(Lm 3 (Lv 1),Lm 3 (Lk 3)),(La (La (Lv 0) (La (Lm 9 (Lv 3)) (Lk 9))) (Lk 1),Lv 2)] (La (La (Lv 0) (Lm 3 (Lv 1))) (Lk 1)) (Lv 2) rfl (mB 3 h0) h1
def ON(h0:x0<=x3+3*x4)(h1:x4<=3)(h2:x3+(9*x1+9)<x2):x0+9*x1<x2:=ay [x0,x1,x2,x3,x4] [(Lv 0,La (Lv 3) (Lm 3 (Lv 4))),(Lm 3 (Lv 4),Lm 3 (Lk 3)),(La (La (Lv 3) (La (Lm 9 (Lv 1)) (Lk 9))) (Lk 1),Lv 2)] (La (La (Lv 0) (Lm 9 (Lv 1))) (Lk 1)) (Lv 2) rfl h0 (mB 3 h1) h2
def OM(h0:x0<1000):0+9*x0<9001:=ay [x0] [(Lm 9 (La (Lv 0) (Lk 1)),Lm 9 (Lk 1000))] (La (La (Lk 0) (Lm 9 (Lv 0))) (Lk 1)) (Lk 9001) rfl (mB 9 h0)
def uz(h0:x0+(x1+1)<100000):x0+x1<100000:=Nat.lt_of_succ_lt h0
def F3(h0:100000<=x1)(h1:x0+(x2+1)<100000):x0<x1:=ay [x0,x1,x2] [(Lk 100000,Lv 1),(La (La (Lv 0) (La (Lv 2) (Lk 1))) (Lk 1),Lk 100000)] (La (Lv 0) (Lk 1)) (Lv 1) rfl h0 h1
def FZ(h0:x0+(x1+1)<100000):x0+1+x1<100000:=cU (aW (qN ..)) h0
def uy:x0+x1<=x0+(x1+1):=i4 _
def B8:x0+1+x1<=x0+(x1+1):=aW (qN ..)
def OK(h0:50000<=x1)(h1:x0+(x2+1)<50000):x0<x1:=ay [x0,x1,x2] [(Lk 50000,Lv 1),(La (La (Lv 0) (La (Lv 2) (Lk 1))) (Lk 1),Lk 50000)] (La (Lv 0) (Lk 1)) (Lv 1) rfl h0 h1
def FY(h0:x1<64)(h1:x0+64*(x2+1)<50000):x0+x1<100000:=ay [x0,x1,x2] [(La (Lv 1) (Lk 1),Lk 64),(La (La (Lv 0) (Lm 64 (La (Lv 2) (Lk 1)))) (Lk 1),Lk 50000)] (La (La (Lv 0) (Lv 1)) (Lk 1)) (Lk 100000) rfl h0 h1
def OJ(h0:x0<64)(h1:50000<=x1):x0<x1:=ay [x0,x1] [(La (Lv 0) (Lk 1),Lk 64),(Lk 50000,Lv 1)] (La (Lv 0) (Lk 1)) (Lv 1) rfl h0 h1
def OI(h0:x1+2<x0):x0≠x1:=dM (cU (eB ..) h0)
def OH(h0:x1+2<x0):x0≠x1+1:=dM (Nat.lt_of_succ_lt h0)
def OG(h0:x1+2<x0):x0≠x1+2:=dM (h0)
def OF(h0:x0<=x1)(h1:x1<64):x0<1000:=aM (cU h0 h1) (by decide)
def OE(h0:x0<=x2+x3/\x4<=x5+x3)(h1:x3<64)(h2:x2+64*(x1+1)<50000):x0+64*x1<50000:=ay [x0,x1,x2,x3,x4,x5] [(Lv 0,La (Lv 2) (Lv 3)),(La (Lv 3) (Lk 1),Lk 64),(La (La (Lv 2) (Lm 64 (La (Lv 1) (Lk 1)))) (Lk 1),Lk 50000)] (La (La (Lv 0) (Lm 64 (Lv 1))) (Lk 1)) (Lk 50000) rfl h0.1 h1 h2
def OD(h0:x2<=x3+x4/\x0<=x5+x4)(h1:x4<64)(h2:x5+64*(x1+1)<50000):x0+64*x1<50000:=ay [x0,x1,x2,x3,x4,x5] [(Lv 0,La (Lv 5) (Lv 4)),(La (Lv 4) (Lk 1),Lk 64),(La (La (Lv 5) (Lm 64 (La (Lv 1) (Lk 1)))) (Lk 1),Lk 50000)] (La (La (Lv 0) (Lm 64 (Lv 1))) (Lk 1)) (Lk 50000) rfl h0.2 h1 h2
def OC(h0:x0+(x1+1)<50000):x0+1+x1<50000:=cU (aW (qN ..)) h0
def Gb(h0:x0<x2)(h1:x1=x2+1):x0≠x1:=dT (nP h0 (aW h1.symm))
def Ga(h0:x0<x2)(h1:x1=x2+1):x0≠x1+1:=dT (ay [x0,x1,x2] [(La (Lv 0) (Lk 1),Lv 2),(La (Lv 2) (Lk 1),Lv 1)] (La (Lv 0) (Lk 1)) (La (Lv 1) (Lk 1)) rfl h0 (aW h1.symm))
def F9(h0:x0<x2)(h1:x1=x2+1):x0≠x1+2:=dT (ay [x0,x1,x2] [(La (Lv 0) (Lk 1),Lv 2),(La (Lv 2) (Lk 1),Lv 1)] (La (Lv 0) (Lk 1)) (La (Lv 1) (Lk 2)) rfl h0 (aW h1.symm))
def Qr(h0:x1=x0+1):x0≠x1:=dT ((aW h0.symm))
def Qq(h0:x1=x0+1):x0≠x1+1:=dT (aM (aW h0.symm) (eB ..))
def Qp(h0:x1=x0+1):x0≠x1+2:=dT (aM (aW h0.symm) (eB ..))
def Qn(h0:x2<=x1)(h1:x2=x0+1):x0<=x1:=nR (aM (aW h1.symm) h0)
def Qm(h0:x0=0+1*x1)(h1:x1<1+x2%4):x0<=40:=ay [x0,x1,x2,x2%4] [(Lv 0,La (Lk 0) (Lm 1 (Lv 1))),(La (Lv 1) (Lk 1),La (Lk 1) (Lv 3)),(La (Lv 3) (Lk 1),Lk 4)] (Lv 0) (Lk 40) rfl (aW h0) h1 (k9 (x2) (by decide))
def Ql(h0:x0+(x1+1)<=100):x0+1<=101:=ay [x0,x1] [(La (Lv 0) (La (Lv 1) (Lk 1)),Lk 100)] (La (Lv 0) (Lk 1)) (Lk 101) rfl h0
def Qk(h0:x0+(x1+1)<=100):x0+1+x1<=100:=aM (aW (qN ..)) h0
def Qj:1+x0%4+4<=100:=ay [x0,x0%4] [(La (Lv 1) (Lk 1),Lk 4)] (La (La (Lk 1) (Lv 1)) (Lk 4)) (Lk 100) rfl (k9 (x0) (by decide))
def Qi(h0:x0+(x1+1)<1000):x0<1000:=cU (eB ..) h0
def Qh(h0:x0+(x1+1)<1000):x0+1+x1<1000:=cU (aW (qN ..)) h0
def Qg(h0:x1<=x0)(h1:x1=1+x2%4):1<=x0:=ay [x0,x1,x2,x2%4] [(Lv 1,Lv 0),(La (Lk 1) (Lv 3),Lv 1)] (Lk 1) (Lv 0) rfl h0 (aW h1.symm)
def Qf(h0:x0<=x1+4)(h1:x1=1+x2%4):x0<=10:=ay [x0,x1,x2,x2%4] [(Lv 0,La (Lv 1) (Lk 4)),(Lv 1,La (Lk 1) (Lv 3)),(La (Lv 3) (Lk 1),Lk 4)] (Lv 0) (Lk 10) rfl h0 (aW h1) (k9 (x2) (by decide))
def Qe:x0+1+x1=x0+(x1+1):=qN ..
def Qc:1<=1+x0%15:=eB ..
def Qb:1+x0%15<16:=ay [x0,x0%15] [(La (Lv 1) (Lk 1),Lk 15)] (La (La (Lk 1) (Lv 1)) (Lk 1)) (Lk 16) rfl (k9 (x0) (by decide))
def Qa:1<=1+(x0+1+x0/15%14)%15:=eB ..
def P9:1+(x0+1+x0/15%14)%15<16:=ay [x0,(x0+1+x0/15%14)%15] [(La (Lv 1) (Lk 1),Lk 15)] (La (La (Lk 1) (Lv 1)) (Lk 1)) (Lk 16) rfl (k9 (x0+1+x0/15%14) (by decide))
def F8(h0:0+(x0+(x1+x2))<3000):x0<4000:=ay [x0,x1,x2] [(La (La (Lk 0) (La (Lv 0) (La (Lv 1) (Lv 2)))) (Lk 1),Lk 3000)] (La (Lv 0) (Lk 1)) (Lk 4000) rfl h0
def F7(h0:0+(x1+(x0+x2))<3000):x0<4000:=ay [x0,x1,x2] [(La (La (Lk 0) (La (Lv 1) (La (Lv 0) (Lv 2)))) (Lk 1),Lk 3000)] (La (Lv 0) (Lk 1)) (Lk 4000) rfl h0
def P8(h0:x1=x2)(h1:x0<=3)(h2:x2<=3):x0+(1+(x1+0))<4000:=ay [x0,x1,x2] [(Lv 1,Lv 2),(Lv 0,Lk 3),(Lv 2,Lk 3)] (La (La (Lv 0) (La (Lk 1) (La (Lv 1) (Lk 0)))) (Lk 1)) (Lk 4000) rfl (aW h0) h1 h2
def P7(h0:x0<=3):x0+(1+(3+0))+800<3000:=ay [x0] [(Lv 0,Lk 3)] (La (La (La (Lv 0) (La (Lk 1) (La (Lk 3) (Lk 0)))) (Lk 800)) (Lk 1)) (Lk 3000) rfl h0
def P6:1+x0%15≠1+(x0+1+x0/15%14)%15:=by omega
end
end
section
open PySem.W PyProof.Rows
section
structure Cf where
 prog:Program
 w:World
 h₀:Heap
 P:bP
 gl:List Str
 nm:List Str
 gv:Nat->Option Value
 clsAt:Nat->Addr
 fr:Frag
abbrev Ph:=List (Addr×Addr)
noncomputable def Cf.enc(V:Cf)(l:List Nat):List Nat:=l.map λc=>65+c
noncomputable def Cf.tx(V:Cf)(l:List Nat):Str:=⟨(V.enc l).toArray⟩
def cS(V:Cf)(l:List Nat):Prop:=(l.length<=az)/\(∀c∈l,c<16)
section
variable {b1 b2}(x:cS b1 b2)
def cS.mk:=jI (cS b1 b2) rfl
def cS.len:=x.1
def cS.sign:=x.2
end
def Sq(J:Ph)(a:Addr)(l:List AV)(I R:Prop):Prop:=(I)/\(a∉J.map (·.2))/\(R)/\(l.length<=az)
section
variable {b1 b2 b3 b4 b5}(x:Sq b1 b2 b3 b4 b5)
def Sq.mk:=fp (Sq b1 b2 b3 b4 b5) rfl
def Sq.at_:=x.1
def Sq.out:=x.2.1
def Sq.all:=x.2.2.1
def Sq.len:=x.2.2.2
end
def nH(J:Ph)(h:Heap)(n:Nat)(b a d:Addr)(o:Obj):Prop:=(J[n]?=some (a,d))/\(h.get? b=some o)/\(o.cls=.type "method-wrapper")/\(o.data=.fields #[.builtin "list_iterator.__next__",.ref a])/\(b∉J.map (·.2))
section
variable {b1 b2 b3 b4 b5 b6 b7}(x:nH b1 b2 b3 b4 b5 b6 b7)
def nH.mk:=lI (nH b1 b2 b3 b4 b5 b6 b7) rfl
def nH.ph:=x.1
def nH.get:=x.2.1
def nH.cls:=x.2.2.1
def nH.data:=x.2.2.2.1
def nH.out:=x.2.2.2.2
end
mutual
noncomputable def VR(V:Cf)(J:Ph)(h:Heap)(v:Value):AV->Prop
 |.none=>v=.none
 |.bool b=>v=.bool b
 |.int i=>∃t,v=.int i t
 |.str l=>∃t,v=.str (V.tx l) t/\cS V l
 |.cE l=>∃b t,v=.bytes b t/\b.toList.map UInt8.toNat=V.enc l/\cS V l
 |.tup l=>∃a items n,v=.ref a/\Sq J a l (IsT h a (List.toArray items) n) (aQ V J h items l)
 |.lst l=>∃a items n,v=.ref a/\Sq J a l (IsL h a (List.toArray items) n) (aQ V J h items l)
 |.dF x y z=>∃a t u w,v=.ref a/\IsRange h a x y z t u w/\a∉J.map (·.2)/\oy x y z=true
 |.ref n=>∃a d,v=.ref a/\J[n]?=some (a,d)
 |.glob k=>V.gv k=some v
 |.cP n=>∃b a d o,v=.ref b/\nH J h n b a d o
 |.vals n=>∃b a d,v=.ref b/\J[n]?=some (a,d)/\h.IsValuesView b a/\b∉J.map (·.2)
 |.uW=>∃x t,v=.str x t
noncomputable def aQ(V:Cf)(J:Ph)(h:Heap)(vs:List Value):List AV->Prop
 |[]=>vs=[]
 |d::ds=>∃v r,vs=v::r/\VR V J h v d/\aQ V J h r ds
end
variable {V:Cf}{J:Ph}{h:Heap}
def VR.lit(i:Int)(t:Tok):VR V J h (.int i t) (.int i):=⟨t,rfl⟩
def VR.bool(b:Bool):VR V J h (.bool b) (.bool b):=rfl
def VR.none:VR V J h .none .none:=rfl
def VR.str{l:List Nat}{t:Tok}(o:cS V l):VR V J h (.str (V.tx l) t) (.str l):=⟨t,rfl,o⟩
variable {n:Nat}{a:Addr}
def VR.ref{d:Addr}(e:J[n]?=some (a,d)):VR V J h (.ref a) (.ref n):=⟨a,d,rfl,e⟩
variable {items:List Value}
def VR.tup{l:List AV}(x:Sq J a l (IsT h a (List.toArray items) n) (aQ V J h items l)):VR V J h (.ref a) (.tup l):=⟨a,items,n,rfl,x⟩
def VR.lst{l:List AV}(x:Sq J a l (IsL h a (List.toArray items) n) (aQ V J h items l)):VR V J h (.ref a) (.lst l):=⟨a,items,n,rfl,x⟩
def aQ.nil:aQ V J h [] []:=rfl
def aQ.cons{v:Value}{d:AV}{vs:List Value}{ds:List AV}(x:VR V J h v d)(r:aQ V J h vs ds):aQ V J h (v::vs) (d::ds):=⟨v,vs,rfl,x,r⟩
theorem aQ.length:∀{ds:List AV} {vs:List Value},aQ V J h vs ds->vs.length=ds.length:=by
 intro ds
 induction ds with
 |nil=>exact λx=>congrArg List.length x
 |cons _ _ ih=>exact λq=>bB q λO O e O r=>e▸congrArg (·+1) (ih r)
theorem aQ.append:∀{ds:List AV} {vs:List Value} {jV:List Value} {vN:List AV},aQ V J h vs ds->aQ V J h jV vN->aQ V J h (vs++jV) (ds++vN):=by
 intro ds
 induction ds with
 |nil=>intro _ _ _ x y;cases x;exact y
 |cons _ _ ih=>exact λq y=>bB q λO O e x r=>e▸.cons x (ih r y)
theorem aQ.take:∀{ds:List AV} {vs:List Value},aQ V J h vs ds->∀n:Nat,aQ V J h (vs.take n) (ds.take n)
 |[],_,x,n=>by cases x;rw[List.take_nil,List.take_nil];exact .nil
 |_::_,_,x,0=>.nil
 |_::_,_,q,n+1=>bB q λO O e x r=>e▸.cons x (r.take n)
theorem aQ.drop:∀{ds:List AV} {vs:List Value},aQ V J h vs ds->∀n:Nat,aQ V J h (vs.drop n) (ds.drop n)
 |[],_,x,n=>by cases x;rw[List.drop_nil,List.drop_nil];exact .nil
 |_::_,_,x,0=>x
 |_::_,_,q,n+1=>bB q λO O e x r=>e▸r.drop n
theorem cQ{α:Type}:∀(l:List α) (n:Nat),ae l n=l[n]?:=by
 intro l
 induction l with
 |nil=>intro _;exact rfl
 |cons _ r ih=>
  intro t_;cases t_ with
  |zero=>exact rfl
  |succ n=>exact ih n
theorem sN{α:Type}(y:α):∀(l:List α) (n:Nat),ai l y n=l.set n y:=by
 intro l
 induction l with
 |nil=>intro _;exact rfl
 |cons x r ih=>
  intro t_;cases t_ with
  |zero=>exact rfl
  |succ n=>exact congrArg (x::·) (ih n)
theorem aQ.get:∀{ds:List AV} {vs:List Value},aQ V J h vs ds->∀{i:Nat} {d:AV},ds[i]?=some d->∃v,vs[i]?=some v/\VR V J h v d:=by
 intro ds
 induction ds with
 |nil=>exact λO O O e=>aR e
 |cons _ _ ih=>
  intro _ k i _ e;cases i with
  |zero=>exact bB k λv O q x O=>⟨v,q▸rfl,sj e▸x⟩
  |succ i=>exact bB k λO O q O r=>q▸ih r (i:=i) e
theorem aQ.set:∀{ds:List AV} {vs:List Value},aQ V J h vs ds->∀(n:Nat) {v:Value} {d:AV},VR V J h v d->aQ V J h (vs.set n v) (ds.set n d):=by
 intro ds
 induction ds with
 |nil=>intro _ x n _ _ _;cases x;exact .nil
 |cons _ _ ih=>
  intro _ q n _ _ y;cases n with
  |zero=>exact bB q λO O e x r=>e▸.cons y r
  |succ n=>exact bB q λO O e x r=>e▸.cons x (ih r n y)
noncomputable def vn(T:String):Bool:=T=="list_iterator"||T=="tuple_iterator"||T=="range_iterator"||T=="dict_keyiterator"||T=="dict_valueiterator"||T=="bytes_iterator"||T=="str_ascii_iterator"
structure kh(o:Obj):Prop where
 it:∃T vs,o.cls=.type T/\vn T=true/\o.data=.fields vs
noncomputable def AQ(T:String):Bool:=T=="traceback"||T=="StopIteration"
def ki(o:Obj):Prop:=(∃vs,o.data=.fields vs)/\(∀T,o.cls=.type T->AQ T=true)
section
variable {b1}(x:ki b1)
def ki.mk:=jI (ki b1) rfl
def ki.data:=x.1
def ki.cls:=x.2
end
def cN(h:Heap)(a:Addr):Prop:=∃o,h.get? a=some o
def jH(ha:h.objs.size<=a):¬ cN h a:=λ⟨_,e⟩=>absurd (fx e) (hZ.mpr ha)
def iQ(o:Obj):Prop:=∃es n,o.data=.dict es n
def ju(h':Heap)(a:Addr)(o:Obj):Prop:=h'.get? a=some o\/(iQ o/\∃sl,h'.get? a=some {o with slots:=sl})
structure dD(X:List Addr)(J:Ph)(h h':Heap):Prop where
 keep:∀a o,h.get? a=some o->a∉J.map (·.2)->a∉X->ju h' a o
def oW(o:Obj):Prop:=iQ o\/(∃v,o.data=.cell v)\/kh o\/ki o
variable {o:Obj}
def oW.slots(sl:Array (Option Value))(x:oW o):oW {o with slots:=sl}:=by
 rcases x with k|k|k|k
 ·exact .inl k
 ·exact .inr (.inl k)
 ·exact .inr (.inr (.inl ⟨k.it⟩))
 ·exact .inr (.inr (.inr (ki.mk k.data k.cls)))
def d0(X:List Addr)(h:Heap):Prop:=∀a∈X,∃o,h.get? a=some o/\oW o
def iF(o:Obj):Prop:=(¬ iQ o)/\(∀v,o.data≠.cell v)/\(∀T,o.cls=.type T->vn T=false/\AQ T=false)/\((∃T,o.cls=.type T)\/∀vs,o.data≠.fields vs)
section
variable {b1}(x:iF b1)
def iF.mk:=fp (iF b1) rfl
def iF.dct:=x.1
def iF.nD:=x.2.1
def iF.it:=x.2.2.1
def iF.fl:=x.2.2.2
end
def iF.own(f:iF o):¬ oW o:=λk=>by
 rcases k with k|⟨v,k⟩|⟨T,vs,k1,k2,k3⟩|⟨⟨vs,k1⟩,k2⟩
 ·exact f.dct k
 ·exact f.nD v k
 ·have:=(f.it T k1).1;rw[k2] at this;cases this
 ·rcases f.fl with⟨T,h⟩|h
  ·have:=(f.it T h).2;rw[k2 T h] at this;cases this
  ·exact h vs k1
def iF.ty{T:String}{dct:Option Addr}{dt:Data}{sl:Array (Option Value)}(hT:(vn T||AQ T)=false)(hd:∀es n,dt≠.dict es n)(hc:∀v,dt≠.cell v):iF {cls:=.type T,dict:=dct,data:=dt,slots:=sl}:=(iF.mk (λ⟨es,n,h⟩=>hd es n h) hc (λT' h'=>by cases h';simpa using hT) (.inl ⟨T,rfl⟩))
def iF.mk'{T:String}(ht:o.cls=.type T)(hT:(vn T||AQ T)=false)(hd:∀es n,o.data≠.dict es n)(hc:∀v,o.data≠.cell v):iF o:=(iF.mk (λ⟨es,n,h⟩=>hd es n h) hc (λT' h'=>by rw[ht] at h';cases h';simpa using hT) (.inl ⟨T,ht⟩))
def dD.refl(X:List Addr)(J:Ph)(h:Heap):dD X J h h:=⟨λO O e O O=>.inl e⟩
def dD.get{X:List Addr}{h':Heap}(E:dD X J h h')(hX:d0 X h)(e:h.get? a=some o)(hφ:a∉J.map (·.2))(hc:iF o):h'.get? a=some o:=by
 have hx:a∉X:=λhm=>by refine aq (hX a hm) λo' e' k=>?_;rw[e] at e';cases e';exact hc.own k
 rcases E.keep a o e hφ hx with k|⟨k,_⟩
 ·exact k
 ·exact absurd k hc.dct
structure Gr(J φ':Ph)(h:Heap):Prop where
 pre:∃r,φ'=J++r/\∀p∈r,¬ cN h p.2
def Gr.refl(J:Ph)(h:Heap):Gr J J h:=⟨[],by simp,by simp⟩
def Gr.get{φ':Ph}(g:Gr J φ' h){p:Addr×Addr}(e:J[n]?=some p):φ'[n]?=some p:=by refine aq g.pre λr aa O=>?_;subst aa;rw[wi (mE.mp e).1];exact e
def Gr.not{φ':Ph}(g:Gr J φ' h)(hl:cN h a)(ha:a∉J.map (·.2)):a∉φ'.map (·.2):=by refine aq g.pre λr aa hr=>?_;subst aa;simp only[ew,ko,not_or];refine⟨ha,λhm=>?_⟩;refine aq (bU.mp hm) λp hp aa=>?_;subst aa;exact hr p hp hl
def Gr.trans{φ' we:Ph}{h':Heap}(g:Gr J φ' h)(g':Gr φ' we h')(hl:∀a,cN h a->cN h' a):Gr J we h:=by
 refine aq g.pre λr aa hr=>?_;subst aa;refine aq g'.pre λr' aa YG=>?_;subst aa;refine⟨r++r',by simp,λp hp=>?_⟩;rcases ko.mp hp with k|k
 ·exact hr p k
 ·exact λo=>YG p k (hl _ o)
def Gr.push(J:Ph)(p:Addr×Addr)(k:¬ cN h p.2):Gr J (J++[p]) h:=⟨[p],rfl,by simpa using k⟩
section
variable {φ':Ph}{h':Heap}{X:List Addr}
mutual
theorem VR.mono(E:dD X J h h')(hX:d0 X h)(g:Gr J φ' h){d:AV}{v:Value}(q:VR V J h v d):VR V φ' h' v d:=by
 cases d with
 |tup=>exact cO q λa items n e s=>⟨a,items,n,e,Sq.mk (E.get hX s.at_ s.out (.ty (by decide) (by simp) (by simp))) (g.not ⟨_,s.at_⟩ s.out) (aQ.mono E hX g s.all) s.len⟩
 |lst=>exact cO q λa items n e s=>⟨a,items,n,e,Sq.mk (E.get hX s.at_ s.out (.ty (by decide) (by simp) (by simp))) (g.not ⟨_,s.at_⟩ s.out) (aQ.mono E hX g s.all) s.len⟩
 |dF=>exact GA q λa t u w e s o z=>⟨a,t,u,w,e,E.get hX s o (.ty (by decide) (by simp) (by simp)),g.not ⟨_,s⟩ o,z⟩
 |ref=>exact dN q λa d e s=>⟨a,d,e,g.get s⟩
 |cP=>exact mP q λb a d o e s=>⟨b,a,d,o,e,nH.mk (g.get s.ph) (E.get hX s.get s.out (.mk' s.cls (by decide) (by rw[s.data];simp) (by rw[s.data];simp))) s.cls s.data (g.not ⟨_,s.get⟩ s.out)⟩
 |vals=>exact qU q λb a d e p k out=>gQ k λo e1 hc hd=>⟨b,a,d,e,g.get p,⟨o,E.get hX e1 out (.mk' hc (by decide) (by rw[hd];simp) (by rw[hd];simp)),hc,hd⟩,g.not ⟨_,e1⟩ out⟩
 |_=>exact q
theorem aQ.mono(E:dD X J h h')(hX:d0 X h)(g:Gr J φ' h){ds:List AV}{vs:List Value}(q:aQ V J h vs ds):aQ V φ' h' vs ds:=by
 cases ds with
 |nil=>exact q
 |cons=>exact bB q λv r e x rr=>⟨v,r,e,VR.mono E hX g x,aQ.mono E hX g rr⟩
end
end
end
section
variable {V:Cf}{J φ':Ph}{h h':Heap}{X:List Addr}
def GD{a b:List Nat}(h:V.tx a=V.tx b):a=b:=by
 have h:(V.enc a).toArray=(V.enc b).toArray:=congrArg Str.cps h;have h:V.enc a=V.enc b:=by simpa using h
 unfold Cf.enc at h;exact List.map_inj_right (λx y e=>Nat.add_left_cancel e) |>.mp h
noncomputable def kS(V:Cf):KeyKind V.prog V.w (List Nat) where
 is k:=Value.isStrOf (V.tx k)
 hash k:=(PySem.strKind V.prog V.w).hash (V.tx k)
 inj v a b h1 h2:=GD (Value.isStrOf_inj v _ _ h1 h2)
 byValue _ v h:=(PySem.strKind V.prog V.w).byValue _ v h
 pyHash h:=(PySem.strKind V.prog V.w).pyHash h
 eqBool {_ _ _ a b _ _ _} h1 h2 h:=(PySem.strKind V.prog V.w).eqBool h1 h2 (by have:decide (V.tx a=V.tx b)=decide (a=b):=decide_eq_decide.mpr ⟨GD,λe=>by rw[e]⟩;rw[this];exact h)
 «strs» _ x t v h:=(PySem.strKind V.prog V.w).strs _ x t v h
def DR(V:Cf)(J:Ph)(h:Heap)(e:DictEntry)(p:List Nat×AV):Prop:=((kS V).is p.1 e.key=true)/\(e.hash=(kS V).hash p.1)/\(VR V J h e.val p.2)/\(cS V p.1)
section
variable {b1 b2 b3 b4 b5}(x:DR b1 b2 b3 b4 b5)
def DR.mk:=fp (DR b1 b2 b3 b4 b5) rfl
def DR.key:=x.1
def DR.hash:=x.2.1
def DR.val:=x.2.2.1
def DR.ok:=x.2.2.2
end
def hO(V:Cf)(J:Ph)(h:Heap):List (List Nat×AV)->List DictEntry->Prop
 |[]=>λes=>es=[]
 |p::ps=>λes=>∃e r,es=e::r/\DR V J h e p/\hO V J h ps r
def DR.mono(E:dD X J h h')(hX:d0 X h)(g:Gr J φ' h){e:DictEntry}{p:List Nat×AV}(x:DR V J h e p):DR V φ' h' e p:=(DR.mk x.key x.hash (x.val.mono E hX g) x.ok)
theorem hO.mono(E:dD X J h h')(hX:d0 X h)(g:Gr J φ' h):∀{ps:List (List Nat×AV)} {es:List DictEntry},hO V J h ps es->hO V φ' h' ps es:=by
 intro ps
 induction ps with
 |nil=>exact λx=>x
 |cons _ _ ih=>exact λk=>bB k λe r q x rr=>⟨e,r,q,x.mono E hX g,ih rr⟩
structure Nq(V:Cf)(h:Heap)(a:Addr)(l:List (List Nat)):Prop where
 set:h.SetOf (strKind V.prog V.w) a (λx=>l.any λy=>V.tx y==x) l.length
def t8(V:Cf)(J:Ph)(h:Heap)(m:Str->Option Value)(names:List Nat)(fs:List (Option AV)):Prop:=(∀y val,m y=some val->∃a∈names,V.nm[a]?=some y)/\(∀(j a:Nat),names[j]?=some a->fs[j]?=some Option.none->∃x,V.nm[a]?=some x/\m x=Option.none)/\(∀(j a:Nat) (v:AV),names[j]?=some a->fs[j]?=some (Option.some v)->∃x val,V.nm[a]?=Option.some x/\m x=Option.some val/\VR V J h val v)
def t8.name{V J h m names fs}(hh:t8 V J h m names fs):=hh.1
def t8.none{V J h m names fs}(hh:t8 V J h m names fs):=hh.2.1
def t8.some{V J h m names fs}(hh:t8 V J h m names fs):=hh.2.2
def adI(V:Cf)(J:Ph)(h:Heap)(sl:Array (Option Value))(fs:List (Option AV)):Prop:=∀(j:Nat) (v:AV),fs[j]?=some (some v)->∃val,sl[j]?=some (some val)/\VR V J h val v
def mn(V:Cf)(J:Ph)(h:Heap)(p:Addr×Addr)(c:Nat)(fs:List (Option AV))(dx:Addr)(sl:Array (Option Value)):Prop:=(p.1=p.2)/\(h.get? p.2=some {cls:=.ref (V.clsAt c),dict:=some dx,data:=.plain,slots:=sl})/\((dx,dx)∈J)/\(adI V J h sl fs)
section
variable {b1 b2 b3 b4 b5 b6 b7 b8}(x:mn b1 b2 b3 b4 b5 b6 b7 b8)
def mn.mk:=fp (mn b1 b2 b3 b4 b5 b6 b7 b8) rfl
def mn.eq:=x.1
def mn.get:=x.2.1
def mn.dct:=x.2.2.1
def mn.fld:=x.2.2.2
end
def mq(V:Cf)(J:Ph)(h:Heap)(p:Addr×Addr)(c:Nat)(names:List Nat)(fs:List (Option AV))(m:Str->Option Value):Prop:=(p.1∉J.map (·.2))/\(h.get? p.1=some (instObj (V.clsAt c) p.2))/\(h.Ns1 p.2 m)/\(t8 V J h m names fs)
section
variable {b1 b2 b3 b4 b5 b6 b7 b8}(x:mq b1 b2 b3 b4 b5 b6 b7 b8)
def mq.mk:=fp (mq b1 b2 b3 b4 b5 b6 b7 b8) rfl
def mq.out:=x.1
def mq.get:=x.2.1
def mq.ns:=x.2.2.1
def mq.fld:=x.2.2.2
end
def kY(V:Cf)(J:Ph)(h:Heap)(p:Addr×Addr)(c:Nat)(fs:List (Option AV))(cd:CD):Prop:=(V.P.gt[c]?=some (.cl cd))/\(fs.length=cd.bD.length)/\(cd.slots=true->∃dx sl,mn V J h p c fs dx sl)/\(cd.slots=false->∃m,mq V J h p c cd.bD fs m)
section
variable {b1 b2 b3 b4 b5 b6 b7}(x:kY b1 b2 b3 b4 b5 b6 b7)
def kY.mk:=fp (kY b1 b2 b3 b4 b5 b6 b7) rfl
def kY.cls:=x.1
def kY.len:=x.2.1
def kY.slo:=x.2.2.1
def kY.dct:=x.2.2.2
end
def mj(V:Cf)(J:Ph)(h:Heap)(p:Addr×Addr)(l:List AV)(items:List Value)(n:Nat):Prop:=(p.1=p.2)/\(IsL h p.2 items.toArray n)/\(aQ V J h items l)/\(l.length<=az)
section
variable {b1 b2 b3 b4 b5 b6 b7}(x:mj b1 b2 b3 b4 b5 b6 b7)
def mj.mk:=fp (mj b1 b2 b3 b4 b5 b6 b7) rfl
def mj.eq:=x.1
def mj.at_:=x.2.1
def mj.all:=x.2.2.1
def mj.len:=x.2.2.2
end
def iG(V:Cf)(J:Ph)(h:Heap)(p:Addr×Addr)(ep:Nat)(l:List (List Nat×AV))(es:List DictEntry):Prop:=(p.1=p.2)/\(h.get? p.2=some {cls:=.type "dict",data:=.dict es.toArray ep})/\(hO V J h l es)/\(l.length<=az)/\((l.map (·.1)).Nodup)
section
variable {b1 b2 b3 b4 b5 b6 b7}(x:iG b1 b2 b3 b4 b5 b6 b7)
def iG.mk:=lI (iG b1 b2 b3 b4 b5 b6 b7) rfl
def iG.eq:=x.1
def iG.at_:=x.2.1
def iG.all:=x.2.2.1
def iG.len:=x.2.2.2.1
def iG.nodup:=x.2.2.2.2
end
def oZ(J:Ph)(h:Heap)(p:Addr×Addr)(n i:Nat)(q:Addr×Addr)(sl:Array (Option Value)):Prop:=(p.1=p.2)/\(J[n]?=some q)/\(h.get? p.2=some {cls:=.type "list_iterator",dict:=none,data:=.fields #[.ref q.1,.int i 0],slots:=sl})
section
variable {b1 b2 b3 b4 b5 b6 b7}(x:oZ b1 b2 b3 b4 b5 b6 b7)
def oZ.mk:=lJ (oZ b1 b2 b3 b4 b5 b6 b7) rfl
def oZ.eq:=x.1
def oZ.ph:=x.2.1
def oZ.get:=x.2.2
end
def OR(V:Cf)(J:Ph)(h:Heap)(p:Addr×Addr)(o:AO):Prop:=match o with
 |.list l=>∃items n,mj V J h p l items n
 |.dict ep l=>∃es,iG V J h p ep l es
 |.set l=>p.1=p.2/\Nq V h p.2 l
 |.inst c fs=>∃cd,kY V J h p c fs cd
 |.iter n i=>∃q sl,oZ J h p n i q sl
 |.dead=>True
variable {p:Addr×Addr}
def Gr.mem(g:Gr J φ' h)(e:p∈J):p∈φ':=by refine aq g.pre λr aa O=>?_;subst aa;exact nT _ e
def ZH(C d:Addr):iF (instObj C d):=(iF.mk (λ⟨_,_,h⟩=>(nomatch h)) (λO h=>(nomatch h)) (λO h=>(nomatch h)) (.inr λO h=>(nomatch h)))
def OR.mono(E:dD X J h h')(hX:d0 X h)(g:Gr J φ' h)(hp:h'.get? p.2=h.get? p.2):∀{o:AO},OR V J h p o->OR V φ' h' p o
 |.list l,q=>ct q λitems n x=>⟨items,n,mj.mk x.eq (hp.trans x.at_) (x.all.mono E hX g) x.len⟩
 |.dict ep l,q=>ue q λes x=>⟨es,iG.mk x.eq (hp.trans x.at_) (x.all.mono E hX g) x.len x.nodup⟩
 |.set l,q=>⟨q.1,⟨mP q.2.set λo es ep t e r=>⟨o,es,ep,t,hp.trans e,r⟩⟩⟩
 |.inst c fs,q=>ue q λcd x=>⟨cd,kY.mk x.cls x.len (λhs=>ct (x.slo hs) λdx sl y=>⟨dx,sl,mn.mk y.eq (hp.trans y.get) (g.mem y.dct) (λj v z=>aq (y.fld j v z) λval y x=>⟨val,y,x.mono E hX g⟩)⟩) (
   λhs=>ue (x.dct hs) λm y=>⟨m,mq.mk (g.not ⟨_,y.get⟩ y.out) (E.get hX y.get y.out (ZH _ _)) (cO y.ns λo es n c k=>⟨o,es,n,hp.trans c,k⟩) ⟨
    y.fld.name,y.fld.none,λj a v e1 e2=>bB (y.fld.some j a v e1 e2) λx val a b c=>⟨x,val,a,b,c.mono E hX g⟩⟩⟩)⟩
 |.iter n i,q=>ct q λq sl x=>⟨q,sl,oZ.mk x.eq (g.get x.ph) (hp.trans x.get)⟩
 |.dead,_=>trivial
def aZ(V:Cf)(J:Ph)(H:Hp)(h:Heap):Prop:=(∀a o,V.h₀.get? a=some o->h.get? a=some o)/\(∀p∈J,V.h₀.objs.size<=p.2)/\(∀p∈J,∃o,h.get? p.2=some o)/\((J.map (·.2)).Nodup)/\(J.length=H.length)/\(∃a o,V.h₀.get? a=some o/\a+1=V.h₀.objs.size)/\(∀(n:Nat) (o:AO),H[n]?=some o->∃p,J[n]?=some p/\OR V J h p o)
section
variable {b1 b2 b3 b4}(x:aZ b1 b2 b3 b4)
def aZ.mk:=Dv (aZ b1 b2 b3 b4) rfl
def aZ.keep:=x.1
def aZ.above:=x.2.1
def aZ.live:=x.2.2.1
def aZ.nodup:=x.2.2.2.1
def aZ.len:=x.2.2.2.2.1
def aZ.last:=x.2.2.2.2.2.1
def aZ.obj:=x.2.2.2.2.2.2
end
variable {H:Hp}
def aZ.base(R:aZ V J H h):V.h₀.objs.size<=h.objs.size:=by refine dN R.last λa o e k=>?_;rw[<- k];exact fx (R.keep a o e)
def aZ.at(R:aZ V J H h){n:Nat}{o:AO}(e:H[n]?=some o)(hp:J[n]?=some p):OR V J h p o:=by refine aq (R.obj n o e) λq hq r=>?_;rw[hp] at hq;obtain rfl:=sj hq;exact r
def aZ.out(R:aZ V J H h){b:Addr}(hb:¬ cN h b):b∉J.map (·.2):=λhm=>by refine aq (bU.mp hm) λp hp e=>?_;exact hb (e▸R.live p hp)
def aZ.fresh(R:aZ V J H h){b:Addr}(hb:h.objs.size<=b):b∉J.map (·.2):=R.out (jH hb)
def aZ.mono(R:aZ V J H h)(E:dD X J h h')(hX:d0 X h)(hk:∀a o,V.h₀.get? a=some o->h'.get? a=some o)(hφ:∀p∈J,h'.get? p.2=h.get? p.2):aZ V J H h':=aZ.mk hk R.above (λp hp=>let ⟨o,e⟩:=R.live p hp;⟨o,(hφ p hp).trans e⟩) R.nodup R.len R.last (λn o e=>let ⟨p,hp,r⟩:=R.obj n o e;⟨p,hp,r.mono E hX (Gr.refl _ _) (hφ p (jS hp))⟩)
def d0.nil(h:Heap):d0 [] h:=λO ha=>nomatch ha
def vI{n:Nat}(hp:J[n]?=some p)(hs:Heap.SameBut p.2 h h')(X:List Addr):dD X J h h':=⟨λa o e ha O=>.inl ((hs.2 a λq=>ha (q▸pq (jS hp))).trans e)⟩
def w9{L:Addr}(hs:Heap.SameBut L h h')(hx:cN h' L):∀a,cN h a->cN h' a:=λa ⟨o,e⟩=>by
 by_cases q:a=L
 ·rw[q];exact hx
 ·exact⟨o,(hs.2 a q).trans e⟩
def aZ.put(R:aZ V J H h){n:Nat}{o:AO}(hp:J[n]?=some p)(hs:Heap.SameBut p.2 h h')(ho:OR V J h' p o)(hx:∃o,h'.get? p.2=some o):aZ V J (H.set n o) h':=by
 refine(aZ.mk (λa o e=>(hs.2 a λq=>?_).trans (R.keep a o e)) R.above (λp' tK=>w9 hs hx _ (R.live p' tK)) R.nodup (by rw[R.len,List.length_set]) R.last (λm o' e=>?_))
 ·exact absurd (fx e) (hZ.mpr (q▸R.above p (jS hp)))
 ·by_cases hm:n=m
  ·subst hm;rw[ug (by rw[<- R.len];exact(mE.mp hp).1)] at e;obtain rfl:=sj e;exact⟨p,hp,ho⟩
  ·rw[pA hm] at e;refine aq (R.obj m o' e) λp' tK r=>?_;refine⟨p',tK,r.mono (vI hp hs []:dD [] J h h') (d0.nil h) (Gr.refl _ _) (hs.2 _ λq=>hm ?_)⟩;have h1:(J.map (·.2))[n]?=some p.2:=by rw[qF,hp];rfl
   have h2:(J.map (·.2))[m]?=some p.2:=by rw[qF,tK,<- q];rfl
   exact(List.getElem?_inj (mE.mp h1).1 R.nodup).mp (h1.trans h2.symm)
def aZ.push(R:aZ V J H h){o:AO}(hk:∀a o,h.get? a=some o->h'.get? a=some o)
  (h1:h.objs.size<=p.2) (h2:∃o,h'.get? p.2=some o) (hφ:∀p∈J,h'.get? p.2=h.get? p.2) (ho:OR V (J++[p]) h' p o):aZ V (J++[p]) (H++[o]) h':=by
 have g:Gr J (J++[p]) h:=Gr.push J p (jH h1);have mem:∀q∈J++[p],q∈J\/q=p:=λq hq=>by simpa using hq
 refine(aZ.mk (λa o e=>hk a o (R.keep a o e)) (λq hq=>?_) (λq hq=>?_) ?_ (by simp[R.len]) R.last (λm o' e=>?_))
 ·rcases mem q hq with z|rfl
  ·exact R.above q z
  ·exact aM R.base h1
 ·rcases mem q hq with z|rfl
  ·refine ue (R.live q z) λo eo=>?_;exact⟨o,hk _ _ eo⟩
  ·exact h2
 ·rw[ew];refine sq.mpr ⟨R.nodup,by simp,λa ha b hb e=>?_⟩;simp at hb;subst hb e;exact R.fresh h1 ha
 ·by_cases hm:m<H.length
  ·rw[wi hm] at e;refine aq (R.obj m o' e) λq hq r=>?_;exact⟨q,g.get hq,r.mono (⟨λa o e O O=>.inl (hk a o e)⟩:dD [] J h h') (d0.nil h) g (hφ q (jS hq))⟩
  ·have Eb:m=H.length:=by have:=(mE.mp e).1;simp at this;exact N9 ‹_› ‹_›
   subst Eb;rw[pG (bf _)] at e;simp at e;subst e;exact⟨p,by rw[<- R.len,pG (bf _)];simp,ho⟩
end
section
variable {V:Cf}
structure Cx where
 sc:List (Str×Nat)
 kn:List (Str×NameKind)
structure Fm where
 K:Cx
 A:Around
 env:Env
 X:List Addr
def gm(V:Cf)(G:Fm)(J:Ph)(U:aC)(h:Heap)(x:Str)(k:Nat)(c:Addr)(ov:Option Value):Prop:=(G.env.cells.lookup x=some c)/\(G.env.kindOf x=some .cell\/G.env.kindOf x=some .free)/\(h.IsCell c ov)/\(c≠G.env.locals)/\(c∉J.map (·.2))/\(V.h₀.objs.size<=c)/\(G.K.kn.lookup x=some .cell->c∈G.X/\G.env.kindOf x=some .cell)/\(∀d,U[k]?=some (some d)->∃v,ov=some v/\VR V J h v d)
section
variable {b1 b2 b3 b4 b5 b6 b7 b8 b9}(x:gm b1 b2 b3 b4 b5 b6 b7 b8 b9)
def gm.mk:=I8 (gm b1 b2 b3 b4 b5 b6 b7 b8 b9) rfl
def gm.look:=x.1
def gm.kind:=x.2.1
def gm.cell:=x.2.2.1
def gm.loc:=x.2.2.2.1
def gm.out:=x.2.2.2.2.1
def gm.low:=x.2.2.2.2.2.1
def gm.own:=x.2.2.2.2.2.2.1
def gm.val:=x.2.2.2.2.2.2.2
end
def kg(V:Cf)(G:Fm)(J:Ph)(U:aC)(h:Heap)(m:Str->Option Value):Prop:=(∀x,(∃k,G.K.sc.lookup x=some k)->G.K.kn.lookup x=some .local->G.env.kindOf x=some .local)/\(∀(x:Str) (k:Nat),G.K.sc.lookup x=some k->G.K.kn.lookup x=some .local->∀d,U[k]?=some (some d)->∃v,m x=some v/\VR V J h v d)
section
variable {b1 b2 b3 b4 b5 b6}(x:kg b1 b2 b3 b4 b5 b6)
def kg.mk:=jI (kg b1 b2 b3 b4 b5 b6) rfl
def kg.kind:=x.1
def kg.val:=x.2
end
def bX(V:Cf)(G:Fm)(J:Ph)(U:aC)(h:Heap):Prop:=(G.env.scope.kind=.function)/\(G.env.globals=mainGlobals)/\(G.env.builtins=builtinsNs)/\(d0 G.X h)/\(∀a∈G.X,V.h₀.objs.size<=a)/\(∀a∈G.X,a∉J.map (·.2))/\(G.env.locals∈G.X)/\(∀x:Str,G.K.kn.lookup x=some .globalImplicit->G.env.kindOf x=some .globalImplicit)/\(∃m,h.Ns G.env.locals m/\kg V G J U h m)/\(∀(x:Str) (k:Nat),G.K.sc.lookup x=some k->(G.K.kn.lookup x=some .cell\/G.K.kn.lookup x=some .free)->∃c ov,gm V G J U h x k c ov)/\(∀(x y:Str) (c:Addr),G.env.cells.lookup x=some c->G.env.cells.lookup y=some c->x=y)/\(∀(x y:Str) (k:Nat),G.K.sc.lookup x=some k->G.K.sc.lookup y=some k->x=y)/\(∀(x:Str) (k:Nat),G.K.sc.lookup x=some k->G.K.kn.lookup x=some .local\/G.K.kn.lookup x=some .cell\/G.K.kn.lookup x=some .free)
section
variable {b1 b2 b3 b4 b5}(x:bX b1 b2 b3 b4 b5)
def bX.mk:=λm1 m2 m3 m4 m5 m6 m7 m8 m9 qd qc xR xQ=>(⟨m1,m2,m3,m4,m5,m6,m7,m8,m9,qd,qc,xR,xQ⟩:bX b1 b2 b3 b4 b5)
def bX.kind:=x.1
def bX.rO:=x.2.1
def bX.rV:=x.2.2.1
def bX.fG:=x.2.2.2.1
def bX.sH:=x.2.2.2.2.1
def bX.qQ:=x.2.2.2.2.2.1
def bX.kJ:=x.2.2.2.2.2.2.1
def bX.Bb:=x.2.2.2.2.2.2.2.1
def bX.ns:=x.2.2.2.2.2.2.2.2.1
def bX.nD:=x.2.2.2.2.2.2.2.2.2.1
def bX.apart:=x.2.2.2.2.2.2.2.2.2.2.1
def bX.inj:=x.2.2.2.2.2.2.2.2.2.2.2.1
def bX.zU:=x.2.2.2.2.2.2.2.2.2.2.2.2
end
section
variable {J φ':Ph}{h h':Heap}{X:List Addr}{G:Fm}{U:aC}
def ju.ns{L:Addr}{m:Str->Option Value}(n:h.Ns L m)(k:∀o,h.get? L=some o->ju h' L o):h'.Ns L m:=by
 refine mQ n λo es ep e hd r=>?_;clear n;rcases k o e with z|⟨_,sl,z⟩
 ·exact⟨o,es,ep,z,hd,r⟩
 ·exact⟨_,es,ep,z,hd,r⟩
def ju.cell{c:Addr}{v:Option Value}(n:h.IsCell c v)(k:∀o,h.get? c=some o->ju h' c o):h'.IsCell c v:=by
 refine aq n λo e hd=>?_;clear n;rcases k o e with z|⟨_,sl,z⟩
 ·exact⟨o,z,hd⟩
 ·exact⟨_,z,hd⟩
def dD.IW(E:dD [] J h h'):dD X J h h':=⟨λa o e ha O=>E.keep a o e ha (λh=>nomatch h)⟩
def bX.DN(R:bX V G J U h)(E:dD X J h h')(hX:d0 X h)(g:Gr J φ' h)(k:∀a o,(a∈G.X\/(∃v,o.data=.cell v))->h.get? a=some o->a∉J.map (·.2)->ju h' a o):bX V G φ' U h':=by
 refine aq R.ns λm hn hm=>?_;have kx:∀a o,a∈G.X->h.get? a=some o->ju h' a o:=λa o ha e=>k a o (.inl ha) e (R.qQ a ha);refine(bX.mk R.kind R.rO R.rV (λa ha=>?_) R.sH (λa ha=>g.not (let ⟨o,e,_⟩:=R.fG a ha;⟨o,e⟩) (R.qQ a ha)) R.kJ R.Bb (
  ⟨m,ju.ns hn λo=>kx _ o R.kJ,kg.mk hm.kind (λx j hx hk d hd=>let ⟨v,e,r⟩:=hm.val x j hx hk d hd;⟨v,e,r.mono E hX g⟩)⟩) (λx j hx hk=>?_) R.apart R.inj R.zU)
 ·refine aq (R.fG a ha) λo e w=>?_;rcases kx a o ha e with z|⟨_,sl,z⟩
  ·exact⟨o,z,w⟩
  ·exact⟨_,z,w.slots sl⟩
 ·refine ct (R.nD x j hx hk) λc ov w=>?_;refine aq (id w.cell) λo e KS=>?_;exact⟨c,ov,gm.mk w.look w.kind (ju.cell w.cell λo' e'=>k c o' (.inr (by rw[e] at e';obtain rfl:=sj e';exact⟨_,KS⟩)) e' w.out) w.loc (g.not ⟨o,e⟩ w.out) w.low w.own (λd hd=>let ⟨v,e,r⟩:=w.val d hd;⟨v,e,r.mono E hX g⟩)⟩
def bX.mono(R:bX V G J U h)(E:dD [] J h h')(g:Gr J φ' h):bX V G φ' U h':=R.DN E (d0.nil h) g λa o O e ha=>E.keep a o e ha (λh=>nomatch h)
end
def Nx(X:List Addr)(J φ':Ph)(s s':Shared):Prop:=(dD X J s.heap s'.heap)/\(Gr J φ' s.heap)/\(s'.gens=s.gens)/\(s'.os=s.os)/\(∀a,cN s.heap a->cN s'.heap a)
section
variable {b1 b2 b3 b4 b5}(x:Nx b1 b2 b3 b4 b5)
def Nx.mk:=lI (Nx b1 b2 b3 b4 b5) rfl
def Nx.ext:=x.1
def Nx.gr:=x.2.1
def Nx.gens:=x.2.2.1
def Nx.os:=x.2.2.2.1
def Nx.live:=x.2.2.2.2
end
variable {a:Addr}{h':Heap}
def ju.trans{o:Obj}{ym:Heap}(x:ju h' a o)(y:∀o',h'.get? a=some o'->ju ym a o'):ju ym a o:=by
 rcases x with z|⟨hc,sl,z⟩
 ·exact y o z
 ·rcases y _ z with w|⟨_,SQ,w⟩
  ·exact .inr ⟨hc,sl,w⟩
  ·exact .inr ⟨hc,SQ,w⟩
variable {X:List Addr}{J φ':Ph}{h:Heap}
def dD.trans{ym:Heap}(E:dD X J h h')(E':dD X φ' h' ym)(g:Gr J φ' h):dD X J h ym:=⟨λa o e hφ hX=>(E.keep a o e hφ hX).trans λo' z=>E'.keep a o' z (g.not ⟨o,e⟩ hφ) hX⟩
variable {s s':Shared}
def Nx.trans{we:Ph}{ja:Shared}(a:Nx X J φ' s s')(b:Nx X φ' we s' ja):Nx X J we s ja:=(Nx.mk (a.ext.trans b.ext a.gr) (a.gr.trans b.gr a.live) (b.gens.trans a.gens) (b.os.trans a.os) (λx h=>b.live x (a.live x h)))
def Nx.refl(X:List Addr)(J:Ph)(s:Shared):Nx X J J s s:=(Nx.mk (dD.refl ..) (Gr.refl ..) rfl rfl (λO h=>h))
noncomputable def LO(V:Cf):Nat->Value
 |0=>.type "StopIteration"
 |k+1=>.ref (V.clsAt k)
def iD(V:Cf)(J:Ph)(h₁:Heap)(a:Addr):Prop:=(¬ cN V.h₀ a)/\(a∉J.map (·.2))/\(¬ cN h₁ a)
section
variable {b1 b2 b3 b4}(x:iD b1 b2 b3 b4)
def iD.mk:=lJ (iD b1 b2 b3 b4) rfl
def iD.h0:=x.1
def iD.out:=x.2.1
def iD.new:=x.2.2
end
def nG(h:Heap)(T:Addr)(oT:Obj)(ts:Array Value):Prop:=(h.get? T=some oT)/\(oT.data=.fields ts)/\(oT.cls=.type "traceback")/\(ts[3]?=some .none)
section
variable {b1 b2 b3 b4}(x:nG b1 b2 b3 b4)
def nG.mk:=fp (nG b1 b2 b3 b4) rfl
def nG.get:=x.1
def nG.data:=x.2.1
def nG.cls:=x.2.2.1
def nG.zero:=x.2.2.2
end
def k6(V:Cf)(J:Ph)(h₁:Heap)(h:Heap)(k:Nat)(e:Addr)(oe:Obj)(vs:Array Value):Prop:=(h.get? e=some oe)/\(oe.cls=LO V k)/\(oe.data=.fields vs)/\(iD V J h₁ e)/\(vs[1]?=some .none\/∃T oT ts,vs[1]?=some (.ref T)/\T≠e/\iD V J h₁ T/\nG h T oT ts)
section
variable {b1 b2 b3 b4 b5 b6 b7 b8}(x:k6 b1 b2 b3 b4 b5 b6 b7 b8)
def k6.mk:=lI (k6 b1 b2 b3 b4 b5 b6 b7 b8) rfl
def k6.get:=x.1
def k6.cls:=x.2.1
def k6.data:=x.2.2.1
def k6.new:=x.2.2.2.1
def k6.tb:=x.2.2.2.2
end
def o6(V:Cf)(J:Ph)(h₁:Heap)(h:Heap)(v:Value)(k:Nat):Prop:=∃e oe vs,v=.ref e/\k6 V J h₁ h k e oe vs
def iD.low{h₁ h₂:Heap}(x:iD V J h₂ a)(hl:∀a,cN h₁ a->cN h₂ a):iD V J h₁ a:=(iD.mk x.h0 x.out (λo=>x.new (hl _ o)))
def o6.low{h₁ h₂:Heap}{v:Value}{k:Nat}(x:o6 V J h₂ h v k)(hl:∀a,cN h₁ a->cN h₂ a):o6 V J h₁ h v k:=by
 refine cO x λe oe vs q y=>?_;clear x;refine⟨e,oe,vs,q,k6.mk y.get y.cls y.data (y.new.low hl) ?_⟩;rcases y.tb with z|⟨T,oT,ts,b1,b2,b3,b4⟩
 ·exact .inl z
 ·exact .inr ⟨T,oT,ts,b1,b2,b3.low hl,b4⟩
def fR(V:Cf)(l:List Env)(J:Ph)(h:Heap):Prop:=(h.FunFrames V.h₀ l)/\(∀L∈l.filterMap (·.frame),L∉J.map (·.2))/\(∀L∈l.filterMap (·.frame),∃o,h.get? L=some o/\iQ o)
section
variable {b1 b2 b3 b4}(x:fR b1 b2 b3 b4)
def fR.mk:=lJ (fR b1 b2 b3 b4) rfl
def fR.vE:=x.1
def fR.out:=x.2.1
def fR.dct:=x.2.2
end
structure dB(V:Cf)(G:Fm)(J:Ph)(h:Heap):Prop where
 fr:∃dZ outer L,G.A.frames=some (dZ::outer)/\G.env.frame=some L/\dZ.frame=some L/\fR V (dZ::outer) J h
def kW(A:Around)(d:Nat):Prop:=(A.depth+8*d+8<recursionLimit)/\(A.units+100*d+100<cLine)
section
variable {b1 b2}(x:kW b1 b2)
def kW.mk:=jI (kW b1 b2) rfl
def kW.depth:=x.1
def kW.units:=x.2
end
def ao(V:Cf)(d:Nat)(q:Bool)(G:Fm)(J:Ph)(U:aC)(H:Hp)(s:Shared):Prop:=(aZ V J H s.heap)/\(bX V G J U s.heap)/\(kW G.A d)/\(q=true->G.A.handled=none)/\(dB V G J s.heap)
section
variable {b1 b2 b3 b4 b5 b6 b7 b8}(x:ao b1 b2 b3 b4 b5 b6 b7 b8)
def ao.mk:=lI (ao b1 b2 b3 b4 b5 b6 b7 b8) rfl
def ao.rel:=x.1
def ao.er:=x.2.1
def ao.room:=x.2.2.1
def ao.hd:=x.2.2.2.1
def ao.fr:=x.2.2.2.2
end
def fR.keep{l:List Env}(F:fR V l J h)(g:Gr J φ' h)(key:∀L o,L∈l.filterMap (·.frame)->L∉J.map (·.2)->h.get? L=some o->iQ o->∃o',h'.get? L=some o'/\iQ o'):fR V l φ' h':=by
 have JM:∀L∈l.filterMap (·.frame),∃o',h'.get? L=some o'/\iQ o':=λL hL=>by refine aq (F.dct L hL) λo e w=>?_;exact key L o hL (F.out L hL) e w
 have ff:∀l:List Env,(∀L∈l.filterMap (·.frame),∃o',h'.get? L=some o'/\iQ o')->h.FunFrames V.h₀ l->h'.FunFrames V.h₀ l:=by
  intro l
  induction l with
  |nil=>intro _ _;trivial
  |cons env rest ih=>intro h1 hf;obtain⟨b1,⟨L,o,b2,b3,b4,b5⟩,b6⟩:=hf;rw[wA,b2] at h1;refine Rc (h1 L bA) λVG d1 es n d2=>?_;exact⟨b1,⟨L,VG,b2,b3,d1,λvs=>by rw[d2];simp⟩,ih (λL' iS=>h1 L' (bS _ iS)) b6⟩
 refine(fR.mk (ff l JM F.vE) (λL hL=>?_) JM);refine aq (F.dct L hL) λo e O=>?_;exact g.not ⟨o,e⟩ (F.out L hL)
def ju.dct{o:Obj}(x:ju h' a o)(hd:iQ o):∃o',h'.get? a=some o'/\iQ o':=by
 rcases x with z|⟨⟨es,n,w⟩,sl,z⟩
 ·exact⟨o,z,hd⟩
 ·exact⟨_,z,es,n,w⟩
variable {G:Fm}
def dB.keep(F:dB V G J h)(g:Gr J φ' h)(key:∀L o,L∉J.map (·.2)->h.get? L=some o->iQ o->∃o',h'.get? L=some o'/\iQ o'):dB V G φ' h':=qU F.fr λdZ outer L a1 a2 a3 a4=>⟨dZ,outer,L,a1,a2,a3,a4.keep g λL o O=>key L o⟩
def BP(A:Around)(C:Addr):Prop:=∀fs,A.frames=some fs->C∉fs.filterMap (·.frame)
def dB.but{C:Addr}(F:dB V G J h)(k:∀b o,b≠C->h.get? b=some o->h'.get? b=some o)(hC:BP G.A C):dB V G J h':=qU F.fr λdZ outer L a1 a2 a3 a4=>⟨dZ,outer,L,a1,a2,a3,a4.keep (Gr.refl ..) λL o hL O e w=>⟨o,k L o (λq=>hC _ a1 (q▸hL)) e,w⟩⟩
def dB.VW{C:Addr}(F:dB V G J h)(hC:¬ cN h C):BP G.A C:=by refine qU F.fr λdZ outer L a1 a2 a3 a4=>?_;intro fs A6 hm;rw[a1] at A6;obtain rfl:=sj A6;refine aq (a4.dct C hm) λo c2 O=>?_;exact hC ⟨o,c2⟩
def dB.mono(F:dB V G J h)(E:dD X J h h')(g:Gr J φ' h)
  (hX:∀a∈X,∀o,h.get? a=some o->iQ o->∃o',h'.get? a=some o'/\iQ o'):dB V G φ' h':=
 F.keep g λL o hφ e hd=>by
  by_cases hx:L∈X
  ·exact hX L hx o e hd
  ·exact(E.keep L o e hφ hx).dct hd
def dI(V:Cf)(G:Fm)(J:Ph)(s:Shared)(φ':Ph)(ρ':aC)(H':Hp)(s':Shared):Prop:=(Nx G.X J φ' s s')/\(aZ V φ' H' s'.heap)/\(bX V G φ' ρ' s'.heap)/\(dB V G φ' s'.heap)
section
variable {b1 b2 b3 b4 b5 b6 b7 b8}(x:dI b1 b2 b3 b4 b5 b6 b7 b8)
def dI.mk:=fp (dI b1 b2 b3 b4 b5 b6 b7 b8) rfl
def dI.nx:=x.1
def dI.rel:=x.2.1
def dI.er:=x.2.2.1
def dI.fr:=x.2.2.2
end
def dI.up{φ₀:Ph}{s₀:Shared}{ρ':aC}{H':Hp}(a:dI V G J s φ' ρ' H' s')(n:Nx G.X φ₀ J s₀ s):dI V G φ₀ s₀ φ' ρ' H' s':=(dI.mk (n.trans a.nx) a.rel a.er a.fr)
def dI.pre{U ρ':aC}{H H':Hp}{d:Nat}{q:Bool}(a:dI V G J s φ' ρ' H' s')(p:ao V d q G J U H s):ao V d q G φ' ρ' H' s':=(ao.mk a.rel a.er p.room p.hd a.fr)
def ao.rX{U:aC}{H:Hp}{d:Nat}{q:Bool}(p:ao V d q G φ' U H s')(n:Nx G.X J φ' s s'):dI V G J s φ' U H s':=(dI.mk n p.rel p.er p.fr)
variable {α β:Type}
def kH(V:Cf)(G:Fm)(J:Ph)(s:Shared)(r:dG β)(R:Ph->Heap->α->β->Prop):α->Shared->Prop:=λa s'=>∃b ρ' H' φ',r=.ok b ρ' H'/\dI V G J s φ' ρ' H' s'/\R φ' s'.heap a b
def l6(V:Cf)(G:Fm)(J:Ph)(s:Shared)(r:dG β):Value->Shared->Prop:=λe s'=>∃k ρ' H' φ',r=.exc k ρ' H'/\dI V G J s φ' ρ' H' s'/\o6 V φ' s.heap s'.heap e k
def TT(V:Cf)(G:Fm)(J:Ph)(s:Shared)(W:(α->Shared->Prop)->(Value->Shared->Prop)->Prop)(r:dG β)(R:Ph->Heap->α->β->Prop):Prop:=r≠.stuck->W (kH V G J s r R) (l6 V G J s r)
def ag(V:Cf)(G:Fm)(J:Ph)(s:Shared)(t:Sem α)(r:dG β)(R:Ph->Heap->α->β->Prop):Prop:=TT V G J s (λQ E=>wpAny (model V.prog V.w) G.A t Q E s) r R
section
variable {G:Fm}{φ₀ J:Ph}{s₀ s:Shared}{U:aC}{H:Hp}{d:Nat}{q:Bool}
variable {α β:Type}{r:dG β}{R:Ph->Heap->α->β->Prop}{a:α}{s':Shared}
def kH.up(n:Nx G.X φ₀ J s₀ s)(h:kH V G J s r R a s'):kH V G φ₀ s₀ r R a s':=i7 h λb ρ' H' φ' e f x=>⟨b,ρ',H',φ',e,f.up n,x⟩
def l6.up(n:Nx G.X φ₀ J s₀ s){a:Value}(h:l6 V G J s r a s'):l6 V G φ₀ s₀ r a s':=i7 h λb ρ' H' φ' e f x=>⟨b,ρ',H',φ',e,f.up n,x.low n.live⟩
def kH.not(h:kH V G J s r R a s')(e:∀b ρ' H',r≠.ok b ρ' H'){P:Prop}:P:=mP h λb ρ' H' O q O=>absurd q (e b ρ' H')
def l6.not{a:Value}(h:l6 V G J s r a s')(e:∀k ρ' H',r≠.exc k ρ' H'){P:Prop}:P:=mP h λb ρ' H' O q O=>absurd q (e b ρ' H')
def Nx.vr{φ':Ph}(n:Nx G.X J φ' s s')(er:bX V G J U s.heap){v:Value}{a:AV}(x:VR V J s.heap v a):VR V φ' s'.heap v a:=x.mono n.ext er.fG n.gr
variable {v:List Value}
def Nx.jW{φ':Ph}(n:Nx G.X J φ' s s')(er:bX V G J U s.heap){a:List AV}(x:aQ V J s.heap v a):aQ V φ' s'.heap v a:=x.mono n.ext er.fG n.gr
variable {f:α->M β}
def tV{m:M α}{ρ':aC}{H':Hp}(e:m U H=.ok a ρ' H'):M.bind m f U H=f a ρ' H':=by unfold M.bind;rw[e]
def MV{m:M α}{k:Nat}{ρ':aC}{H':Hp}(e:m U H=.exc k ρ' H'):M.bind m f U H=.exc k ρ' H':=by unfold M.bind;rw[e]
def vV{m:M α}(e:m U H=.stuck):M.bind m f U H=.stuck:=by unfold M.bind;rw[e]
variable {t:Sem α}
def TT.seq{α' β':Type}{m:M α'}{g:α'->M β'}{W:α->Shared->(β->Shared->Prop)->(Value->Shared->Prop)->Prop}
  {R:Ph->Heap->α->α'->Prop} {R':Ph->Heap->β->β'->Prop} (n:Nx G.X φ₀ J s₀ s) (pre:ao V d q G J U H s) (x:ag V G J s t (m U H) R)
  (y:∀a a' ρ' H' φ' s',Nx G.X J φ' s s'->Nx G.X φ₀ φ' s₀ s'->ao V d q G φ' ρ' H' s'->R φ' s'.heap a a'->TT V G φ₀ s₀ (W a s') (g a' ρ' H') R'):
  TT V G φ₀ s₀ (λQ E=>wpAny (model V.prog V.w) G.A t (λa s'=>W a s' Q E) E s) (M.bind m g U H) R':=by
 intro hs;refine cz (x λz=>hs (vV z)) (λa s' h=>?_) λe s' h=>?_
 ·refine i7 h λb ρ' H' φ' e f hR=>?_;clear h;rw[tV e] at hs⊢;exact y a b ρ' H' φ' s' f.nx (n.trans f.nx) (f.pre pre) hR hs
 ·refine i7 h λk ρ' H' φ' e' f r4=>?_;clear h;exact⟨k,ρ',H',φ',MV e',f.up n,r4.low n.live⟩
def TT.last(n:Nx G.X φ₀ J s₀ s)(x:ag V G J s t r R):
  TT V G φ₀ s₀ (λQ E=>wpAny (model V.prog V.w) G.A t Q E s) r R:=λhs=>cz (x hs) (λO O h=>h.up n) λO O h=>h.up n
variable {b:β}
def TT.now(n:Nx G.X φ₀ J s₀ s)(pre:ao V d q G J U H s)(h:R J s.heap a b):
  TT V G φ₀ s₀ (λQ O=>Q a s) (.ok b U H) R:=λO=>⟨b,U,H,J,rfl,pre.rX n,h⟩
def TT.imp{W W':(α->Shared->Prop)->(Value->Shared->Prop)->Prop}(h:∀Q E,W Q E->W' Q E)(x:TT V G J s W r R):
  TT V G J s W' r R:=λhs=>h _ _ (x hs)
def ag.bind{α' β':Type}{f:α->Sem β}{m:M α'}{g:α'->M β'}{R:Ph->Heap->α->α'->Prop}{R':Ph->Heap->β->β'->Prop}(pre:ao V d q G J U H s)
  (x:ag V G J s t (m U H) R)
  (y:∀a a' ρ' H' φ' s',Nx G.X J φ' s s'->ao V d q G φ' ρ' H' s'->R φ' s'.heap a a'->ag V G φ' s' (f a) (g a' ρ' H') R'):
  ag V G J s (t>>=f) (M.bind m g U H) R':=
 TT.imp (λO O h=>ah h) (TT.seq (Nx.refl ..) pre x λa a' ρ' H' φ' s' n O p r=>TT.last n (y a a' ρ' H' φ' s' n p r))
def ag.stuck:ag V G J s t (.stuck:dG β) R:=λh=>absurd rfl h
def ax(s s':Shared):Prop:=(∀a o,s.heap.get? a=some o->s'.heap.get? a=some o)/\(s'.gens=s.gens)/\(s'.os=s.os)
section
variable {b1 b2}(x:ax b1 b2)
def ax.mk:=lJ (ax b1 b2) rfl
def ax.keep:=x.1
def ax.gens:=x.2.1
def ax.os:=x.2.2
end
def ax.refl(s:Shared):ax s s:=(ax.mk (λO O e=>e) rfl rfl)
def ax.toks(s:Shared)(t:Nat):ax s {s with toks:=t}:=(ax.mk (λO O e=>e) rfl rfl)
def ax.push(s:Shared)(o:Obj)(t:Nat):ax s {s with heap:=s.heap.push o,toks:=t}:=(ax.mk (λO O e=>ig _ e) rfl rfl)
def ax.trans{ja:Shared}(a:ax s s')(b:ax s' ja):ax s ja:=(ax.mk (λx o e=>b.keep x o (a.keep x o e)) (b.gens.trans a.gens) (b.os.trans a.os))
def ax.ext(g:ax s s')(X:List Addr)(J:Ph):dD X J s.heap s'.heap:=⟨λa o e O O=>.inl (g.keep a o e)⟩
def ax.live(g:ax s s'):∀a,cN s.heap a->cN s'.heap a:=λa ⟨o,e⟩=>⟨o,g.keep a o e⟩
def ax.nx(g:ax s s')(X:List Addr)(J:Ph):Nx X J J s s':=(Nx.mk (g.ext X J) (Gr.refl ..) g.gens g.os g.live)
def ax.at(g:ax s s')(R:aZ V J H s.heap):∀p∈J,s'.heap.get? p.2=s.heap.get? p.2:=λp hp=>let ⟨_,e⟩:=R.live p hp;(g.keep _ _ e).trans e.symm
def ax.vr(g:ax s s'){v:Value}{x:AV}(r:VR V J s.heap v x):VR V J s'.heap v x:=r.mono (g.ext [] J) (d0.nil _) (Gr.refl ..)
def ax.jW(g:ax s s'){x:List AV}(r:aQ V J s.heap v x):aQ V J s'.heap v x:=r.mono (g.ext [] J) (d0.nil _) (Gr.refl ..)
def aZ.grow(R:aZ V J H s.heap)(g:ax s s'):aZ V J H s'.heap:=R.mono (g.ext [] J) (d0.nil _) (λa o e=>g.keep a o (R.keep a o e)) (g.at R)
def dB.grow(F:dB V G J s.heap)(g:ax s s'):dB V G J s'.heap:=F.mono (g.ext [] J) (Gr.refl ..) λO ha=>nomatch ha
def ao.grow(p:ao V d q G J U H s)(g:ax s s'):ao V d q G J U H s':=(ao.mk (p.rel.grow g) (p.er.mono (g.ext [] J) (Gr.refl ..)) p.room p.hd (p.fr.grow g))
def ag.quiet(pre:ao V d q G J U H s)
  (h:∀Q E,(∀v s',ax s s'->R J s'.heap v b->Q v s')->wpAny (model V.prog V.w) G.A t Q E s):ag V G J s t (.ok b U H) R:=
 λO=>h _ _ λv s' g r=>⟨b,U,H,J,rfl,(pre.grow g).rX (g.nx G.X J),r⟩
def ag.opt{f:Hp->Option β}(pre:ao V d q G J U H s)
  (h:∀b,f H=some b->∀Q E,(∀v s',ax s s'->R J s'.heap v b->Q v s')->wpAny (model V.prog V.w) G.A t Q E s):ag V G J s t (cu f U H) R:=by
 unfold cu;cases e:f H with
 |none=>exact ag.stuck
 |some b=>exact ag.quiet pre (h b e)
def ag.fresh{R:Ph->Heap->α->AV->Prop}{o:AO}(pre:ao V d q G J U H s)
  (h:∀Q E,(∀v s' p,ax s s'->s.heap.objs.size<=p.2->(∃o,s'.heap.get? p.2=some o)->OR V (J++[p]) s'.heap p o->R (J++[p]) s'.heap v (.ref H.length)->Q v s')->wpAny (model V.prog V.w) G.A t Q E s):
  ag V G J s t (.ok (.ref H.length) U (H++[o])) R:=by
 intro _;refine h _ _ λv s' p g hp hx ho hr=>?_;have gr:Gr J (J++[p]) s.heap:=Gr.push J p (jH hp);exact⟨_,U,_,J++[p],rfl,(dI.mk (Nx.mk (g.ext G.X J) gr g.gens g.os g.live) (pre.rel.push g.keep hp hx (g.at pre.rel) ho) (pre.er.mono (g.ext [] J) gr) (pre.fr.mono (g.ext [] J) gr (λO ha=>nomatch ha))),hr⟩
variable {h:Heap}
def xm(J:Ph)(p:Addr×Addr)(R:J.length=H.length):VR V (J++[p]) h (.ref p.1) (.ref H.length):=.ref (d:=p.2) (by rw[<- R,pG (bf _)];simp)
def jt(s s':Shared)(a:Addr):Prop:=(Heap.SameBut a s.heap s'.heap)/\(s'.gens=s.gens)/\(s'.os=s.os)
section
variable {b1 b2 b3}(x:jt b1 b2 b3)
def jt.mk:=lJ (jt b1 b2 b3) rfl
def jt.but:=x.1
def jt.gens:=x.2.1
def jt.os:=x.2.2
end
variable {n:Nat}{p:Addr×Addr}
def ag.put{o:AO}(pre:ao V d q G J U H s)(hp:J[n]?=some p)
  (h:∀Q E,(∀v s',jt s s' p.2->OR V J s'.heap p o->(∃o,s'.heap.get? p.2=some o)->R J s'.heap v b->Q v s')->wpAny (model V.prog V.w) G.A t Q E s):
  ag V G J s t (.ok b U (ai H o n)) R:=by
 intro _;rw[sN];refine h _ _ λv s' hs ho hx hr=>?_;have E:∀X,dD X J s.heap s'.heap:=vI hp hs.but;exact⟨b,U,_,J,rfl,(dI.mk (Nx.mk (E _) (Gr.refl ..) hs.gens hs.os (w9 hs.but hx)) (pre.rel.put hp hs.but ho hx) (pre.er.mono (E []) (Gr.refl ..)) (pre.fr.mono (E []) (Gr.refl ..) (λO ha=>nomatch ha))),hr⟩
variable {h':Heap}
def VR.put{v:Value}{x:AV}(hp:J[n]?=some p)(hs:Heap.SameBut p.2 h h')(r:VR V J h v x):VR V J h' v x:=r.mono (vI hp hs []) (d0.nil _) (Gr.refl ..)
def aQ.put{x:List AV}(hp:J[n]?=some p)(hs:Heap.SameBut p.2 h h')(r:aQ V J h v x):aQ V J h' v x:=r.mono (vI hp hs []) (d0.nil _) (Gr.refl ..)
def hO.put{v:List DictEntry}{x:List (List Nat×AV)}(hp:J[n]?=some p)(hs:Heap.SameBut p.2 h h')(r:hO V J h x v):hO V J h' x v:=r.mono (vI hp hs []) (d0.nil _) (Gr.refl ..)
def ag.xu{a:Addr}{items':List Value}{l':List AV}(pre:ao V d q G J U H s)(hp:J[n]?=some (a,a))
  (r:aQ V J s.heap items' l') (z:l'.length<=az)
  (h:∀Q E,(∀v h' k',IsL h' a items'.toArray k'->Heap.SameBut a s.heap h'->R J h' v b->Q v {s with heap:=h'})->wpAny (model V.prog V.w) G.A t Q E s):
  ag V G J s t (.ok b U (ai H (.list l') n)) R:=
 ag.put pre hp λQ E hq=>h Q E λv h' k' e' hs hr=>hq v _ (jt.mk hs rfl rfl) ⟨items',k',mj.mk rfl e' (r.put hp hs) z⟩ ⟨_,e'⟩ hr
end
end
section
variable {V:Cf}
variable {b:Bool}
def Aa{α:Type}{x:Option α}{y:α}(h:aI b x=some y):b=true/\x=some y:=by
 cases b
 ·exact aR h
 ·exact⟨rfl,h⟩
def nF{a:Bool}(h:(a&&b)=true):a=true/\b=true:=by rwa[Bool.and_eq_true] at h
variable {i:Int}
def J2{n:Nat}(h:ji i n=true):i=n:=by
 cases i with
 |ofNat m=>exact congrArg Int.ofNat (bW h)
 |negSucc m=>cases h
def AP{n:Nat}(h:ji i n=false):i≠n:=λq=>by subst q;have:ji (n:Int) n=true:=fT n;rw[h] at this;cases this
def jf(h:(!b)=true):b=false:=by cases b;rfl;cases h
def LY(i j:Int):dQ i j=(i==j):=by
 rw[pg,beq_iff_eq];cases i with
 |ofNat m=>
  constructor
  ·exact λh=>(J2 (i:=j) h).symm
  ·intro h;subst h;exact fT m
 |negSucc m=>
  cases j with
  |ofNat n=>exact⟨λh=>(nomatch h),λh=>(nomatch h)⟩
  |negSucc n=>
   constructor
   ·exact λh=>congrArg Int.negSucc (bW h)
   ·intro h;cases h;exact fT m
def rG(i j:Int):fZ i j=decide (i<j):=by
 rw[pg,decide_eq_true_iff];cases i with
 |ofNat m=>cases j with
  |ofNat n=>show Nat.blt m n=true↔(m:Int)<(n:Int);rw[bG];exact qM.symm
  |negSucc n=>exact⟨λh=>(nomatch h),λh=>absurd (Int.lt_trans (show(m:Int)<Int.negSucc n from h) (sx n)) (Int.not_lt.mpr (kq m))⟩
 |negSucc m=>cases j with
  |ofNat n=>exact⟨λO=>Int.lt_of_lt_of_le (sx m) (kq n),λO=>rfl⟩
  |negSucc n=>show Nat.blt n m=true↔_;rw[bG,Int.negSucc_eq,Int.negSucc_eq];exact⟨λh=>Int.neg_lt_neg (Int.add_lt_add_right (qM.mpr h) 1),λh=>qM.mp (Int.lt_of_add_lt_add_right (Int.neg_lt_neg_iff.mp h))⟩
def Aw{n:Nat}(h:xK i=some n):i=n:=by
 cases i with
 |ofNat m=>obtain rfl:=sj h;rfl
 |negSucc m=>exact aR h
def zM(h:fK i=true):i.natAbs<2^200:=bG.mp h
def Hi(h:i.natAbs<2^200):i.natAbs.log2<9000:=by
 by_cases h0:i.natAbs=0
 ·rw[h0];decide
 ·have:i.natAbs.log2<200:=(Nat.log2_lt h0).mpr h;exact NG ‹_›
def cS.append{l m:List Nat}(a:cS V l)(b:cS V m)(h:l.length+m.length<=az):cS V (l++m):=(cS.mk (by rw[bF];exact h) (λc hc=>(ko.mp hc).elim (a.sign c) (b.sign c)))
def cS.one{d:Nat}(h:d<16):cS V [d]:=(cS.mk (show 1<=az by decide) (λc hc=>by rw[fU.mp hc];exact h))
theorem vJ:∀(a b:List Nat),ak a b=true↔a=b:=by
 intro a
 induction a with
 |nil=>
  intro t_;cases t_ with
  |nil=>exact⟨λO=>rfl,λO=>rfl⟩
  |cons _ _=>exact⟨λh=>tw h,λh=>absurd h.symm (List.cons_ne_nil _ _)⟩
 |cons x xs ih=>
  intro t_;cases t_ with
  |nil=>exact⟨λh=>tw h,λh=>absurd h (List.cons_ne_nil _ _)⟩
  |cons y ys=>
   show(match Nat.beq x y with|true=>ak xs ys|false=>false)=true↔_;cases h:Nat.beq x y with
   |true=>have:=bW h;subst this;rw[List.cons.injEq,and_iff_right rfl];exact(ih ys)
   |false=>have:=Nat.ne_of_beq_eq_false h;exact⟨λh=>tw h,λh=>absurd (nQ h).1 this⟩
def Wa{j:Int}(h1:fK i=true)(h3:fK j=true):IntMulOk i j:=IntMulOk.of_le (m:=200) (n:=200) (intBits_le_iff.mpr (zM h1)) (intBits_le_iff.mpr (zM h3)) (by decide)
end
section
variable {V:Cf}{G:Fm}{J:Ph}{s:Shared}{U:aC}{H:Hp}{d:Nat}{q:Bool}
variable {n:Nat}
def i8(h:n<=az):n<=sizeLine:=aM h (by decide)
def vF(h:n<=az):(n:Int)<2^63:=Int.lt_of_le_of_lt (nO.mpr h) (by decide:((1000000:Nat):Int)<2^63)
section
variable {h:Heap}{v:Value}{x:AV}
def eE{i:Int}(hx:VR V J h v x)(e:x.int?=some i):∃t,v=.int i t:=by
 cases x with
 |int a'=>obtain rfl:=sj e;exact hx
 |_=>exact aR e
def qS{l:List Nat}(hx:VR V J h v x)(e:x.de=some l):∃t,v=.str (V.tx l) t/\cS V l:=by
 cases x with
 |str a'=>obtain rfl:=sj e;exact hx
 |_=>exact aR e
def QU{l:List Nat}(hx:VR V J h v x)(e:x.MP=some l):∃b t,v=.bytes b t/\b.toList.map UInt8.toNat=V.enc l/\cS V l:=by
 cases x with
 |cE a'=>obtain rfl:=sj e;exact hx
 |_=>exact aR e
def QS{l:List AV}(hx:VR V J h v x)(e:x.Cp=some l):∃a items n,v=.ref a/\Sq J a l (IsT h a (List.toArray items) n) (aQ V J h items l):=by
 cases x with
 |tup a'=>obtain rfl:=sj e;exact hx
 |_=>exact aR e
def ij{n:Nat}(hx:VR V J h v x)(e:x.j3=some n):∃p,v=.ref p.1/\J[n]?=some p:=by
 cases x with
 |ref a'=>obtain rfl:=sj e;refine dN hx λa b e1 e2=>?_;clear hx;exact⟨(a,b),e1,e2⟩
 |_=>exact aR e
end
variable {l:List AV}
def W6(h:bx H n=some l):H[n]?=some (.list l):=by
 refine ub h λo h1 h2=>?_;rw[cQ] at h1;cases o with
 |list=>obtain rfl:=sj h2;exact h1
 |_=>exact aR h2
def abi{r:Nat×List (List Nat×AV)}(h:cD H n=some r):H[n]?=some (.dict r.1 r.2):=by
 refine ub h λo h1 h2=>?_;rw[cQ] at h1;cases o with
 |dict=>obtain rfl:=sj h2;exact h1
 |_=>exact aR h2
def Hv{l:List (List Nat)}(h:oh H n=some l):H[n]?=some (.set l):=by
 refine ub h λo h1 h2=>?_;rw[cQ] at h1;cases o with
 |set=>obtain rfl:=sj h2;exact h1
 |_=>exact aR h2
def Yg{r:Nat×List (Option AV)}(h:xZ H n=some r):H[n]?=some (.inst r.1 r.2):=by
 refine ub h λo h1 h2=>?_;rw[cQ] at h1;cases o with
 |inst=>obtain rfl:=sj h2;exact h1
 |_=>exact aR h2
def XW{r:Nat×Nat}(h:tG H n=some r):H[n]?=some (.iter r.1 r.2):=by
 refine ub h λo h1 h2=>?_;rw[cQ] at h1;cases o with
 |iter=>obtain rfl:=sj h2;exact h1
 |_=>exact aR h2
def Ls(V:Cf)(J:Ph)(h:Heap)(v:Value)(l:List AV)(a:Addr)(items:List Value)(n:Nat):Prop:=(v=.ref a)/\(IsL h a items.toArray n)/\(aQ V J h items l)/\(l.length<=az)
section
variable {b1 b2 b3 b4 b5 b6 b7 b8}(x:Ls b1 b2 b3 b4 b5 b6 b7 b8)
def Ls.mk:=fp (Ls b1 b2 b3 b4 b5 b6 b7 b8) rfl
def Ls.eq:=x.1
def Ls.at_:=x.2.1
def Ls.all:=x.2.2.1
def Ls.len:=x.2.2.2
end
variable {h:Heap}{v:Value}{items:List Value}
def Ls.small{a:Addr}(x:Ls V J h v l a items n):items.toArray.size<=az:=by rw[dj,x.all.length];exact x.len
def aZ.list(R:aZ V J H h)(e:bx H n=some l){p:Addr×Addr}(hp:J[n]?=some p):p=(p.1,p.1)/\∃items k,Ls V J h (.ref p.1) l p.1 items k:=by refine ct (R.at (W6 e) hp) λitems k x=>?_;have eq:=x.eq;obtain⟨a,b⟩:=p;dsimp only at eq;subst eq;exact⟨rfl,items,k,Ls.mk rfl x.at_ x.all x.len⟩
variable {x:AV}
def lg(R:aZ V J H s.heap)(hx:VR V J s.heap v x)(hl:cH H x=some l):∃a items n,Ls V J s.heap v l a items n:=by
 cases x with
 |lst=>obtain rfl:=sj hl;refine cO hx λa items n e x=>?_;clear hx;exact⟨a,items,n,Ls.mk e x.at_ x.all x.len⟩
 |ref=>refine aq (ij hx rfl) λp aa hp=>?_;subst aa;refine ll (R.list hl hp) λO items k x=>?_;exact⟨_,items,k,x⟩
 |_=>exact aR hl
def mc(V:Cf)(J:Ph)(h:Heap)(v:Value)(l:List AV)(a:Addr)(items:List Value)(n:Nat)(T:String):Prop:=(v=.ref a)/\(h.get? a=some {cls:=.type T,data:=.seq items.toArray n})/\(T="list"\/T="tuple")/\(aQ V J h items l)/\(l.length<=az)
section
variable {b1 b2 b3 b4 b5 b6 b7 b8 b9}(x:mc b1 b2 b3 b4 b5 b6 b7 b8 b9)
def mc.mk:=lI (mc b1 b2 b3 b4 b5 b6 b7 b8 b9) rfl
def mc.eq:=x.1
def mc.at_:=x.2.1
def mc.ty:=x.2.2.1
def mc.all:=x.2.2.2.1
def mc.len:=x.2.2.2.2
end
def QT(R:aZ V J H s.heap)(hx:VR V J s.heap v x)(hl:rh H x=some l):∃a items n T,mc V J s.heap v l a items n T:=by
 cases x with
 |tup=>obtain rfl:=sj hl;refine cO hx λa items n e x=>?_;clear hx;exact⟨a,items,n,_,mc.mk e x.at_ (.inr rfl) x.all x.len⟩
 |lst=>obtain rfl:=sj hl;refine cO hx λa items n e x=>?_;clear hx;exact⟨a,items,n,_,mc.mk e x.at_ (.inl rfl) x.all x.len⟩
 |ref=>refine aq (ij hx rfl) λp aa hp=>?_;subst aa;refine ll (R.list hl hp) λO items k x=>?_;exact⟨_,items,k,_,mc.mk x.eq x.at_ (.inl rfl) x.all x.len⟩
 |_=>exact aR hl
variable {s':Shared}
def I3(R:aZ V J H s.heap)(g:ax s s'){I:Prop}(e:I)(r:aQ V J s.heap items l)(z:l.length<=az):Sq J s.heap.objs.size l I (aQ V J s'.heap items l):=(Sq.mk e (R.fresh (bf _)) (g.jW r) z)
def Dl(R:aZ V J H s.heap)(g:ax s s')(e:IsL s'.heap s.heap.objs.size items.toArray n)(r:aQ V J s.heap items l)(z:l.length<=az):VR V J s'.heap (.ref s.heap.objs.size) (.lst l):=.lst (I3 R g e r z)
def I2(R:aZ V J H s.heap)(g:ax s s')(e:IsT s'.heap s.heap.objs.size items.toArray n)(r:aQ V J s.heap items l)(z:l.length<=az):VR V J s'.heap (.ref s.heap.objs.size) (.tup l):=.tup (I3 R g e r z)
def fQ(V:Cf)(G:Fm)(J:Ph)(s:Shared)(t:Sem Value)(b:AV):Prop:=∀Q E,(∀v s',ax s s'->VR V J s'.heap v b->Q v s')->wpAny (model V.prog V.w) G.A t Q E s
def ET(l m:List Nat):V.enc (l++m)=V.enc l++V.enc m:=ew
def rU(l:List Nat):(V.enc l).length=l.length:=aJ _
def Ff{b:Array UInt8}{l:List Nat}(h:b.toList.map UInt8.toNat=V.enc l):b.size=l.length:=by have:=congrArg List.length h;rwa[aJ,pz,rU] at this
def adf{l m:List Nat}{t u:Tok}{Q E:Value->Shared->Prop}(o1:cS V l)(o2:cS V m)(h3:l.length+m.length<=az)(h:∀v s',ax s s'->VR V J s'.heap v (.str (l++m))->Q v s'):wpAny (model V.prog V.w) G.A (binaryOp .Add (.str (V.tx l) t) (.str (V.tx m) u)) Q E s:=by
 have e:V.tx l++V.tx m=V.tx (l++m):=by show(⟨(V.enc l).toArray++(V.enc m).toArray⟩:Str)=⟨(V.enc (l++m)).toArray⟩;rw[List.append_toArray,ET]
 have len:∀n,(V.tx n).length=n.length:=λn=>by show(V.enc n).toArray.size=_;rw[dj,rU]
 exact add_str (λt' tk=>h _ _ (ax.toks ..) ⟨t',by rw[e],o1.append o2 h3⟩) (by rw[len,len];exact i8 h3)
variable {vx vy:Value}
def adm(R:aZ V J H s.heap){y b:AV}(hx:VR V J s.heap vx x)(hy:VR V J s.heap vy y)(e:Nc x y H=some b):fQ V G J s (binaryOp .Add vx vy) b:=by
 intro Q E h;have lists:∀e:((cH H x).bind λa=>(cH H y).bind λb=>aI (Nat.ble (a.length+b.length) az) (some (.lst (a++b))))=some b,wpAny (model V.prog V.w) G.A (binaryOp .Add vx vy) Q E s:=λe=>by
  refine ub e λl h1 e=>?_;refine ub e λm h2 e=>?_;refine ur e λh3 h4=>?_;obtain rfl:=sj h4;have h3:=gO h3;refine iJ (lg R hx h1) λa i1 n1 f1=>?_;refine iJ (lg R hy h2) λb i2 n2 f2=>?_;rw[f1.eq,f2.eq];refine P.add_list f1.at_ f2.at_ (h _ _ (ax.push ..) ?_) ?_
  ·refine Dl R (items:=i1++i2) (n:=0) (ax.push s _ s.toks) ?_ (f1.all.append f2.all) (by rw[bF];exact h3);rw[List.append_toArray];exact IsL.new ..
  ·rw[dj,dj,f1.all.length,f2.all.length];exact i8 h3
 cases x with
 |int a=>refine um e λj h1 aa=>?_;subst aa;refine ue hx λt aa=>?_;clear hx;subst aa;refine ue (eE hy h1) λu aa=>?_;subst aa;exact P.add_int (h _ _ (ax.toks ..) (.lit ..))
 |cE l=>
  refine ub e λm h1 e=>?_;refine ur e λh3 h4=>?_;obtain rfl:=sj h4;have h3:=gO h3;refine bB hx λb1 t aa r1 o1=>?_;clear hx;subst aa;refine bB (QU hy h1) λb2 u aa r2 o2=>?_;subst aa;refine KBy.add_bytes ?_ λt' k=>h _ _ (ax.toks ..) ⟨_,_,rfl,?_,o1.append o2 h3⟩
  ·rw[Ff r1,Ff r2];exact i8 h3
  ·rw[Array.toList_append,ew,r1,r2,ET]
 |str l=>refine ub e λm h1 e=>?_;refine ur e λh3 h4=>?_;obtain rfl:=sj h4;refine aq hx λt aa o1=>?_;clear hx;subst aa;refine aq (qS hy h1) λu aa o2=>?_;subst aa;exact adf o1 o2 (gO h3) h
 |_=>exact lists e
def Wb{y b:AV}(hx:VR V J s.heap vx x)(hy:VR V J s.heap vy y)(e:I7 x y=some b):fQ V G J s (binaryOp .Mult vx vy) b:=by intro Q E h;refine ub e λi h1 e=>?_;refine ub e λj h2 e=>?_;refine ur e λh3 e=>?_;obtain rfl:=sj e;refine us h3 λh3 h4=>?_;refine ue (eE hx h1) λt aa=>?_;subst aa;refine ue (eE hy h2) λu aa=>?_;subst aa;exact P.mul_int (h _ _ (ax.toks ..) (.lit ..)) (Wa h3 h4)
def acz{op:Operator}(yd:op≠.Add/\op≠.Mult){i j:Int}{t u:Tok}{c:Int}(e:Fn op i j=some c):fQ V G J s (binaryOp op (.int i t) (.int j u)) (.int c):=by
 intro Q E h;cases op with
 |Add=>exact absurd rfl yd.1
 |Mult=>exact absurd rfl yd.2
 |Sub=>obtain rfl:=sj e;exact P.sub_int (h _ _ (ax.toks ..) (.lit ..))
 |FloorDiv=>refine ur e λh1 e=>?_;obtain rfl:=sj e;refine us h1 λh1 h3=>?_;exact floordiv_int (AP (jf h1)) (h _ _ (ax.toks ..) (.lit ..)) (.inl (PyProof.noPylong_of_log2 (Hi (zM h3))))
 |Mod=>refine ur e λh1 e=>?_;obtain rfl:=sj e;exact mod_int' (AP (jf h1)) (h _ _ (ax.toks ..) (.lit ..))
 |Pow=>refine ub e λn h1 e=>?_;refine ur e λh2 h3=>?_;refine us h2 λh2 h4=>?_;obtain rfl:=sj h3;have hj:=Aw h1;subst hj;exact pow_int_small (kq n) (nO.mpr (gO h2)) (bG.mp h4) (h _ _ (ax.toks ..) (.lit ..))
 |RShift=>refine ub e λn h1 e=>?_;obtain rfl:=sj e;have hj:=Aw h1;subst hj;exact rshift_int (kq n) (h _ _ (ax.toks ..) (.lit ..))
 |_=>exact aR e
def acy(pre:ao V d q G J U H s){op:Operator}{y:AV}(hx:VR V J s.heap vx x)(hy:VR V J s.heap vy y):
  ag V G J s (binaryOp op vx vy) (cu (iz op x y) U H) (VR V):=ag.opt pre λb e=>by
 have VB:∀yd:op≠.Add/\op≠.Mult,((x.int?).bind λa=>(y.int?).bind λb=>(Fn op a b).map .int)=some b->fQ V G J s (binaryOp op vx vy) b:=λyd e=>by refine ub e λa h1 e=>?_;refine ub e λa2 h2 e=>?_;refine um e λc h3 aa=>?_;subst aa;refine ue (eE hx h1) λt aa=>?_;subst aa;refine ue (eE hy h2) λu aa=>?_;subst aa;exact acz yd h3
 cases op with
 |Add=>exact adm pre.rel hx hy e
 |Mult=>exact Wb hx hy e
 |_=>exact VB ⟨by decide,by decide⟩ e
def V0(pre:ao V d q G J U H s)(hx:VR V J s.heap vx x):ag V G J s (unaryOp .USub vx) (cu (λO=>Dm x) U H) (VR V):=ag.opt pre λb e Q E h=>by refine um e λi h1 aa=>?_;subst aa;refine ue (eE hx h1) λt aa=>?_;subst aa;exact P.neg_int (h _ _ (ax.toks ..) (.lit ..))
def J4(r:aQ V J h items l):items.toArray.isEmpty=l.isEmpty:=by have:=r.length;cases items<;>cases l<;>first|rfl|cases this
def Rr(i:Int):(i != 0)=!ji i 0:=by
 cases h:ji i 0 with
 |true=>rw[J2 h];rfl
 |false=>simpa using AP h
def Cq(pre:ao V d q G J U H s)(hx:VR V J s.heap vx x):ag V G J s (truthy vx) (cu (gR x) U H) (λO O b c=>b=c):=ag.opt pre λb e Q E h=>by
 have lists:∀e:((cH H x).map λl=>!l.isEmpty)=some b,wpAny (model V.prog V.w) G.A (truthy vx) Q E s:=λe=>by refine um e λl h1 aa=>?_;subst aa;refine iJ (lg pre.rel hx h1) λa i1 n1 f1=>?_;rw[f1.eq];exact wpAny_truthy_list f1.at_.isList (vF f1.small) (h _ _ (ax.toks ..) (by rw[J4 f1.all]))
 cases x with
 |none=>subst hx;obtain rfl:=sj e;exact λO O O=>h _ _ (ax.refl _) rfl
 |bool=>subst hx;obtain rfl:=sj e;exact wpAny_truthy_bool (h _ _ (ax.refl _) rfl)
 |int a=>refine ue hx λt aa=>?_;clear hx;subst aa;obtain rfl:=sj e;exact P.truthy_int (h _ _ (ax.refl _) (Rr a))
 |_=>exact lists e
end
section
variable {V:Cf}{G:Fm}{J:Ph}{s:Shared}{U:aC}{H:Hp}{d:Nat}{q:Bool}
mutual
noncomputable def PD(V:Cf):AV->PyData->Prop
 |.int i,D=>D=.int i
 |.bool b,D=>D=.bool b
 |.str l,D=>D=.str (V.tx l)
 |.lst l,D=>∃Ds,D=.list Ds/\tZ V l Ds
 |.tup l,D=>∃Ds,D=.tuple Ds/\tZ V l Ds
 |_,_=>False
noncomputable def tZ(V:Cf):List AV->List PyData->Prop
 |[],Ds=>Ds=[]
 |x::xs,Ds=>∃D r,Ds=D::r/\PD V x D/\tZ V xs r
end
theorem LZ:∀{a b:List Nat},V.enc a=V.enc b->a=b:=by
 intro a
 induction a with
 |nil=>
  intro t_ h;cases t_ with
  |nil=>exact rfl
  |cons _ _=>exact nomatch h
 |cons x xs ih=>
  intro t_ h;cases t_ with
  |nil=>exact nomatch h
  |cons y ys=>have h:=nQ h;rw[show x=y by have:65+x=65+y:=h.1;exact FH ‹_›,ih h.2]
def Rn{a b:List Nat}(h:V.tx a=V.tx b):a=b:=by have:(V.enc a).toArray=(V.enc b).toArray:=congrArg Str.cps h;exact LZ (by simpa using this)
def GF(a b:List Nat):(V.tx a==V.tx b)=ak a b:=by rw[pg,beq_iff_eq,vJ];exact⟨Rn,λh=>by rw[h]⟩
theorem Bq:∀(a b:List Nat),V.enc a<V.enc b↔bu a b=true:=by
 intro a
 induction a with
 |nil=>
  intro t_;cases t_ with
  |nil=>exact⟨λh=>absurd h (List.lt_irrefl _),λh=>(nomatch h)⟩
  |cons _ _=>exact⟨λO=>rfl,λO=>List.Lex.nil⟩
 |cons x xs gI=>
  intro t_;cases t_ with
  |nil=>exact⟨λh=>absurd h (List.not_lt_nil _),λh=>(nomatch h)⟩
  |cons y ys=>
   have ih:=gI ys;show(65+x)::V.enc xs<(65+y)::V.enc ys↔(match Nat.beq x y with|true=>bu xs ys|false=>Nat.blt x y)=true;rw[List.cons_lt_cons_iff,ih];cases h:Nat.beq x y with
   |true=>have:=bW h;subst this;exact⟨λh=>by rcases h with h|h;exact absurd h (jQ _);exact h.2,λh=>.inr ⟨rfl,h⟩⟩
   |false=>
    have d7:=Nat.ne_of_beq_eq_false h;show _↔Nat.blt x y=true;rw[bG];refine⟨λh=>?_,λh=>.inl (by exact FU ‹_›)⟩;rcases h with h|h
    ·exact Ol ‹_›
    ·exact absurd (by have:=h.1;exact FH ‹_›) d7
mutual
theorem yC{x y:AV}{D D':PyData}{b:Bool}(hx:PD V x D)(hy:PD V y D')(e:c6 x y=some b):D.eqv D'=b:=by
 cases x with
 |int a=>
  refine um e λa2 h1 aa=>?_;subst aa;cases y with
  |int=>obtain rfl:=sj h1;subst hx;subst hy;exact(LY _ _).symm
  |_=>exact aR h1
 |bool a=>
  refine um e λa2 h1 aa=>?_;subst aa;cases y with
  |bool a3=>have q:=sj h1;subst hx;subst hy;subst q;cases a<;>cases a3<;>rfl
  |_=>exact aR h1
 |str a=>
  refine um e λa2 h1 aa=>?_;subst aa;cases y with
  |str=>obtain rfl:=sj h1;subst hx;subst hy;exact GF _ _
  |_=>exact aR h1
 |lst a=>
  refine aq hx λDs e1 x1=>?_;clear hx;refine ub e λa2 h1 e=>?_;cases y with
  |lst=>obtain rfl:=sj h1;refine aq hy λBU aa x2=>?_;clear hy;subst aa;subst e1;exact EM x1 x2 e
  |_=>exact aR h1
 |tup a=>
  refine aq hx λDs e1 x1=>?_;clear hx;refine ub e λa2 h1 e=>?_;cases y with
  |tup=>obtain rfl:=sj h1;refine aq hy λBU aa x2=>?_;clear hy;subst aa;subst e1;exact EM x1 x2 e
  |_=>exact aR h1
 |_=>exact hx.elim
theorem EM{xs ys:List AV}{Ds BU:List PyData}{b:Bool}(hx:tZ V xs Ds)(hy:tZ V ys BU)(e:fu xs ys=some b):PyData.eqvAll Ds BU=b:=by
 cases xs with
 |nil=>
  cases ys with
  |nil=>subst hx;subst hy;obtain rfl:=sj e;rfl
  |cons=>refine dN hy λO O e1 O=>?_;clear hy;subst hx;subst e1;obtain rfl:=sj e;rfl
 |cons x xs=>
  cases ys with
  |nil=>refine dN hx λO O e1 O=>?_;clear hx;subst hy;subst e1;obtain rfl:=sj e;rfl
  |cons y ys=>
   refine bB hx λD r e1 x1 x2=>bB hy λD' r' e2 y1 y2=>?_;clear hx hy;refine ub e λc h1 e=>?_;subst e1;subst e2;have h1:=yC x1 y1 h1;show(D.eqv D'&&PyData.eqvAll r r')=_;rw[h1];cases c with
   |true=>exact EM x2 y2 e
   |false=>obtain rfl:=sj e;rfl
end
def gM(V:Cf)(h:Heap)(v:Value)(x:AV)(n:Nat)(D:PyData)(as:List Addr):Prop:=(Reads h v D as)/\(D.canLay0=true)/\(D.depth<=n)/\(PD V x D)
section
variable {b1 b2 b3 b4 b5 b6 b7}(x:gM b1 b2 b3 b4 b5 b6 b7)
def gM.mk:=fp (gM b1 b2 b3 b4 b5 b6 b7) rfl
def gM.rd:=x.1
def gM.g9:=x.2.1
def gM.deep:=x.2.2.1
def gM.pd:=x.2.2.2
end
def iZ(V:Cf)(h:Heap)(vs:List Value)(xs:List AV)(n:Nat)(Ds:List PyData)(as:List Addr):Prop:=(ReadsAll h vs Ds as)/\(PyData.canLayAll0 Ds=true)/\(PyData.depthAll Ds<=n)/\(tZ V xs Ds)
section
variable {b1 b2 b3 b4 b5 b6 b7}(x:iZ b1 b2 b3 b4 b5 b6 b7)
def iZ.mk:=fp (iZ b1 b2 b3 b4 b5 b6 b7) rfl
def iZ.rd:=x.1
def iZ.g9:=x.2.1
def iZ.deep:=x.2.2.1
def iZ.pd:=x.2.2.2
end
variable {h:Heap}{items:List Value}{n:Nat}{Ds:List PyData}
def iZ.lst{a:Addr}{k:Nat}{xs:List AV}{as:List Addr}(x:iZ V h items xs n Ds as)(e:IsL h a items.toArray k):gM V h (.ref a) (.lst xs) (n+1) (.list Ds) (a::as):=(gM.mk (.list e rfl rfl x.rd) x.g9 (by have:=x.deep;simp only[PyData.depth];exact FV ‹_›) ⟨Ds,rfl,x.pd⟩)
def iZ.tup{a:Addr}{k:Nat}{xs:List AV}{as:List Addr}(x:iZ V h items xs n Ds as)(e:IsT h a items.toArray k):gM V h (.ref a) (.tup xs) (n+1) (.tuple Ds) as:=(gM.mk (.tuple e rfl rfl x.rd) x.g9 (by have:=x.deep;simp only[PyData.depth];exact FV ‹_›) ⟨Ds,rfl,x.pd⟩)
def Xk{l:List Nat}{t:Tok}(o:cS V l)(n:Nat):gM V h (.str (V.tx l) t) (.str l) n (.str (V.tx l)) []:=by refine(gM.mk (.str _ t) ?_ (by simp[PyData.depth]) rfl);simp only[PyData.canLay0,PyData.strOk,Cf.tx];rw[List.all_toArray,jw];intro c hc;refine aq (bU.mp hc) λe he aa=>?_;subst aa;have:=o.sign e he;simp;exact Oo ‹_›
mutual
theorem tF{x:AV}{h:Heap}{v:Value}(n:Nat)(hx:VR V J h v x)(hd:cw x n=true):∃D as,gM V h v x n D as:=by
 cases x with
 |int=>refine ue hx λt aa=>?_;clear hx;subst aa;exact⟨_,_,gM.mk (.int _ t) rfl (by simp[PyData.depth]) rfl⟩
 |bool=>have q:v=.bool _:=hx;subst q;exact⟨_,_,gM.mk (.bool _) rfl (by simp[PyData.depth]) rfl⟩
 |str=>refine aq hx λt aa o=>?_;clear hx;subst aa;exact⟨_,_,Xk o n⟩
 |tup l=>
  cases n with
  |zero=>exact tw hd
  |succ n=>refine cO hx λa items k aa x=>?_;clear hx;subst aa;refine ct (DH n x.all hd) λO O y=>?_;exact⟨_,_,y.tup x.at_⟩
 |lst l=>
  cases n with
  |zero=>exact tw hd
  |succ n=>refine cO hx λa items k aa x=>?_;clear hx;subst aa;refine ct (DH n x.all hd) λO O y=>?_;exact⟨_,_,y.lst x.at_⟩
 |_=>exact tw hd
theorem DH{xs:List AV}{h:Heap}{vs:List Value}(n:Nat)(hx:aQ V J h vs xs)(hd:dh xs n=true):∃Ds as,iZ V h vs xs n Ds as:=by
 cases xs with
 |nil=>subst hx;exact⟨_,_,iZ.mk .nil rfl (by simp[PyData.depthAll]) rfl⟩
 |cons x xs=>
  refine bB hx λv r aa hv hr=>?_;clear hx;subst aa;have hd:(match cw x n with|true=>dh xs n|false=>false)=true:=hd;cases hk:cw x n with
  |false=>rw[hk] at hd;exact tw hd
  |true=>rw[hk] at hd;refine ct (tF n hv hk) λD as y=>?_;refine ct (DH n hr hd) λDs bs z=>?_;exact⟨D::Ds,_,iZ.mk (.cons y.rd z.rd) (by simp[PyData.canLayAll0,y.g9,z.g9]) (by simp only[PyData.depthAll];exact Nat.max_le.mpr ⟨y.deep,z.deep⟩) ⟨_,_,rfl,y.pd,z.pd⟩⟩
end
variable {x:AV}
def aa8(h:cH H x=none):aV H n x=x:=by
 cases n with
 |zero=>rfl
 |succ n=>show(match cH H x with|some l=>AV.lst (l.map (aV H n))|none=>x)=x;rw[h]
def aa7{l:List AV}(h:cH H x=some l):aV H (n+1) x=.lst (l.map (aV H n)):=by show(match cH H x with|some l=>AV.lst (l.map (aV H n))|none=>x)=_;rw[h]
theorem JD(R:aZ V J H s.heap)(n:Nat)(ih:∀{v:Value} {x:AV} (m:Nat),VR V J s.heap v x->cw (aV H n x) m=true->∃D as,gM V s.heap v (aV H n x) m D as):
  ∀{xs:List AV} {vs:List Value} (m:Nat),aQ V J s.heap vs xs->dh (xs.map (aV H n)) m=true->∃Ds as,iZ V s.heap vs (xs.map (aV H n)) m Ds as:=by
 intro xs
 induction xs with
 |nil=>intro _ _ hx _;subst hx;exact⟨_,_,iZ.mk .nil rfl (by simp[PyData.depthAll]) rfl⟩
 |cons x xs gI=>
  intro _ m hx h;refine bB hx λv r aa hv hr=>?_;clear hx;subst aa;have h:(match cw (aV H n x) m with|true=>dh (xs.map (aV H n)) m|false=>false)=true:=h;cases hk:cw (aV H n x) m with
  |false=>rw[hk] at h;cases h
  |true=>rw[hk] at h;refine ct (ih m hv hk) λD as y=>?_;refine ct (gI m hr h) λDs bs z=>?_;exact⟨D::Ds,_,iZ.mk (.cons y.rd z.rd) (by simp[PyData.canLayAll0,y.g9,z.g9]) (by simp only[PyData.depthAll];exact Nat.max_le.mpr ⟨y.deep,z.deep⟩) ⟨_,_,rfl,y.pd,z.pd⟩⟩
def AM(R:aZ V J H s.heap):∀(n:Nat) {v:Value} {x:AV} (m:Nat),VR V J s.heap v x->cw (aV H n x) m=true->∃D as,gM V s.heap v (aV H n x) m D as:=by
 intro n
 induction n with
 |zero=>intro v x m hx h;exact tF m hx h
 |succ n ih=>
  intro v x m hx h;cases hl:cH H x with
  |none=>rw[aa8 hl] at h⊢;exact tF m hx h
  |some l=>
   rw[aa7 hl] at h⊢;cases m with
   |zero=>cases h
   |succ m=>refine iJ (lg R hx hl) λa items k y=>?_;refine ct (JD R n (λm=>ih m) m y.all h) λDs as z=>?_;rw[y.eq];exact⟨_,_,z.lst y.at_⟩
def HS{A:Around}(hr:kW A d)(hn:n<=50)(m:Nat):A.units+min n m<cLine:=cU (mA (aM (Nat.min_le_left ..) hn) _) (Qx hr.units)
def kf(V:Cf)(A:Around)(s:Shared)(t:Sem Value)(b:Bool):Prop:=∀Q E,(∀s',ax s s'->Q (.bool b) s')->wpAny (model V.prog V.w) A t Q E s
variable {vx vy:Value}{y:AV}{b:Bool}
def aaq(pre:ao V d q G J U H s)(hx:VR V J s.heap vx x)(hy:VR V J s.heap vy y)(e:iV (aV H 3 x) (aV H 3 y)=some b):
  kf V G.A s (compareOp .Eq vx vy) b/\kf V G.A s (compareOp .NotEq vx vy) !b:=by
 refine ur e λh1 h2=>?_;refine us h1 λh1 h3=>?_;refine ct (AM pre.rel 3 3 hx h1) λD as y1=>?_;refine ct (AM pre.rel 3 3 hy h3) λD' bs y2=>?_;have hv:=yC y1.pd y2.pd h2;have ru:=HS pre.room (show D.depth<=50 from aM y1.deep (by decide)) D'.depth;exact⟨λQ E hq=>SeqAt.compareEq_reads y1.rd y2.rd y1.g9 y2.g9 ru (by rw[hv];exact hq _ (ax.refl _)),λQ E hq=>SeqAt.compareNe_reads y1.rd y2.rd y1.g9 y2.g9 ru (by rw[hv];exact hq _ (ax.refl _))⟩
def Dz{prog:Program}{w:World}{A':Around}(hx:VR V J s.heap vx x)(hy:VR V J s.heap vy y)(e:AG x y=some b):
  ∀Q E,Q (.bool b) s->wpAny (model prog w) A' (compareOp .Lt vx vy) Q E s:=by
 intro Q E hq;cases x with
 |int a=>refine um e λa2 h1 aa=>?_;subst aa;refine ue hx λt aa=>?_;clear hx;subst aa;refine ue (eE hy h1) λu aa=>?_;subst aa;exact P.lt_int (by rw[<- rG];exact hq)
 |str l=>
  refine um e λm h1 aa=>?_;subst aa;refine aq hx λt aa O=>?_;clear hx;subst aa;refine aq (qS hy h1) λu aa O=>?_;subst aa;refine P.lt_str ?_;have:decide ((V.tx l).cps.toList<(V.tx m).cps.toList)=bu l m:=by
   rw[pg,decide_eq_true_iff]
   simpa[Cf.tx] using Bq l m
  rw[<- this] at hq
  simpa using hq
 |_=>exact aR e
def t7(V:Cf)(J:Ph)(h:Heap)(r:Bool)(n m:Nat)(rest:List (Value×Value)):Prop:=∃vs ws ds es,rest=List.zip vs ws/\aQ V J h vs ds/\aQ V J h ws es/\AE ds es=some r/\(n<m↔vs.length<ws.length)
def t7.nil{r:Bool}{m:Nat}(I:t7 V J h r n m []):decide (n<m)=r:=by
 refine Gz I λvs ws ds es hz r1 r2 ir iq=>?_;clear I;rw[decide_eq_decide.mpr iq];cases ds with
 |nil=>
  have q:vs=[]:=r1;subst q;cases es with
  |nil=>have q:ws=[]:=r2;subst q;exact jR ir
  |cons=>refine dN r2 λO O aa O=>?_;clear r2;subst aa;exact(decide_eq_true (qO _)).trans (jR ir)
 |cons=>
  refine dN r1 λO O aa O=>?_;clear r1;subst aa;cases es with
  |nil=>have q:ws=[]:=r2;subst q;exact jR ir
  |cons=>refine dN r2 λO O aa O=>?_;clear r2;subst aa;exact nomatch hz
def LtC(V:Cf)(J:Ph)(h:Heap)(r:Bool)(n m:Nat)(rest:List (Value×Value))(y x:Value)(d e:AV)(c:Bool):Prop:=c6 d e=some c/\(c=true->t7 V J h r n m rest)/\(c=false->VR V J h y d/\VR V J h x e/\AG d e=some r)
def t7.cons{r:Bool}{m:Nat}{y x:Value}{rest:List (Value×Value)}(I:t7 V J h r n m ((y,x)::rest)):
  ∃d e c D D' as bs,LtC V J h r n m rest y x d e c/\gM V h y d 3 D as/\gM V h x e 3 D' bs:=by
 refine Gz I λvs ws ds es hz r1 r2 ir iq=>?_;clear I;cases ds with
 |nil=>have q:vs=[]:=r1;subst q;exact nomatch hz
 |cons d1 ds=>
  refine bB r1 λv1 t1 aa a1 a2=>?_;clear r1;subst aa;cases es with
  |nil=>have q:ws=[]:=r2;subst q;exact nomatch hz
  |cons e1 es=>
   refine bB r2 λw1 t2 aa b1 b2=>?_;clear r2;subst aa;injection hz with h1 h2
   injection h1 with h3 h4
   subst h2 h3 h4;refine ub ir λc hc ir=>?_;refine ur hc λh1 h2=>?_;refine us h1 λh1 h3=>?_;refine ct (tF 3 a1 h1) λD as y1=>?_;refine ct (tF 3 b1 h3) λD' bs y2=>?_;refine⟨d1,e1,c,D,D',as,bs,⟨h2,λq=>?_,λq=>?_⟩,y1,y2⟩
   ·subst q;exact⟨t1,t2,ds,es,rfl,a2,b2,ir,iq.trans Nat.succ_lt_succ_iff⟩
   ·subst q;exact⟨a1,b1,ir⟩
def Rq(V:Cf)(J:Ph)(l b:Addr)(items gu:List Value)(n n2:Nat)(xs ys:List AV)(r:Bool)(e:AE xs ys=some r):
  Meets (Builtin.«tuple.__lt__» ⟨[.ref l,.ref b],[]⟩) (λA' R s'=>A'.units+60<cLine/\IsT s'.heap l items.toArray n/\IsT s'.heap b gu.toArray n2/\aQ V J s'.heap items xs/\aQ V J s'.heap gu ys/\R (.ok (.ret (.bool r))) s'):=
 .of_wp λprog w A' R s' h=>by
  obtain⟨hu,hl,hb,rx,ry,h⟩:=h;have I0:t7 V J s'.heap r items.length gu.length (List.zip items gu):=⟨_,_,_,_,rfl,rx,ry,e,Iff.rfl⟩;clear rx ry e;have f2:=AutoSeq1.sub_tuple_tuple;wp_walk using wpAny_loadPart' hl,wpAny_loadPart' hb,wpAny_forIn_list _ (λrest b s=>b.1=none/\s=s'/\t7 V J s'.heap r items.length gu.length rest) _
  case turn=>
   rintro ⟨y,x⟩ rest b s ⟨Ep,rfl,I⟩
   obtain⟨d1,e1,c,D,D',as,bs,k,y1,y2⟩:=I.cons;refine ah (SeqAt.eqBoolOverData _ _ _ _ _ _ _ _ _ _ _ _ y1.rd y2.rd y1.g9 y2.g9 (cU (mA (aM (Nat.min_le_left ..) y1.deep) _) (Gf hu)) ?_);rw[yC y1.pd y2.pd k.1];cases c with
   |true=>wp_walk;exact⟨rfl,rfl,k.2.1 rfl⟩
   |false=>have q:=k.2.2 rfl;refine wpAny_ite_true rfl ?_;refine ah (wpAny_rule (ah (Dz q.1 q.2.1 q.2.2 _ _ ?_)));exact ah (aH (aH (aH ⟨_,rfl,h⟩)))
  case fin=>
   rintro ⟨b1,b2⟩ s ⟨Ep,rfl,I⟩
   simp only at Ep;subst Ep;refine aH ⟨_,rfl,?_⟩;show R (.ok (.ret (.bool (decide (items.toArray.size<gu.toArray.size))))) _;rw[dj,dj,I.nil];exact h
  case h=>exact⟨rfl,rfl,I0⟩
def WK{prog:Program}{w:World}{A:Around}(hu:A.units+62<cLine)(hx:VR V J s.heap vx x)(hy:VR V J s.heap vy y)(e:AH x y=some b):
  ∀Q E,Q (.bool b) s->wpAny (model prog w) A (richCompare .Lt vx vy) Q E s:=by
 intro Q E hq;cases x with
 |tup a=>refine ub e λm h1 e=>?_;refine cO hx λa1 i1 n1 aa f1=>?_;clear hx;subst aa;refine cO (QS hy h1) λa2 i2 n2 aa f2=>?_;subst aa;exact richCompare_meets_room (op:=.Lt) ⟨_,f1.at_,rfl⟩ ⟨_,f2.at_,rfl⟩ F.slot_tuple_lt F.entry_tuple_lt (F.args_tuple_lt_2 _ _) (Rq V J _ _ _ _ _ _ _ _ b e) ⟨by exact Oi ‹_›,f1.at_,f2.at_,f1.all,f2.all,by simp,hq⟩ (by exact ud ‹_›)
 |_=>exact Dz hx hy e Q E hq
def WL(pre:ao V d q G J U H s)(hx:VR V J s.heap vx x)(hy:VR V J s.heap vy y)(e:AH x y=some b):kf V G.A s (compareOp .Lt vx vy) b:=λQ E hq=>WK (by have:=pre.room.units;exact NS ‹_›) hx hy e Q E (hq _ (ax.refl _))
end
section
variable {V:Cf}{G:Fm}{J:Ph}{s:Shared}{U:aC}{H:Hp}{d:Nat}{q:Bool}
variable {h:Heap}{v:Value}{x:AV}
def sL{k:List Nat}(hx:VR V J h v x)(e:x.de=some k):(kS V).is k v=true/\cS V k:=by refine aq (qS hx e) λt aa o=>?_;subst aa;exact⟨strKind_is V.prog V.w (V.tx k) t,o⟩
def JL{y:List Nat}(hy:(kS V).is y v=true)(x:List Nat):(kS V).is x v=ak y x:=by rw[KeyKind.is_eq_decide hy x,pg,decide_eq_true_iff,vJ];exact eq_comm
theorem yF{h:Heap}:∀{l:List (List Nat×AV)} {es:List DictEntry},hO V J h l es->KeysOf (kS V) es.toArray:=by
 intro l
 induction l with
 |nil=>intro _ x;subst x;intro e he;simp at he
 |cons p l ih=>
  intro _ bV;refine bB bV λe r q x y=>?_;clear bV;subst q;intro e' he;rw[List.mem_toArray] at he;rcases bQ.mp he with rfl|he
  ·exact⟨p.1,x.key,x.hash⟩
  ·exact ih y e' (List.mem_toArray.mpr he)
theorem Bw(x:List Nat){h:Heap}:∀{l:List (List Nat×AV)} {es:List DictEntry},hO V J h l es ->
  (cy x l=none/\findBy (kS V).is es.toArray x=none)\/∃v val,cy x l=some v/\findBy (kS V).is es.toArray x=some val/\VR V J h val v:=by
 intro l
 induction l with
 |nil=>intro _ e;subst e;exact .inl ⟨rfl,rfl⟩
 |cons p l gI=>
  intro _ bV;refine bB bV λe r q z y=>?_;clear bV;subst q;have ih:=gI y;unfold findBy at ih⊢;rw[List.find?_toArray] at ih⊢;rw[uq,JL z.key];show((match ak p.1 x with|true=>some p.2|false=>cy x l)=_/\_)\/∃v val,(match ak p.1 x with|true=>some p.2|false=>cy x l)=_/\_;cases ak p.1 x with
  |true=>exact .inr ⟨_,_,rfl,rfl,z.val⟩
  |false=>exact ih
def i3(V:Cf)(J:Ph)(h:Heap)(a:Addr)(ep:Nat)(l:List (List Nat×AV))(es:List DictEntry):Prop:=(h.MapOf (kS V) a (λk=>findBy (kS V).is es.toArray k))/\(hO V J h l es)/\(h.get? a=some {cls:=.type "dict",data:=.dict es.toArray ep})/\(l.length<=az)/\((l.map (·.1)).Nodup)
section
variable {b1 b2 b3 b4 b5 b6 b7}(x:i3 b1 b2 b3 b4 b5 b6 b7)
def i3.mk:=lI (i3 b1 b2 b3 b4 b5 b6 b7) rfl
def i3.map:=x.1
def i3.all:=x.2.1
def i3.at_:=x.2.2.1
def i3.len:=x.2.2.2.1
def i3.nodup:=x.2.2.2.2
end
variable {p:Addr×Addr}{ep:Nat}{l:List (List Nat×AV)}{es:List DictEntry}
def iG.map(x:iG V J h p ep l es):p=(p.1,p.1)/\i3 V J h p.1 ep l es:=by have eq:=x.eq;obtain⟨a,b⟩:=p;dsimp only at eq;subst eq;exact⟨rfl,i3.mk ⟨_,es.toArray,ep,x.at_,⟨rfl,rfl,rfl⟩,rfl,yF x.all,λO=>rfl⟩ x.all x.at_ x.len x.nodup⟩
variable {n:Nat}{r:Nat×List (List Nat×AV)}
def aZ.dict(R:aZ V J H h)(e:cD H n=some r)(hp:J[n]?=some p):p=(p.1,p.1)/\∃es,i3 V J h p.1 r.1 r.2 es:=ue (R.at (abi e) hp) λes x=>⟨x.map.1,es,x.map.2⟩
def aZ.set(R:aZ V J H h){l:List (List Nat)}(e:oh H n=some l)(hp:J[n]?=some p):p=(p.1,p.1)/\Nq V h p.1 l:=by refine ua (R.at (Hv e) hp) λeq x=>?_;obtain⟨a,b⟩:=p;dsimp only at eq;subst eq;exact⟨rfl,x⟩
def Jd(k:List Nat):∀l:List (List Nat),(l.any λy=>V.tx y==V.tx k)=aU k l:=by
 intro l
 induction l with
 |nil=>exact rfl
 |cons y l ih=>rw[List.any_cons,GF,ih];show _=(match ak y k with|true=>true|false=>aU k l);cases ak y k<;>rfl
structure ef(V:Cf):Prop where
 big:10<=V.h₀.objs.size
 Zu:∀k,V.gv k≠some .none
def VQ(R:aZ V J H h)(e:J[n]?=some p)(Eo:10<=V.h₀.objs.size):(p.2==sysModules)=false:=by exact beq_eq_false_iff_ne.mpr λq=>absurd (aM Eo (q▸R.above p (jS e))) (by decide)
def xG(R:aZ V J H h)(e:J[n]?=some p)(hp:p=(p.1,p.1))(Eo:10<=V.h₀.objs.size):(p.1==sysModules)=false:=by have:=VQ R e Eo;rwa[congrArg Prod.snd hp] at this
noncomputable def vk:List (List Nat×AV)->List DictEntry->List (List Nat×Value)
 |[],_=>[]
 |p::l,es=>match es with
  |[]=>[]
  |e::es=>(p.1,e.val)::vk l es
theorem XA{h:Heap}:∀{l:List (List Nat×AV)} {es:List DictEntry},hO V J h l es->Pairs (kS V) es (vk l es)/\(vk l es).map (·.1)=l.map (·.1)/\(vk l es).length=l.length:=by
 intro l
 induction l with
 |nil=>intro _ e;subst e;exact⟨.nil,rfl,rfl⟩
 |cons p l ih=>intro _ bV;refine bB bV λe r q z y=>?_;clear bV;subst q;refine zx (ih y) λa b c=>?_;exact⟨.cons z.key rfl a,congrArg (p.1::·) b,congrArg (·+1) c⟩
def qx(V:Cf)(J:Ph)(h:Heap)(x:List Nat)(w:AV)(o:Option (List Nat×Value))(v:Value):Prop:=(o=some (x,v))/\(VR V J h v w)/\(cS V x)
section
variable {b1 b2 b3 b4 b5 b6 b7}(x:qx b1 b2 b3 b4 b5 b6 b7)
def qx.mk:=lJ (qx b1 b2 b3 b4 b5 b6 b7) rfl
def qx.get:=x.1
def qx.val:=x.2.1
def qx.ok:=x.2.2
end
theorem XB{h:Heap}:∀{l:List (List Nat×AV)} {es:List DictEntry},hO V J h l es->∀(i:Nat) (p:List Nat×AV),l[i]?=some p->∃v,qx V J h p.1 p.2 (vk l es)[i]? v:=by
 intro l
 induction l with
 |nil=>intro _ e i p h;exact nomatch h
 |cons p l ih=>
  intro _ bV i p' e';refine bB bV λe r q z y=>?_;clear bV;subst q;cases i with
  |zero=>obtain rfl:=sj e';exact⟨_,qx.mk rfl z.val z.ok⟩
  |succ i=>exact ih y i p' e'
def qA(V:Cf)(J:Ph)(h:Heap)(a:Addr)(ep:Nat)(l:List (List Nat×AV))(lO:List (List Nat×Value)):Prop:=(h.DictAt (kS V) a lO ep)/\(lO.length=l.length)/\(l.length<=az)/\(∀(i:Nat) (p:List Nat×AV),l[i]?=some p->∃v,qx V J h p.1 p.2 lO[i]? v)
section
variable {b1 b2 b3 b4 b5 b6 b7}(x:qA b1 b2 b3 b4 b5 b6 b7)
def qA.mk:=fp (qA b1 b2 b3 b4 b5 b6 b7) rfl
def qA.at_:=x.1
def qA.len:=x.2.1
def qA.get:=x.2.2.2
end
variable {a:Addr}
def i3.at(m:i3 V J h a ep l es):qA V J h a ep l (vk l es):=by refine zx (XA m.all) λh2 h3 h4=>?_;exact(qA.mk ⟨_,es.toArray,m.at_,⟨rfl,rfl,rfl⟩,rfl,yF m.all,by simpa using h2,by rw[h3];exact m.nodup⟩ h4 m.len (XB m.all))
def aZ.dictAt(R:aZ V J H h)(e:Mine.cD H n=some r)(hp:J[n]?=some p):p=(p.1,p.1)/\∃lO,qA V J h p.1 r.1 r.2 lO:=by refine ik (R.dict e hp) λpe es m=>?_;exact⟨pe,_,m.at⟩
theorem ac9{x:AV}{D:PyData}(hx:PD V x D):∀{l:List AV} {Ds:List PyData} {b:Bool},tZ V l Ds->gH x l=some b->(Ds.any λy=>PyData.eqv y D)=b:=by
 intro l
 induction l with
 |nil=>intro _ _ r e;subst r;obtain rfl:=sj e;rfl
 |cons y l ih=>intro _ _ bV e;refine bB bV λD' r q h1 h2=>?_;clear bV;subst q;refine ub e λb e1 e=>?_;refine um e λc e2 aa=>?_;subst aa;rw[List.any_cons,yC h1 hx e1,ih h2 e2]
variable {vx vy:Value}{b:Bool}
def Yt(pre:ao V d q G J U H s){l:List AV}{items:List Value}(hx:VR V J s.heap vx x)(y:Ls V J s.heap vy l a items n)(e:aI (cw (aV H 3 x) 3&&dh (l.map (aV H 3)) 3) (gH (aV H 3 x) (l.map (aV H 3)))=some b):
  kf V G.A s (compareOp .In vx vy) b/\kf V G.A s (compareOp .NotIn vx vy) !b:=by
 refine ur e λh1 h2=>?_;refine us h1 λh1 h3=>?_;refine ct (AM pre.rel 3 3 hx h1) λD as y1=>?_;refine ct (JD pre.rel 3 (AM pre.rel 3) 3 y.all h3) λDs bs y2=>?_;have hv:=ac9 y1.pd y2.pd h2;have rc:Reads s.heap vy (.list Ds) (a::bs):=by rw[y.eq];exact .list y.at_ rfl rfl y2.rd
 have ru:G.A.units+1+min (PyData.depthAll Ds) D.depth<cLine:=cU (mA (aM (Nat.min_le_right ..) y1.deep) _) (Qw pre.room.units);exact⟨λQ E hq=>SeqAt.in_list_reads rc y1.rd y2.g9 y1.g9 ru (by rw[hv];exact hq _ (ax.refl _)),λQ E hq=>SeqAt.notIn_list_reads rc y1.rd y2.g9 y1.g9 ru (by rw[hv];exact hq _ (ax.refl _))⟩
def Yr{k:List Nat}(hk:(kS V).is k vx=true)(hm:(a==sysModules)=false)(m:i3 V J s.heap a ep l es):
  kf V G.A s (compareOp .In vx (.ref a)) (c5 k l)/\kf V G.A s (compareOp .NotIn vx (.ref a)) !(c5 k l):=by
 have hf:(findBy (kS V).is es.toArray k).isSome=c5 k l:=by unfold c5;rcases Bw k m.all with⟨a1,a2⟩|⟨v,val,a1,a2,_⟩<;>rw[a1,a2]<;>rfl
 exact⟨λQ E hq=>wpAny_in_of hk hm m.map (by rw[hf];exact hq _ (ax.toks ..)),λQ E hq=>wpAny_notIn_of hk hm m.map (by rw[hf];exact hq _ (ax.toks ..))⟩
def Ke(pre:ao V d q G J U H s)(ok:ef V){y:AV}(hx:VR V J s.heap vx x)(hy:VR V J s.heap vy y)(e:gU x y H=some b):
  kf V G.A s (compareOp .In vx vy) b/\kf V G.A s (compareOp .NotIn vx vy) !b:=by
 unfold gU at e;cases hl:cH H y with
 |some l=>rw[hl] at e;refine iJ (lg pre.rel hy hl) λa items n z=>?_;exact Yt pre hx z e
 |none=>
  rw[hl] at e;refine ub e λn h2 e=>?_;refine aq (ij hy h2) λp aa hp=>?_;subst aa;refine ub e λk h1 e=>?_;cases hd:cD H n with
  |some r=>rw[hd] at e;obtain rfl:=sj e;refine ik (pre.rel.dict hd hp) λpe es m=>?_;exact Yr (sL hx h1).1 (xG pre.rel hp pe ok.big) m
  |none=>rw[hd] at e;refine um e λl h3 aa=>?_;subst aa;refine aq (qS hx h1) λt aa o=>?_;subst aa;have nv:=strKind_is V.prog V.w (V.tx k) t;refine ua (pre.rel.set h3 hp) λpe m=>?_;rw[<- Jd (V:=V)];exact⟨λQ E hq=>wpAny_inSet_of nv rfl m.set (hq _ (ax.toks ..)),λQ E hq=>wpAny_notInSet_of nv rfl m.set (hq _ (ax.toks ..))⟩
def Cj(ok:ef V)(hx:VR V J h v x):(v==Value.none)=x.tu:=by
 cases x with
 |none=>subst hx;rfl
 |bool=>subst hx;rfl
 |int=>refine ue hx λO aa=>?_;clear hx;subst aa;rfl
 |str=>refine aq hx λO aa O=>?_;clear hx;subst aa;rfl
 |cE=>refine dN hx λO O aa O=>?_;clear hx;subst aa;rfl
 |tup=>refine cO hx λO O O aa O=>?_;clear hx;subst aa;rfl
 |lst=>refine cO hx λO O O aa O=>?_;clear hx;subst aa;rfl
 |dF=>refine mP hx λO O O O aa O=>?_;clear hx;subst aa;rfl
 |ref=>refine dN hx λO O aa O=>?_;clear hx;subst aa;rfl
 |glob=>cases v<;>first|rfl|exact absurd hx (ok.Zu _)
 |cP=>refine mP hx λO O O O aa O=>?_;clear hx;subst aa;rfl
 |vals=>refine cO hx λO O O aa O=>?_;clear hx;subst aa;rfl
 |uW=>refine ct hx λO O aa=>?_;clear hx;subst aa;rfl
def KR(V:Cf)(J:Ph)(h:Heap):List (List Nat×AV)->List (List Nat×Value)->Prop
 |[],ka=>ka=[]
 |p::l,ka=>∃v r,ka=(p.1,v)::r/\VR V J h v p.2/\KR V J h l r
def aba:∀{l:List (List Nat×AV)} {es:List DictEntry},hO V J h l es->∃ka,Pairs (kS V) es ka/\KR V J h l ka/\ka.map (·.1)=l.map (·.1):=by
 intro l
 induction l with
 |nil=>intro es e;subst e;exact⟨[],.nil,rfl,rfl⟩
 |cons p l ih=>intro es bV;refine bB bV λe r q z y=>?_;subst q;obtain⟨ka,a,b,c⟩:=ih y;exact⟨(p.1,e.val)::ka,.cons z.key rfl a,⟨_,_,rfl,z.val,b⟩,congrArg (p.1::·) c⟩
def XC(k:List Nat):∀{l:List (List Nat×AV)} {ka:List (List Nat×Value)},KR V J h l ka->(cy k l=none/\valueAt ka k=none)\/∃v y,cy k l=some v/\valueAt ka k=some y/\VR V J h y v:=by
 intro l
 induction l with
 |nil=>intro ka e;rw[show ka=[] from e];exact .inl ⟨rfl,rfl⟩
 |cons p l ih=>
  intro ka e;obtain⟨v,r,e1,e2,e3⟩:=e;subst e1;have hl:cy k (p::l)=match ak p.1 k with|true=>some p.2|false=>cy k l:=rfl
  have hv:valueAt ((p.1,v)::r) k=if p.1=k then some v else valueAt r k:=by
   unfold valueAt;rw[uq];by_cases q:p.1=k
   ·rw[if_pos q];simp[q]
   ·rw[if_neg q];simp[q]
  rw[hl,hv];by_cases q:p.1=k
  ·rw[if_pos q,(vJ _ _).mpr q];exact .inr ⟨_,_,rfl,rfl,e2⟩
  ·rw[if_neg q];have:ak p.1 k=false:=by
    cases h:ak p.1 k with
    |false=>rfl
    |true=>exact absurd ((vJ _ _).mp h) q
   rw[this];exact ih e3
def XG{A:Around}{lb:List (List Nat×AV)}{kb:List (List Nat×Value)}(hb:KR V J s.heap lb kb):∀{la:List (List Nat×AV)} {ka:List (List Nat×Value)} {r:Bool},KR V J s.heap la ka->sT la lb=some r->KeqHits A s kb ka r:=by
 intro la
 induction la with
 |nil=>intro ka r ha e;rw[show ka=[] from ha];obtain rfl:=sj e;exact .nil
 |cons p la ih=>
  intro ka r ha e;obtain⟨v,t,e1,e2,e3⟩:=ha;subst e1;have e:(match cy p.1 lb with
   |some v=>(p.2.int?).bind λi=>(v.int?).bind λj=>(sT la lb).map λc=>dQ i j&&c
   |none=>some false)=some r:=e
  rcases XC p.1 hb with⟨a1,a2⟩|⟨w,y,a1,a2,a3⟩
  ·rw[a1] at e;obtain rfl:=sj e;exact .miss a2
  ·rw[a1] at e;refine ub e λi h1 e=>?_;refine ub e λj h2 e=>?_;refine um e λc h3 e=>?_;subst e;obtain⟨t1,q1⟩:=eE e2 h1;obtain⟨t2,q2⟩:=eE a3 h2;subst q1 q2;refine .hit a2 (λprog w E Q h=>?_) (ih e3 h3);rw[LY] at h;exact wpAny_eqBool_int h
def LR(pre:ao V d q G J U H s)(ok:ef V){y:AV}(hx:VR V J s.heap vx x)(hy:VR V J s.heap vy y)(e:gL x y H=some b):
  kf V G.A s (compareOp .Eq vx vy) b/\kf V G.A s (compareOp .NotEq vx vy) !b:=by
 unfold gL at e;cases hd:qn H x with
 |none=>rw[hd] at e;exact aaq pre hx hy e
 |some a=>
  rw[hd] at e;refine ub e λb' hb e=>?_;have Ma:∀{v:AV} {vv:Value} {l:List (List Nat×AV)},VR V J s.heap vv v->qn H v=some l->∃p ka,vv=.ref p/\(p==sysModules)=false/\s.heap.DictOf (kS V) p ka/\KR V J s.heap l ka/\ka.length=l.length:=λ{v vv l} hv h=>by refine ub h λn h2 h3=>?_;refine um h3 λr h4 aa=>?_;subst aa;refine aq (ij hv h2) λp aa hp=>?_;subst aa;refine ik (pre.rel.dict h4 hp) λpe es m=>?_;obtain⟨ka,k1,k2,k3⟩:=aba m.all;refine⟨p.1,ka,rfl,xG pre.rel hp pe ok.big,⟨_,_,_,m.at_,⟨rfl,rfl,rfl⟩,rfl,yF m.all,k1,by rw[k3];exact m.nodup⟩,k2,by have:=congrArg List.length k3;rwa[aJ,aJ] at this⟩
  obtain⟨p,ka,r1,m1,d1,k1,l1⟩:=Ma hx hd;obtain⟨p2,kb,r2,m2,d2,k2,l2⟩:=Ma hy hb;subst r1 r2;have hu:G.A.units<cLine:=cU (eB _ _) (HS pre.room (show 0<=50 from jP _) 0);have go:∀r:Bool,(ka.length=kb.length->KeqHits G.A.in1 s kb ka r)->(ka.length==kb.length&&r)=b->kf V G.A s (compareOp .Eq (.ref p) (.ref p2)) b/\kf V G.A s (compareOp .NotEq (.ref p) (.ref p2)) !b:=λr hh hb=>⟨λQ E hq=>keq_eq m1 m2 d1 d2 hu hh (by rw[hb];exact hq _ (ax.refl _)),λQ E hq=>keq_ne m1 m2 d1 d2 hu hh (by rw[hb];exact hq _ (ax.refl _))⟩;have e:(match Nat.beq a.length b'.length with|true=>sT a b'|false=>some false)=some b:=e;cases hl:Nat.beq a.length b'.length with
  |true=>rw[hl] at e;have el:=bW hl;refine go b (λO=>XG k2 k1 e) ?_;rw[l1,l2,el,beq_self_eq_true];rfl
  |false=>
   rw[hl] at e;obtain rfl:=sj e;have en:ka.length≠kb.length:=λq=>by rw[l1,l2] at q;rw[q,fT] at hl;exact nomatch hl
   refine go true (λh=>absurd h en) ?_;rw[beq_eq_false_iff_ne.mpr en];rfl
def Mp(pre:ao V d q G J U H s)(ok:ef V){op:CmpOp}{y:AV}(hx:VR V J s.heap vx x)(hy:VR V J s.heap vy y)(e:fO op x y H=some b):
  kf V G.A s (compareOp op vx vy) b:=by
 have JZ:∀{r:Bool},aI y.tu (some r)=some b->vy=.none/\r=b:=λe=>by refine ur e λh1 h2=>?_;obtain rfl:=sj h2;rw[<- Cj ok hy] at h1;exact⟨eq_of_beq h1,rfl⟩
 cases op with
 |Eq=>exact(LR pre ok hx hy e).1
 |NotEq=>refine um e λc e' aa=>?_;subst aa;exact(LR pre ok hx hy e').2
 |Lt=>exact WL pre hx hy e
 |Gt=>refine ub e λi h1 e=>?_;refine um e λj h2 aa=>?_;subst aa;refine ue (eE hx h1) λt aa=>?_;subst aa;refine ue (eE hy h2) λu aa=>?_;subst aa;rw[rG];exact λQ E hq=>P.gt_int (hq _ (ax.refl _))
 |Is=>refine ua (JZ e) λaa ow=>?_;subst aa;subst ow;intro Q E hq;refine is_none ?_;rw[Cj ok hx];exact hq _ (ax.refl _)
 |IsNot=>refine ua (JZ e) λaa ow=>?_;subst aa;subst ow;intro Q E hq;refine isNot_none ?_;rw[Cj ok hx];exact hq _ (ax.refl _)
 |In=>exact(Ke pre ok hx hy e).1
 |NotIn=>refine um e λc e' aa=>?_;subst aa;exact(Ke pre ok hx hy e').2
 |_=>exact aR e
end
section
variable {V:Cf}{G:Fm}{J:Ph}{s:Shared}{U:aC}{H:Hp}{d:Nat}{q:Bool}
variable {k:Nat}
def QW{v:AV}{ρ':aC}{H':Hp}(h:mJ k U H=.ok v ρ' H'):U[k]?=some (some v)/\ρ'=U/\H'=H:=by
 unfold mJ at h;rw[cQ] at h;cases e:U[k]? with
 |none=>rw[e] at h;cases h
 |some o=>cases o with
  |none=>rw[e] at h;cases h
  |some w=>rw[e] at h;cases h;exact⟨rfl,rfl,rfl⟩
def ag.res{α β:Type}{t:Sem α}{r:dG β}{R:Ph->Heap->α->β->Prop}(h:∀v,r=.ok v U H->ag V G J s t (.ok v U H) R)(hr:r=.stuck\/∃v,r=.ok v U H):ag V G J s t r R:=by
 rcases hr with e|⟨v,e⟩
 ·rw[e];exact ag.stuck
 ·rw[e];exact h v e
def QV(k:Nat)(U:aC)(H:Hp):mJ k U H=.stuck\/∃v,mJ k U H=.ok v U H:=by
 unfold mJ;cases ae U k with
 |none=>exact .inl rfl
 |some o=>cases o with
  |none=>exact .inl rfl
  |some v=>exact .inr ⟨v,rfl⟩
variable {x:Str}
def Gn(pre:ao V d q G J U H s)(hx:G.K.sc.lookup x=some k)(hn:(x==("__classdict__":Str))=false):ag V G J s (loadName G.env x) (mJ k U H) (VR V):=
 ag.res (λv e=>by
  have hv:=(QW e).1;rcases pre.er.zU x k hx with hk|hk
  ·refine aq pre.er.ns λm tL hm=>?_;refine aq (hm.val x k hx hk v hv) λval e r=>?_;exact ag.quiet pre λQ E h=>wpAny_loadName_local pre.er.kind (hm.kind x ⟨k,hx⟩ hk) tL e (h _ _ (ax.refl _) r)
  ·refine ct (pre.er.nD x k hx hk) λc ov w=>?_;refine aq (w.val v hv) λval aa r=>?_;subst aa;rcases w.kind with h2|h2
   ·exact ag.quiet pre λQ E h=>wpAny_loadName_cell pre.er.kind h2 w.look w.cell (h _ _ (ax.refl _) r)
   ·exact ag.quiet pre λQ E h=>wpAny_loadName_free pre.er.kind h2 w.look w.cell (h _ _ (ax.refl _) r) hn) (QV k U H)
def Ld(V:Cf)(k:Nat)(v:Value)(e:GE):Prop:=match e with
 |.cv c=>∀J h,VR V J h v c
 |_=>V.gv k=some v
def se(V:Cf)(k:Nat)(mg mb:Str->Option Value)(x:Str)(v:Value):Prop:=(mg x=some v\/(mg x=none/\mb x=some v))/\(∀e,V.P.gt[k]?=some e->Ld V k v e)
section
variable {b1 b2 b3 b4 b5 b6}(x:se b1 b2 b3 b4 b5 b6)
def se.mk:=jI (se b1 b2 b3 b4 b5 b6) rfl
def se.val:=x.1
def se.is:=x.2
end
structure BQ(V:Cf):Prop where
 g:∃mg mb,V.h₀.Ns mainGlobals mg/\V.h₀.Ns builtinsNs mb/\∀(k:Nat) (x:Str),V.gl[k]?=some x->∃v,se V k mg mb x v
def W3{M:Model}{A:Around}{env:Env}{E:Value->Shared->Prop}{Q:Value->Shared->Prop}{v:Value}{mg mb:Str->Option Value}(hk:env.scope.kind=.function)(hx:env.kindOf x=some .globalImplicit)
  (hg:s.heap.Ns env.globals mg) (hb:s.heap.Ns env.builtins mb) (hv:mg x=some v\/(mg x=none/\mb x=some v)) (h:Q v s):wpAny M A (loadName env x) Q E s:=by
 unfold loadName Env.blockKind;rw[hk,hx];show wpAny M A (loadGlobal env x) Q E s;unfold loadGlobal;refine ah (wpAny_nsGet hg ?_);rcases hv with e|⟨e,e'⟩
 ·rw[e];exact aH h
 ·rw[e];refine ah (wpAny_nsGet hb ?_);rw[e'];exact aH h
def Lf(pre:ao V d q G J U H s)(yo:BQ V)(hx:G.K.kn.lookup x=some .globalImplicit)(hg:V.gl[k]?=some x):
  ∃v,(∀e,V.P.gt[k]?=some e->Ld V k v e)/\∀Q E,Q v s->∀A,wpAny (model V.prog V.w) A (loadName G.env x) Q E s:=by
 refine bB yo.g λmg mb n1 n2 yl=>?_;refine ue (yl k x hg) λv r=>?_;exact⟨v,r.is,λQ E h A=>W3 pre.er.kind (pre.er.Bb x hx) (by rw[pre.er.rO];exact n1.keeps pre.rel.keep) (by rw[pre.er.rV];exact n2.keeps pre.rel.keep) r.val h⟩
def Zz(pre:ao V d q G J U H s)(yo:BQ V)(hx:G.K.kn.lookup x=some .globalImplicit)(hg:V.gl[k]?=some x):
  ag V G J s (loadName G.env x) (yr V.P k U H) (VR V):=by
 refine aq (Lf pre yo hx hg) λv hv hl=>?_;unfold yr;rw[cQ];cases e:V.P.gt[k]? with
 |none=>exact ag.stuck
 |some g=>
  have:=hv g e;cases g with
  |cv c=>exact ag.quiet pre λQ E h=>hl _ _ (h _ _ (ax.refl _) (this _ _)) _
  |_=>exact ag.quiet pre λQ E h=>hl _ _ (h _ _ (ax.refl _) this) _
section
variable {h h':Heap}{L:Addr}
variable {X:List Addr}
def xa(hs:Heap.SameBut L h h')(hL:L∈X)(J:Ph):dD X J h h':=⟨λa o e O hx=>.inl ((hs.2 a λq=>hx (q▸hL)).trans e)⟩
def aZ.own(R:aZ V J H h)(hX:d0 X h)(hs:Heap.SameBut L h h')(hL:L∈X)(ha:V.h₀.objs.size<=L)(hφ:L∉J.map (·.2)):aZ V J H h':=R.mono (xa hs hL J) hX (λa o e=>(hs.2 a λq=>absurd (fx e) (hZ.mpr (q▸ha))).trans (R.keep a o e)) λp hp=>hs.2 _ λq=>hφ (q▸pq hp)
def d0.put(hX:d0 X h)(hs:Heap.SameBut L h h')(hL:∃o,h'.get? L=some o/\oW o):d0 X h':=λa ha=>by
 by_cases q:a=L
 ·rw[q];exact hL
 ·refine aq (hX a ha) λo e k=>?_;exact⟨o,(hs.2 a q).trans e,k⟩
def bX.own(R:bX V G J U h){ρ':aC}(hs:Heap.SameBut L h h')(hL:∃o,h'.get? L=some o/\oW o)(n:∃m,h'.Ns G.env.locals m/\kg V G J ρ' h' m)
  (c:∀(x:Str) (k:Nat),G.K.sc.lookup x=some k->(G.K.kn.lookup x=some .cell\/G.K.kn.lookup x=some .free)->∃c ov,gm V G J ρ' h' x k c ov):bX V G J ρ' h':=
 (bX.mk R.kind R.rO R.rV (R.fG.put hs hL) R.sH R.qQ R.kJ R.Bb n c R.apart R.inj R.zU)
def dB.own(F:dB V G J h)(hs:Heap.SameBut L h h')(hd:∀o,h.get? L=some o->iQ o->∃o',h'.get? L=some o'/\iQ o'):dB V G J h':=
 F.keep (Gr.refl ..) λa o O e w=>by
  by_cases q:a=L
  ·subst q;exact hd o e w
  ·exact⟨o,(hs.2 a q).trans e,w⟩
def Hr{k:Nat}{a:AV}{dd:AV}(h:(U.set k (some a))[k]?=some (some dd)):dd=a:=by
 by_cases hl:k<U.length
 ·rw[ug hl] at h;cases h;rfl
 ·rw[zg (by simpa using hl)] at h;exact aR h
def bX.putL(R:bX V G J U h){x:Str}{k:Nat}{v:Value}{a:AV}{m:Str->Option Value}(hx:G.K.sc.lookup x=some k)(hk:G.K.kn.lookup x=some .local)(hm:kg V G J U h m)
  (hn:h'.Ns G.env.locals (λy=>if y=x then some v else m y)) (hs:Heap.SameBut G.env.locals h h') (hv:VR V J h v a):bX V G J (U.set k (some a)) h':=by
 have mono:∀{v:Value} {d:AV},VR V J h v d->VR V J h' v d:=λr=>r.mono (xa hs R.kJ J) R.fG (Gr.refl ..);refine mQ (id hn) λo es ep ho hd O=>?_;refine R.own hs ⟨o,ho,.inl ⟨es,ep,hd⟩⟩ ⟨_,hn,kg.mk hm.kind (λy j hy nr d hd=>?_)⟩ λy j hy nr=>?_
 ·by_cases e:y=x
  ·subst e;rw[hx] at hy;obtain rfl:=sj hy;cases Hr hd;exact⟨v,if_pos rfl,mono hv⟩
  ·rw[pA (show k≠j from λq=>e (R.inj y x k (q▸hy) hx))] at hd;refine aq (hm.val y j hy nr d hd) λv' e' r=>?_;exact⟨v',(if_neg e).trans e',mono r⟩
 ·refine ct (R.nD y j hy nr) λc ov w=>?_;refine aq w.cell λoc eo hc=>?_;refine⟨c,ov,gm.mk w.look w.kind ⟨oc,(hs.2 c w.loc).trans eo,hc⟩ w.loc w.out w.low w.own (λd hd=>?_)⟩;rw[pA (λq=>by have:y=x:=R.inj y x k (q▸hy) hx;subst this;rw[hk] at nr;rcases nr with z|z<;>cases z)] at hd
  refine aq (w.val d hd) λv' e' r=>?_;exact⟨v',e',mono r⟩
def bX.Ag(R:bX V G J U h){x:Str}{k:Nat}{v:Value}{a:AV}{c:Addr}{ov:Option Value}(hx:G.K.sc.lookup x=some k)(hk:G.K.kn.lookup x=some .cell)(w:gm V G J U h x k c ov)
  (hn:h'.IsCell c (some v)) (hs:Heap.SameBut c h h') (hv:VR V J h v a):bX V G J (U.set k (some a)) h':=by
 have mono:∀{v:Value} {d:AV},VR V J h v d->VR V J h' v d:=λr=>r.mono (xa hs (w.own hk).1 J) R.fG (Gr.refl ..);refine aq R.ns λm hm hl=>?_;refine aq (id hn) λo ho hd=>?_;refine R.own hs ⟨o,ho,.inr (.inl ⟨_,hd⟩)⟩ ⟨m,hm.sameBut hs (fi w.loc),kg.mk hl.kind (λy j hy nr d hd=>?_)⟩ λy j hy nr=>?_
 ·rw[pA (λq=>by have:y=x:=R.inj y x k (q▸hy) hx;subst this;rw[hk] at nr;cases nr)] at hd
  refine aq (hl.val y j hy nr d hd) λv' e' r=>?_;exact⟨v',e',mono r⟩
 ·by_cases e:y=x
  ·subst e;rw[hx] at hy;obtain rfl:=sj hy;refine⟨c,some v,gm.mk w.look w.kind hn w.loc w.out w.low w.own (λd hd=>?_)⟩;cases Hr hd;exact⟨v,rfl,mono hv⟩
  ·refine ct (R.nD y j hy nr) λc' Vl w'=>?_;refine aq w'.cell λoc eo hc=>?_;refine⟨c',Vl,gm.mk w'.look w'.kind ⟨oc,(hs.2 c' (λq=>e (R.apart y x c (q▸w'.look) w.look):c'≠c)).trans eo,hc⟩ w'.loc w'.out w'.low w'.own (λd hd=>?_)⟩;rw[pA (show k≠j from λq=>e (R.inj y x k (q▸hy) hx))] at hd;refine aq (w'.val d hd) λv' e' r=>?_;exact⟨v',e',mono r⟩
end
def GX(pre:ao V d q G J U H s){v:Value}{a:AV}(hx:G.K.sc.lookup x=some k)(hk:G.K.kn.lookup x=some .local\/G.K.kn.lookup x=some .cell)(hv:VR V J s.heap v a):
  ag V G J s (storeName G.env x v) (lE k a U H) (λO O O O=>True):=by
 unfold lE;cases hl:Nat.blt k U.length with
 |false=>exact ag.stuck
 |true=>
  show ag V G J s _ (.ok () (ai U (some a) k) H) _;rw[sN];intro _;have R:=pre.er;rcases hk with hk|hk
  ·refine aq R.ns λm tL hm=>?_;refine wpAny_storeName_local (hm.kind x ⟨k,hx⟩ hk) tL (λh' dY hs=>?_) (by rw[R.kind];rfl:(G.env.scope.kind==.class||(G.env.scope.kind==.module&&G.env.locals != G.env.globals))=false);refine mQ (id dY) λo es ep ho hd O=>?_;exact⟨(),_,H,J,rfl,(dI.mk (Nx.mk (xa hs R.kJ J) (Gr.refl ..) rfl rfl (w9 hs ⟨o,ho⟩)) (pre.rel.own R.fG hs R.kJ (R.sH _ R.kJ) (R.qQ _ R.kJ)) (R.putL hx hk hm dY hs hv) (pre.fr.own hs λO O O=>⟨o,ho,es,ep,hd⟩)),trivial⟩
  ·refine ct (R.nD x k hx (.inl hk)) λc ov w=>?_;refine ua (w.own hk) λh7 Zm=>?_;refine wpAny_storeName_cell R.kind Zm w.look w.cell λh' dY hs=>?_;refine aq w.cell λoc ec hc=>?_;exact⟨(),_,H,J,rfl,(dI.mk (Nx.mk (xa hs h7 J) (Gr.refl ..) rfl rfl (w9 hs (aq dY λo e O=>⟨o,e⟩))) (pre.rel.own R.fG hs h7 w.low w.out) (R.Ag hx hk w dY hs hv) (pre.fr.own hs λo e bV=>ct bV λes n hd=>by rw[ec] at e;obtain rfl:=sj e;rw[hc] at hd;cases hd)),trivial⟩
end
section
variable {V:Cf}{G:Fm}{J:Ph}{s:Shared}{U:aC}{H:Hp}{d:Nat}{q:Bool}
noncomputable def rL:Expr->Bool
 |.Slice ..=>true
 |_=>false
variable {slice:Expr}
def zB(h:rL slice=false)(o i:Value):subscripted slice false o i=operate [o,i] (getItem o i):=by cases slice<;>first|rfl|exact absurd h.symm qG
variable {lo hi:Option Expr}
def Cr{p:Pos}(o i:Value):subscripted (.Slice lo hi none p) false o i=operate [i,o] (getItem o i):=rfl
structure Ix{α:Type}(i:Int)(l:List α)(v:α)(j:Nat):Prop where
 seq:seqIndex? i l.length=some j
 lo:-(2^63)<=i
 hi:i<2^63
 get:l[j]?=some v
variable {n:Nat}
def Hx{m:Nat}(h:m<n):seqIndex? (m:Int) n=some m:=by
 unfold seqIndex?;have e:(if(m:Int)<0 then(m:Int)+(n:Int) else(m:Int))=(m:Int):=if_neg (Int.not_lt.mpr (kq m));dsimp only;rw[e,decide_eq_true (kq m),decide_eq_true (qM.mpr h)]
 rfl
def Ta{m:Nat}(h:m<n):seqIndex? (Int.negSucc m) n=some (n-(m+1)):=by have e1:Int.negSucc m+(n:Int)=((n-(m+1):Nat):Int):=Int.subNatNat_of_le h;have e:=Hx (m:=n-(m+1)) (n:=n) (Nat.sub_lt (cU (jP m) h) (qO m));unfold seqIndex? at e⊢;dsimp only at e⊢;rw[if_neg (Int.not_lt.mpr (kq _))] at e;rw[if_pos (sx m),e1];exact e
variable {α:Type}
def DY{i:Int}{l:List α}{v:α}(h:j6 i l=some v)(hn:l.length<=az):∃j,Ix i l v j:=by
 cases i with
 |ofNat m=>have h:ae l m=some v:=h;rw[cQ] at h;have k:=(mE.mp h).1;exact⟨m,Hx k,sE (Int.neg_nonpos_of_nonneg (Int.pow_nonneg (by decide))) (kq m),vF (aM (fF k) hn),h⟩
 |negSucc m=>refine ur h λh1 h2=>?_;rw[cQ] at h2;have h1:=bG.mp h1;exact⟨_,Ta h1,by rw[Int.negSucc_eq];exact Int.neg_le_neg (Int.le_of_lt (vF (n:=m+1) (aM h1 hn))),Int.lt_of_lt_of_le (sx m) (Int.pow_nonneg (by decide)),h2⟩
variable {value:Expr}{vo:Value}{l:List AV}{a:Addr}{items:List Value}
def JW(hs:rL slice=false){i:Int}{t:Tok}{v:AV}(x:Ls V J s.heap vo l a items n)(hi:j6 i l=some v):
  fQ V G J s (subscriptTail value slice vo (.int i t)) v:=by
 intro Q E h;refine ue (DY hi x.len) λj ix=>?_;refine aq (x.all.get ix.get) λw hw rw=>?_;rw[x.eq];refine tail_any x.at_.isList.typeIs slot_list_getitem.lookup ?_ (zB hs _ _);have sz:items.toArray.size=l.length:=by rw[dj,x.all.length]
 have he:=ix.seq;unfold seqIndex? at he;dsimp only at he;have Km:items.toArray[j]?=some w:=by simpa using hw
 by_cases h0:i<0
 ·rw[if_pos h0] at he
  set_option tactic.hygienic true in split at he
  ·rename_i hc;obtain rfl:=sj he;simp only[Bool.and_eq_true,decide_eq_true_iff] at hc;exact wpAny_getItem_list_neg x.at_.isList h0 (by rw[sz];exact Int.le_of_sub_nonneg (by rw[Int.sub_neg];exact hc.1)) ix.lo (by rw[sz];exact Km) (h w _ (ax.refl _) rw)
  ·exact aR he
 ·rw[if_neg h0] at he;split at he
  ·obtain rfl:=sj he;exact wpAny_getItem_list x.at_.isList (Int.not_lt.mp h0) ix.hi Km (h w _ (ax.refl _) rw)
  ·exact aR he
def XZ(hs:rL slice=false){i:Int}{t:Tok}{v:AV}(x:Sq J a l (IsT s.heap a items.toArray n) (aQ V J s.heap items l))(hi:j6 i l=some v):
  fQ V G J s (subscriptTail value slice (.ref a) (.int i t)) v:=by
 intro Q E h;refine ue (DY hi x.len) λj ix=>?_;refine aq (x.all.get ix.get) λw hw rw=>?_;exact tail_any (T:="tuple") ⟨_,x.at_,rfl⟩ F.slot_tuple_getitem.lookup (P.getItem_tuple x.at_ ix.lo ix.hi (by rw[dj,x.all.length];exact ix.seq) (by rw[pB];exact hw) (h w _ (ax.refl _) rw)) (zB hs _ _)
def X0(hs:rL slice=false){vi:Value}{k:List Nat}{ep:Nat}{l:List (List Nat×AV)}{es:List DictEntry}{v:AV}(m:i3 V J s.heap a ep l es)(hk:(kS V).is k vi=true)(e:cy k l=some v):
  fQ V G J s (subscriptTail value slice (.ref a) vi) v:=by
 intro Q E h;rcases Bw k m.all with⟨a1,_⟩|⟨w,val,a1,a2,a3⟩
 ·rw[a1] at e;exact aR e
 ·rw[a1] at e;obtain rfl:=sj e;exact tail_any m.map.typeIs slot_dict_getitem.lookup (wpAny_getItem_of hk m.map a2 (h _ _ (ax.toks ..) a3)) (zB hs _ _)
def R5(pre:ao V d q G J U H s)(hs:rL slice=false){vi:Value}{o i:AV}(ho:VR V J s.heap vo o)(hi:VR V J s.heap vi i):
  ag V G J s (subscriptTail value slice vo vi) (cu (lB o i) U H) (VR V):=ag.opt pre λv e Q E h=>by
 cases o with
 |str l=>
  refine ub e λk h1 e=>?_;refine um e λc h3 aa=>?_;subst aa;refine ue (eE hi h1) λt aa=>?_;subst aa;refine aq ho λu aa o=>?_;clear ho;subst aa;refine ue (DY h3 o.len) λj ix=>?_;refine tail_any (typeIs_str _ _ _) slot_str_getitem.lookup (P.getItem_str ?_ (c:=65+c) ?_ (h _ _ (ax.toks ..) (.str (.one (o.sign c (jS ix.get)))))) (zB hs _ _)
  ·rw[decide_eq_false (Int.not_lt.mpr ix.lo),decide_eq_false (Int.not_le.mpr ix.hi)];rfl
  ·show(seqIndex? _ (V.enc l).toArray.size).bind _=_;rw[dj,rU,ix.seq];show(V.enc l).toArray[j]?=_;rw[pB];unfold Cf.enc;rw[qF,ix.get]
   rfl
 |lst l=>refine ub e λk h1 e=>?_;refine ue (eE hi h1) λt aa=>?_;subst aa;refine iJ (lg (x:=.lst l) pre.rel ho rfl) λa items n x=>?_;exact JW hs x e Q E h
 |tup l=>refine ub e λk h1 e=>?_;refine ue (eE hi h1) λt aa=>?_;subst aa;refine cO ho λa items n aa x=>?_;clear ho;subst aa;exact XZ hs x e Q E h
 |ref n=>
  have e:(match bx H n with
   |some l=>(i.int?).bind λk=>j6 k l
   |none=>(cD H n).bind λr=>(i.de).bind λk=>cy k r.2)=some v:=e
  refine aq (ij ho rfl) λp aa hp=>?_;subst aa;cases hl:bx H n with
  |some l=>rw[hl] at e;refine ub e λk h1 e=>?_;refine ue (eE hi h1) λt aa=>?_;subst aa;refine ll (pre.rel.list hl hp) λO items n x=>?_;exact JW hs x e Q E h
  |none=>rw[hl] at e;refine ub e λr h1 e=>?_;refine ub e λk h2 e=>?_;refine ik (pre.rel.dict h1 hp) λO es m=>?_;exact X0 hs m (sL hi h2).1 e Q E h
 |_=>exact aR e
def Wt(x:Int)(n:Nat):(max 0 (min x (n:Int))).toNat=min x.toNat n:=by
 cases x with
 |ofNat k=>
  show(max 0 (min (k:Int) (n:Int))).toNat=min k n;rcases Nat.le_total k n with h|h
  ·rw[Int.min_eq_left (nO.mpr h)];exact(wk h).symm▸congrArg Int.toNat (Int.max_eq_right (kq k))
  ·rw[Int.min_eq_right (nO.mpr h)];exact(Nat.min_eq_right h).symm▸congrArg Int.toNat (Int.max_eq_right (kq n))
 |negSucc k=>rw[Int.min_eq_left (Int.le_of_lt (Int.lt_of_lt_of_le (sx k) (kq _))),Int.max_eq_left (Int.le_of_lt (sx k))];exact(Nat.zero_min n).symm
def E3(n:Nat)(i:Int):clipAt n i=min (vS n i) n:=by
 unfold clipAt;rw[Wt];cases i with
 |ofNat k=>rfl
 |negSucc k=>rw[if_pos (sx k)];show min (Int.subNatNat n (k+1)).toNat n=min (n-(k+1)) n;rw[Int.subNatNat_eq_coe,Int.toNat_sub]
def abJ(n:Nat)(i:Int):clipAt n i<=n:=E3 n i▸Nat.min_le_right ..
def aa4{m:List α}(a n:Nat)(h:m.length<=n):m.drop (min a n)=m.drop a:=by
 rcases Nat.le_total a n with k|k
 ·rw[wk k]
 ·rw[Nat.min_eq_right k,List.drop_eq_nil_of_le h,List.drop_eq_nil_of_le (aM h k)]
def By(l:List α)(lo hi:Option Int):List.take (hi.elim l.length (clipAt l.length)-lo.elim 0 (clipAt l.length)) (List.drop (lo.elim 0 (clipAt l.length)) l)=dA lo hi l:=by
 rw[<- List.drop_take];have e:∀m:List α,m.length<=l.length->m.drop (lo.elim 0 (clipAt l.length))=match lo with|none=>m|some i=>m.drop (vS l.length i):=λm h=>by
  cases lo with
  |none=>rfl
  |some a=>show m.drop (clipAt _ a)=_;rw[E3];exact aa4 _ _ h
 rw[e _ (List.length_take_le' ..)];cases hi with
 |none=>show(match lo with|none=>l.take l.length|some i=>(l.take l.length).drop (vS l.length i))=_;rw[List.take_length];rfl
 |some b=>show(match lo with|none=>l.take (clipAt _ b)|some i=>(l.take (clipAt _ b)).drop (vS l.length i))=_;rw[E3,<- List.take_eq_take_min];rfl
def uU{h:Heap}{v:Value}{x:AV}{b:Option Int}(hv:VR V J h v x)(e:kP x=some b):IsPart v b/\∃pv:Option (Int×Tok),v=partValue pv/\b=pv.map (·.1):=by
 have num:∀e:((x.int?).bind λi=>aI (Nat.ble i.natAbs az) (some (some i)))=some b,IsPart v b/\∃pv:Option (Int×Tok),v=partValue pv/\b=pv.map (·.1):=λe=>by refine ub e λi h1 e=>?_;refine ur e λO e=>?_;obtain rfl:=sj e;refine ue (eE hv h1) λt aa=>?_;subst aa;exact⟨.int _ _,some (_,t),rfl,rfl⟩
 cases x with
 |none=>subst hv;obtain rfl:=sj e;exact⟨.none,none,rfl,rfl⟩
 |_=>exact num e
def yI(a b:Option Int)(l:List α):(dA a b l).length<=l.length/\∀c∈dA a b l,c∈l:=by
 unfold dA;cases a<;>cases b<;>dsimp only
 ·exact⟨bf _,λO h=>h⟩
 ·exact⟨by rw[uw];exact Nat.min_le_right ..,λc h=>List.mem_of_mem_take h⟩
 ·exact⟨by rw[qE];exact nU ..,λc h=>List.mem_of_mem_drop h⟩
 ·exact⟨by rw[qE,uw];exact aM (nU ..) (Nat.min_le_right ..),λc h=>List.mem_of_mem_take (List.mem_of_mem_drop h)⟩
def abr(a b:Option Int)(l:List α):(dA a b l).Sublist l:=by
 unfold dA;cases a<;>cases b
 ·exact .refl _
 ·exact List.take_sublist ..
 ·exact List.drop_sublist ..
 ·exact(List.drop_sublist ..).trans (List.take_sublist ..)
def Bz{β:Type}(f:α->β)(a b:Option Int)(l:List α):dA a b (l.map f)=(dA a b l).map f:=by unfold dA;cases a<;>cases b<;>simp only[aJ,List.map_take,List.map_drop]
def aQ.cut{h:Heap}{vs:List Value}(r:aQ V J h vs l)(a b:Option Int):aQ V J h (dA a b vs) (dA a b l):=by have e:=r.length;unfold dA;rw[e];cases b<;>cases a<;>first|exact r|exact r.drop _|exact r.take _|exact(r.take _).drop _
def wY(s:Shared)(vl vu:Value):Shared:={s with heap:=s.heap.push {cls:=.type "slice",data:=.fields #[vl,vu,.none]}}
def SO{prog:Program}{w:World}{A:Around}{s1:Shared}{sa:Addr}{xs:List Nat}{t:Tok}{vl vu:Value}{a b:Option Int}(ok:cS V xs)(xX:s1.heap.IsSliceOf sa vl vu .none)(hl:∃pv:Option (Int×Tok),vl=partValue pv/\a=pv.map (·.1))(hu:∃pv:Option (Int×Tok),vu=partValue pv/\b=pv.map (·.1)){Q:Value->Shared->Prop}{E:Value->Shared->Prop}
  (h:∀v s',ax s1 s'->VR V J s'.heap v (.str (dA a b xs))->Q v s'):wpAny (model prog w) A (getItem (.str (V.tx xs) t) (.ref sa)) Q E s1:=by
 refine aq hl λpl aa el=>?_;clear hl;subst aa;refine aq hu λpu aa eu=>?_;clear hu;subst aa;have X2:s1.heap.IsSlice sa pl pu none:=xX;have len:(V.tx xs).cps.size=(V.enc xs).length:=dj;have Kv:slicePicked (V.tx xs) pl pu none=(List.range (b.elim (V.enc xs).length (clipAt (V.enc xs).length)-a.elim 0 (clipAt (V.enc xs).length))).map (a.elim 0 (clipAt (V.enc xs).length)+·):=by
  rw[<- sliceRange_one];show Builtin.Str.strSliceIndices _ _ 1 (V.tx xs).cps.size=_;rw[len];have:=sliceBounds_plain (pl.map (·.1)) (pu.map (·.1)) (V.enc xs).length;rw[<- el,<- eu] at this;unfold sliceBounds at this;unfold Builtin.Str.strSliceIndices;simp -iota only[Option.getD_none,Prod.mk.injEq] at this;rw[<- this.1,<- this.2.1,el,eu]
  rfl
 have A8:(slicePicked (V.tx xs) pl pu none).filterMap ((V.tx xs).cps[·]?)=V.enc (dA a b xs):=by rw[Kv];show List.filterMap (λx=>(V.enc xs).toArray[x]?) _=_;rw[pick_run];exact(By (V.enc xs) a b).trans (Bz ..)
 have xB:cS V (dA a b xs):=(cS.mk (aM (yI ..).1 ok.len) (λc hc=>ok.sign c ((yI ..).2 c hc)));refine wpAny_getItem_str_slice X2 (by decide) ?_;unfold sliceMade
 set_option tactic.hygienic true in split
 ·rename_i hw;simp only[Option.map_none,Option.getD_none,Bool.and_eq_true,beq_iff_eq] at hw;have e:=congrArg List.length ((By (V.enc xs) a b).trans (Bz _ a b xs));rw[uw,qE,aJ] at e;have h2:(slicePicked (V.tx xs) pl pu none).length=(dA a b xs).length:=by
   rw[Kv,aJ,List.length_range,<- e];refine(wk ?_).symm;cases hb:b with
   |none=>exact bf _
   |some k=>exact Nat.sub_le_sub_right (abJ ..) _
  have h3:(dA a b xs).length=xs.length:=by
   rw[<- h2];have:(slicePicked (V.tx xs) pl pu none).length=(V.tx xs).length:=by first|exact hw.2|exact hw.1
   rw[this];show(V.enc xs).toArray.size=_;rw[dj,rU]
  have Em:dA a b xs=xs:=(abr a b xs).eq_of_length h3;rw[Em] at h;exact h _ _ (ax.refl _) (.str ok)
 ·rw[A8];refine⟨?_,h _ _ (ax.toks ..) (.str xB)⟩;show(V.enc (dA a b xs)).toArray.size<=sizeLine;rw[dj,rU];exact i8 xB.len
def SP(pre:ao V d q G J U H s){p:Pos}{vl vu:Value}{o l u:AV}(ho:VR V J s.heap vo o)(hl:VR V J s.heap vl l)(hu:VR V J s.heap vu u):
  TT V G J s (λQ E=>wpAny (model V.prog V.w) G.A (subscriptTail value (.Slice lo hi none p) vo (.ref s.heap.objs.size)) Q E (wY s vl vu)) (cu (kC o l u) U H) (VR V):=by
 have g0:ax s (wY s vl vu):=ax.push s _ s.toks;have C4:=pre.grow g0;have xX:(wY s vl vu).heap.IsSliceOf s.heap.objs.size vl vu .none:=Heap.IsSliceOf.new ..;have ho:=g0.vr ho;have hl:=g0.vr hl;have hu:=g0.vr hu;refine TT.imp (W:=λQ E=>wpAny (model V.prog V.w) G.A (subscriptTail value (.Slice lo hi none p) vo (.ref s.heap.objs.size)) Q E (wY s vl vu)) (λO O h=>h) (TT.last (g0.nx G.X J) ?_);generalize wY s vl vu=s1 at *;refine ag.opt C4 λv e Q E h=>?_;have lists:∀e:((cH H o).bind λm=>(kP l).bind λa=>(kP u).map λb=>.lst (dA a b m))=some v,wpAny (model V.prog V.w) G.A (subscriptTail value (.Slice lo hi none p) vo (.ref s.heap.objs.size)) Q E s1:=λe=>by refine ub e λm h1 e=>?_;refine ub e λa h2 e=>?_;refine um e λb h3 aa=>?_;subst aa;refine iJ (lg C4.rel ho h1) λad items n x=>?_;rw[x.eq];refine tail_any x.at_.isList.typeIs slot_list_getitem.lookup (wpAny_getItem_list_slice x.at_.isList xX (uU hl h2).1 (uU hu h3).1 .none (by simp) (h _ _ (ax.push s1 _ s1.toks) ?_) (i8 x.small)) (Cr _ _);refine Dl C4.rel (n:=0) (items:=dA a b items) (ax.push s1 _ s1.toks) ?_ (x.all.cut a b) (aM (yI ..).1 x.len);rw[slicePick_plain,dj,By];exact IsL.new ..
 cases o with
 |cE m=>
  refine ub e λa h2 e=>?_;refine um e λb h3 aa=>?_;subst aa;refine bB ho λbs t aa z ok=>?_;clear ho;subst aa;have A8:(KBy.picked bs a b).toList.map UInt8.toNat=V.enc (dA a b m):=by rw[KBc.picked_eq];have:=By bs.toList a b;rw[pz] at this;show(List.take _ _).map _=_;refine(congrArg (List.map UInt8.toNat) this).trans ?_;rw[<- Bz,z];exact Bz ..
  have xB:cS V (dA a b m):=(cS.mk (aM (yI ..).1 ok.len) (λc hc=>ok.sign c ((yI ..).2 c hc)));refine tail_any (typeIs_bytes _ _ _) FB.slot_bytes_getitem.lookup (getItem_meets (typeIs_bytes _ _ _) (by decide) FB.slot_bytes_getitem FB.entry_bytes_getitem (FB.args_bytes_getitem_2 _ _) (KBc.meets_slice2 bs t _ (uU hl h2).1 (uU hu h3).1)
   ⟨xX,?_,λt' k'=>h _ _ (ax.toks s1 k') ⟨_,_,rfl,A8,xB⟩⟩) (Cr _ _)
  rw[Ff A8];exact i8 xB.len
 |str xs=>refine ub e λa h2 e=>?_;refine um e λb h3 aa=>?_;subst aa;refine aq ho λt aa ok=>?_;clear ho;subst aa;exact tail_any (typeIs_str _ _ _) slot_str_getitem.lookup (SO ok xX (uU hl h2).2 (uU hu h3).2 h) (Cr _ _)
 |_=>exact lists e
end
section
variable {V:Cf}{G:Fm}{J:Ph}{s:Shared}{U:aC}{H:Hp}{d:Nat}{q:Bool}
variable {a:Addr}{items:List Value}
def wG{k:Nat}{f:Array Value->Array Value}{items':List Value}(e:IsL s.heap a items.toArray k)(hf:f items.toArray=items'.toArray):
  ∃k',IsL (s.heap.update a (Obj.mapSeq f)) a items'.toArray k':=⟨_,by have:=IsL.update e f;rwa[hf] at this⟩
variable {Q:Unit->Shared->Prop}{E:Value->Shared->Prop}
def S7{A:Around}{n:Nat}{k:Int}{t:Tok}{v:Value}(h1:IsL s.heap a items.toArray n)(h0:0<=k)(A7:k<2^63)(hn:k<items.length)
  (h:Q () {s with heap:=s.heap.update a (Obj.mapSeq (·.setIfInBounds k.toNat v))}):wpAny (model V.prog V.w) A (setItem (.ref a) (.int k t) v) Q E s:=by
 have hl:=h1.isList;unfold setItem
 try with_reducible refine c8 ?_
 refine ah (wpAny_sequenceKey hl.typeIs (by decide) ?_);refine ah (wpAny_callSpecial?_slot (name:=Str.ofString "__setitem__") hl.typeIs slot_list_setitem
  (uu slot_list_setitem hl.typeIs entry_list_setitem ?_ (args_list_setitem _ _ _)))
 show wpAny _ _ (Builtin.List.listSubscript? (.int k t)>>=_) _ _ s;refine ah (wpAny_listSubscript_int (fitsIndex_of h0 A7) ?_);clear A7;refine ue (Int.eq_ofNat_of_zero_le h0) λj aa=>?_;subst aa;have hj:j<items.toArray.size:=by rw[dj];exact qM.mp hn
 have Yz:items.toArray[j]?=some items.toArray[j]:=Array.getElem?_eq_getElem hj;show wpAny _ _ ((seqItemAt a j>>=λr=>pure (r.map (j,·)))>>=_) _ _ s;refine ah (ah (wpAny_seqItemAt h1 rfl (aH ?_)));rw[Yz];refine ah (wpAny_setSeqItemAt h1 rfl ?_)
 first
  |exact ah (wpAny_point (ah (wpAny_letGo (aH ⟨.none,rfl,aH h⟩))))
  |exact ah (wpAny_letGo (aH ⟨.none,rfl,aH h⟩))
  |exact aH ⟨.none,rfl,aH h⟩
def o8(V:Cf)(J:Ph)(h:Heap)(x:List Nat)(l:List (List Nat×AV))(es:List DictEntry)(i:Nat):Prop:=(c5 x l=true)/\(∀vv v,VR V J h vv v->hO V J h (eH x v l) (es.modify i λe=>{e with val:=vv}))/\(hO V J h (oR x l) (es.eraseIdx i))/\(i<es.length)
section
variable {b1 b2 b3 b4 b5 b6 b7}(x:o8 b1 b2 b3 b4 b5 b6 b7)
def o8.mk:=fp (o8 b1 b2 b3 b4 b5 b6 b7) rfl
def o8.has:=x.1
def o8.put:=x.2.1
def o8.drop:=x.2.2.1
def o8.lt:=x.2.2.2
end
def sf(V:Cf)(J:Ph)(h:Heap)(x:List Nat)(l:List (List Nat×AV))(es:List DictEntry):Prop:=(c5 x l=false)/\(∀kv vv v,(kS V).is x kv=true->VR V J h vv v->hO V J h (eH x v l) (es++[⟨(kS V).hash x,kv,vv⟩]))
section
variable {b1 b2 b3 b4 b5 b6}(x:sf b1 b2 b3 b4 b5 b6)
def sf.mk:=jI (sf b1 b2 b3 b4 b5 b6) rfl
def sf.has:=x.1
def sf.put:=x.2
end
theorem Mc(x:List Nat)(ox:cS V x){h:Heap}:∀{l:List (List Nat×AV)} {es:List DictEntry},hO V J h l es ->
  (es.toArray.findIdx? (λe=>(kS V).is x e.key)=none/\sf V J h x l es)\/∃i,es.toArray.findIdx? (λe=>(kS V).is x e.key)=some i/\o8 V J h x l es i:=by
 intro l
 induction l with
 |nil=>intro _ e;subst e;exact .inl ⟨by rw[List.findIdx?_toArray];rfl,sf.mk rfl (λt vv v hk hv=>⟨_,_,rfl,(DR.mk hk rfl hv ox),rfl⟩)⟩
 |cons p l gI=>
  intro _ bV;refine bB bV λe r q z y=>?_;clear bV;subst q;have ih:=gI y;rw[List.findIdx?_toArray] at ih⊢;rw[List.findIdx?_cons,JL z.key];have hh:c5 x (p::l)=(match ak p.1 x with|true=>some p.2|false=>cy x l).isSome:=rfl;have hp:∀v,eH x v (p::l)=match ak p.1 x with|true=>(p.1,v)::l|false=>p::eH x v l:=λv=>rfl
  have hd:oR x (p::l)=match ak p.1 x with|true=>l|false=>p::oR x l:=rfl
  cases hq:ak p.1 x with
  |true=>exact .inr ⟨0,rfl,o8.mk (by rw[hh,hq];rfl) (λvv v hv=>by rw[hp,hq];exact⟨_,_,rfl,(DR.mk z.key z.hash hv z.ok),y⟩) (by rw[hd,hq];exact y) (qO _)⟩
  |false=>
   rcases ih with⟨a1,a2⟩|⟨i,a1,a2⟩
   ·exact .inl ⟨by rw[a1];rfl,sf.mk (by rw[hh,hq];exact a2.has) (λt vv v hk hv=>by rw[hp,hq];exact⟨_,_,rfl,z,a2.put t vv v hk hv⟩)⟩
   ·exact .inr ⟨i+1,by rw[a1];rfl,o8.mk (by rw[hh,hq];exact a2.has) (λvv v hv=>by rw[hp,hq];exact⟨_,_,rfl,z,a2.put vv v hv⟩) (by rw[hd,hq];exact⟨_,_,rfl,z,a2.drop⟩) (Nat.succ_lt_succ a2.lt)⟩
theorem Mb{h:Heap}:∀{l:List (List Nat×AV)} {es:List DictEntry},hO V J h l es->es.length=l.length:=by
 intro l
 induction l with
 |nil=>intro _ e;subst e;rfl
 |cons _ _ ih=>intro _ bV;refine bB bV λO O q O y=>?_;clear bV;subst q;exact congrArg (·+1) (ih y)
theorem KY(x:List Nat):∀l:List (List Nat×AV),c5 x l=true↔x∈l.map (·.1)
 |[]=>⟨λh=>(nomatch h),λh=>(nomatch h)⟩
 |p::r=>by
  show(match ak p.1 x with|true=>some p.2|false=>cy x r).isSome=true↔_;rw[bE,bQ];cases h:ak p.1 x with
  |true=>exact⟨λO=>.inl ((vJ _ _).mp h).symm,λO=>rfl⟩
  |false=>refine(KY x r).trans ⟨.inr,λk=>k.resolve_left λq=>?_⟩;have:=(vJ _ _).mpr q.symm;rw[h] at this;cases this
theorem C1(x:List Nat)(v:AV):∀l:List (List Nat×AV),(eH x v l).map (·.1)=if c5 x l=true then l.map (·.1) else l.map (·.1)++[x]
 |[]=>rfl
 |p::r=>by
  show List.map (λq:List Nat×AV=>q.1) (match ak p.1 x with|true=>(p.1,v)::r|false=>p::eH x v r)=if(match ak p.1 x with|true=>some p.2|false=>cy x r).isSome=true then _ else _;cases h:ak p.1 x with
  |true=>rfl
  |false=>have ih:=C1 x v r;show p.1::(eH x v r).map (·.1)=if c5 x r=true then p.1::r.map (·.1) else p.1::(r.map (·.1)++[x]);rw[ih];split<;>rfl
variable {v:AV}{l:List (List Nat×AV)}
def Io{x:List Nat}(h:(l.map (·.1)).Nodup):((eH x v l).map (·.1)).Nodup:=by
 rw[C1]
 set_option tactic.hygienic true in split
 ·exact h
 ·rename_i hn;rw[KY] at hn;rw[sq];exact⟨h,by simp,λa ha b hb=>by rw[fU.mp hb];exact λe=>hn (e▸ha)⟩
def Vb(k:List Nat)(v:AV)(l:List (List Nat×AV)):(eH k v l).length<=l.length+1:=by
 have:=congrArg List.length (C1 k v l);rw[aJ] at this;rw[this];split
 ·rw[aJ];exact i4 _
 ·rw[bF,aJ];exact bf _
def aa6(k:List Nat):∀l:List (List Nat×AV),(oR k l).Sublist l:=by
 intro r
 induction r with
 |nil=>exact .slnil
 |cons p r ih=>
  show(match ak p.1 k with|true=>r|false=>p::oR k r).Sublist _;cases ak p.1 k with
  |true=>exact .cons _ (.refl _)
  |false=>exact(ih).cons_cons _
def Cn{o o':Obj}{f:Obj->Obj}(e:s.heap.get? a=some o)(hf:f o=o')(tN:o'.isFreed=false):(s.heap.update a f).get? a=some o':=by subst hf;exact qJ _ e tN
def ag.wH{α:Type}{t:Sem α}{f:Hp->Option Hp}(h:∀H',f H=some H'->ag V G J s t (.ok () U H') (λO O O O=>True)):ag V G J s t (Mine.gn f U H) (λO O O O=>True):=by
 unfold Mine.gn;cases e:f H with
 |none=>exact ag.stuck
 |some H'=>exact h H' e
variable {ep:Nat}{es:List DictEntry}
def It{h:Heap}{p:Addr×Addr}(x:iG V J h p ep l es):OR V J h p (.dict ep l):=⟨es,x⟩
variable {vv:Value}
def Mg{k:List Nat}{kv:Value}{n:Nat}{ad:Addr}(hp:J[n]?=some (ad,ad))(m:i3 V J s.heap ad ep l es)(nv:(kS V).is k kv=true)(o:cS V k)(hv:VR V J s.heap vv v)(hl:l.length<az){A:Around} 
  (h:∀s',jt s s' ad->OR V J s'.heap (ad,ad) (AO.dict (match c5 k l with|true=>ep|false=>ep+1) (eH k v l))->(∃o,s'.heap.get? ad=some o)->Q () s'):wpAny (model V.prog V.w) A (dictSet ad kv vv) Q E s:=by
 have Ej:=Mb m.all;have len:(eH k v l).length<=az:=aM (Vb ..) hl;unfold dictSet
 try with_reducible refine c8 ?_
 refine ah ((kS V).pyHash nv ?_);unfold dictSetHashed
 try with_reducible refine c8 ?_
 refine ah (wpAny_dictFind_of (s:={s with toks:=s.toks+1}) nv m.at_ rfl (yF m.all) ?_);rcases Mc k o m.all with⟨a1,a2⟩|⟨i,a1,a2⟩
 ·rw[a1];rw[a2.has] at h;have sb:=nS s.heap ad (Obj.mapDictKeys (·.push (⟨(kS V).hash k,kv,vv⟩:DictEntry)));have e1:=Cn (o':={cls:=.type "dict",data:=.dict (es++[(⟨(kS V).hash k,kv,vv⟩:DictEntry)]).toArray (ep+1)}) m.at_ (f:=(Obj.mapDictKeys (·.push (⟨(kS V).hash k,kv,vv⟩:DictEntry)))) (congrArg (λl=>({cls:=.type "dict",data:=.dict l (ep+1)}:Obj)) (List.push_toArray ..)) rfl;exact ah (wpAny_rule (wpAny_updateDictKeys (hz:=by rw[dj,Ej];exact i8 m.len) (s:={s with toks:=s.toks+1}) m.at_ rfl (h _ (jt.mk sb rfl rfl) (It (iG.mk rfl e1 ((a2.put kv vv v nv hv).put hp sb) len (Io m.nodup))) ⟨_,e1⟩)))
 ·rw[a1];rw[a2.has] at h;have sb:=nS s.heap ad (Obj.mapDict (·.modify i λe=>{e with val:=vv}));have e1:=Cn (o':={cls:=.type "dict",data:=.dict (es.modify i λe=>{e with val:=vv}).toArray ep}) m.at_ (f:=(Obj.mapDict (·.modify i λe=>{e with val:=vv}))) (congrArg (λl=>({cls:=.type "dict",data:=.dict l ep}:Obj)) (List.modify_toArray ..)) rfl;refine ah (wpAny_rule (ah (wpAny_updateDict (s:={s with toks:=s.toks+1}) m.at_ rfl (wpAny_point ?_))));exact h _ (jt.mk sb rfl rfl) (It (iG.mk rfl e1 ((a2.put vv v hv).put hp sb) len (Io m.nodup))) ⟨_,e1⟩
def abh{k:List Nat}{kv:Value}{n:Nat}{ad:Addr}(pre:ao V d q G J U H s)(hp:J[n]?=some (ad,ad))(m:i3 V J s.heap ad ep l es)(hk:(kS V).is k kv=true/\cS V k)(hv:VR V J s.heap vv v)(hl:l.length<az):
  ag V G J s (setItem (.ref ad) kv vv) (.ok () U (ai H (AO.dict (match c5 k l with|true=>ep|false=>ep+1) (eH k v l)) n)) (λO O O O=>True):=by
 refine ag.put pre hp λQ E h=>?_;unfold setItem
 try with_reducible refine c8 ?_
 refine ah (wpAny_sequenceKey m.map.typeIs (by decide) ?_);refine ah (wpAny_callSpecial?_slot (name:=Str.ofString "__setitem__") m.map.typeIs slot_dict_setitem
  (uu slot_dict_setitem m.map.typeIs entry_dict_setitem ?_ (args_dict_setitem _ _ _)))
 refine ah (wpAny_notOrdered_dict m.map.typeIs ?_);show wpAny _ _ (dictSet _ _ vv>>=_) _ _ s;exact ah (Mg hp m hk.1 hk.2 hv hl λs' a b c=>aH ⟨.none,rfl,aH (h () s' a b c trivial)⟩)
def S8(pre:ao V d q G J U H s){vo vi:Value}{o i:AV}(ho:VR V J s.heap vo o)(hi:VR V J s.heap vi i)(hv:VR V J s.heap vv v):
  ag V G J s (setItem vo vi vv) (gn (rb o i v) U H) (λO O O O=>True):=ag.wH λH' e=>by
 refine ub e λn h1 e=>?_;refine aq (ij ho h1) λp aa hp=>?_;subst aa;cases hl:bx H n with
 |some l=>rw[hl] at e;refine ub e λk h2 e=>?_;refine ub e λj h3 e=>?_;refine ur e λh4 e=>?_;obtain rfl:=sj e;have h4:=bG.mp h4;refine ue (eE hi h2) λt aa=>?_;subst aa;have hk:=Aw h3;subst hk;refine ll (pre.rel.list hl hp) λpe items n x=>?_;rw[pe] at hp;rw[sN v];refine ag.xu pre hp (x.all.set j hv) (by rw[List.length_set];exact x.len) λQ E h=>S7 (k:=(j:Int)) x.at_ (kq j) (Int.lt_trans (qM.mpr h4) (vF x.len)) (by rw[x.all.length];exact qM.mpr h4) ?_;refine ue (wG x.at_ (f:=(·.setIfInBounds j vv)) (items':=items.set j vv) (by simp)) λk' e'=>?_;exact h () _ k' e' (nS ..) trivial
 |none=>rw[hl] at e;refine ub e λr h2 e=>?_;refine ub e λk h3 e=>?_;refine ur e λh4 e=>?_;obtain rfl:=sj e;refine ik (pre.rel.dict h2 hp) λpe es m=>?_;rw[pe] at hp;exact abh pre hp m (sL hi h3) hv (bG.mp h4)
def abm(pre:ao V d q G J U H s){vo vi:Value}{o i:AV}(ho:VR V J s.heap vo o)(hi:VR V J s.heap vi i):
  ag V G J s (delItem vo vi) (gn (yH o i) U H) (λO O O O=>True):=ag.wH λH' e=>by
 refine ub e λn h1 e=>?_;refine ub e λr h2 e=>?_;refine ub e λk h3 e=>?_;refine ur e λh4 e=>?_;obtain rfl:=sj e;refine aq (ij ho h1) λp aa hp=>?_;subst aa;refine ua (sL hi h3) λnv o=>?_;refine ik (pre.rel.dict h2 hp) λpe es m=>?_;rw[pe] at hp;have Ej:=Mb m.all;refine ag.put pre hp λQ E h=>wpAny_delItem_slot m.map.typeIs (by decide) F.slot_dict_delitem (uu F.slot_dict_delitem m.map.typeIs F.entry_dict_delitem ?_ (F.args_dict_delitem_2 _ _));unfold Builtin.«dict.__delitem__»;refine ah ?_;unfold Builtin.Dict.dictSlotArgs;refine ah (wpAny_notOrdered_dict m.map.typeIs ?_);refine aH ?_;show wpAny _ _ (Builtin.Dict.takeOut _ _>>=_) _ _ s;refine ah ?_;unfold Builtin.Dict.takeOut
 try with_reducible refine c8 ?_
 refine ah ((kS V).pyHash nv ?_);refine ah (wpAny_dictFind_of (s:={s with toks:=s.toks+1}) nv m.at_ rfl (yF m.all) ?_);rcases Mc k o m.all with⟨a1,a2⟩|⟨i,a1,a2⟩
 ·rw[a2.has] at h4;cases h4
 ·rw[a1];refine ah (wpAny_dictEntries (s:={s with toks:=s.toks+1}) m.at_ rfl ?_);have fM:es.toArray[i]?=some (es[i]'a2.lt):=by simp[a2.lt]
  rw[fM];refine ah (wpAny_updateDictKeys (hz:=by rw[dj,Ej];exact i8 m.len) (s:={s with toks:=s.toks+1}) m.at_ rfl (aH ?_));refine ah (wpAny_letGo (aH ⟨.none,rfl,?_⟩));have sb:=nS s.heap p.1 (Obj.mapDictKeys (·.eraseIdxIfInBounds i));have e1:=Cn (o':={cls:=.type "dict",data:=.dict (es.eraseIdx i).toArray (r.1+1)}) m.at_ (f:=(Obj.mapDictKeys (·.eraseIdxIfInBounds i))) (congrArg (λl=>({cls:=.type "dict",data:=.dict l (r.1+1)}:Obj)) (by simp)) rfl;have sl:=aa6 k r.2;exact h () _ (jt.mk sb rfl rfl) ⟨_,iG.mk rfl e1 (a2.drop.put hp sb) (aM sl.length_le m.len) ((sl.map _).nodup m.nodup)⟩ ⟨_,e1⟩ trivial
end
section
variable {V:Cf}{G:Fm}{J:Ph}{s:Shared}{U:aC}{H:Hp}{d:Nat}{q:Bool}
noncomputable def Az(m:Nat):Str:=match m with
 |0=>"append"
 |1=>"pop"
 |2=>"clear"
 |3=>"extend"
 |5=>"join"
 |6=>"get"
 |7=>"values"
 |8=>"add"
 |_=>"__next__"
def Dw(mk:MK):String:=match mk with
 |.list=>"list"
 |.dict=>"dict"
 |.set=>"set"
 |.str=>"str"
 |.user _=>""
def xO(mk:MK)(m:Nat):String:=match mk with
 |.list=>match m with|0=>"list.append"|1=>"list.pop"|2=>"list.clear"|_=>"list.extend"
 |.dict=>match m with|6=>"dict.get"|_=>"dict.values"
 |.set=>"set.add"
 |_=>"str.join"
def jN(mk:MK)(m:Nat):Prop:=(PlainAttrs (Dw mk))/\(Slot (Dw mk) (Az m) (xO mk m))/\(typeOf (.builtin (xO mk m))=pure (.type "method_descriptor"))
section
variable {b1 b2}(x:jN b1 b2)
def jN.mk:=lJ (jN b1 b2) rfl
def jN.plain:=x.1
def jN.slot:=x.2.1
def jN.ty:=x.2.2
end
variable {m:Nat}
def WC{mk:MK}(h:u9 mk m=true):jN mk m:=by
 cases mk with
 |user=>cases h
 |list=>
  have:m<4:=bG.mp h
  match m,this with
  |0,_=>exact(jN.mk F.plainAttrs_list F.slot_list_append F.type_list_append)
  |1,_=>exact(jN.mk F.plainAttrs_list F.slot_list_pop F.type_list_pop)
  |2,_=>exact(jN.mk F.plainAttrs_list F.slot_list_clear F.type_list_clear)
  |3,_=>exact(jN.mk F.plainAttrs_list F.slot_list_extend F.type_list_extend)
 |dict=>
  rcases sy.mp h with h|h<;>cases bW h
  ·exact(jN.mk F.plainAttrs_dict F.slot_dict_get F.type_dict_get)
  ·exact(jN.mk F.plainAttrs_dict F.slot_dict_values F.type_dict_values)
 |set=>cases bW h;exact(jN.mk F.plainAttrs_set F.slot_set_add F.type_set_add)
 |str=>cases bW h;exact(jN.mk F.plainAttrs_str F.slot_str_join F.type_str_join)
def ag.Cd{α β:Type}{t:Sem α}{f:Hp->Option (β×Hp)}{R:Ph->Heap->α->β->Prop}(h:∀r,f H=some r->ag V G J s t (.ok r.1 U r.2) R):ag V G J s t (Mine.mG f U H) R:=by
 unfold Mine.mG;cases e:f H with
 |none=>exact ag.stuck
 |some r=>exact h r e
theorem XK{h:Heap}:∀{l:List AV} {items:List Value} {x:List Nat},aQ V J h items l->rI l=some x ->
  ∃ps:List (Str×Tok),items=strValues ps/\((ps.map (·.1)).map (·.cps.toList)).flatten=V.enc x/\∀c∈x,c<16:=by
 intro l
 induction l with
 |nil=>intro _ _ r e;subst r;obtain rfl:=sj e;exact⟨[],rfl,rfl,λc h=>nomatch h⟩
 |cons d l ih=>intro _ _ bV e;refine bB bV λv r q hv hr=>?_;clear bV;refine ub e λy h1 e=>?_;refine um e λz h2 aa=>?_;subst aa;refine gQ (ih hr h2) λps aa h3 h4=>?_;subst aa;refine aq (qS hv h1) λt aa o=>?_;subst aa;exact⟨(V.tx y,t)::ps,q,by simp only[bE,List.flatten_cons,h3,ET];rfl,λc hc=>(ko.mp hc).elim (o.sign c) (h4 c)⟩
def XO(ps:List Str):Builtin.Str.glued ⟨#[]⟩ ps=⟨((ps.map (·.cps.toList)).flatten).toArray⟩:=by
 have g:∀(ps:List Str) (acc:Array Nat),List.foldl (λacc (p:Str)=>acc++(⟨#[]⟩:Str).cps++p.cps) acc ps=acc++((ps.map (·.cps.toList)).flatten).toArray:=by
  intro ps
  induction ps with
  |nil=>intro acc;simp
  |cons p r ih=>intro acc;rw[List.foldl_cons,ih];apply Array.ext';simp
 unfold Builtin.Str.glued;rw[g];cases ps with
 |nil=>rfl
 |cons p r=>congr 1;apply Array.ext';simp
def ZX:∀(ps:List Str) (n:Nat),List.foldl (λ(a:Nat) (x:Str)=>a+x.length+(⟨#[]⟩:Str).length) n ps=n+((ps.map (·.cps.toList)).flatten).length:=by
 intro r
 induction r with
 |nil=>intro n;simp
 |cons p r ih=>intro n;rw[List.foldl_cons,ih];simp[Str.length];exact N8
def XN{ps:List (Str×Tok)}{x:List Nat}(h2:((ps.map (·.1)).map (·.cps.toList)).flatten=V.enc x)(ok:cS V x){Q:Value->Shared->Prop}
  (h:∀v s',ax s s'->VR V J s'.heap v (.str x)->Q v s'):(joinMade ⟨#[]⟩ ps).post Q s:=by
 have gen:(Made.str (Builtin.Str.glued ⟨#[]⟩ (ps.map (·.1)))).post Q s:=by rw[XO,h2];exact⟨(by show(V.enc x).toArray.size<=sizeLine;rw[dj,rU];exact i8 ok.len),h _ _ (ax.toks ..) (.str ok)⟩
 match ps,gen,h2 with
 |[],gen,_=>exact gen
 |[p],_,h2=>
  have:p.1=V.tx x:=by
   obtain⟨⟨c⟩,t⟩:=p;have h2:c.toList=V.enc x:=by simpa using h2
   unfold Cf.tx;rw[<- h2]
  show Q (.str p.1 p.2) s;rw[this];exact h _ _ (ax.refl _) (.str ok)
 |_::_::_,gen,_=>exact gen
variable {p:Addr×Addr}{vs:List Value}{args:List AV}{r:AV×Hp}
def Jg(pre:ao V d q G J U H s){n:Nat}{l:List AV}(hp:J[n]?=some p)(hl:bx H n=some l)(hs:aQ V J s.heap vs args)(e:vc m n l args H=some r):
  ag V G J s (call (.builtin (xO .list m)) (.ref p.1::vs)) (.ok r.1 U r.2) (VR V):=by
 refine ll (pre.rel.list hl hp) λpe items k x=>?_;rw[pe] at hp;have hT:s.TypeIs (.ref p.1) "list":=⟨_,x.at_,rfl⟩;have hz:=i8 x.small;cases args with
 |nil=>
  subst hs
  match m,e with
  |1,e=>
   refine um e λv h1 aa=>?_;subst aa;rw[List.getLast?_eq_getElem?] at h1;refine aq (x.all.get h1) λy hy ry=>?_;rw[<- x.all.length] at hy;refine ag.xu (items':=items.dropLast) pre hp (by rw[List.dropLast_eq_take,List.dropLast_eq_take,x.all.length];exact x.all.take _) (aM (by rw[List.length_dropLast];exact nU ..) x.len) λQ E h=>call_meets F.slot_list_pop hT F.entry_list_pop (F.args_list_pop_1 _) (MeetsSeq.list_pop_last _ _ k y (by simpa using hy) hz) ⟨x.at_,?_⟩
   refine ue (wG x.at_ (f:=(·.eraseIdxIfInBounds (items.toArray.size-1))) (items':=items.dropLast) (by simp[List.eraseIdx_length_sub_one])) λk' e'=>?_;exact h _ _ k' e' (nS ..) (ry.put hp (nS ..))
  |2,e=>obtain rfl:=sj e;refine ag.xu pre hp .nil (jP _) λQ E h=>call_meets F.slot_list_clear hT F.entry_list_clear (F.args_list_clear_1 _) (AutoSeq1.list_clear_list_0 _ _ k hz) ⟨x.at_,?_⟩;refine ue (wG x.at_ (f:=(λO=>#[])) (items':=[]) rfl) λk' e'=>?_;exact h _ _ k' e' (nS ..) .none
  |0,e=>exact aR e
  |_+3,e=>exact aR e
 |cons v as=>
  refine bB hs λvv r' aa hv hr=>?_;clear hs;subst aa;cases as with
  |cons=>exact aR e
  |nil=>
   subst hr
   match m,e with
   |0,e=>refine ur e λh1 e=>?_;obtain rfl:=sj e;refine ag.xu pre hp (x.all.append (.cons hv .nil)) (by rw[bF];exact(bG.mp h1)) λQ E h=>call_meets F.slot_list_append hT F.entry_list_append (F.args_list_append_2 _ _) (list_append _ _ k _ hz) ⟨x.at_,?_⟩;refine ue (wG x.at_ (f:=(·.push vv)) (items':=items++[vv]) (by simp)) λk' e'=>?_;exact h _ _ k' e' (nS ..) .none
   |m+1,e=>
    refine ur e λh0 e=>?_;cases Nat.succ.inj (bW h0);refine ub e λl2 h1 e=>?_;refine ur e λh2 e=>?_;obtain rfl:=sj e;have h2:=gO h2;refine iJ (lg pre.rel hv h1) λb its n2 y=>?_;rw[y.eq];have len:items.toArray.size+its.toArray.size<=sizeLine:=by rw[dj,x.all.length,dj,y.all.length];exact i8 h2
    refine ag.xu pre hp (x.all.append y.all) (by rw[bF];exact h2) λQ E h=>call_meets F.slot_list_extend hT F.entry_list_extend (F.args_list_extend_2 _ _) (AutoSeq1.list_extend_list_list_0 _ _ k b its.toArray n2 (by simp[Builtin.List.listTooLong];intro _;simpa using len) hz (wx len)) ⟨x.at_,y.at_,?_⟩
    refine ue (wG x.at_ (f:=(·++its.toArray)) (items':=items++its) (by simp)) λk' e'=>?_;exact h _ _ k' e' (nS ..) .none
def WD(pre:ao V d q G J U H s)(ok:ef V){n:Nat}{dd:Nat×List (List Nat×AV)}(hp:J[n]?=some p)(hl:cD H n=some dd)(hs:aQ V J s.heap vs args)(e:xP m n dd.2 args H=some r):
  ag V G J s (call (.builtin (xO .dict m)) (.ref p.1::vs)) (.ok r.1 U r.2) (VR V):=by
 obtain⟨pe,es,x⟩:=pre.rel.dict hl hp;have tL:=xG pre.rel hp pe ok.big;cases args with
 |nil=>
  subst hs;obtain⟨h1,e⟩:=Aa e;obtain rfl:=sj e;cases bW h1;rw[pe] at hp;refine ag.quiet pre λQ E h=>call_meetsIn F.slot_dict_values x.map.typeIs F.entry_dict_values (F.args_dict_values_1 _) (meets_dict_values (kS V) _ tL) ⟨?_,h _ _ (ax.push s _ s.toks) ?_⟩
  ·exact⟨_,x.at.at_.dictOf⟩
  ·exact⟨_,_,_,rfl,hp,⟨_,cY _ rfl,rfl,rfl⟩,pre.rel.fresh (bf _)⟩
 |cons v as=>
  obtain⟨vv,r',rfl,hv,hr⟩:=hs;cases as with
  |cons w as=>
   obtain⟨ww,r',rfl,hw,hr⟩:=hr;cases as with
   |cons=>exact aR e
   |nil=>
    subst hr;obtain⟨h1,e⟩:=Aa e;cases bW h1;obtain⟨k,h2,rfl⟩:=wh.mp e;refine ag.quiet pre λQ E h=>call_meetsIn F.slot_dict_get x.map.typeIs F.entry_dict_get (F.args_dict_get_3 _ _ _) (meets_dict_get_default (kS V) _ ((sL hv h2).1) tL ww) ⟨_,x.map,?_⟩;refine h _ _ (ax.toks ..) ?_;rcases Bw k x.all with⟨a1,a2⟩|⟨w,val,a1,a2,a3⟩
    ·rw[a1,a2];exact hw
    ·rw[a1,a2];exact a3
  |nil=>
   subst hr;obtain⟨h1,e⟩:=Aa e;cases bW h1;obtain⟨k,h2,rfl⟩:=wh.mp e;refine ag.quiet pre λQ E h=>call_meetsIn F.slot_dict_get x.map.typeIs F.entry_dict_get (F.args_dict_get_2 _ _) (meets_dict_get (kS V) _ ((sL hv h2).1) tL) ⟨_,x.map,?_⟩;refine h _ _ (ax.toks ..) ?_;rcases Bw k x.all with⟨a1,a2⟩|⟨w,val,a1,a2,a3⟩
   ·rw[a1,a2];exact .none
   ·rw[a1,a2];exact a3
def WB(pre:ao V d q G J U H s){n:Nat}{l:List (List Nat)}(hp:J[n]?=some p)(hl:oh H n=some l)(hs:aQ V J s.heap vs args)(e:Ji n l args H=some r):
  ag V G J s (call (.builtin "set.add") (.ref p.1::vs)) (.ok r.1 U r.2) (VR V):=by
 refine ua (pre.rel.set hl hp) λpe x=>?_;rw[pe] at hp;cases args with
 |nil=>exact aR e
 |cons v as=>
  refine bB hs λvv r' aa hv hr=>?_;clear hs;subst aa;cases as with
  |cons=>exact aR e
  |nil=>
   subst hr;refine ub e λk h1 e=>?_;refine ur e λh2 e=>?_;obtain rfl:=sj e;have h2:=bG.mp h2;refine aq (qS hv h1) λt aa o=>?_;subst aa;have hm:=Jd (V:=V) k l;have go:∀l',(λk':Str=>(l.any λy=>V.tx y==k')||decide (k'=V.tx k))=(λk'=>l'.any λy=>V.tx y==k')->(if(l.any λy=>V.tx y==V.tx k)=true then l.length else l.length+1)=l'.length ->
     ag V G J s (call (.builtin "set.add") (.ref p.1::[.str (V.tx k) t])) (.ok .none U (ai H (.set l') n)) (VR V):=λl' h3 h4=>by
    refine ag.put pre hp λQ E h=>call_set_add (strKind_is V.prog V.w (V.tx k) t) rfl x.set (by show l.length+1<4096;exact Oy ‹_›) λh' gV Zk=>?_;have K5:h'.SetOf (strKind V.prog V.w) p.1 (λk'=>l'.any λy=>V.tx y==k') l'.length:=by rw[<- h3,<- h4];exact Zk
    refine mP (id K5) λo es ep t' e1 e2=>?_;exact h _ _ (jt.mk gV rfl rfl) ⟨rfl,⟨K5⟩⟩ ⟨o,e1⟩ .none
   cases hc:aU k l with
   |true=>
    rw[hc] at hm;have:ai H (.set l) n=H:=by rw[sN];obtain⟨h,e⟩:=mE.mp (Hv hl);rw[<- e];exact List.set_getElem_self h
    have:=this▸go l (by
     funext x
     by_cases hx:x=V.tx k
     ·subst hx;rw[hm];rfl
     ·simp[hx]) (if_pos hm)
    exact this
   |false=>
    rw[hc] at hm;refine go (l++[k]) ?_ ?_
    ·funext x
     rw[List.any_append,List.any_cons,List.any_nil,Bool.or_false]
     congr 1
     rw[pg,decide_eq_true_iff,beq_iff_eq];exact eq_comm
    ·rw[if_neg (by rw[hm];simp),bF];rfl
def WA(pre:ao V d q G J U H s){t:Tok}{sep:List Nat}(hs:aQ V J s.heap vs args)(e:Jh sep args H=some r):
  ag V G J s (call (.builtin "str.join") (.str (V.tx sep) t::vs)) (.ok r.1 U r.2) (VR V):=by
 cases args with
 |nil=>exact aR e
 |cons v as=>
  refine bB hs λvv r' aa hv hr=>?_;clear hs;subst aa;cases as with
  |cons=>exact aR e
  |nil=>
   subst hr;refine ur e λh1 e=>?_;refine ub e λl h2 e=>?_;refine ub e λx h3 e=>?_;refine ur e λh4 e=>?_;obtain rfl:=sj e;have h4:=gO h4;cases sep with
   |cons=>cases h1
   |nil=>refine iJ (lg pre.rel hv h2) λa items n y=>?_;refine gQ (XK y.all h3) λps aa h5 h6=>?_;subst aa;rw[y.eq];refine ag.quiet pre λQ E h=>call_meets F.slot_str_join (typeIs_str _ _ _) F.entry_str_join (F.args_str_join_2 _ _) (meets_str_join_list ⟨#[]⟩ t a ps ?_) ⟨y.at_.isList,XN (V:=V) (J:=J) h5 (cS.mk h4 h6) h⟩;have:=ZX (ps.map (·.1)) 0;rw[h5,rU] at this;unfold Builtin.Str.tooLong;rw[List.foldl_toArray,this];have:=i8 h4;simp;simpa using this
def Wh(pre:ao V d q G J U H s)(ok:ef V){mk:MK}{vo:Value}{ov:AV}(ho:VR V J s.heap vo ov)(hs:aQ V J s.heap vs args):
  ag V G J s (call (.builtin (xO mk m)) (vo::vs)) (mG (λH=>lL mk m ov args H) U H) (VR V):=ag.Cd λr e=>by
 cases mk with
 |user=>exact aR e
 |list=>refine ub e λn h1 e=>?_;refine ub e λl h2 e=>?_;refine aq (ij ho h1) λp aa hp=>?_;subst aa;exact Jg pre hp h2 hs e
 |dict=>refine ub e λn h1 e=>?_;refine ub e λl h2 e=>?_;refine aq (ij ho h1) λp aa hp=>?_;subst aa;exact WD pre ok hp h2 hs e
 |set=>refine ub e λn h1 e=>?_;refine ub e λl h2 e=>?_;refine aq (ij ho h1) λp aa hp=>?_;subst aa;exact WB pre hp h2 hs e
 |str=>refine ub e λl h1 e=>?_;refine aq (qS ho h1) λt aa O=>?_;subst aa;exact WA pre hs e
end
section
noncomputable def pX(x:Str):Bool:=!(x==("__debug__":Str))&&!(x==("__classdict__":Str))
noncomputable def DG(l:List (Str×Nat))(x:Str)(k:Nat):Bool:=decide (l.lookup x=some k)
noncomputable def tE(K:Cx)(x:Str)(k:NameKind):Bool:=decide (K.kn.lookup x=some k)
noncomputable def Av(V:Cf)(a:Nat)(x:Str):Bool:=decide (V.nm[a]?=some x)
def De(l:List Nat):Bool:=Nat.ble l.length az&&l.all λc=>Nat.blt c 16
def MF(v:AV)(c:Const):Bool:=match v with
 |.none=>decide (c=.none)
 |.bool b=>decide (c=.bool b)
 |.int i=>decide (c=.int i)
 |.str l=>De l&&decide (c=.str ⟨(l.map λc=>65+c).toArray⟩)
 |.cE l=>De l&&decide (c=.bytes (l.map λc=>UInt8.ofNat (65+c)))
 |_=>false
noncomputable def xV(e:Expr):Nat:=match e with
 |.Starred _ _=>1
 |.ListComp ..=>2
 |.SetComp ..=>2
 |.DictComp ..=>2
 |.Set ..=>3
 |.Tuple ..=>4
 |.Attribute ..=>5
 |.Slice ..=>6
 |_=>0
noncomputable def Aj(e:Expr):Bool:=match e with
 |.Call _ as ks _=>!(as.isEmpty&&ks.isEmpty)
 |_=>true
def uZ(e:Expr):Bool:=!Nat.beq (xV e) 1
def rE(e:Expr):Bool:=!Nat.beq (xV e) 2
def tj(e:Expr):Bool:=!Nat.beq (xV e) 3
def Ar(e:Expr):Bool:=!Nat.beq (xV e) 4
def Dj(e:Expr):Bool:=!Nat.beq (xV e) 5
noncomputable def l7(K:Cx)(names:List (Str×NameKind))(ts:List (Str×Nat)):Cx where
 sc:=names.filterMap λp=>if p.2=.local\/p.2=.cell then(ts.lookup p.1).map (p.1,·) else if p.2=.free then(K.sc.lookup p.1).map (p.1,·) else none
 kn:=names
noncomputable def C.VX(c:C):Option (Str×Nat):=match c with
 |.var x k _=>some (x,k)
 |_=>none
def GP(t:C):List (Str×Nat):=match t with
 |.var x k _=>[(x,k)]
 |.tup l _ _=>(cs l).filterMap C.VX
 |_=>[]
def mR(t elt:C):List (Str×Nat):=GP t++match elt with
 |.gen t2 _ _=>GP t2
 |_=>[]
noncomputable def Au(c:C):Bool:=match c with
 |.gen ..=>false
 |_=>true
def Mz(K:Cx)(ts:List Nat)(p:Str×NameKind):Bool:=match p.2 with
 |.local=>true
 |.cell=>true
 |.free=>(match K.sc.lookup p.1 with|some k=>!ts.contains k|none=>false)&&(tE K p.1 .cell||tE K p.1 .free)
 |.globalImplicit=>true
 |_=>false
def My(K:Cx)(sc:Scope)(nms:List (Str×Nat))(ts:List Nat):Bool:=decide (sc.kind=.function)&&sc.names.all (λp=>decide (sc.names.lookup p.1=some p.2)&&Mz K ts p)&&nms.all (λp=>ts.contains p.2)&&decide (((l7 K sc.names nms).sc.map (·.2)).Nodup)
def nW(K:Cx)(c:C):Bool:=match c with
 |.var x k _=>pX x&&DG K.sc x k&&(tE K x .local||tE K x .cell)
 |_=>false
noncomputable def tI:C->Bool
 |.nil=>true
 |.cons _ r=>tI r
 |_=>false
def mI(K:Cx)(c:C):Bool:=match c with
 |.tup l _ _=>tI l&&(cs l).all (nW K)
 |_=>nW K c
noncomputable def qe(c:C):Bool:=match c with
 |.nil=>true
 |_=>false
noncomputable def J0(c:Const):Bool:=match c with
 |.str _=>true
 |_=>false
mutual
noncomputable def wf(V:Cf):C->Cx->Bool
 |.cst c v _ _,_=>MF v c
 |.var x k _,K=>pX x&&DG K.sc x k
 |.glob x k _,K=>pX x&&tE K x .globalImplicit&&decide (V.gl[k]?=some x)
 |.bin _ a b _,K=>wf V a K&&wf V b K
 |.neg a _,K=>wf V a K
 |.not a _,K=>wf V a K
 |.cmp op a b _,K=>wf V a K&&wf V b K&&!behindInMarks op (au b)
 |.fw _ l _,K=>jU V l K
 |.call f args _,K=>Dj (au f)&&wf V f K&&nY V args K&&Nat.blt (cs args).length 30
 |.eN o x m args ap p,K=>wf V o K&&Aj (au o)&&Av V m x&&nY V args K&&ap.endLine==p.line&&Nat.blt (cs args).length 30
 |.attr o x a _,K=>wf V o K&&Aj (au o)&&Av V a x
 |.sub o i _,K=>wf V o K&&wf V i K&&!rL (au i)
 |.fL o lo hi _ _,K=>wf V o K&&(qe lo||wf V lo K)&&(qe hi||wf V hi K)
 |.list l _ _,K=>jU V l K&&Nat.ble (cs l).length 100
 |.tup l _ _,K=>jU V l K&&Nat.ble (cs l).length 100
 |.dict _,_=>true
 |.dct k v _,K=>wf V k K&&wf V v K
 |.fst c _ _ _,_=>J0 c
 |.oF t a b _,K=>wf V t K&&wf V a K&&wf V b K
 |.gen tg it e,K=>mI K tg&&wf V it K&&tj (au it)&&wf V e K&&Au e&&rE (au e)
 |.comp elt tg it ifs sc _,K=>wf V it K&&tj (au it)&&My K sc (mR tg elt) (slots tg elt)&&mI (l7 K sc.names (mR tg elt)) tg&&wf V elt (l7 K sc.names (mR tg elt))&&jU V ifs (l7 K sc.names (mR tg elt))
 |.sJ t e _,K=>nW K t&&wf V e K
 |.star a _,K=>wf V a K
 |_,_=>false
noncomputable def jU(V:Cf):C->Cx->Bool
 |.nil,_=>true
 |.cons a r,K=>uZ (au a)&&wf V a K&&jU V r K
 |_,_=>false
noncomputable def nY(V:Cf):C->Cx->Bool
 |.nil,_=>true
 |.cons a r,K=>wf V a K&&match a.kB with
  |some _=>qe r
  |none=>uZ (au a)&&nY V r K
 |_,_=>false
end
variable {V:Cf}{G:Fm}{J:Ph}{s:Shared}{U:aC}{H:Hp}{d:Nat}{q:Bool}
def jr(V:Cf)(K:Cx)(c:C):Prop:=(uZ (au c)=true)/\(wf V c K=true)
section
variable {b1 b2 b3}(x:jr b1 b2 b3)
def jr.mk:=jI (jr b1 b2 b3) rfl
def jr.plain:=x.1
def jr.wf:=x.2
end
def cR{p:Prop}(h:false=true):p:=absurd h qG
variable {l:C}
def DU:tI l=true->bN l=(cs l).map au:=by
 induction l with
 |nil=>exact λO=>rfl
 |cons a r _ ih=>exact λh=>congrArg (au a::·) (ih h)
 |_=>exact cR
def uB{K:Cx}:jU V l K=true->bN l=(cs l).map au/\∀c∈cs l,jr V K c:=by
 induction l with
 |nil=>exact λO=>⟨rfl,λc h=>nomatch h⟩
 |cons a r _ ih=>
  intro h;refine jx h λh1 h2 h3=>?_;refine ua (ih h3) λh4 h5=>?_;exact⟨congrArg (au a::·) h4,λc hc=>by
   rcases bQ.mp hc with rfl|hc
   ·exact(jr.mk h1 h2)
   ·exact h5 c hc⟩
 |_=>exact cR
variable {a b:C}
def Sk:a.kB=some b->∃p,a=.star b p:=by
 cases a with
 |star c p=>intro h;obtain rfl:=sj h;exact⟨p,rfl⟩
 |_=>exact λh=>aR h
def kU(V:Cf)(K:Cx)(l m:List C):Prop:=(∀c∈m,jr V K c/\c.kB=none)/\(l=m\/∃a p,l=m++[.star a p]/\wf V a K=true)
section
variable {b1 b2 b3 b4}(x:kU b1 b2 b3 b4)
def kU.mk:=jI (kU b1 b2 b3 b4) rfl
def kU.all:=x.1
def kU.is:=x.2
end
def Cg{K:Cx}:nY V l K=true->bN l=(cs l).map au/\∃m:List C,kU V K (cs l) m:=by
 induction l with
 |nil=>exact λO=>⟨rfl,[],kU.mk (λc h=>(nomatch h)) (.inl rfl)⟩
 |cons a r _ ih=>
  intro h;refine us h λh1 h2=>?_;cases hs:a.kB with
  |some b=>
   rw[hs] at h2;refine ue (Sk hs) λp aa=>?_;subst aa;cases r with
   |nil=>exact⟨rfl,[],kU.mk (λc h=>(nomatch h)) (.inr ⟨b,p,rfl,h1⟩)⟩
   |_=>exact cR h2
  |none=>
   rw[hs] at h2;refine us h2 λh2 h3=>?_;refine ik (ih h3) λh4 m h5=>?_;refine⟨congrArg (au a::·) h4,a::m,kU.mk (λc hc=>?_) ?_⟩
   ·rcases bQ.mp hc with rfl|hc
    ·exact⟨(jr.mk h2 h1),hs⟩
    ·exact h5.all c hc
   ·rcases h5.is with h6|⟨b,p,h6,h7⟩
    ·exact .inl (congrArg (a::·) h6)
    ·exact .inr ⟨b,p,congrArg (a::·) h6,h7⟩
 |_=>exact cR
variable {x:Str}
def Dd(h:pX x=true):(x==("__debug__":Str))=false:=jf (nF h).1
def ID(h:pX x=true):(x==("__classdict__":Str))=false:=jf (nF h).2
def IE{l:List Nat}(h:De l=true):cS V l:=by refine us h λh1 h2=>?_;rw[jw] at h2;exact(cS.mk (gO h1) (λc hc=>bG.mp (h2 c hc)))
theorem VD:∀{l:List Nat},(∀c∈l,c<16)->(l.map λc=>UInt8.ofNat (65+c)).map UInt8.toNat=V.enc l:=by
 intro l
 induction l with
 |nil=>intro _;exact rfl
 |cons c l ih=>intro h;rw[bE,bE,ih λc hc=>h c (bS _ hc)];refine congrArg (·::V.enc l) ?_;have:=h c bA;exact UInt8.toNat_ofNat_of_lt' (nP (by exact FN ‹_›:65+c<128) (by decide))
def abu(pre:ao V d q G J U H s){v:AV}{c:Const}(h:MF v c=true):ag V G J s (constValue G.env c) (.ok v U H) (VR V):=by
 cases v with
 |none=>cases of_decide_eq_true h;exact ag.quiet pre λQ E hq=>aH (hq _ _ (ax.refl _) .none)
 |bool b=>cases of_decide_eq_true h;exact ag.quiet pre λQ E hq=>aH (hq _ _ (ax.refl _) (.bool _))
 |int a=>cases of_decide_eq_true h;exact ag.quiet pre λQ E hq=>λO O O=>hq _ _ (ax.toks ..) (.lit ..)
 |str l=>refine us h λh1 h2=>?_;cases of_decide_eq_true h2;exact ag.quiet pre λQ E hq=>wpAny_mkText (hq _ _ (ax.toks ..) (VR.str (IE h1)))
 |cE l=>refine us h λh1 h2=>?_;cases of_decide_eq_true h2;have o:=IE (V:=V) h1;exact ag.quiet pre λQ E hq=>wpAny_mkTextBytes (hq _ _ (ax.toks ..) ⟨_,_,rfl,VD o.sign,o⟩)
 |_=>exact cR h
structure Ok(V:Cf):Prop extends ef V,BQ V where
 ZP:V.fr.In V.h₀
 keeps:∀k v,V.gv k=some v->(∃id,v=.builtin id)\/(∃T,v=.type T)\/keepIn V.fr v=true
 nms:∀m,m<10->m≠4->V.nm[m]?=some (Az m)
def d6(V:Cf)(J:Ph)(h:Heap)(f:Flow)(g:Fl):Prop:=match g with
 |.next=>f=.next
 |.brk=>f=.brk
 |.cont=>f=.cont
 |.ret a=>∃v,f=.ret v/\VR V J h v a
structure d3(V:Cf)(E:Ev):Prop where
 e:∀{d q G J U H s c},ao V d q G J U H s->wf V c G.K=true->ag V G J s (eval (au c) G.env) (E.e d q c U H) (VR V)
 t:∀{d q G J U H s c},ao V d q G J U H s->wf V c G.K=true->ag V G J s (isTrue (au c) G.env (eval (au c) G.env)) (E.t d q c U H) (λO O a b=>a=b)
variable {E:Ev}
variable {pos:Pos}
def aa1(S:d3 V E)(pre:ao V d q G J U H s){op:Operator}(ha:wf V a G.K=true)(hb:wf V b G.K=true):
  ag V G J s (eval (.BinOp (au a) op (au b) pos) G.env) (MW E d q op a b U H) (VR V):=
 TT.imp (λO O h=>wpAny_BinOp h) (TT.seq (Nx.refl ..) pre (S.e pre ha) λa x ρ1 H1 φ1 s1 n1 m1 p1 r1=>TT.seq m1 p1 (S.e p1 hb) λb y ρ2 H2 φ2 s2 n2 m2 p2 r2=>TT.last m2 (acy p2 (n2.vr p1.er r1) r2))
def aaR(S:d3 V E)(pre:ao V d q G J U H s)(ha:wf V a G.K=true):
  ag V G J s (eval (.UnaryOp .USub (au a) pos) G.env) (I4 E d q a U H) (VR V):=
 TT.imp (λO O h=>wpAny_UnaryOp h) (TT.seq (Nx.refl ..) pre (S.e pre ha) λa x ρ1 H1 φ1 s1 n1 m1 p1 r1=>TT.last m1 (V0 p1 r1))
def Q9{M:Model}{A:Around}{E':Value->Shared->Prop}{Q:Value->Shared->Prop}{v:Value}(h:wpAny M A (truthy v) (λb s'=>Q (.bool (!b)) s') E' s):wpAny M A (unaryOp .Not v) Q E' s:=by unfold unaryOp;refine c8 ?_;show wpAny M A (truthy v>>=λb=>pure (Value.bool (!b))) Q E' s;exact ah (cz h (λb s' h'=>aH h') λO O e=>e)
def aaQ(S:d3 V E)(pre:ao V d q G J U H s)(ha:wf V a G.K=true):
  ag V G J s (eval (.UnaryOp .Not (au a) pos) G.env) (IT E d q a U H) (VR V):=
 TT.imp (λO O h=>wpAny_UnaryOp h) (TT.seq (Nx.refl ..) pre (S.e pre ha) λa x ρ1 H1 φ1 s1 n1 m1 p1 r1=>TT.imp (λO O h=>Q9 h) (TT.seq m1 p1 (Cq p1 r1) λb c ρ2 H2 φ2 s2 n2 m2 p2 r2=>TT.now m2 p2 (by subst r2;exact .bool _)))
variable {op:CmpOp}
def abD(pre:ao V d q G J U H s)(ok:ef V){vx vy:Value}{x y:AV}(hx:VR V J s.heap vx x)(hy:VR V J s.heap vy y):
  ag V G J s (compareOp op vx vy) (cu (BB op x y) U H) (VR V):=ag.opt pre λv e Q E h=>by
 refine um e λb e' aa=>?_;subst aa;exact Mp pre ok hx hy e' Q E λs' g=>h _ _ g (.bool _)
def aaZ(ok:ef V)(S:d3 V E)(pre:ao V d q G J U H s)(ha:wf V a G.K=true)(hb:wf V b G.K=true)(hm:behindInMarks op (au b)=false):
  ag V G J s (eval (.Compare (au a) [op] [au b] pos) G.env) (Mr E d q op a b U H) (VR V):=
 TT.imp (λO O h=>wpAny_Compare1 h hm) (TT.seq (Nx.refl ..) pre (S.e pre ha) λa x ρ1 H1 φ1 s1 n1 m1 p1 r1=>TT.seq m1 p1 (S.e p1 hb) λb y ρ2 H2 φ2 s2 n2 m2 p2 r2=>TT.last m2 (abD p2 ok (n2.vr p1.er r1) r2))
noncomputable def BH(isAnd:Bool):BoolOp:=if isAnd then .And else .Or
set_option backward.match.sparseCases true in
theorem L7(S:d3 V E){pos:Pos}{isAnd:Bool}:∀(l:List C) {J:Ph} {U:aC} {H:Hp} {s:Shared},ao V d q G J U H s->(∀c∈l,jr V G.K c) ->
  ag V G J s (boolOp pos (BH isAnd) (evalEach (l.map au) G.env)) (BG (E.e d q) isAnd l U H) (VR V)
 |[],_,_,_,_,_,_=>ag.stuck
 |[c],_,_,_,_,pre,h=>S.e pre (h c bA).wf
 |c::c2::l,J,U,H,s,pre,h=>by
  show ag V G J s (do
   let v <- eval (au c) G.env
   standAt pos
   let t <- holding [v] (truthy v)
   match(BH isAnd),t with
   |.And,false|.Or,true=>pure v
   |_,_=>boolOp pos (BH isAnd) (evalEach ((c2::l).map au) G.env)) (M.bind (E.e d q c) (λv=>M.bind (cu (gR v)) λb=>match b with
    |true=>match isAnd with|true=>BG (E.e d q) isAnd (c2::l)|false=>cj v
    |false=>match isAnd with|true=>cj v|false=>BG (E.e d q) isAnd (c2::l)) U H) (VR V)
  have ih:=λ{J:Ph} {U:aC} {H:Hp} {s:Shared} (p:ao V d q G J U H s)=>L7 S (pos:=pos) (isAnd:=isAnd) (c2::l) p λc hc=>h c (bS _ hc);refine ag.bind pre (S.e pre ((h c bA).wf)) λv x ρ1 H1 φ1 s1 n1 p1 r1=>?_;refine TT.imp (λO O h=>ah (fy (ah (c8 h)))) ?_;refine TT.seq (Nx.refl ..) p1 (Cq p1 r1) λb c' ρ2 H2 φ2 s2 n2 m2 p2 r2=>?_;subst r2;have sZ:=n2.vr p1.er r1;cases isAnd<;>cases b
  ·exact TT.last m2 (ih p2)
  ·exact TT.imp (λO O h=>aH h) (TT.now m2 p2 sZ)
  ·exact TT.imp (λO O h=>aH h) (TT.now m2 p2 sZ)
  ·exact TT.last m2 (ih p2)
def wX{e:Expr}{rest:List Expr}{env:Env}(h:uZ e=true):backTo pos (starEach (e::rest) env)=(false,eval e env)::backTo pos (starEach rest env):=by
 have:starEach (e::rest) env=(false,eval e env)::starEach rest env:=by cases e<;>first|rfl|exact cR h
 rw[this];rfl
variable {c:C}
def LQ(f:C->M AV)(l:List C)(h:c.kB=none):gZ f (c::l)=M.bind (f c) λv=>M.bind (gZ f l) λvs=>cj (v::vs):=by show(match c.kB with|some a=>_|none=>_)=_;rw[h];rfl
def G8(h:uZ (au c)=true):c.kB=none:=by cases c<;>first|rfl|exact cR h
def LP(S:d3 V E):∀(l:List C) {J:Ph} {U:aC} {H:Hp} {s:Shared},ao V d q G J U H s->(∀c∈l,jr V G.K c) ->
  ag V G J s (spliced (backTo pos (starEach (l.map au) G.env))) (gZ (E.e d q) l U H) (λφ' h' vs xs=>aQ V φ' h' vs xs/\xs.length=l.length):=by
 intro l
 induction l with
 |nil=>intro _ _ _ _ pre _;exact TT.imp (λO O h=>aH h) (TT.now (Nx.refl ..) pre ⟨.nil,rfl⟩)
 |cons c l ih=>intro J U H s pre h;have hc:=h c bA;rw[bE,wX hc.plain,LQ _ _ (G8 hc.plain)];refine TT.imp (λO O h=>Calls.spliced_cons h) (TT.seq (Nx.refl ..) pre (S.e pre hc.wf) λv x ρ1 H1 φ1 s1 n1 m1 p1 r1=>?_);exact TT.seq m1 p1 (ih p1 λc hc=>h c (bS _ hc)) λvs xs ρ2 H2 φ2 s2 n2 m2 p2 r2=>TT.now m2 p2 ⟨.cons (n2.vr p1.er r1) r2.1,congrArg (·+1) r2.2⟩
def Hh{h:Heap}{vs:List Value}{xs:List AV}{l:List C}(r:aQ V J h vs xs/\xs.length=l.length)(hl:l.length<=100):xs.length<=az/\vs.length<=sizeLine:=by
 have:xs.length<=az:=by rw[r.2];exact aM hl (by decide)
 exact⟨this,by rw[r.1.length];exact i8 this⟩
def aaT(S:d3 V E)(pre:ao V d q G J U H s){b:Bool}(h:jU V l G.K=true)(hl:(cs l).length<=100):
  ag V G J s (eval (.List (bN l) pos) G.env) (JB E d q l b U H) (VR V):=by
 refine ua (uB h) λe h=>?_;rw[e,arm_eval_List];refine TT.imp (W:=λQ Ex=>wpAny (model V.prog V.w) G.A (spliced (backTo pos (starEach ((cs l).map au) G.env))) (λvs s'=>wpAny (model V.prog V.w) G.A (newList vs) Q Ex s') Ex s) (λO O h=>ah (fy (ah h))) ?_;refine TT.seq (Nx.refl ..) pre (LP S (pos:=pos) (cs l) pre h) λvs xs ρ1 H1 φ1 s1 n1 m1 p1 r1=>?_;refine ua (Hh r1 hl) λz1 z2=>?_;refine TT.last m1 (ag.Cd λr e=>?_);cases b with
 |true=>
  obtain rfl:=sj e;exact ag.fresh p1 λQ E h=>wpAny_newList (h _ _ (s1.heap.objs.size,s1.heap.objs.size) (ax.push s1 _ s1.toks) (bf _) ⟨_,cY _ rfl⟩
   ⟨vs,0,mj.mk rfl (IsL.new ..) (r1.1.mono ((ax.push s1 _ s1.toks).ext [] φ1) (d0.nil _) (Gr.push φ1 _ (jH (bf _)))) z1⟩ (xm _ _ p1.rel.len)) z2
 |false=>obtain rfl:=sj e;exact ag.quiet p1 λQ E h=>wpAny_newList (h _ _ (ax.push s1 _ s1.toks) (Dl p1.rel (ax.push s1 _ s1.toks) (n:=0) (IsL.new ..) r1.1 z1)) z2
variable {k:Nat}
def aaM(S:d3 V E)(pre:ao V d q G J U H s)(h:jU V l G.K=true)(hl:(cs l).length<=100):
  ag V G J s (eval (.Tuple (bN l) k pos) G.env) (GJ E d q l U H) (VR V):=by
 refine ua (uB h) λe h=>?_;rw[e,arm_eval_Tuple];refine TT.imp (W:=λQ Ex=>wpAny (model V.prog V.w) G.A (spliced (backTo pos (starEach ((cs l).map au) G.env))) (λvs s'=>wpAny (model V.prog V.w) G.A (newTuple vs) Q Ex s') Ex s) (λO O h=>ah (fy (ah h))) ?_;refine TT.seq (Nx.refl ..) pre (LP S (pos:=pos) (cs l) pre h) λvs xs ρ1 H1 φ1 s1 n1 m1 p1 r1=>?_;refine ua (Hh r1 hl) λz1 z2=>?_;refine TT.last m1 (ag.quiet p1 λQ E h=>wt (h _ _ (ax.push s1 _ s1.toks) (I2 p1.rel (ax.push s1 _ s1.toks) (n:=0) (cY _ rfl) r1.1 z1)) ?_);show vs.toArray.size<=sizeLine;rw[dj];exact z2
def aaX(pre:ao V d q G J U H s):ag V G J s (eval (.Dict [] [] pos) G.env) (yG U H) (VR V):=
 ag.fresh pre λQ E h=>wpAny_Dict_empty (h _ _ (s.heap.objs.size,s.heap.objs.size) (ax.push s _ s.toks) (bf _) ⟨_,cY _ rfl⟩
  ⟨[],iG.mk rfl (cY _ rfl) rfl (jP _) mw⟩ (xm _ _ pre.rel.len))
def aa2(pre:ao V d q G J U H s){a:Addr}{kv vv:Value}{r x y:AV}(hr:VR V J s.heap (.ref a) r)(hk:VR V J s.heap kv x)(hv:VR V J s.heap vv y):
  ag V G J s (dictSet a kv vv) (gn (Ah r x y) U H) (λO O O O=>True):=ag.wH λH' e=>by
 refine ub e λn h1 e=>?_;refine ub e λt h2 e=>?_;refine ub e λk h3 e=>?_;refine ur e λh4 e=>?_;obtain rfl:=sj e;refine aq (ij hr h1) λp aa hp=>?_;cases Value.ref.inj aa;refine ik (pre.rel.dict h2 hp) λpe es m=>?_;rw[pe] at hp;have hk:=sL hk h3;exact ag.put pre hp λQ E h=>Mg hp m hk.1 hk.2 hv (bG.mp h4) λs' a b c=>h () s' a b c trivial
def aaY(S:d3 V E)(pre:ao V d q G J U H s){k v:C}(hk:wf V k G.K=true)(hv:wf V v G.K=true):
  ag V G J s (eval (.Dict [some (au k)] [au v] pos) G.env) (Mj E d q k v U H) (VR V):=by
 refine TT.imp (W:=λQ Ex=>wpAny (model V.prog V.w) G.A (alloc {cls:=.type "dict",data:=.dict #[]}) (λa s1=>wpAny (model V.prog V.w) G.A (eval (au k) G.env) (λkv s2=>wpAny (model V.prog V.w) G.A (eval (au v) G.env) (λvv s3=>wpAny (model V.prog V.w) G.A (dictSet a kv vv) (λO s4=>Q (.ref a) s4) Ex s3) Ex s2) Ex s1) Ex s) (λQ Ex h=>?_) ?_
 ·rw[arm_eval_Dict,zip_pairTrees [some (au k)] [au v] G.env pos rfl rfl,dictDisplay_pairs _ (by unfold pairTrees;exact nofun) (by show 1<17;decide)];refine ah (fy (ah ?_));unfold subDict;refine ah (cz h (λa s1 h=>?_) λO O e=>e);refine ah (c8 ?_);rw[if_pos (show(pairTrees [some (au k)] [au v] G.env pos).length<=15 by show 1<=15;decide)];refine ah (pairTrees_cons_walk (cz h (λkv s2 h=>cz h (λvv s3 h=>pairTrees_nil_walk ?_) λO O e=>e) λO O e=>e));refine c8 ?_;rw[wm];refine ah (ah ?_);refine ah (cz h (λO s4 h=>?_) λO O e=>e);exact aH (aH (aH (aH (aH h))))
 ·refine TT.seq (R:=λJ h a b=>VR V J h (.ref a) b) (Nx.refl ..) pre (ag.fresh pre λQ E h=>wpAny_alloc (h _ _ (s.heap.objs.size,s.heap.objs.size) (ax.push s _ s.toks) (bf _) ⟨_,cY _ rfl⟩
   ⟨[],iG.mk rfl (cY _ rfl) rfl (jP _) mw⟩ (xm _ _ pre.rel.len))) λa r ρ1 H1 φ1 s1 n1 m1 p1 r1=>?_
  refine TT.seq m1 p1 (S.e p1 hk) λkv x ρ2 H2 φ2 s2 n2 m2 p2 r2=>?_;refine TT.seq m2 p2 (S.e p2 hv) λvv y ρ3 H3 φ3 s3 n3 m3 p3 r3=>?_;have sZ:=n3.vr p2.er (n2.vr p1.er r1);exact TT.seq m3 p3 (aa2 p3 sZ (n3.vr p2.er r2) r3) λO O ρ4 H4 φ4 s4 n4 m4 p4 O=>TT.now m4 p4 (n4.vr p3.er sZ)
def aaW(pre:ao V d q G J U H s){c:Const}{p p':Pos}(h:J0 c=true):ag V G J s (eval (.JoinedStr [.Constant c k p] p') G.env) (.ok .uW U H) (VR V):=by
 cases c with
 |str x=>exact ag.quiet pre λQ E hq=>wpAny_JoinedStr_one (by rw[arm_eval_Constant];exact wpAny_mkText (hq _ _ (ax.toks ..) ⟨_,_,rfl⟩))
 |_=>exact cR h
def aaU(S:d3 V E)(pre:ao V d q G J U H s){t:C}(ht:wf V t G.K=true)(ha:wf V a G.K=true)(hb:wf V b G.K=true):
  ag V G J s (eval (.IfExp (au t) (au a) (au b) pos) G.env) (Kh E d q t a b U H) (VR V):=by
 rw[arm_eval_IfExp];refine ag.bind pre (S.t pre ht) λc c' ρ1 H1 φ1 s1 n1 p1 r1=>?_;subst r1;cases c with
 |true=>exact S.e p1 ha
 |false=>exact S.e p1 hb
def aaN(S:d3 V E)(pre:ao V d q G J U H s){o i:C}(ho:wf V o G.K=true)(hi:wf V i G.K=true)(hs:rL (au i)=false):
  ag V G J s (eval (.Subscript (au o) (au i) pos) G.env) (GV E d q o i U H) (VR V):=
 TT.imp (λO O h=>Subscript_ h) (TT.seq (Nx.refl ..) pre (S.e pre ho) λa x ρ1 H1 φ1 s1 n1 m1 p1 r1=>TT.seq m1 p1 (S.e p1 hi) λb y ρ2 H2 φ2 s2 n2 m2 p2 r2=>TT.last m2 (R5 p2 hs (n2.vr p1.er r1) r2))
def L5(S:d3 V E)(pre:ao V d q G J U H s)(h:(qe c||wf V c G.K)=true):ag V G J s (evalPart (sO c) G.env) (tQ (E.e d q) c U H) (VR V):=by
 cases c with
 |nil=>exact TT.imp (λO O h=>aH h) (TT.now (Nx.refl ..) pre .none)
 |_=>exact S.e pre h
def TT.up{α β:Type}{W:(α->Shared->Prop)->(Value->Shared->Prop)->Prop}{φ₀:Ph}{s₀:Shared}{r:dG β}{R:Ph->Heap->α->β->Prop}(n:Nx G.X φ₀ J s₀ s)(mono:∀{Q Q' E E'},W Q E->(∀a s,Q a s->Q' a s)->(∀a s,E a s->E' a s)->W Q' E')(x:TT V G J s W r R):TT V G φ₀ s₀ W r R:=λhs=>mono (x hs) (λO O h=>h.up n) λO O h=>h.up n
def aaP(S:d3 V E)(pre:ao V d q G J U H s){o lo hi:C}{p:Pos}(ho:wf V o G.K=true)(hl:(qe lo||wf V lo G.K)=true)(hu:(qe hi||wf V hi G.K)=true):
  ag V G J s (eval (.Subscript (au o) (.Slice (sO lo) (sO hi) none p) pos) G.env) (Hm E d q o lo hi U H) (VR V):=by
 refine TT.imp (λO O h=>Subscript_ h) (TT.seq (Nx.refl ..) pre (S.e pre ho) λa x ρ1 H1 φ1 s1 n1 m1 p1 r1=>?_);refine TT.imp (λO O h=>wpAny_Slice h) (TT.seq m1 p1 (L5 S p1 hl) λb y ρ2 H2 φ2 s2 n2 m2 p2 r2=>?_);refine TT.seq m2 p2 (L5 S p2 hu) λc z ρ3 H3 φ3 s3 n3 m3 p3 r3=>?_;rw[evalPart_none];refine TT.imp (λO O h=>aH h) ?_;exact TT.up m3 cz (SP p3 (value:=au o) (lo:=sO lo) (hi:=sO hi) (p:=p) (n3.vr p2.er (n2.vr p1.er r1)) (n3.vr p2.er r2) r3)
def aaL(pre:ao V d q G J U H s)(h:(pX x&&DG G.K.sc x k)=true):ag V G J s (eval (.Name x pos) G.env) (mJ k U H) (VR V):=by have h:=nF h;exact TT.imp (λO O h'=>wpAny_Name h' (Dd h.1)) (Gn pre (of_decide_eq_true h.2) (ID h.1))
def aaV(ok:Ok V)(pre:ao V d q G J U H s)(h:(pX x&&tE G.K x .globalImplicit&&decide (V.gl[k]?=some x))=true):
  ag V G J s (eval (.Name x pos) G.env) (yr V.P k U H) (VR V):=by
 have h:=nF h;have h':=nF h.1;exact TT.imp (λO O h=>wpAny_Name h (Dd h'.1)) (Zz pre ok.toBQ (of_decide_eq_true h'.2) (of_decide_eq_true h.2))
def RJ(S:d3 V E)(pre:ao V d q G J U H s)(h:wf V c G.K=true)(he:isTrue (au c) G.env (eval (au c) G.env)=(do let v <- eval (au c) G.env;standAt (au c).pos;holding [v] (truthy v))):
  ag V G J s (isTrue (au c) G.env (eval (au c) G.env)) (Gu E d q c U H) (λO O a b=>a=b):=
 TT.imp (λO O h=>wpAny_isTrue_value h he) (TT.seq (Nx.refl ..) pre (S.e pre h) λa x ρ1 H1 φ1 s1 n1 m1 p1 r1=>TT.last m1 (Cq p1 r1))
variable {whole:Sem Value}
def RP(S:d3 V E)(pre:ao V d q G J U H s)(ha:wf V a G.K=true):
  ag V G J s (isTrue (.UnaryOp .Not (au a) pos) G.env whole) (IS E d q a U H) (λO O a b=>a=b):=
 TT.imp (λO O h=>wpAny_isTrue_Not h) (TT.seq (Nx.refl ..) pre (S.t pre ha) λb c ρ1 H1 φ1 s1 n1 m1 p1 r1=>TT.now m1 p1 (by rw[r1]))
theorem RV(S:d3 V E){isAnd:Bool}:∀(l:List C) {J:Ph} {U:aC} {H:Hp} {s:Shared},ao V d q G J U H s->(∀c∈l,jr V G.K c) ->
  ag V G J s (allTrue (BH isAnd) (l.map au) G.env) (uF (E.t d q) isAnd l U H) (λO O a b=>a=b):=by
 intro l
 induction l with
 |nil=>intro _ _ _ _ pre _;exact TT.imp (λO O h=>aH h) (TT.now (Nx.refl ..) pre (by cases isAnd<;>rfl))
 |cons c l gI=>
  intro J U H s pre h;have ih:=λ{J:Ph} {U:aC} {H:Hp} {s:Shared} (p:ao V d q G J U H s)=>gI p λc hc=>h c (bS _ hc);rw[bE,arm_allTrue_cons];refine ag.bind pre (S.t pre (h c bA).wf) λb c' ρ1 H1 φ1 s1 n1 p1 r1=>?_;subst r1;cases isAnd<;>cases b
  ·exact ih p1
  ·exact TT.imp (λO O h=>aH h) (TT.now (Nx.refl ..) p1 rfl)
  ·exact TT.imp (λO O h=>aH h) (TT.now (Nx.refl ..) p1 rfl)
  ·exact ih p1
def abF(pre:ao V d q G J U H s)(ok:ef V){vx vy:Value}{x y:AV}(hx:VR V J s.heap vx x)(hy:VR V J s.heap vy y):
  ag V G J s (compareOp op vx vy) (cu (fO op x y) U H) (λO O v b=>v=.bool b):=ag.opt pre λv e Q E h=>Mp pre ok hx hy e Q E λs' g=>h _ _ g rfl
def acs{α:Type}(m:M α)(U:aC)(H:Hp):M.bind m cj U H=m U H:=by unfold M.bind cj;cases m U H<;>rfl
def RU(ok:ef V)(S:d3 V E)(pre:ao V d q G J U H s)(ha:wf V a G.K=true)(hb:wf V b G.K=true)(hm:behindInMarks op (au b)=false):
  ag V G J s (isTrue (.Compare (au a) [op] [au b] pos) G.env whole) (Mq E d q op a b U H) (λO O a b=>a=b):=by
 refine TT.imp (λO O h=>wpAny_isTrue_Compare1 h hm) (TT.seq (Nx.refl ..) pre (S.e pre ha) λa x ρ1 H1 φ1 s1 n1 m1 p1 r1=>?_);refine TT.seq m1 p1 (S.e p1 hb) λb y ρ2 H2 φ2 s2 n2 m2 p2 r2=>?_;show TT V G J s _ (cu (fO op x y) ρ2 H2) _;rw[<- acs (cu (fO op x y)) ρ2 H2];refine TT.seq m2 p2 (abF p2 ok (n2.vr p1.er r1) r2) λc z ρ3 H3 φ3 s3 n3 m3 p3 r3=>?_;subst r3;exact TT.imp (λO O h=>wpAny_truthy_bool h) (TT.now m3 p3 rfl)
end
section
variable {V:Cf}{G:Fm}{J:Ph}{s:Shared}{U:aC}{H:Hp}{d:Nat}{q:Bool}
def nM(V:Cf)(J:Ph)(h:Heap)(I:Addr)(l:List AV)(a:Addr)(items:List Value)(n i:Nat):Prop:=(h.IsListIter I a i)/\(IsL h a items.toArray n)/\(a∉J.map (·.2))/\(aQ V J h (items.drop i) l)
section
variable {b1 b2 b3 b4 b5 b6 b7 b8 b9}(x:nM b1 b2 b3 b4 b5 b6 b7 b8 b9)
def nM.mk:=fp (nM b1 b2 b3 b4 b5 b6 b7 b8 b9) rfl
def nM.it:=x.1
def nM.at_:=x.2.1
def nM.out:=x.2.2.1
def nM.all:=x.2.2.2
end
def nL(V:Cf)(J:Ph)(h:Heap)(I:Addr)(l:List AV)(a:Addr)(items:List Value)(n i:Nat):Prop:=(h.IsTupleIter I a i)/\(IsT h a items.toArray n)/\(a∉J.map (·.2))/\(aQ V J h (items.drop i) l)
section
variable {b1 b2 b3 b4 b5 b6 b7 b8 b9}(x:nL b1 b2 b3 b4 b5 b6 b7 b8 b9)
def nL.mk:=fp (nL b1 b2 b3 b4 b5 b6 b7 b8 b9) rfl
def nL.it:=x.1
def nL.at_:=x.2.1
def nL.out:=x.2.2.1
def nL.all:=x.2.2.2
end
def oY(V:Cf)(h:Heap)(I:Addr)(l:List AV)(b:Array UInt8)(t:Tok)(i:Nat)(m:List Nat):Prop:=(KBw.IsBytesIter h I b t i)/\((b.toList.drop i).map UInt8.toNat=V.enc m)/\(l=m.map λd=>.int ((65+d:Nat):Int))
section
variable {b1 b2 b3 b4 b5 b6 b7 b8}(x:oY b1 b2 b3 b4 b5 b6 b7 b8)
def oY.mk:=lJ (oY b1 b2 b3 b4 b5 b6 b7 b8) rfl
def oY.it:=x.1
def oY.enc:=x.2.1
def oY.is:=x.2.2
end
def nK(V:Cf)(h:Heap)(I:Addr)(l:List AV)(x:Str)(t:Tok)(i:Nat)(m:List Nat):Prop:=(h.IsStrIter I "str_ascii_iterator" x t i)/\(x.cps.toList.drop i=V.enc m)/\(l=m.map λd=>.str [d])/\(∀c∈m,c<16)
section
variable {b1 b2 b3 b4 b5 b6 b7 b8}(x:nK b1 b2 b3 b4 b5 b6 b7 b8)
def nK.mk:=fp (nK b1 b2 b3 b4 b5 b6 b7 b8) rfl
def nK.it:=x.1
def nK.enc:=x.2.1
def nK.is:=x.2.2.1
def nK.ok:=x.2.2.2
end
inductive Fz(V:Cf)(J:Ph)(h:Heap)(I:Addr)(l:List AV):Prop where
 |lst (a:Addr) (items:List Value) (n i:Nat) (x:nM V J h I l a items n i)
 |tup (a:Addr) (items:List Value) (n i:Nat) (x:nL V J h I l a items n i)
 |dF (z c:Int) (n:Nat) (x:IsRangeIter h I z n c) (e:l=Af c n z)
 |cE (b:Array UInt8) (t:Tok) (i:Nat) (m:List Nat) (x:oY V h I l b t i m)
 |str (y:Str) (t:Tok) (i:Nat) (m:List Nat) (x:nK V h I l y t i m)
def Fy(V:Cf)(J:Ph)(h:Heap)(I:Addr)(src:bJ):Prop:=match src with
 |.fix l=>Fz V J h I l
 |.lst n i=>∃a,J[n]?=some (a,a)/\h.IsListIter I a i
 |.dct n i sz ep=>∃a,J[n]?=some (a,a)/\h.IsKeyIter I a i sz ep
 |.vals n i sz ep=>∃a,J[n]?=some (a,a)/\h.IsValIter I a i sz ep
def cI(V:Cf)(J:Ph)(h:Heap)(I:Addr)(src:bJ):Prop:=(Fy V J h I src)/\(V.h₀.objs.size<=I)/\(I∉J.map (·.2))
section
variable {b1 b2 b3 b4 b5}(x:cI b1 b2 b3 b4 b5)
def cI.mk:=lJ (cI b1 b2 b3 b4 b5) rfl
def cI.st:=x.1
def cI.new:=x.2.1
def cI.out:=x.2.2
end
variable {h:Heap}{I:Addr}
def rJ{T:String}{vs:Array Value}(hT:vn T=true)(x:∃o,h.get? I=some o/\o.cls=.type T/\o.data=.fields vs):∃o,h.get? I=some o/\kh o:=gQ x λo e h1 h2=>⟨o,e,T,vs,h1,hT,h2⟩
variable {src:bJ}
def lQ(x:Fy V J h I src):∃o,h.get? I=some o/\kh o:=by
 cases src with
 |fix l=>
  cases x with
  |lst a items n i x=>exact rJ (by decide) x.it
  |tup a items n i x=>exact rJ (by decide) x.it
  |dF x c n e _=>exact rJ (T:="range_iterator") (by decide) ⟨_,e,rfl,rfl⟩
  |cE b t i m x=>exact rJ (by decide) x.it
  |str y t i m x=>exact rJ (by decide) x.it
 |lst n i=>obtain⟨a,_,x⟩:=x;exact rJ (by decide) x
 |dct n i sz ep=>obtain⟨a,_,x⟩:=x;exact rJ (by decide) x
 |vals n i sz ep=>obtain⟨a,_,x⟩:=x;exact rJ (by decide) x
def An(x:∃o,h.get? I=some o/\kh o):d0 [I] h:=λa ha=>by rw[fU.mp ha];refine aq x λo e w=>?_;clear x;exact⟨o,e,.inr (.inr (.inl w))⟩
def kh.nd{o:Obj}(x:kh o):¬ iQ o:=λbV=>ct bV λes n k=>by refine bB x.it λT vs O O k3=>?_;rw[k] at k3;cases k3
variable {h':Heap}
def cI.mono{X:List Addr}{φ':Ph}(x:cI V J h I src)(E:dD X J h h')(hX:d0 X h)(g:Gr J φ' h)(hI:I∉X):cI V φ' h' I src:=by
 refine aq (lQ x.st) λo e ho=>?_;have e':h'.get? I=some o:=by
  rcases E.keep I o e x.out hI with k|⟨k,_⟩
  ·exact k
  ·exact absurd k ho.nd
 have same:∀{o'},h.get? I=some o'->h'.get? I=some o':=λe2=>by rw[e] at e2;obtain rfl:=sj e2;exact e'
 have xs:=x.st;refine(cI.mk ?_ x.new (g.not ⟨o,e⟩ x.out));cases src with
 |fix l=>
  cases xs with
  |lst a items n i y=>exact .lst a items n i (nM.mk (aq y.it λo e r=>⟨o,same e,r⟩) (E.get hX y.at_ y.out (.ty (by decide) (by simp) (by simp))) (g.not ⟨_,y.at_⟩ y.out) (y.all.mono E hX g))
  |tup a items n i y=>exact .tup a items n i (nL.mk (aq y.it λo e r=>⟨o,same e,r⟩) (E.get hX y.at_ y.out (.ty (by decide) (by simp) (by simp))) (g.not ⟨_,y.at_⟩ y.out) (y.all.mono E hX g))
  |dF z c n e q=>exact .dF z c n (same e) q
  |cE b t i m y=>exact .cE b t i m (oY.mk (aq y.it λo e r=>⟨o,same e,r⟩) y.enc y.is)
  |str y0 t i m y=>exact .str y0 t i m (nK.mk (aq y.it λo e r=>⟨o,same e,r⟩) y.enc y.is y.ok)
 |lst n i=>refine Co xs λa h1 o2 e2 h2=>?_;clear xs;exact⟨a,g.get h1,o2,same e2,h2⟩
 |dct n i sz ep=>refine Co xs λa h1 o2 e2 h2=>?_;clear xs;exact⟨a,g.get h1,o2,same e2,h2⟩
 |vals n i sz ep=>refine Co xs λa h1 o2 e2 h2=>?_;clear xs;exact⟨a,g.get h1,o2,same e2,h2⟩
def eg(I:Addr)(s s':Shared):Prop:=(∀b o,b≠I->s.heap.get? b=some o->s'.heap.get? b=some o)/\(s'.gens=s.gens)/\(s'.os=s.os)
section
variable {b1 b2 b3}(x:eg b1 b2 b3)
def eg.mk:=lJ (eg b1 b2 b3) rfl
def eg.keep:=x.1
def eg.gens:=x.2.1
def eg.os:=x.2.2
end
variable {s':Shared}
def eg.ext(k:eg I s s')(J:Ph):dD [I] J s.heap s'.heap:=⟨λa o e O hx=>.inl (k.keep a o (λq=>hx (by simp[q])) e)⟩
def ao.MY(pre:ao V d q G J U H s)(k:eg I s s')(hI:∃o,s.heap.get? I=some o/\oW o/\∀v,o.data≠.cell v)(hf:dB V G J s'.heap)(hn:V.h₀.objs.size<=I)(hφ:I∉J.map (·.2))(hX:I∉G.X):
  ao V d q G J U H s':=by
 refine gQ hI λoI eI w wc=>?_;clear hI;have xk:d0 [I] s.heap:=λa ha=>by rw[fU.mp ha];exact⟨oI,eI,w⟩
 have E:=k.ext J;refine(ao.mk (pre.rel.mono E xk (λa o e=>k.keep a o (λq=>absurd (fx e) (hZ.mpr (q▸hn))) (pre.rel.keep a o e)) λp hp=>?_) (pre.er.DN E xk (Gr.refl ..) λa o ha e O=>.inl (k.keep a o (λq=>?_) e)) pre.room pre.hd hf)
 ·refine ue (pre.rel.live p hp) λo e=>?_;exact(k.keep _ o (λq=>hφ (q▸pq hp)) e).trans e.symm
 ·subst q;rcases ha with ha|⟨v,ha⟩
  ·exact hX ha
  ·rw[eI] at e;obtain rfl:=sj e;exact wc v ha
def ao.it(pre:ao V d q G J U H s)(k:eg I s s')(hI:∃o,s.heap.get? I=some o/\kh o)(hn:V.h₀.objs.size<=I)(hφ:I∉J.map (·.2))(hX:I∉G.X):ao V d q G J U H s':=by refine aq hI λo e w=>?_;clear hI;exact pre.MY k ⟨o,e,.inr (.inr (.inl w)),λv hv=>by refine bB w.it λT vs O O k3=>?_;rw[hv] at k3;cases k3⟩ (pre.fr.mono (k.ext J) (Gr.refl ..) λa ha o' e' hd=>by rw[fU.mp ha,e] at e';obtain rfl:=sj e';exact absurd hd w.nd) hn hφ hX
def Bt{α:Type}{l:List α}{i:Nat}{x:α}{r:List α}(h:l.drop i=x::r):l[i]?=some x/\l.drop (i+1)=r:=by
 constructor
 ·rw[<- List.head?_drop,h];rfl
 ·rw[<- List.tail_drop,h];rfl
def Bs{α:Type}{l:List α}{i:Nat}(h:l.drop i=[]):l[i]?=none:=by rw[<- List.head?_drop,h];rfl
def om(hs:Heap.SameBut I s.heap h')(t:Nat):eg I s {s with heap:=h',toks:=t}:=(eg.mk (λb o hb e=>(hs.2 b hb).trans e) rfl rfl)
def Gk(hs:Heap.SameBut I s.heap h')(hI:∃o,s.heap.get? I=some o/\kh o){vs:List Value}{l:List AV}(r:aQ V J s.heap vs l):aQ V J h' vs l:=r.mono ((om hs s.toks).ext J) (An hI) (Gr.refl ..)
def zr(hs:Heap.SameBut I s.heap h')(hI:∃o,s.heap.get? I=some o/\kh o){v:Value}{l:AV}(r:VR V J s.heap v l):VR V J h' v l:=r.mono ((om hs s.toks).ext J) (An hI) (Gr.refl ..)
def Nu(V:Cf)(A:Around)(J:Ph)(s:Shared)(I:Addr)(v:AV)(src':bJ):Prop:=∀Q E,(∀xv s',eg I s s'->VR V J s'.heap xv v->cI V J s'.heap I src'->Q (some xv) s')->wpAny (model V.prog V.w) A (pyNext (.ref I)) Q E s
def IQ{a:Addr}(hI:∃o,s.heap.get? I=some o/\kh o){o:Obj}(e:s.heap.get? a=some o)(h:∀vs,o.data≠.fields vs):I≠a:=λq=>by subst q;refine aq hI λo' e' w=>?_;clear hI;rw[e] at e';obtain rfl:=sj e';refine bB w.it λT vs O O k=>?_;exact h vs k
variable {A:Around}
def IX{r:List AV}{v:AV}(x:cI V J s.heap I (.fix (v::r))):Nu V A J s I v (.fix r):=by
 intro Q E h;have hI:=lQ x.st;have xs:Fz V J s.heap I (v::r):=x.st;cases xs with
 |lst a items n i y=>have d7:=IQ hI y.at_ (by simp);refine bB y.all λxv r' hd hv hr=>?_;refine ua (Bt hd) λk1 k2=>?_;exact wpAny_pyNext_list_item y.it y.at_.isList (by simpa using k1) λh' i' hs=>h xv _ (om hs _) (zr hs hI hv) (cI.mk (.lst a items n (i+1) (nM.mk i' ((hs.2 a (fi d7)).trans y.at_) y.out (k2▸Gk hs hI hr))) x.new x.out)
 |tup a items n i y=>have d7:=IQ hI y.at_ (by simp);refine bB y.all λxv r' hd hv hr=>?_;refine ua (Bt hd) λk1 k2=>?_;exact wpAny_pyNext_tuple_item y.it ⟨_,y.at_,rfl,_,rfl⟩ (by simpa using k1) λh' i' hs=>h xv _ (om hs _) (zr hs hI hv) (cI.mk (.tup a items n (i+1) (nL.mk i' ((hs.2 a (fi d7)).trans y.at_) y.out (k2▸Gk hs hI hr))) x.new x.out)
 |dF z c n y e=>
  cases n with
  |zero=>cases e
  |succ n=>cases e;refine wpAny_pyNext_range_item y (qM.mpr (qO n)) λh' i' hs=>h _ _ (om hs _) (.lit z _) (cI.mk (.dF (z+c) c n ?_ rfl) x.new x.out);have:((n+1:Nat):Int)-1=(n:Int):=Int.add_sub_cancel (n:Int) 1;rw[this] at i';exact i'
 |cE b t i m y=>
  have y2:=y.is;have y1:=y.enc;cases m with
  |nil=>cases y2
  |cons k m=>
   cases y2;cases hd:b.toList.drop i with
   |nil=>rw[hd] at y1;cases y1
   |cons c r'=>rw[hd] at y1;have y1:=nQ y1;have ek:c.toNat=65+k:=y1.1;refine ua (Bt hd) λk1 k2=>?_;refine KBw.next_item y.it (by simpa using k1) λh' i' hs=>?_;refine h _ _ (om hs _) ?_ (cI.mk (.cE b t (i+1) m (oY.mk i' (by rw[k2];exact y1.2) rfl)) x.new x.out);rw[ek];exact .lit ..
 |str y0 t i m y=>
  have y2:=y.is;have y1:=y.enc;cases m with
  |nil=>cases y2
  |cons k m=>cases y2;refine ua (Bt y1) λk1 k2=>?_;refine wpAny_pyNext_ascii_item y.it (by simpa using k1) λh' i' hs=>h _ _ (om hs _) ⟨_,rfl,.one (y.ok k bA)⟩ (cI.mk (.str y0 t (i+1) m (nK.mk i' k2 rfl (λc hc=>y.ok c (bS _ hc)))) x.new x.out)
def VZ(R:aZ V J H s.heap){src':bJ}{v:AV}(x:cI V J s.heap I src)(e:src.next H=some (some (v,src'))):Nu V A J s I v src':=by
 cases src with
 |fix l=>
  cases l with
  |nil=>cases e
  |cons y r=>cases e;exact IX x
 |lst n i=>intro Q E h;have hI:=lQ x.st;refine aq x.st λa h1 h2=>?_;refine um e λl h3 e=>?_;refine um e λy h4 e=>?_;cases e;rw[cQ] at h4;refine ll (R.list h3 h1) λO items n' z=>?_;refine aq (z.all.get h4) λxv k1 k2=>?_;exact wpAny_pyNext_list_item h2 z.at_.isList (by simpa using k1) λh' i' hs=>h xv _ (om hs _) (zr hs hI k2) (cI.mk ⟨a,h1,i'⟩ x.new x.out)
 |dct n i sz ep=>intro Q E h;have hI:=lQ x.st;refine aq x.st λa h1 h2=>?_;refine ub e λl h3 e=>?_;refine ur e λh4 e=>?_;refine us h4 λh4 h5=>?_;refine um (jR e) λy h6 e=>?_;cases e;cases bW h4;cases bW h5;rw[cQ] at h6;refine ik (R.dictAt h3 h1) λO lO z=>?_;refine ue (z.get i y h6) λval k=>?_;rw[<- z.len] at h2;refine wpAny_pyNext_dict_item (knd:=kS V) h2 z.at_ k.get λkey h' nv i' hs=>?_;refine ue (Value.isStrOf_shape (x:=V.tx y.1) nv) λt aa=>?_;subst aa;rw[z.len] at i';exact h _ _ (om hs _) (.str k.ok) (cI.mk ⟨a,h1,i'⟩ x.new x.out)
 |vals n i sz ep=>intro Q E h;have hI:=lQ x.st;refine aq x.st λa h1 h2=>?_;refine ub e λl h3 e=>?_;refine ur e λh4 e=>?_;refine us h4 λh4 h5=>?_;refine um (jR e) λy h6 e=>?_;cases e;cases bW h4;cases bW h5;rw[cQ] at h6;refine ik (R.dictAt h3 h1) λO lO z=>?_;refine ue (z.get i y h6) λval k=>?_;rw[<- z.len] at h2;refine wpAny_pyNext_values_item (knd:=kS V) h2 z.at_ k.get λh' i' hs=>?_;rw[z.len] at i';exact h _ _ (om hs _) (zr hs hI k.val) (cI.mk ⟨a,h1,i'⟩ x.new x.out)
def IY(R:aZ V J H s.heap)(hh:A.handled=none)(x:cI V J s.heap I src)(e:src.next H=some none):
  ∀Q E,(∀s',eg I s s'->Q none s')->wpAny (model V.prog V.w) A (pyNext (.ref I)) Q E s:=by
 intro Q E h;have fin:∀h':Heap,Heap.ExtBut I s.heap h'->Q none {s with heap:=h'}:=λh' k=>h _ (eg.mk (λb o hb e=>k b o hb e) rfl rfl);cases src with
 |fix l=>
  cases l with
  |cons y r=>cases e
  |nil=>
   have xs:Fz V J s.heap I []:=x.st;cases xs with
   |lst a items n i y=>exact wpAny_pyNext_list_end hh y.it y.at_.isList (by simpa using Bs y.all) fin
   |tup a items n i y=>exact wpAny_pyNext_tuple_end hh y.it ⟨_,y.at_,rfl,_,rfl⟩ (by simpa using Bs y.all) fin
   |dF z c n y e'=>
    cases n with
    |succ n=>cases e'
    |zero=>exact wpAny_pyNext_range_end hh y (Int.le_refl 0) fin
   |cE b t i m y=>
    have y2:=y.is;have y1:=y.enc;cases m with
    |cons=>cases y2
    |nil=>exact KBw.next_end hh y.it (by simpa using Bs (List.map_eq_nil_iff.mp y1)) fin
   |str y0 t i m y=>
    have y2:=y.is;have y1:=y.enc;cases m with
    |cons=>cases y2
    |nil=>exact wpAny_pyNext_ascii_end hh y.it (by simpa using Bs y1) fin
 |lst n i=>refine aq x.st λa h1 h2=>?_;refine um e λl h3 e=>?_;have e:=Option.map_eq_none_iff.mp e;rw[cQ,uh] at e;refine ll (R.list h3 h1) λO items n' z=>?_;exact wpAny_pyNext_list_end hh h2 z.at_.isList (by simpa[z.all.length] using e) fin
 |dct n i sz ep=>refine aq x.st λa h1 h2=>?_;refine ub e λl h3 e=>?_;refine ur e λh4 e=>?_;refine us h4 λh4 h5=>?_;cases bW h4;cases bW h5;have e:=Option.map_eq_none_iff.mp (jR e);rw[cQ,uh] at e;refine ik (R.dictAt h3 h1) λO lO z=>?_;rw[<- z.len] at h2 e;exact wpAny_pyNext_dict_end (knd:=kS V) hh h2 z.at_ (uh.mpr e) fin
 |vals n i sz ep=>refine aq x.st λa h1 h2=>?_;refine ub e λl h3 e=>?_;refine ur e λh4 e=>?_;refine us h4 λh4 h5=>?_;cases bW h4;cases bW h5;have e:=Option.map_eq_none_iff.mp (jR e);rw[cQ,uh] at e;refine ik (R.dictAt h3 h1) λO lO z=>?_;rw[<- z.len] at h2 e;exact wpAny_pyNext_values_end (knd:=kS V) hh h2 z.at_ (uh.mpr e) fin
def yW(a b c:Int):Prop:=(a.natAbs<=1000000)/\(b.natAbs<=1000000)/\(0<c)/\(c.natAbs<=1000000)
section
variable {b1 b2 b3}(x:yW b1 b2 b3)
def yW.mk:=fp (yW b1 b2 b3) rfl
end
def T4{a b c:Int}(h:oy a b c=true):yW a b c:=by refine pH h λh1 h2 h3 h4=>?_;rw[rG] at h3;exact(yW.mk (gO h1) (gO h2) (of_decide_eq_true h3) (gO h4))
def HW(a b c:Int):pV a b c=if a<b then((b-a-1)/c+1).toNat else 0:=by
 unfold pV;rw[rG];by_cases h:a<b
 ·rw[decide_eq_true h,if_pos h]
 ·rw[decide_eq_false h,if_neg h]
def T3{a b c:Int}(h:oy a b c=true):Builtin.Range.small a b c=true/\Builtin.Range.rangeSize a b c=(pV a b c:Int):=by
 obtain⟨h1,h2,h3,h4⟩:=T4 h;have pos:a<b->0<=b-a-1:=λk=>by rw[Int.sub_sub];exact Int.sub_nonneg_of_le k
 have div:a<b->0<=(b-a-1)/c+1:=λk=>Int.add_nonneg (Int.ediv_nonneg (pos k) (Int.le_of_lt h3)) (by decide);have h5:Builtin.Range.rangeSize a b c=(pV a b c:Int):=by
  rw[HW];unfold Builtin.Range.rangeSize;rw[if_pos h3];split
  ·exact(Int.toNat_of_nonneg (div ‹_›)).symm
  ·rfl
 have hb:(pV a b c:Int)<=((3000000:Nat):Int):=by
  rw[HW];by_cases k:a<b
  ·rw[if_pos k,Int.toNat_of_nonneg (div k)];refine sE (Int.add_le_add_right (Int.ediv_le_self _ (pos k)) 1) ?_;rw[Int.sub_add_cancel];refine sE Int.le_natAbs (nO.mpr (aM (Int.natAbs_sub_le b a) (aM (Nat.add_le_add h2 h1) (by decide))))
  ·rw[if_neg k];exact nO.mpr (jP _)
 have f:∀i:Int,i.natAbs<=3000000->Builtin.Range.rangeFitsLong i=true:=by intro i hi;unfold Builtin.Range.rangeFitsLong;simp;exact⟨sE (by decide:_<=-((3000000:Nat):Int)) (Int.neg_le_of_neg_le (sE (by rw[<- Int.natAbs_neg];exact Int.le_natAbs) (nO.mpr hi))),Int.lt_of_le_of_lt (sE Int.le_natAbs (nO.mpr hi)) (by decide)⟩
 refine⟨?_,h5⟩;unfold Builtin.Range.small;rw[h5,f a (by exact B5 ‹_›),f b (by exact B5 ‹_›),f c (by exact B5 ‹_›),f ((pV a b c:Nat):Int) (nO.mp hb),if_pos h3,f (b+(c-1)) (aM (Int.natAbs_add_le ..) (aM (Nat.add_le_add h2 (aM (Int.natAbs_sub_le c 1) (ze h4 1))) (by decide)))];simp
def adG(V:Cf)(A:Around)(J:Ph)(s:Shared)(v:Value)(src:bJ):Prop:=∀Q E,(∀o,kh o->cI V J (s.heap.push o) s.heap.objs.size src->Q (.ref s.heap.objs.size) {s with heap:=s.heap.push o})->wpAny (model V.prog V.w) A (pyIter v) Q E s
def JU(R:aZ V J H s.heap)(ok:ef V){v:Value}{x:AV}(hx:VR V J s.heap v x)(e:eQ x H=some src):adG V A J s v src:=by
 intro Q E h;have out:=R.fresh (bf s.heap.objs.size);have low:=R.base;have G:∀o,ax s {s with heap:=s.heap.push o}:=λo=>ax.push s o s.toks;cases x with
 |tup l=>obtain rfl:=sj e;refine cO hx λa items n aa y=>?_;clear hx;subst aa;exact wpAny_pyIter_tuple ⟨_,y.at_,rfl,_,rfl⟩ (h _ ⟨_,_,rfl,by decide,rfl⟩ (cI.mk (.tup _ _ _ 0 (nL.mk ⟨_,cY _ rfl,rfl,rfl⟩ ((G _).keep _ _ y.at_) y.out ((G _).jW y.all))) low out))
 |lst l=>obtain rfl:=sj e;refine cO hx λa items n aa y=>?_;clear hx;subst aa;exact wpAny_pyIter_list y.at_.isList (h _ ⟨_,_,rfl,by decide,rfl⟩ (cI.mk (.lst _ _ _ 0 (nM.mk ⟨_,cY _ rfl,rfl,rfl⟩ ((G _).keep _ _ y.at_) y.out ((G _).jW y.all))) low out))
 |cE l=>obtain rfl:=sj e;refine bB hx λb t aa y o=>?_;clear hx;subst aa;exact KBw.pyIter_bytes (h _ ⟨_,_,rfl,by decide,rfl⟩ (cI.mk (.cE b t 0 l (oY.mk ⟨_,cY _ rfl,rfl,rfl⟩ y rfl)) low out))
 |str l=>
  obtain rfl:=sj e;refine aq hx λt aa o=>?_;clear hx;subst aa;have asc:(V.tx l).cps.all (·<128)=true:=by show((V.enc l).toArray).all _=true;rw[List.all_toArray,jw];intro c hc;refine aq (bU.mp hc) λe he aa=>?_;subst aa;have:=o.sign e he;simp;exact FN ‹_›
  exact wpAny_pyIter_ascii asc (h _ ⟨_,_,rfl,by decide,rfl⟩ (cI.mk (.str (V.tx l) t 0 l (nK.mk ⟨_,cY _ rfl,rfl,rfl⟩ rfl rfl o.sign)) low out))
 |dF a b c=>obtain rfl:=sj e;refine GA hx λA' t u w aa y O z=>?_;clear hx;subst aa;refine ua (T3 z) λz1 z2=>?_;refine wpAny_pyIter_range y z1 (h _ ⟨_,_,rfl,by decide,rfl⟩ (cI.mk (.dF _ _ _ ?_ rfl) low out));rw[<- z2];exact cY _ rfl
 |ref n=>
  have e:(match bx H n with
   |some _=>some (.lst n 0)
   |none=>(cD H n).map λr=>.dct n 0 r.2.length r.1)=some src:=e
  refine aq (ij hx rfl) λp aa hp=>?_;subst aa;cases hl:bx H n with
  |some l=>rw[hl] at e;obtain rfl:=sj e;refine ll (R.list hl hp) λpe items n' z=>?_;exact wpAny_pyIter_list z.at_.isList (h _ ⟨_,_,rfl,by decide,rfl⟩ (cI.mk ⟨p.1,pe▸hp,⟨_,cY _ rfl,rfl,rfl⟩⟩ low out))
  |none=>rw[hl] at e;refine um e λr h1 aa=>?_;subst aa;refine ik (R.dictAt h1 hp) λpe lO z=>?_;refine wpAny_pyIter_dict (knd:=kS V) (xG R hp pe ok.big) z.at_ (h _ ⟨_,_,rfl,by decide,rfl⟩ (cI.mk ⟨p.1,pe▸hp,⟨_,cY _ rfl,rfl,?_⟩⟩ low out));rw[z.len];rfl
 |vals n=>refine um e λr h1 aa=>?_;subst aa;refine qU hx λb a d' aa hp hv ho=>?_;clear hx;subst aa;refine ik (R.dictAt h1 hp) λpe lO z=>?_;refine wpAny_pyIter_values (knd:=kS V) hv z.at_ (h _ ⟨_,_,rfl,by decide,rfl⟩ (cI.mk ⟨a,pe▸hp,⟨_,cY _ rfl,rfl,?_⟩⟩ low out));rw[z.len];rfl
 |_=>exact aR e
end
section
variable {V:Cf}{G:Fm}{J:Ph}{s:Shared}{U:aC}{H:Hp}{d:Nat}{q:Bool}
variable {E:Value->Shared->Prop}{I:Addr}{v:Value}
set_option backward.match.sparseCases true in
def WV{M:Model}{A:Around}{Q:Unit->Shared->Prop}{tg:Expr}(hI:∃o,s.heap.get? I=some o/\kh o)(h:Q () s):wpAny M A (letOwnedTupleGo tg (.ref I) v) Q E s:=by
 obtain⟨o,e,⟨T,vs,h1,h2,h3⟩⟩:=hI;unfold letOwnedTupleGo;have key:wpAny M A (do
   let (.ref r,.ref a):=(Value.ref I,v)|return
   let o <- load r
   match o.cls,o.data with
   |.type n,.fields vs=>
    if["enumerate","zip","dict_itemiterator","dict_reverseitemiterator","odict_iterator","itertools.zip_longest","itertools.pairwise"].contains n&&vs[0]?==some (rawInt a) then
     rule "for.unpacks-the-owned-tuple"
     updateField r 0 .none
   |_,_=>pure ()) Q E s:=by
  cases v with
  |ref a=>
   refine ah (wpAny_load e ?_);rw[h1,h3];have hT:["enumerate","zip","dict_itemiterator","dict_reverseitemiterator","odict_iterator","itertools.zip_longest","itertools.pairwise"].contains T=false:=by unfold vn at h2;simp only[Bool.or_eq_true,beq_iff_eq] at h2;rcases h2 with(((((rfl|rfl)|rfl)|rfl)|rfl)|rfl)|rfl<;>decide
   show wpAny M A (if(_&&_)=true then _ else _) Q E s;rw[hT];exact aH h
  |_=>exact aH h
 cases tg<;>first|exact key|exact aH h
variable {s':Shared}
def eg.trans{ja:Shared}(a:eg I s s')(b:eg I s' ja):eg I s ja:=(eg.mk (λx o hx e=>b.keep x o hx (a.keep x o hx e)) (b.gens.trans a.gens) (b.os.trans a.os))
def eg.vr(k:eg I s s')(hI:∃o,s.heap.get? I=some o/\kh o){x:AV}(r:VR V J s.heap v x):VR V J s'.heap v x:=r.mono (k.ext J) (An hI) (Gr.refl ..)
def eg.jW(k:eg I s s')(hI:∃o,s.heap.get? I=some o/\kh o){v:List Value}{x:List AV}(r:aQ V J s.heap v x):aQ V J s'.heap v x:=r.mono (k.ext J) (An hI) (Gr.refl ..)
def o7(V:Cf)(d:Nat)(q:Bool)(G:Fm)(J:Ph)(U:aC)(H:Hp)(I:Addr)(l r:List AV)(s:Shared)(xs:List Value)(s':Shared):Prop:=(ao V d q G J U H s')/\(eg I s s')/\(aQ V J s'.heap xs l)/\(cI V J s'.heap I (.fix r))
section
variable {b1 b2 b3 b4 b5 b6 b7 b8 b9 nE yQ yP M0}(x:o7 b1 b2 b3 b4 b5 b6 b7 b8 b9 nE yQ yP M0)
def o7.mk:=fp (o7 b1 b2 b3 b4 b5 b6 b7 b8 b9 nE yQ yP M0) rfl
def o7.pre:=x.1
def o7.but:=x.2.1
def o7.all:=x.2.2.1
def o7.it:=x.2.2.2
end
def aa9(hX:I∉G.X):∀(l r:List AV) (s:Shared) (Q:List Value->Shared->Prop),ao V d q G J U H s->cI V J s.heap I (.fix (l++r)) ->
  (∀xs s',o7 V d q G J U H I l r s xs s'->Q xs s')->wpAny (model V.prog V.w) G.A (draw (.ref I) l.length) Q E s:=by
 intro l
 induction l with
 |nil=>intro r s Q pre x h;exact aH (h [] s (o7.mk pre (eg.mk (λO O O e=>e) rfl rfl) .nil x))
 |cons y l ih=>intro r s Q pre x h;show wpAny _ G.A (pyNext (.ref I)>>=_) Q E s;refine ah (IX x _ _ λxv s1 k1 r1 x1=>?_);exact ah (c8 (ih r s1 _ (pre.it k1 (lQ x.st) x.new x.out hX) x1 λxs s2 w=>aH (h _ s2 (o7.mk w.pre (k1.trans w.but) (.cons (w.but.vr (lQ x1.st) r1) w.all) w.it))))
def Cc(pre:ao V d q G J U H s)(hI:s.heap.objs.size<=I):I∉G.X:=λh=>by refine aq (pre.er.fG I h) λo e O=>?_;exact absurd (fx e) (hZ.mpr hI)
def I6{a:Addr}{o:Obj}(e:s.heap.get? a=some o):a≠s.heap.objs.size:=dT (fx e)
def XY(ok:ef V)(hh:G.A.handled=none)(pre:ao V d q G J U H s){x:AV}{l:List AV}(hx:VR V J s.heap v x)(hl:Bj x=some l){Q:List Value->Shared->Prop}
  (h:∀xs s',ax s s'->aQ V J s'.heap xs l->Q xs s'):wpAny (model V.prog V.w) G.A (unpackItems v l.length none) Q E s:=by
 have key:eQ x H=some (.fix l)/\∃T id,s.TypeIs v T/\Slot T "__iter__" id:=by
  cases x with
  |tup=>obtain rfl:=sj hl;refine cO hx λa items n aa y=>?_;clear hx;subst aa;exact⟨rfl,"tuple",_,⟨_,y.at_,rfl⟩,F.slot_tuple_iter⟩
  |lst=>obtain rfl:=sj hl;refine cO hx λa items n aa y=>?_;clear hx;subst aa;exact⟨rfl,"list",_,⟨_,y.at_,rfl⟩,slot_list_iter⟩
  |_=>exact aR hl
 refine Rf key λhs T id hT sl=>?_;clear key;unfold unpackItems;refine ah ?_;unfold notIterableAtAll;refine ah (wpAny_specialOf hT sl.lookup ?_);refine aH ?_;refine ah (c8 (JU pre.rel ok hx hs _ _ λo ho x1=>?_));have g:ax s {s with heap:=s.heap.push o}:=ax.push s o s.toks;refine ah (c8 (aa9 (Cc pre (bf _):s.heap.objs.size∉G.X) l [] _ _ (pre.grow g) (by rw[eV];exact x1:cI V J (s.heap.push o) s.heap.objs.size (.fix (l++[]))) λxs s2 w=>?_));rw[if_neg (by rw[w.all.length];exact jQ _)];refine ah (c8 (IY w.pre.rel hh w.it rfl _ _ λs3 k3=>?_));show wpAny _ G.A (pure xs) Q E s3;exact aH (h xs s3 (ax.mk (λb o' e=>k3.keep b o' (I6 e) (w.but.keep b o' (I6 e) (g.keep b o' e))) (k3.gens.trans (w.but.gens.trans g.gens)) (k3.os.trans (w.but.os.trans g.os))) (k3.jW (lQ w.it.st) w.all))
def rZ(K:Cx)(x:Str)(k:Nat):Prop:=(pX x=true)/\(K.sc.lookup x=some k)/\(K.kn.lookup x=some .local\/K.kn.lookup x=some .cell)
section
variable {b1 b2 b3}(x:rZ b1 b2 b3)
def rZ.mk:=lJ (rZ b1 b2 b3) rfl
def rZ.name:=x.1
def rZ.sc:=x.2.1
def rZ.kn:=x.2.2
end
def Ce{K:Cx}{c:C}(h:nW K c=true):∃x k p,c=.var x k p/\rZ K x k:=by
 cases c with
 |var x k p=>refine jx h λh1 h2 h3=>?_;exact⟨x,k,p,rfl,rZ.mk h1 (of_decide_eq_true h2) ((sy.mp h3).imp (λh=>of_decide_eq_true h) λh=>of_decide_eq_true h)⟩
 |_=>exact cR h
def BK(pre:ao V d q G J U H s){c:C}(h:nW G.K c=true){a:AV}(hv:VR V J s.heap v a):ag V G J s (assign (au c) G.env v) (lE c.slot a U H) (λO O O O=>True):=by refine cO (Ce h) λx k p aa w=>?_;subst aa;exact TT.imp (λO O h=>wpAny_assign_Name h) (GX pre w.sc w.kn hv)
def L4{c:C}{K:Cx}{env:Env}(h:nW K c=true)(r:List Expr):assignEach (au c::r) env=(false,assign (au c) env)::assignEach r env:=by refine cO (Ce h) λx k p aa O=>?_;subst aa;rfl
theorem Sf:∀(l:List C) (xs:List Value) (vs:List AV) {J:Ph} {U:aC} {H:Hp} {s:Shared},ao V d q G J U H s->(∀c∈l,nW G.K c=true)->aQ V J s.heap xs vs ->
  ag V G J s (assignInOrder ((assignEach (l.map au) G.env).map (·.2)) xs) (sV l vs U H) (λO O O O=>True):=by
 intro l
 induction l with
 |nil=>
  intro xs t_ _ _ _ _ pre _ hr;cases t_ with
  |nil=>subst hr;exact TT.imp (λO O h=>aH h) (TT.now (Nx.refl ..) pre trivial)
  |cons _ _=>exact ag.stuck
 |cons c l ih=>
  intro xs t_ J U H s pre h hr;cases t_ with
  |nil=>exact ag.stuck
  |cons v vs=>obtain⟨x,r,rfl,hx,hr⟩:=hr;have hc:=h c bA;rw[bE,L4 hc];show ag V G J s (do holding r (assign (au c) G.env x);assignInOrder ((assignEach (l.map au) G.env).map (·.2)) r) _ _;exact TT.imp (λO O h=>ah (c8 h)) (TT.seq (Nx.refl ..) pre (BK pre hc hx) λO O ρ1 H1 φ1 s1 n1 m1 p1 r1=>TT.last m1 (ih r vs p1 (λc hc=>h c (bS _ hc)) (n1.jW pre.er hr)))
theorem aaK{K:Cx}{env:Env}:∀{l:List C},(∀c∈l,nW K c=true)->(assignEach (l.map au) env).length=l.length/\(assignEach (l.map au) env).findIdx? (·.1)=none:=by
 intro l
 induction l with
 |nil=>intro _;exact⟨rfl,rfl⟩
 |cons c l ih=>intro h;refine ua (ih λc hc=>h c (bS _ hc)) λh1 h2=>?_;rw[bE,L4 (h c bA)];exact⟨by simp[h1],by rw[List.findIdx?_cons];simpa using h2⟩
theorem S6:∀(l:List C) (vs:List AV) (U:aC) (H:Hp),l.length≠vs.length->sV l vs U H=.stuck:=by
 intro l
 induction l with
 |nil=>
  intro t_ _ _ h;cases t_ with
  |nil=>exact absurd rfl h
  |cons _ _=>exact rfl
 |cons c l ih=>
  intro t_ U H h;cases t_ with
  |nil=>exact rfl
  |cons v vs=>
   show M.bind (lE c.slot v) (λO=>sV l vs) U H=_;unfold M.bind lE;cases Nat.blt c.slot U.length with
   |true=>exact(λU H=>ih vs U H λq=>h (congrArg (·+1) q)) _ H
   |false=>rfl
def Fi(ok:ef V)(hh:G.A.handled=none)(pre:ao V d q G J U H s){t:C}(h:mI G.K t=true){a:AV}(hv:VR V J s.heap v a):
  ag V G J s (assign (au t) G.env v) (jq t a U H) (λO O O O=>True):=by
 cases t with
 |var x k p=>exact BK pre (c:=.var x k p) h hv
 |tup l k pos=>
  refine us h λh1 h2=>?_;rw[jw] at h2;refine ua (aaK (env:=G.env) h2) λe1 e2=>?_;show ag V G J s (assign (.Tuple (bN l) k pos) G.env v) ((match Bj a with|some vs=>sV (cs l) vs|none=>M.stuck) U H) _;cases hl:Bj a with
  |none=>exact ag.stuck
  |some vs=>
   rw[DU h1,arm_assign_Tuple];unfold unpack;rw[e1,e2];show ag V G J s _ (sV (cs l) vs U H) _;by_cases hlen:(cs l).length=vs.length
   ·have fin:ag V G J s (do standAt pos;assignInOrder ((assignEach ((cs l).map au) G.env).map (·.2)) (<- holding [v] (unpackItems v vs.length none))) (sV (cs l) vs U H) (λO O O O=>True):=by intro hs;refine ah (fy (ah (c8 (XY ok hh pre hv hl λxs s' g r=>?_))));exact TT.last (g.nx G.X J) (Sf (cs l) xs vs (pre.grow g) h2 r) hs
    rw[hlen];exact fin
   ·rw[S6 _ _ _ _ hlen];exact ag.stuck
 |_=>exact cR h
end
section
variable {V:Cf}{G:Fm}{φ₀ J:Ph}{s₀ s:Shared}{U:aC}{H:Hp}{d:Nat}{q:Bool}
def no(_:Value)(_:Shared):Prop:=False
variable {I:Addr}
def Nx.but{X:List Addr}{s':Shared}(n:Nx X φ₀ J s₀ s)(k:eg I s s')(hI:¬ cN s₀.heap I):Nx X φ₀ J s₀ s':=by have ne:∀a,cN s₀.heap a->a≠I:=λa o q=>hI (q▸o);refine(Nx.mk ⟨λa o e h1 h2=>(n.ext.keep a o e h1 h2).trans λo' e'=>.inl (k.keep a _ (ne a ⟨o,e⟩) e')⟩ n.gr (k.gens.trans n.gens) (k.os.trans n.os) (λa ho=>?_));refine ue (n.live a ho) λo' e'=>?_;exact⟨o',k.keep a _ (ne a ho) e'⟩
def qy(s₀:Shared)(G:Fm)(I:Addr):Prop:=¬ cN s₀.heap I/\I∉G.X
variable {Q:Value->Shared->Prop}
def DP(ok:ef V)(pre:ao V d q G J U H s){v:Value}{x:AV}{src:bJ}(hx:VR V J s.heap v x)(e:eQ x H=some src){A:Around}{E:Value->Shared->Prop}
  (h:∀I s',ax s s'->cI V J s'.heap I src->qy s G I->Q (.ref I) s'):wpAny (model V.prog V.w) A (pyIter v) Q E s:=
 JU pre.rel ok hx e _ _ λo O it=>h _ _ (ax.push s o s.toks) it ⟨jH (bf _),Cc pre (bf _)⟩
def adC(V:Cf)(A:Around)(I:Addr)(tg:C)(QN:Shared->Prop)(Q:Value->Shared->Prop)(s:Shared):Prop:=
 wpAny (model V.prog V.w) A (pyNext (.ref I)) (λr s₁=>match r with
  |none=>QN s₁
  |some v=>wpAny (model V.prog V.w) A (letOwnedTupleGo (au tg) (.ref I) v) (λO s'=>Q v s') no s₁) no s
def GI(n0:Nx G.X φ₀ J s₀ s)(pre:ao V d true G J U H s){src:bJ}{tg:C}(it:cI V J s.heap I src)(hn:qy s₀ G I){o:Option (AV×bJ)}(e:src.next H=some o)
  {QN:Shared->Prop} 
  (h0:o=none->∀s1,ao V d true G J U H s1->Nx G.X φ₀ J s₀ s1->QN s1)
  (h1:∀p,o=some p->∀xv s1,ao V d true G J U H s1->Nx G.X φ₀ J s₀ s1->VR V J s1.heap xv p.1->cI V J s1.heap I p.2->Q xv s1):adC V G.A I tg QN Q s:=by
 cases o with
 |none=>exact IY pre.rel (pre.hd rfl) it e _ _ λs1 k1=>h0 rfl s1 (pre.it k1 (lQ it.st) it.new it.out hn.2) (n0.but k1 hn.1)
 |some p=>exact VZ (v:=p.1) (src':=p.2) pre.rel it e _ _ λxv s1 k1 rv iP=>WV (lQ iP.st) (h1 p rfl xv s1 (pre.it k1 (lQ it.st) it.new it.out hn.2) (n0.but k1 hn.1) rv iP)
def JT{s1:Shared}(hl:∀a,cN s.heap a->cN s1.heap a)(h:qy s1 G I):qy s G I:=⟨λho=>h.1 (hl _ ho),h.2⟩
end
section
def sI(V:Cf)(K:Cx)(t:C):Bool:=match t with
 |.var x k p=>nW K (.var x k p)
 |.tup l k p=>mI K (.tup l k p)
 |.sub o i _=>wf V o K&&wf V i K&&!rL (au i)
 |.attr o x a _=>wf V o K&&Av V a x
 |_=>false
def Gh(V:Cf)(K:Cx)(t:C):Bool:=match t with
 |.var x k p=>nW K (.var x k p)
 |.attr o x a _=>wf V o K&&Av V a x
 |_=>false
def uC(V:Cf)(K:Cx)(x:Str)(k:Nat):Bool:=pX x&&tE K x .globalImplicit&&decide (V.gl[k]?=some x)
mutual
noncomputable def wF(V:Cf):S->Cx->Bool
 |.asg ts e _,K=>tI ts&&(cs ts).all (sI V K)&&wf V e K&&(Nat.beq (cs ts).length 1||rE (au e))&&Ar (au e)
 |.aug _ t e _,K=>wf V e K&&Gh V K t
 |.expr e _,K=>wf V e K&&rE (au e)
 |.iff t a b _,K=>wf V t K&&eX V a K&&eX V b K
 |.gP t a b _,K=>wf V t K&&eX V a K&&eX V b K
 |.loop tg it b _,K=>mI K tg&&wf V it K&&tj (au it)&&eX V b K
 |.ret e _,K=>qe e||wf V e K
 |.tri b x k _ h _ _,K=>eX V b K&&uC V K x k&&eX V h K&&!(ss h).isEmpty
 |.del o i _ _,K=>wf V o K&&wf V i K
 |.raise x k _ args _ _,K=>uC V K x k&&jU V args K
 |_,_=>true
noncomputable def eX(V:Cf):S->Cx->Bool
 |.nil,_=>true
 |.cons a r,K=>wF V a K&&eX V r K
 |_,_=>false
end
variable {V:Cf}{G:Fm}{J:Ph}{s:Shared}{U:aC}{H:Hp}{d:Nat}{q:Bool}{E:Ev}
def Gj{K:Cx}{l:S}:eX V l K=true->c9 l=(ss l).map wI/\∀c∈ss l,wF V c K=true:=by
 induction l with
 |nil=>exact λO=>⟨rfl,λc h=>nomatch h⟩
 |cons a r _ ih=>
  intro h;refine us h λh1 h2=>?_;refine ua (ih h2) λh3 h4=>?_;exact⟨congrArg (wI a::·) h3,λc hc=>by
   rcases bQ.mp hc with rfl|hc
   ·exact h1
   ·exact h4 c hc⟩
 |_=>exact cR
structure v9(V:Cf):Prop where
 get:∀{d q G J U H s vo ov x a},ao V d q G J U H s->VR V J s.heap vo ov->V.nm[a]?=some x->ag V G J s (getAttr vo x true) (cu (qr V.P a ov) U H) (VR V)
 set:∀{d q G J U H s vo ov x a vv v},ao V d q G J U H s->VR V J s.heap vo ov->VR V J s.heap vv v->V.nm[a]?=some x->ag V G J s (setAttr vo x vv) (gn (pP V.P a ov v) U H) (λO O O O=>True)
structure vY(V:Cf)(E:Ev):Prop extends d3 V E where
 s:∀{d q G J U H s c},ao V d q G J U H s->wF V c G.K=true->ag V G J s (exec (wI c) G.env) (E.s d q c U H) (d6 V)
def aai(Sd:vY V E):∀(l:List S) {J:Ph} {U:aC} {H:Hp} {s:Shared},ao V d q G J U H s->(∀c∈l,wF V c G.K=true) ->
  ag V G J s (execs (l.map wI) G.env) (cW (E.s d q) l U H) (d6 V):=by
 intro l
 induction l with
 |nil=>intro _ _ _ _ pre _;exact TT.imp (λO O h=>aH h) (TT.now (Nx.refl ..) pre rfl)
 |cons c l ih=>
  intro J U H s pre h;rw[bE,arm_execs_cons];refine ag.bind pre (Sd.s pre (h c bA)) λf g ρ1 H1 φ1 s1 n1 p1 r1=>?_;cases g with
  |next=>subst r1;exact ih p1 λc hc=>h c (bS _ hc)
  |brk=>subst r1;exact TT.imp (λO O h=>aH h) (TT.now (Nx.refl ..) p1 rfl)
  |cont=>subst r1;exact TT.imp (λO O h=>aH h) (TT.now (Nx.refl ..) p1 rfl)
  |ret v=>refine aq r1 λw aa r=>?_;clear r1;subst aa;exact TT.imp (λO O h=>aH h) (TT.now (Nx.refl ..) p1 ⟨w,rfl,r⟩)
def qo(Sd:vY V E){l:S}(pre:ao V d q G J U H s)(h:eX V l G.K=true):ag V G J s (execs (c9 l) G.env) (cW (E.s d q) (ss l) U H) (d6 V):=by refine ua (Gj h) λh1 h2=>?_;rw[h1];exact aai Sd _ pre h2
def M3(pre:ao V d q G J U H s){op:Operator}{vx vy:Value}{x y:AV}(hx:VR V J s.heap vx x)(hy:VR V J s.heap vy y):
  ag V G J s (inplaceOp op vx vy) (cu (λO=>tX op x y) U H) (VR V):=ag.opt pre λv e Q E h=>by
 refine ub e λi h1 e=>?_;refine ub e λj h2 e=>?_;refine ue (eE hx h1) λt aa=>?_;subst aa;refine ue (eE hy h2) λu aa=>?_;subst aa;cases op with
 |Add=>obtain rfl:=sj e;exact wpAny_iadd_int (h _ _ (ax.toks ..) (.lit ..))
 |Sub=>obtain rfl:=sj e;exact PyProof.Rows.isub_int (h _ _ (ax.toks ..) (.lit ..))
 |_=>exact aR e
variable {t:C}
def GO(ok:ef V)(jL:v9 V)(Sd:d3 V E)(pre:ao V d q G J U H s)(h:sI V G.K t=true){v:Value}{a:AV}(hv:VR V J s.heap v a):
  ag V G J s (assign (au t) G.env v) (zE V.P (E.e d q) q a t U H) (λO O O O=>True):=by
 cases t with
 |var x k p=>exact BK pre (c:=.var x k p) h hv
 |tup l k pos=>
  cases q with
  |false=>exact ag.stuck
  |true=>exact Fi ok (pre.hd rfl) pre (t:=.tup l k pos) h hv
 |sub o i p=>refine jx h λh1 h2 h3=>?_;show ag V G J s (assign (.Subscript (au o) (au i) p) G.env v) (M.bind (E.e d q o) (λov=>M.bind (E.e d q i) λiv=>gn λH=>rb ov iv a H) U H) _;rw[arm_assign_Subscript];refine TT.imp (λO O h=>ah (c8 h)) (TT.seq (Nx.refl ..) pre (Sd.e pre h1) λov x ρ1 H1 φ1 s1 n1 m1 p1 r1=>?_);refine TT.imp (λO O h=>ah (c8 h)) (TT.seq m1 p1 (Sd.e p1 h2) λiv y ρ2 H2 φ2 s2 n2 m2 p2 r2=>?_);refine TT.imp (λO O h=>ah (fy (ah (c8 (cz h (λO O h'=>wpAny_release h') λO O e=>e))))) (TT.last m2 ?_);exact S8 p2 (n2.vr p1.er r1) r2 (n2.vr p1.er (n1.vr pre.er hv))
 |attr o x k p=>refine us h λh1 h2=>?_;show ag V G J s (assign (.Attribute (au o) x p) G.env v) (M.bind (E.e d q o) (λov=>gn λH=>pP V.P k ov a H) U H) _;rw[arm_assign_Attribute];refine TT.imp (λO O h=>ah (c8 h)) (TT.seq (Nx.refl ..) pre (Sd.e pre h1) λov x ρ1 H1 φ1 s1 n1 m1 p1 r1=>?_);refine TT.imp (λO O h=>ah (fy (ah (c8 (cz h (λO O h'=>wpAny_release h') λO O e=>e))))) (TT.last m1 ?_);exact jL.set p1 r1 (n1.vr pre.er hv) (of_decide_eq_true h2)
 |_=>exact cR h
variable {env:Env}
def zo{K:Cx}(h:sI V K t=true)(rest:List Expr):assignEach (au t::rest) env=(false,assign (au t) env)::assignEach rest env:=by cases t<;>first|rfl|exact cR h
theorem GL(ok:ef V)(jL:v9 V)(Sd:d3 V E){v:Value}{a:AV}:∀(l:List C) {J:Ph} {U:aC} {H:Hp} {s:Shared},ao V d q G J U H s->(∀t∈l,sI V G.K t=true)->VR V J s.heap v a ->
  ag V G J s (assignAll v ((assignEach (l.map au) G.env).map (·.2))) (wV V.P (E.e d q) q a l U H) (λO O O O=>True):=by
 intro l
 induction l with
 |nil=>intro _ _ _ _ pre _ _;exact TT.imp (λO O h=>aH h) (TT.now (Nx.refl ..) pre trivial)
 |cons t l ih=>
  intro J U H s pre h hv;cases l with
  |nil=>have h1:=h t bA;rw[bE,zo h1];show ag V G J s (assign (au t) G.env v) (M.bind (zE V.P (E.e d q) q a t) (λO=>cj ()) U H) _;exact TT.seq (W:=λO s' Q O=>Q () s') (Nx.refl G.X J s) pre (GO ok jL Sd pre h1 hv) λO O ρ1 H1 φ1 s1 n1 m1 p1 r1=>TT.now m1 p1 trivial
  |cons t2 l=>have h1:=h t bA;have h2:=h t2 (bS _ bA);rw[bE,zo h1,bE,bE,zo h2];show ag V G J s (do holding [v] (assign (au t) G.env v);assignAll v (assign (au t2) G.env::(assignEach (l.map au) G.env).map (·.2))) (M.bind (zE V.P (E.e d q) q a t) (λO=>wV V.P (E.e d q) q a (t2::l)) U H) _;refine TT.imp (λO O h=>ah (c8 h)) (TT.seq (Nx.refl G.X J s) pre (GO ok jL Sd pre h1 hv) λO O ρ1 H1 φ1 s1 n1 m1 p1 r1=>TT.last m1 ?_);have:=ih p1 (λc hc=>h c (bS _ hc)) (n1.vr pre.er hv);rw[bE (l:=l),zo h2] at this;exact this
variable {tgs:List Expr}{v:Expr}
def RZ(h:Ar v=true):swappedStores tgs v env=pure none:=by
 cases tgs with
 |nil=>rfl
 |cons a r=>cases a<;>first|rfl|(cases r<;>first|rfl|(cases v<;>first|rfl|exact cR h))
def SF{line:Nat}(h:rE v=true):swapsWithSole tgs v line env=pure false:=by
 cases tgs with
 |nil=>rfl
 |cons t r=>
  cases r with
  |nil=>cases v<;>first|rfl|exact cR h
  |cons=>rfl
variable {pos:Pos}
def HG(ok:ef V)(jL:v9 V)(Sd:d3 V E)(pre:ao V d q G J U H s){ts:C}{m:M AV}(h0:tI ts=true)(h1:∀t∈cs ts,sI V G.K t=true)(h2:ag V G J s (eval v G.env) (m U H) (VR V))(h3:swapsWithSole (bN ts) v pos.line G.env=pure false)(h4:Ar v=true):
  ag V G J s (exec (.Assign (bN ts) v pos) G.env) (M.bind m (λv=>M.bind (wV V.P (E.e d q) q v (cs ts)) λO=>cj .next) U H) (d6 V):=by
 rw[arm_exec_Assign,h3,RZ h4,DU h0];refine TT.imp (λQ E h=>ah (fy (ah (aH (ah h))))) (TT.seq (Nx.refl ..) pre h2 λa x ρ1 H1 φ1 s1 n1 m1 p1 r1=>?_);refine TT.imp (λQ E h=>ah (aH (ah h))) (TT.seq m1 p1 (GL ok jL Sd (cs ts) p1 h1 r1) λO O ρ2 H2 φ2 s2 n2 m2 p2 r2=>?_);exact TT.imp (λO O h=>aH h) (TT.now m2 p2 rfl)
def TA(jL:v9 V)(Sd:d3 V E)(pre:ao V d q G J U H s){op:Operator}{e:C}(h1:Gh V G.K t=true)(h2:wf V e G.K=true):
  ag V G J s (exec (.AugAssign (au t) op (au e) pos) G.env) (M5 V.P E d q op t e U H) (d6 V):=by
 cases t with
 |var x k p=>refine cO (Ce (c:=.var x k p) h1) λx' k' p' q1 w=>?_;cases q1;refine TT.imp (λQ E h=>wpAny_AugAssign_Name h) (TT.seq (Nx.refl ..) pre (Gn pre w.sc (ID w.name)) λa x ρ1 H1 φ1 s1 n1 m1 p1 r1=>?_);refine TT.seq m1 p1 (Sd.e p1 h2) λb y ρ2 H2 φ2 s2 n2 m2 p2 r2=>?_;refine TT.seq m2 p2 (M3 p2 (n2.vr p1.er r1) r2) λc z ρ3 H3 φ3 s3 n3 m3 p3 r3=>?_;exact TT.seq m3 p3 (GX p3 w.sc w.kn r3) λO O ρ4 H4 φ4 s4 n4 m4 p4 r4=>TT.now m4 p4 rfl
 |attr o x a p=>refine us h1 λh3 h4=>?_;have h4:=of_decide_eq_true h4;show ag V G J s (exec (.AugAssign (.Attribute (au o) x p) op (au e) pos) G.env) (M4 V.P E d q op o a e U H) (d6 V);rw[arm_exec_AugAssign_2];refine TT.imp (λQ E h=>ah (fy (ah h))) (TT.seq (Nx.refl ..) pre (Sd.e pre h3) λov x ρ1 H1 φ1 s1 n1 m1 p1 r1=>?_);refine TT.imp (λQ E h=>ah (c8 (ah (fy (ah h))))) (TT.seq m1 p1 (jL.get p1 r1 h4) λold y ρ2 H2 φ2 s2 n2 m2 p2 r2=>?_);refine TT.imp (λQ E h=>ah (c8 h)) (TT.seq m2 p2 (Sd.e p2 h2) λb z ρ3 H3 φ3 s3 n3 m3 p3 r3=>?_);refine TT.imp (λQ E h=>ah (fy (wpAny_operateT h))) (TT.seq m3 p3 (M3 p3 (n3.vr p2.er r2) r3) λc w ρ4 H4 φ4 s4 n4 m4 p4 r4=>?_);have sZ:=n4.vr p3.er (n3.vr p2.er (n2.vr p1.er r1));refine TT.imp (λQ E h=>ah (fy (ah (c8 h)))) (TT.seq m4 p4 (jL.set p4 sZ r4 h4) λO O ρ5 H5 φ5 s5 n5 m5 p5 r5=>?_);exact TT.imp (λQ E h=>ah (wpAny_release (aH h))) (TT.now m5 p5 rfl)
 |_=>exact cR h1
def RY{line:Nat}(h:rE v=true):swapsWith v none line env=pure false:=by cases v<;>first|rfl|exact cR h
def Tx(Sd:d3 V E)(pre:ao V d q G J U H s){e:C}(h:wf V e G.K=true)(h2:rE (au e)=true):
  ag V G J s (exec (.Expr (au e) pos) G.env) (LM E d q e U H) (d6 V):=by
 have hi:interactive G.env=false:=by unfold interactive;rw[pre.er.kind];rfl
 exact TT.imp (λQ E h=>wpAny_Expr_any h hi (RY h2)) (TT.seq (Nx.refl ..) pre (Sd.e pre h) λO O ρ1 H1 φ1 s1 n1 m1 p1 r1=>TT.now m1 p1 rfl)
def Tv(Sd:vY V E)(pre:ao V d q G J U H s){a b:S}(h1:wf V t G.K=true)(h2:eX V a G.K=true)(h3:eX V b G.K=true):
  ag V G J s (exec (.If (au t) (c9 a) (c9 b) pos) G.env) (Kg E d q t a b U H) (d6 V):=by
 refine TT.imp (λQ E h=>wpAny_If h) (TT.seq (Nx.refl ..) pre (Sd.t pre h1) λc c' ρ1 H1 φ1 s1 n1 m1 p1 r1=>?_);subst r1;cases c
 ·exact TT.last m1 (qo Sd p1 h3)
 ·exact TT.last m1 (qo Sd p1 h2)
def Tt(Sd:d3 V E)(pre:ao V d q G J U H s){e:C}(h:(qe e||wf V e G.K)=true):
  ag V G J s (exec (.Return (sO e) pos) G.env) (H8 E d q e U H) (d6 V):=by
 cases e with
 |nil=>exact TT.imp (λO O h=>wpAny_Return_none h) (TT.now (Nx.refl ..) pre ⟨_,rfl,.none⟩)
 |_=>exact TT.imp (λQ E h=>wpAny_Return_some h) (TT.seq (Nx.refl ..) pre (Sd.e pre h) λO O ρ1 H1 φ1 s1 n1 m1 p1 r1=>TT.now m1 p1 ⟨_,rfl,r1⟩)
def Tz(Sd:d3 V E)(pre:ao V d q G J U H s){o i:C}{zK:Pos}(h1:wf V o G.K=true)(h2:wf V i G.K=true):
  ag V G J s (exec (.Delete [.Subscript (au o) (au i) zK] pos) G.env) (Mi E d q o i U H) (d6 V):=by
 rw[arm_exec_Delete,arm_deleteEach_cons,arm_deleteEach_nil,arm_delete_Subscript];refine TT.imp (λQ E h=>ah (fy (ah (ah (ah h))))) (TT.seq (Nx.refl ..) pre (Sd.e pre h1) λov x ρ1 H1 φ1 s1 n1 m1 p1 r1=>?_);refine TT.imp (λQ E h=>ah (c8 h)) (TT.seq m1 p1 (Sd.e p1 h2) λiv y ρ2 H2 φ2 s2 n2 m2 p2 r2=>?_);refine TT.imp (λQ E h=>ah (fy (ah (c8 h)))) (TT.seq m2 p2 (abm p2 (n2.vr p1.er r1) r2) λO O ρ3 H3 φ3 s3 n3 m3 p3 r3=>?_);exact TT.imp (λQ E h=>wpAny_release (aH (aH h))) (TT.now m3 p3 rfl)
end
section
def sP(again:Shared->Prop)(Q:Flow->Shared->Prop)(f:Flow)(s:Shared):Prop:=match f with
 |.next=>again s
 |.cont=>again s
 |.brk=>Q .next s
 |.ret v=>Q (.ret v) s
def mW(Q:Flow->Shared->Prop)(r:Result)(s:Shared):Prop:=match r with
 |.ok f=>Q f s
 |.error _=>False
noncomputable def jm(V:Cf)(A:Around)(c:Code)(s:Shared):(Flow->Shared->Prop)->(Value->Shared->Prop)->Prop:=λQ O=>codeAny (model V.prog V.w) A c (mW Q) s
section
variable {prog:Program}{w:World}{A:Around}{s:Shared}
variable {Q:Flow->Shared->Prop}{body:List Stmt}{env:Env}
def QJ{test:Expr}{orelse:List Stmt} 
  (turn:wpAny (model prog w) A (isTrue test env (eval test env)) (λb s₂=>
    if b then wpAny (model prog w) A (execs body env) (sP (λs₃=>codeAny (model prog w) A (.whileLoop test body orelse env) (mW Q) s₃) Q) no s₂
    else wpAny (model prog w) A (execs orelse env) Q no s₂) no s):codeAny (model prog w) A (.whileLoop test body orelse env) (mW Q) s:=by
 refine uo ?_;show wpAny _ A ((whileTurn test body orelse env).onRaise (λx=>do noteFrame x env;theTreesLotGoes x)) _ _ s;refine wpAny_noted ?_;unfold whileTurn;refine ah (cz turn (λb s₂ h₂=>?_) λO O h'=>h'.elim);cases b with
 |true=>
  refine ah (cz h₂ (λf s₃ h₃=>?_) λO O h'=>h'.elim);cases f with
  |next=>exact aH ⟨rfl,h₃⟩
  |cont=>exact aH ⟨rfl,h₃⟩
  |brk=>exact aH h₃
  |ret v=>exact aH h₃
 |false=>exact ah (cz h₂ (λf s₃ h₃=>aH h₃) λO O h'=>h'.elim)
noncomputable def ZV(prog:Program)(w:World)(A:Around)(target:Expr)(it:Value)(body:List Stmt)(env:Env)(Q:Flow->Shared->Prop)(v:Value)(s:Shared):Prop:=wpAny (model prog w) A (assign target env v) (λO s₂=>wpAny (model prog w) A (execs body env) (sP (λs₃=>codeAny (model prog w) A (.forLoop target it body [] env) (mW Q) s₃) Q) no s₂) no s
variable {it:Value}
def ZU{target:Expr} 
  (turn:wpAny (model prog w) A (pyNext it) (λr s₁=>match r with
   |none=>Q .next s₁
   |some v=>wpAny (model prog w) A (letOwnedTupleGo target it v) (λO wO=>ZV prog w A target it body env Q v wO) no s₁) no s):
  codeAny (model prog w) A (.forLoop target it body [] env) (mW Q) s:=by
 refine uo ?_;show wpAny _ A ((forTurn target it body [] env).onRaise (λx=>do noteFrame x env;theTreesLotGoes x)) _ _ s;refine wpAny_noted ?_;unfold forTurn;refine ah (fy (ah (wpAny_onRaise (cz turn (λr s₁ h₁=>?_) λO O h'=>h'.elim))));cases r with
 |none=>exact aH ⟨rfl,codeAny_block (wpAny_execs_nil h₁)⟩
 |some v=>
  refine ah (cz h₁ (λO wO D5=>?_) λO O h'=>h'.elim);refine ah (cz D5 (λO s₂ h₂=>ah (cz h₂ (λf s₃ h₃=>?_) λO O h'=>h'.elim)) λO O h'=>h'.elim);cases f with
  |next=>exact aH ⟨rfl,h₃⟩
  |cont=>exact aH ⟨rfl,h₃⟩
  |brk=>exact aH h₃
  |ret v=>exact aH h₃
noncomputable def wM(ifs:List Expr)(env:Env)(b:Bool):Sem Bool:=forIn ifs b λc r=>if r=true then do let ok <- isTrue c env (eval c env);pure (ForInStep.yield ok) else pure (ForInStep.yield r)
structure CT where
 elt:Expr
 tg:Expr
 iter:Expr
 ifs:List Expr
 pre:List Comprehension
 post:List Comprehension
 sc:Scope
 pos:Pos
noncomputable def CT.e(c:CT):Expr:=.ListComp c.elt (c.pre++⟨c.tg,c.iter,c.ifs,0⟩::c.post) c.sc c.pos
noncomputable def CT.code(c:CT)(it acc:Value)(env:Env):Code:=.compLoop c.e c.pre.length it acc env
def CT.at_(c:CT):(c.pre++⟨c.tg,c.iter,c.ifs,0⟩::c.post)[c.pre.length]?=some ⟨c.tg,c.iter,c.ifs,0⟩:=by rw[pG (bf _),Nat.sub_self];rfl
def CT.at1(c:CT):(c.pre++⟨c.tg,c.iter,c.ifs,0⟩::c.post)[c.pre.length+1]?=c.post[0]?:=by rw[pG (i4 _),Nat.succ_sub (bf _),Nat.sub_self];rfl
def Br(prog:Program)(w:World)(A:Around)(c:CT)(acc:Value)(env:Env)(K:Shared->Prop)(Ex:Value->Shared->Prop)(s:Shared):Prop:=match c.post with
 |[]=>wpAny (model prog w) A (eval c.elt env) (λx s₄=>wpAny (model prog w) A (call (.builtin "list.append") [acc,x]) (λO s₅=>K s₅) Ex s₄) Ex s
 |g::_=>g.is_async=0/\tj g.iter=true/\wpAny (model prog w) A (eval g.iter env) (λx s₄=>wpAny (model prog w) A (pyIter x) (λit' s₅=>codeAny (model prog w) A (.compStart c.e (c.pre.length+1) it' acc env) (mW λO s₆=>K s₆) s₅) Ex s₄) Ex s
def abB(prog:Program)(w:World)(A:Around)(c:CT)(it acc:Value)(env:Env)(Q:Flow->Shared->Prop)(v:Value)(s:Shared):Prop:=
 wpAny (model prog w) A (assign c.tg env v) (λO s₂=>wpAny (model prog w) A (wM c.ifs env true) (λb s₃=>if b then
   Br prog w A c acc env (λs₅=>codeAny (model prog w) A (c.code it acc env) (mW Q) s₅) no s₃
  else codeAny (model prog w) A (c.code it acc env) (mW Q) s₃) no s₂) no s
def Rp(c:CT)(it acc:Value)(env:Env):compTurn c.e c.pre.length it acc env=(do
   standAt c.iter.pos
   match <- pyNext it with
   |none=>pure (.done .next)
   |some v=>
    letOwnedTupleGo c.tg it v
    assign c.tg env v
    let mut ok:=true
    for x in c.ifs do
     if ok then ok <- isTrue x env (eval x env)
    if ok then
     match c.post[0]? with
     |some g'=>
      let x <- eval g'.iter env
      standAt g'.iter.pos
      let x <- if g'.is_async != 0 then foldedIterable g'.iter x else foldedSetIterable g'.iter env x
      let _ <- runOwn (.compStart c.e (c.pre.length+1) (<- holding [x] (if g'.is_async != 0 then asyncIter x else pyIter x)) acc env) env
     |none=>(do let _ <- call (.builtin "list.append") [acc,<- eval c.elt env])
    again (.compLoop c.e c.pre.length it acc env)):=by
 rw[<- c.at1];unfold compTurn CT.e;dsimp only;rw[c.at_]
 rfl
def As{it':Expr}(h:tj it'=true)(x:Value):foldedSetIterable it' env x=pure x:=by cases it'<;>first|rfl|exact cR h
def abA{c:CT}{acc:Value} 
  (turn:wpAny (model prog w) A (pyNext it) (λr s₁=>match r with
   |none=>Q .next s₁
   |some v=>wpAny (model prog w) A (letOwnedTupleGo c.tg it v) (λO wO=>abB prog w A c it acc env Q v wO) no s₁) no s):
  codeAny (model prog w) A (c.code it acc env) (mW Q) s:=by
 refine uo ?_;show wpAny _ A ((compTurn c.e c.pre.length it acc env).onRaise (λx=>do noteFrame x env;theTreesLotGoes x)) _ _ s;refine wpAny_noted ?_;rw[Rp];refine ah (fy (ah (cz turn (λr s₁ h₁=>?_) λO O h'=>h'.elim)));cases r with
 |none=>exact aH h₁
 |some v=>
  refine ah (cz h₁ (λO wO D5=>?_) λO O h'=>h'.elim);refine ah (cz D5 (λO s₂ h₂=>?_) λO O h'=>h'.elim);refine ah (cz h₂ (λb s₃ h₃=>?_) λO O h'=>h'.elim);cases b with
  |true=>
   unfold Br at h₃;cases hp:c.post with
   |nil=>rw[hp] at h₃;refine ah (ah (cz h₃ (λx s₄ h₄=>ah (cz h₄ (λO s₅ h₅=>?_) λO O h'=>h'.elim)) λO O h'=>h'.elim));exact aH (aH ⟨rfl,h₅⟩)
   |cons g r=>
    rw[hp] at h₃;obtain⟨e0,e1,h₃⟩:=h₃;have z:(g.is_async != 0)=false:=by rw[e0];rfl
    refine ah (cz h₃ (λx s₄ h₄=>?_) λO O h'=>h'.elim);rw[z];refine ah (fy (ah (ib (As e1 x) (ah (c8 ?_)))));refine cz h₄ (λit' s₅ h₅=>ah (wpAny_runOwn (qL h₅ λr s₆ h₆=>?_))) λO O h'=>h'.elim;cases r with
    |ok f=>exact aH ⟨rfl,h₆⟩
    |error=>exact h₆.elim
  |false=>exact aH ⟨rfl,h₃⟩
def Si{R:Result->Shared->Prop}{c:CT}{acc:Value}(h0:codeAny (model prog w) A (c.code it acc env) R s)
  (h:wpAny (model prog w) A (pyIter it) (λit' s'=>codeAny (model prog w) A (c.code it' acc env) R s') (notedBy (model prog w) A env λx s'=>R (.error x) s') s):
  codeAny (model prog w) A (.compStart c.e c.pre.length it acc env) R s:=by
 refine uo ?_;show wpAny _ _ ((compStart c.e c.pre.length it acc env).onRaise (λx=>do noteFrame x env;standAt theWindowsPlace)) _ _ s;refine wpAny_notedAt ?_;unfold compStart;rw[show(clausesOf c.e)[c.pre.length]?=some ⟨c.tg,c.iter,c.ifs,0⟩ from c.at_];show wpAny _ _ (ask>>=_) _ _ s;refine ah (wpAny_askSetting (wpAny_ite ?_));split
 ·first
   |exact ah (aH (aH (And.intro rfl h0)))
   |exact aH (And.intro rfl h0)
 ·first
   |exact ah (wpAny_rule (ah (fy (ah (cz h (λit' s' h'=>aH (And.intro rfl h')) λO O x=>x)))))
   |(refine ah (wpAny_rule ?_);show wpAny _ _ (standAt c.iter.pos>>=_) _ _ s;exact ah (fy (ah (cz h (λit' s' h'=>aH (And.intro rfl h')) λO O x=>x))))
def RD{M:Model}{Q:Bool->Shared->Prop}{E:Value->Shared->Prop}(env:Env)(h:Q false s):∀l:List Expr,wpAny M A (wM l env false) Q E s:=by
 intro cs
 induction cs with
 |nil=>exact aH h
 |cons c cs ih=>show wpAny M A (forIn (c::cs) false _) Q E s;rw[wm];exact ah (aH (ih))
end
variable {V:Cf}{G:Fm}{φ₀ J:Ph}{s₀ s:Shared}{U:aC}{H:Hp}{d:Nat}{q:Bool}{E:Ev}
variable {β:Type}
def aal{a:β}{ρ':aC}{H':Hp}:l6 V G J s (.ok a ρ' H':dG β)=no:=by
 funext v s'
 exact propext ⟨λh=>h.not nofun,False.elim⟩
variable {α:Type}
def TT.yK{W:(α->Shared->Prop)->(Value->Shared->Prop)->Prop}{m:M β}{R:Ph->Heap->α->β->Prop}(x:TT V G J s W (m U H) R)(hs:M.calm m U H≠.stuck):W (kH V G J s (M.calm m U H) R) no:=by
 unfold M.calm at hs⊢;cases e:m U H with
 |ok a ρ' H'=>rw[e] at x;have:=x nofun;rwa[aal] at this
 |exc=>rw[e] at hs;exact absurd rfl hs
 |stuck=>rw[e] at hs;exact absurd rfl hs
structure yV(V:Cf)(E:Ev):Prop extends vY V E where
 w:∀{d q G J U H s t b e},ao V d q G J U H s->wf V t G.K=true->eX V b G.K=true->eX V e G.K=true ->
  TT V G J s (jm V G.A (.whileLoop (au t) (c9 b) (c9 e) G.env) s) (E.w d q t b e U H) (d6 V)
 f:∀{d G φ₀ J U H s₀ s src b tg I},Nx G.X φ₀ J s₀ s->qy s₀ G I->ao V d true G J U H s->cI V J s.heap I src->mI G.K tg=true->eX V b G.K=true ->
  TT V G φ₀ s₀ (jm V G.A (.forLoop (au tg) (.ref I) (c9 b) [] G.env) s) (E.f d true tg src b U H) (d6 V)
def GH{W:(Flow->Shared->Prop)->Shared->Prop}{again:M Fl}{f:Flow}{g:Fl}(m:Nx G.X φ₀ J s₀ s)(p:ao V d q G J U H s)(r:d6 V J s.heap f g)(go:TT V G φ₀ s₀ (λQ O=>W Q s) (again U H) (d6 V)):
  TT V G φ₀ s₀ (λQ O=>sP (W Q) Q f s) (wJ again g U H) (d6 V):=by
 cases g with
 |next=>subst r;exact go
 |cont=>subst r;exact go
 |brk=>subst r;exact TT.now m p rfl
 |ret v=>obtain⟨w,rfl,r⟩:=r;exact TT.now m p ⟨w,rfl,r⟩
variable {b:S}
def QP(Sd:yV V E)(pre:ao V d q G J U H s){t:C}{e:S}(h1:wf V t G.K=true)(h2:eX V b G.K=true)(h3:eX V e G.K=true):
  TT V G J s (jm V G.A (.whileLoop (au t) (c9 b) (c9 e) G.env) s) (G0 E d q t b e U H) (d6 V):=λhs=>QJ (TT.yK (W:=λQ Ex=>wpAny (model V.prog V.w) G.A (isTrue (au t) G.env (eval (au t) G.env)) (λc s₂=>
   if c then wpAny (model V.prog V.w) G.A (execs (c9 b) G.env) (sP (λs₃=>jm V G.A (.whileLoop (au t) (c9 b) (c9 e) G.env) s₃ Q no) Q) Ex s₂
   else wpAny (model V.prog V.w) G.A (execs (c9 e) G.env) Q Ex s₂) Ex s)
  (TT.seq (Nx.refl ..) pre (Sd.t pre h1) λc c' ρ1 H1 φ1 s1 n1 m1 p1 r1=>by
   subst r1;cases c with
   |false=>exact TT.last m1 (qo Sd.tovY p1 h3)
   |true=>
    refine TT.seq (W:=λf s₃ Q O=>sP (λs₃=>jm V G.A (.whileLoop (au t) (c9 b) (c9 e) G.env) s₃ Q no) Q f s₃) m1 p1 (qo Sd.tovY p1 h2) λf g ρ2 H2 φ2 s2 n2 m2 p2 r2=>?_;exact GH (W:=λQ s₃=>jm V G.A (.whileLoop (au t) (c9 b) (c9 e) G.env) s₃ Q no) m2 p2 r2 λhs=>qL (Sd.w p2 h1 h2 h3 hs) λr s' h=>by
     cases r with
     |ok f=>exact kH.up m2 h
     |error=>exact h) hs)
variable {I:Addr}{src:bJ}{tg:C}
def aaa(ok:ef V)(Sd:yV V E)(n0:Nx G.X φ₀ J s₀ s)(hI:qy s₀ G I)(pre:ao V d true G J U H s)(it:cI V J s.heap I src)(h1:mI G.K tg=true)(h2:eX V b G.K=true):
  TT V G φ₀ s₀ (jm V G.A (.forLoop (au tg) (.ref I) (c9 b) [] G.env) s) (pL E d true tg src b U H) (d6 V):=by
 intro hs;refine ZU ?_;unfold pL at hs⊢;cases e:src.next H with
 |none=>rw[e] at hs;exact absurd rfl hs
 |some r=>
  rw[e] at hs;refine GI n0 pre it hI e (λho s1 p1 n1=>?_) λp ho xv s1 p1 m1 rv iP=>?_
  ·subst ho;exact⟨.next,U,H,J,rfl,p1.rX n1,rfl⟩
  ·subst ho;refine TT.yK (W:=λQ Ex=>wpAny (model V.prog V.w) G.A (assign (au tg) G.env xv) (λO s₂=>wpAny (model V.prog V.w) G.A (execs (c9 b) G.env) (sP (λs₃=>jm V G.A (.forLoop (au tg) (.ref I) (c9 b) [] G.env) s₃ Q no) Q) Ex s₂) Ex s1) ?_ hs;refine TT.seq m1 p1 (Fi ok (p1.hd rfl) p1 h1 rv) λO O ρ2 H2 φ2 s2 n2 m2 p2 r2=>?_;refine TT.seq (W:=λf s₃ Q O=>sP (λs₃=>jm V G.A (.forLoop (au tg) (.ref I) (c9 b) [] G.env) s₃ Q no) Q f s₃) m2 p2 (qo Sd.tovY p2 h2) λf g ρ3 H3 φ3 s3 n3 m3 p3 r3=>?_;exact GH (W:=λQ s₃=>jm V G.A (.forLoop (au tg) (.ref I) (c9 b) [] G.env) s₃ Q no) m3 p3 r3 λhs=>Sd.f m3 hI p3 ((iP.mono n2.ext p1.er.fG n2.gr hI.2).mono n3.ext p2.er.fG n3.gr hI.2) h1 h2 hs
def Mn{c:Code}{m:M Fl}{Ex:Value->Shared->Prop}(x:TT V G φ₀ s₀ (jm V G.A c s) (m U H) (d6 V))(hs:M.calm m U H≠.stuck):
  codeAny (model V.prog V.w) G.A c (λr s'=>match r with|.ok f=>kH V G φ₀ s₀ (M.calm m U H) (d6 V) f s'|.error e=>Ex e s') s:=
 qL (TT.yK x hs) λr s' h=>by
  cases r with
  |ok f=>exact h
  |error=>exact h.elim
variable {pos:Pos}
def Tq(Sd:yV V E)(pre:ao V d q G J U H s){t:C}{e:S}(h1:wf V t G.K=true)(h2:eX V b G.K=true)(h3:eX V e G.K=true):
  ag V G J s (exec (.While (au t) (c9 b) (c9 e) pos) G.env) (M.calm (E.w d q t b e) U H) (d6 V):=λhs=>wpAny_While (Mn (Sd.w pre h1 h2 h3) hs)
def Tw(ok:ef V)(Sd:yV V E)(pre:ao V d true G J U H s){it:C}(h1:mI G.K tg=true)(h2:wf V it G.K=true)(h3:tj (au it)=true)(h4:eX V b G.K=true):
  ag V G J s (exec (.For (au tg) (au it) (c9 b) [] pos) G.env) (Jy E d true tg it b U H) (d6 V):=by
 refine TT.imp (λQ Ex h=>wpAny_For h (As h3)) (TT.seq (Nx.refl ..) pre (Sd.e pre h2) λv x ρ1 H1 φ1 s1 n1 m1 p1 r1=>?_);intro hs;unfold AI at hs⊢;cases lU:eQ x H1 with
 |none=>rw[lU] at hs;exact absurd rfl hs
 |some src=>rw[lU] at hs;refine DP ok p1 r1 lU λI s2 g ni hI=>?_;exact Mn (Sd.f (m1.trans (g.nx G.X φ1)) (JT m1.live hI) (p1.grow g) ni h1 h4) hs
def Rz(Sd:d3 V E):∀(l:List C) {J:Ph} {U:aC} {H:Hp} {s:Shared},ao V d q G J U H s->(∀c∈l,jr V G.K c) ->
  ag V G J s (wM (l.map au) G.env true) (uF (E.t d q) true l U H) (λO O a b=>a=b):=by
 intro l
 induction l with
 |nil=>intro _ _ _ _ pre _;exact TT.imp (λO O h=>aH h) (TT.now (Nx.refl ..) pre rfl)
 |cons c l ih=>
  intro J U H s pre h;unfold wM;rw[bE,wm];refine TT.imp (λO O h=>ah (ah h)) (TT.seq (Nx.refl ..) pre (Sd.t pre (h c bA).wf) λb c' ρ1 H1 φ1 s1 n1 m1 p1 r1=>?_);subst r1;cases b with
  |true=>exact TT.imp (λO O h=>aH h) (TT.last m1 (ih p1 λc hc=>h c (bS _ hc)))
  |false=>exact TT.imp (λO O h=>aH (RD G.env h _)) (TT.now m1 p1 rfl)
variable {k:Nat}{D:Addr}
def ac0(ok:ef V)(pre:ao V d q G J U H s){v:Value}{x:AV}(hk:J[k]?=some (D,D))(hv:VR V J s.heap v x):
  ag V G J s (call (.builtin "list.append") [.ref D,v]) (gn (tY k x) U H) (λO O O O=>True):=ag.wH λH' e=>by
 refine ub e λl h1 e=>?_;have key:vc 0 k l [x] H=some (.none,H'):=by show aI _ (some _)=_;refine ur e λh2 e=>?_;obtain rfl:=sj e;rw[h2];rfl
 have:=Jg pre hk h1 (aQ.cons hv .nil) key;intro _;refine cz (this nofun) (λa s' bV=>i7 bV λb ρ' H'' φ' e f O=>?_) λO O h=>h.not nofun;cases e;exact⟨(),_,_,φ',rfl,f,trivial⟩
structure vZ(V:Cf)(E:Ev):Prop extends yV V E where
 cp:∀{d G φ₀ J U H s₀ s src ifs elt k tg I D it' pr sc pos},Nx G.X φ₀ J s₀ s->qy s₀ G I->ao V d true G J U H s->cI V J s.heap I src->J[k]?=some (D,D) ->
  mI G.K tg=true->jU V ifs G.K=true->wf V elt G.K=true ->
  TT V G φ₀ s₀ (jm V G.A (CT.code ⟨au elt,au tg,it',bN ifs,pr,iT (bN elt),sc,pos⟩ (.ref I) (.ref D) G.env) s) (E.cp d tg src ifs elt k U H) (λO O f O=>f=.next)
abbrev BA(elt tg ifs:C)(it':Expr)(pr:List Comprehension)(sc:Scope)(pos:Pos):CT:=⟨au elt,au tg,it',bN ifs,pr,iT (bN elt),sc,pos⟩
variable {f:Hp->Option α}
def Uq{v:α}(e:f H=some v):cu f U H=.ok v U H:=by unfold cu;rw[e]
def Uo(e:f H=none):cu f U H=.stuck:=by unfold cu;rw[e]
def Fj{γ:Type}(m:M α)(f:α->M β)(g:β->M γ):M.bind (M.bind m f) g=M.bind m λx=>M.bind (f x) g:=by
 funext U H
 unfold M.bind;cases m U H<;>rfl
def HA{A:Around}(x:Fy V J s.heap I src){Q:Value->Shared->Prop}{E:Value->Shared->Prop}(h:Q (.ref I) s):wpAny (model V.prog V.w) A (pyIter (.ref I)) Q E s:=by
 cases src with
 |fix l=>
  cases x with
  |lst a items n i x=>exact wpAny_pyIter_listiter x.it h
  |tup a items n i x=>exact wpAny_pyIter_tupleiter x.it h
  |dF z c n x _=>exact wpAny_pyIter_rangeiter x h
  |cE b t i m x=>exact KBw.pyIter_self x.it h
  |str y t i m x=>exact wpAny_pyIter_striter_ascii x.it h
 |lst n i=>refine aq x λa O h1=>?_;clear x;exact wpAny_pyIter_listiter h1 h
 |dct n i sz ep=>refine aq x λa O h1=>?_;clear x;exact wpAny_pyIter_keyiter h1 h
 |vals n i sz ep=>refine aq x λa O h1=>?_;clear x;exact wpAny_pyIter_valiter h1 h
def Lj{K:Cx}{c:C}(h:Au c=true)(hw:wf V c K=true):iT (bN c)=[]:=by cases c<;>first|rfl|exact cR h|exact cR hw
def aaI{c:C}(h:Au c=true):vM E d c k=M.bind (E.e d true c) λx=>gn (tY k x):=by cases c<;>first|rfl|exact cR h
def ZE(c:C):Au c=true\/∃tg it e,c=.gen tg it e:=by cases c<;>first|exact .inl rfl|exact .inr ⟨_,_,_,rfl⟩
variable {it':Expr}{pr:List Comprehension}{sc:Scope}
def abt{wL ni e:C}{ifs:List Expr}{el:Expr}(e1:iT (bN e)=[]):
  CT.e ⟨el,au tg,it',ifs,pr,iT (bN (.gen wL ni e)),sc,pos⟩=CT.e ⟨el,au wL,au ni,bN .nil,pr++[⟨au tg,it',ifs,0⟩],iT (bN e),sc,pos⟩:=by
 unfold CT.e;dsimp only;rw[e1,eW];rfl
def aaG(ok:ef V)(Sd:vZ V E){ifs elt:C}{again:M Unit}{W:Shared->(Flow->Shared->Prop)->Prop}
  (n:Nx G.X φ₀ J s₀ s) (pre:ao V d true G J U H s) (hD:J[k]?=some (D,D)) (h3:wf V elt G.K=true)
  (go:∀ρ' H' φ' s',Nx G.X J φ' s s'->ao V d true G φ' ρ' H' s'->TT V G φ₀ s₀ (λQ O=>W s' Q) (again ρ' H') (λO O f O=>f=.next)):
  TT V G φ₀ s₀ (λQ Ex=>Br V.prog V.w G.A ⟨au elt,au tg,it',bN ifs,pr,iT (bN elt),sc,pos⟩ (.ref D) G.env (λs'=>W s' Q) Ex s) (M.bind (vM E d elt k) (λO=>again) U H) (λO O f O=>f=.next):=by
 rcases ZE elt with hg|hg
 ·rw[Lj hg h3,aaI hg,Fj];refine TT.seq n pre (Sd.e pre h3) λx y ρ4 H4 φ4 s4 n4 m4 p4 r4=>?_;exact TT.seq m4 p4 (ac0 ok p4 (n4.gr.get hD) r4) λO O ρ5 H5 φ5 s5 n5 m5 p5 r5=>go _ _ _ _ (n4.trans n5) p5
 ·refine iJ hg λwL ni e r_=>?_;subst r_;refine zt h3 λZq Zp Zo K9 Zn h36=>?_;have e1:iT (bN e)=[]:=Lj Zn K9;show TT V G φ₀ s₀ _ (M.bind (M.bind (E.e d true ni) _) _ U H) _;rw[Fj];refine TT.imp (λO O h=>⟨rfl,Zo,h⟩) ?_;refine TT.seq (W:=λx s₄ Q Ex=>wpAny (model V.prog V.w) G.A (pyIter x) (λX1 s₅=>codeAny (model V.prog V.w) G.A (.compStart (CT.e ⟨au e,au tg,it',bN ifs,pr,iT (bN (.gen wL ni e)),sc,pos⟩) (pr.length+1) X1 (.ref D) G.env) (mW λO s₆=>W s₆ Q) s₅) Ex s₄) n pre (Sd.e pre Zp) λv x ρ1 H1 φ1 s1 n1 m1 p1 r1=>?_;intro hs;rw[Fj] at hs⊢;cases lU:eQ x H1 with
  |none=>exact absurd (vV (Uo (f:=λH=>eQ x H) lU)) hs
  |some src=>
   have e2:He x ρ1 H1=.ok src ρ1 H1:=Uq (f:=λH=>eQ x H) lU;rw[tV e2] at hs⊢;refine DP ok p1 r1 lU λI s2 g JY hI=>?_;have el:pr.length+1=(pr++[(⟨au tg,it',bN ifs,0⟩:Comprehension)]).length:=by rw[bF];rfl
   rw[abt e1,el];have fin:=qL ((Sd.cp (it':=au ni) (ifs:=.nil) (elt:=e) (pr:=pr++[⟨au tg,it',bN ifs,0⟩]) (sc:=sc) (pos:=pos) (n1.trans (g.nx G.X φ1)) (JT n1.live hI) (p1.grow g) JY (n1.gr.get hD) Zq rfl K9) λz=>hs (vV z)) (R':=mW λO s₆=>W s₆ (kH V G φ₀ s₀ (M.bind (E.cp d wL src .nil e k) (λO=>again) ρ1 H1) λO O f O=>f=.next)) λr s' h=>by
    cases r with
    |ok f=>refine i7 h λb ρ' H' φ' e1 f1 O=>?_;rw[tV e1] at hs;show W s' _;rw[tV e1];exact go _ _ _ _ f1.nx (f1.pre pre) hs
    |error=>exact h.elim
   exact Si fin (HA JY.st fin)
def acd(ok:ef V)(Sd:vZ V E){ifs elt:C}(n0:Nx G.X φ₀ J s₀ s)(hI:qy s₀ G I)
  (pre:ao V d true G J U H s) (it:cI V J s.heap I src) (hD:J[k]?=some (D,D)) (h1:mI G.K tg=true) (h2:jU V ifs G.K=true) (h3:wf V elt G.K=true):
  TT V G φ₀ s₀ (jm V G.A (CT.code ⟨au elt,au tg,it',bN ifs,pr,iT (bN elt),sc,pos⟩ (.ref I) (.ref D) G.env) s) (sU E d tg src ifs elt k U H) (λO O f O=>f=.next):=by
 intro hs;refine abA ?_;unfold sU at hs⊢;cases e:src.next H with
 |none=>rw[e] at hs;exact absurd rfl hs
 |some r=>
  rw[e] at hs;refine GI n0 pre it hI e (λho s1 p1 n1=>?_) λp ho xv s1 p1 m1 rv iP=>?_
  ·subst ho;exact⟨(),U,H,J,rfl,p1.rX n1,rfl⟩
  ·subst ho;refine ua (uB h2) λe2 vD=>?_;refine TT.yK (W:=λQ Ex=>wpAny (model V.prog V.w) G.A (assign (au tg) G.env xv) (λO s₂=>wpAny (model V.prog V.w) G.A (wM (bN ifs) G.env true) (λb s₃=>if b then
     Br V.prog V.w G.A (BA elt tg ifs it' pr sc pos) (.ref D) G.env (λs₅=>jm V G.A ((BA elt tg ifs it' pr sc pos).code (.ref I) (.ref D) G.env) s₅ Q no) Ex s₃
     else jm V G.A ((BA elt tg ifs it' pr sc pos).code (.ref I) (.ref D) G.env) s₃ Q no) Ex s₂) Ex s1) ?_ hs
   refine TT.seq m1 p1 (Fi ok (p1.hd rfl) p1 h1 rv) λO O ρ2 H2 φ2 s2 n2 m2 p2 r2=>?_;refine TT.seq m2 p2 (by rw[e2];exact Rz Sd.tod3 (cs ifs) p2 vD) λb c' ρ3 H3 φ3 s3 n3 m3 p3 r3=>?_;subst r3;have JX:=(iP.mono n2.ext p1.er.fG n2.gr hI.2).mono n3.ext p2.er.fG n3.gr hI.2;have Ez:=n3.gr.get (n2.gr.get hD);cases b with
   |false=>exact λhs=>Sd.cp m3 hI p3 JX Ez h1 h2 h3 hs
   |true=>exact aaG (W:=λs₅ Q=>jm V G.A (CT.code ⟨au elt,au tg,it',bN ifs,pr,iT (bN elt),sc,pos⟩ (.ref I) (.ref D) G.env) s₅ Q no) ok Sd m3 p3 Ez h3 λρ4 H4 φ4 s4 n4 p4=>Sd.cp (m3.trans n4) hI p4 (JX.mono n4.ext p3.er.fG n4.gr hI.2) (n4.gr.get Ez) h1 h2 h3
end
section
variable {V:Cf}{G:Fm}{φ₀ J:Ph}{s₀ s:Shared}{U:aC}{H:Hp}{d:Nat}{q:Bool}{E:Ev}
noncomputable def g8(cells:List (Str×Addr)):List (Str×NameKind)->List (Str×Addr)->List (Str×Addr)
 |[],acc=>acc
 |(x,k)::r,acc=>g8 cells r (if k=.free then(x,(cells.lookup x).getD 0)::acc else acc)
def BC(cells:List (Str×Addr))(x:Str)(k:NameKind)(r:List (Str×NameKind))(acc:List (Str×Addr)):g8 cells ((x,k)::r) acc=g8 cells r (if k=.free then(x,(cells.lookup x).getD 0)::acc else acc):=rfl
variable {names:List (Str×NameKind)}
def abI{env:Env}(h:∀p∈names,p.2=.free->∃c,env.cells.lookup p.1=some c):∀acc:List (Str×Addr),
  (forIn names acc λp cs=>if p.2==.free then(do let c <- cellOf env p.1;pure (ForInStep.yield ((p.1,c)::cs))) else pure (ForInStep.yield cs):Sem (List (Str×Addr)))=pure (g8 env.cells names acc):=by
 induction names with
 |nil=>intro acc;rfl
 |cons p r ih=>
  intro acc;obtain⟨x,k⟩:=p;have ih:=ih (λp hp=>h p (bS _ hp));rw[wm];by_cases hk:k=.free
  ·subst hk;refine ue (h (x,.free) bA rfl) λc hc=>?_;have e1:cellOf env x=pure c:=by unfold cellOf;rw[hc]
   simp only[beq_self_eq_true,if_true,e1,pure_bind];rw[ih];rw[BC,if_pos rfl,hc];rfl
  ·have:(k==NameKind.free)=false:=by simpa using hk
   simp only[this,Bool.false_eq_true,if_false,pure_bind];rw[ih];rw[BC,if_neg hk]
variable {sc:Scope}
def abH{env:Env}(h:∀p∈sc.names,p.2=.free->∃c,env.cells.lookup p.1=some c):closureFor sc env=pure (g8 env.cells sc.names []):=by
 have:=abI h [];unfold closureFor
 first
  |exact this
  |(show(forIn sc.names [] _>>=λcs=>pure cs)=_;rw[bind_pure];exact this)
theorem abL(cells:List (Str×Addr)):∀(names:List (Str×NameKind)) (acc:List (Str×Addr)) (x:Str) (c:Addr),(g8 cells names acc).lookup x=some c ->
  acc.lookup x=some c\/((x,NameKind.free)∈names/\(cells.lookup x).getD 0=c):=by
 intro names
 induction names with
 |nil=>intro acc x c h;exact .inl h
 |cons p_ r ih=>
  obtain⟨y,k⟩:=p_;intro acc x c h;rw[BC] at h;rcases ih _ x c h with h|⟨h1,h2⟩
  ·by_cases hk:k=.free
   ·rw[if_pos hk,iH] at h;cases hx:x==y with
    |true=>
     rw[hx] at h;have:x=y:=by simpa using hx
     subst this;obtain rfl:=sj h;exact .inr ⟨hk▸bA,rfl⟩
    |false=>rw[hx] at h;exact .inl h
   ·rw[if_neg hk] at h;exact .inl h
  ·exact .inr ⟨bS _ h1,h2⟩
theorem abK(cells:List (Str×Addr)):∀(names:List (Str×NameKind)) (acc:List (Str×Addr)) (x:Str),((x,NameKind.free)∈names\/(acc.lookup x).isSome=true)->∃c,(g8 cells names acc).lookup x=some c:=by
 intro names
 induction names with
 |nil=>
  intro acc x h;rcases h with h|h
  ·cases h
  ·exact sA.mp h
 |cons p_ r ih=>
  obtain⟨y,k⟩:=p_;intro acc x h;rw[BC];refine ih _ x ?_;by_cases hk:k=.free
  ·rw[if_pos hk,iH];cases hx:x==y with
   |true=>exact .inr rfl
   |false=>
    rcases h with h|h
    ·rcases bQ.mp h with h|h
     ·cases h;simp at hx
     ·exact .inl h
    ·exact .inr h
  ·rw[if_neg hk];rcases h with h|h
   ·rcases bQ.mp h with h|h
    ·cases h;exact absurd rfl hk
    ·exact .inl h
   ·exact .inr h
noncomputable def xh(env:Env)(x:Str)(k:NameKind):NameKind:=if(k==NameKind.free&&env.scope.kind==.function&&env.kindOf x==some .cell) then .cell else k
theorem Uh(env:Env):∀(names:List (Str×NameKind)) (x:Str),
  (names.map λ(n,k)=>if(k==NameKind.free&&env.scope.kind==.function&&env.kindOf n==some .cell) then(n,NameKind.cell) else(n,k)).lookup x=(names.lookup x).map (xh env x):=by
 intro names
 induction names with
 |nil=>intro x;exact rfl
 |cons p_ r ih=>
  obtain⟨y,k⟩:=p_;intro x;have hd:(match(y,k) with|(n,k)=>if(k==NameKind.free&&env.scope.kind==.function&&env.kindOf n==some .cell) then(n,NameKind.cell) else(n,k))=(y,xh env y k):=by unfold xh;dsimp only;cases (k==NameKind.free&&env.scope.kind==.function&&env.kindOf y==some .cell)<;>rfl
  rw[bE];rw[hd,iH,iH];cases hx:x==y with
  |true=>
   have:x=y:=by simpa using hx
   subst this
   rfl
  |false=>exact(ih x)
noncomputable def Tp(K:Cx)(ts:List (Str×Nat))(p:Str×NameKind):Option (Str×Nat):=if p.2=.local\/p.2=.cell then(ts.lookup p.1).map (p.1,·) else if p.2=.free then(K.sc.lookup p.1).map (p.1,·) else none
inductive adD(K:Cx)(ts:List (Str×Nat))(names:List (Str×NameKind))(x:Str)(k:Nat):Prop where
 |own (kd:NameKind) (m:(x,kd)∈names) (h:kd=.local\/kd=.cell) (e:ts.lookup x=some k)
 |free (m:(x,NameKind.free)∈names) (e:K.sc.lookup x=some k)
def Z2{f:Str×NameKind->Option (Str×Nat)}{p:Str×NameKind}{r:List (Str×NameKind)}{x:Str}{k:Nat}(h:((p::r).filterMap f).lookup x=some k):(r.filterMap f).lookup x=some k\/f p=some (x,k):=by
 cases e:f p with
 |none=>rw[List.filterMap_cons_none e] at h;exact .inl h
 |some b=>
  rw[List.filterMap_cons_some e,iH] at h;cases hx:x==b.1 with
  |false=>rw[hx] at h;exact .inl h
  |true=>
   rw[hx] at h;have:x=b.1:=by simpa using hx
   subst this;obtain rfl:=sj h;exact .inr rfl
theorem CE(K:Cx)(ts:List (Str×Nat)):∀(names:List (Str×NameKind)) (x:Str) (k:Nat),(names.filterMap (Tp K ts)).lookup x=some k->adD K ts names x k:=by
 intro names
 induction names with
 |nil=>intro x k h;exact aR h
 |cons p_ r ih=>
  obtain⟨y,kd⟩:=p_;intro x k h;rcases Z2 h with h|h
  ·cases ih x k h with
   |own kd m h e=>exact .own kd (bS _ m) h e
   |free m e=>exact .free (bS _ m) e
  ·by_cases h1:kd=.local\/kd=.cell
   ·refine um ((if_pos h1).symm.trans h) λj hj e=>?_;cases e;exact .own kd bA h1 hj
   ·by_cases h2:kd=.free
    ·refine aq (wh.mp (((if_neg h1).trans (if_pos h2)).symm.trans h)) λj hj e=>?_;cases e;exact .free (h2▸bA) hj
    ·cases ((if_neg h1).trans (if_neg h2)).symm.trans h
def WW{l:List (Str×Nat)}(h:(l.map (·.2)).Nodup){x y:Str}{k:Nat}:l.lookup x=some k->l.lookup y=some k->x=y:=by
 induction l with
 |nil=>intro h1;exact aR h1
 |cons p r ih=>
  intro h1 h2;rw[bE,gN] at h;rw[iH] at h1 h2;have mem:∀{z:Str},r.lookup z=some k->k∈r.map (·.2):=λhz=>pq (f:=(·.2)) (jv hz);cases hx:x==p.1<;>cases hy:y==p.1<;>rw[hx] at h1<;>rw[hy] at h2
  ·exact ih h.2 h1 h2
  ·obtain rfl:=sj h2;exact absurd (mem h1) h.1
  ·obtain rfl:=sj h1;exact absurd (mem h2) h.1
  ·have a:x=p.1:=by simpa using hx
   have b:y=p.1:=by simpa using hy
   rw[a,b]
def E0:∀(ts:List Nat) (U:aC) (k:Nat),(k∈ts->∀v,(jn ts U)[k]?≠some (some v))/\(k∉ts->(jn ts U)[k]?=U[k]?):=by
 intro ts
 induction ts with
 |nil=>intro U k;exact⟨λh=>(nomatch h),λO=>rfl⟩
 |cons t ts ih=>
  intro U k;show(_->∀v,(jn ts (ai U none t))[k]?≠_)/\(_->(jn ts (ai U none t))[k]?=_);rw[sN];refine ua (ih (U.set t none) k) λh1 h2=>?_;rw[bQ,not_or];refine⟨λhk v e=>?_,λbV=>ua bV λht hk=>(h2 hk).trans (pA (fi ht))⟩;by_cases hm:k∈ts
  ·exact h1 hm v e
  ·have:=hk.resolve_right hm;subst this;rw[h2 hm] at e;by_cases hl:k<U.length
   ·rw[ug hl] at e;cases e
   ·rw[zg (by simpa using hl)] at e;exact aR e
def iC(K:Cx)(sc:Scope)(nms:List (Str×Nat))(ts:List Nat):Prop:=(sc.kind=.function)/\(∀p∈sc.names,sc.names.lookup p.1=some p.2)/\(∀p∈sc.names,p.2=.free->∃k,K.sc.lookup p.1=some k/\k∉ts/\(K.kn.lookup p.1=some .cell\/K.kn.lookup p.1=some .free))/\(∀p∈nms,p.2∈ts)/\(((l7 K sc.names nms).sc.map (·.2)).Nodup)
section
variable {b1 b2 b3 b4}(x:iC b1 b2 b3 b4)
def iC.mk:=lI (iC b1 b2 b3 b4) rfl
def iC.kind:=x.1
def iC.look:=x.2.1
def iC.free:=x.2.2.1
def iC.GN:=x.2.2.2.1
def iC.nodup:=x.2.2.2.2
end
variable {nms:List (Str×Nat)}{ts:List Nat}
def To{K:Cx}(hc:My K sc nms ts=true):iC K sc nms ts:=by
 refine pH hc λYU yl Kp YQ=>?_;rw[jw] at yl Kp;refine(iC.mk (of_decide_eq_true YU) (λp hp=>of_decide_eq_true (nF (yl p hp)).1) (λp hp hk=>?_) (λp hp=>by simpa using Kp p hp) (of_decide_eq_true YQ))
 ·have:=(nF (yl p hp)).2;unfold Mz at this;rw[hk] at this;refine us this λa b=>?_;cases hl:K.sc.lookup p.1 with
  |none=>rw[hl] at a;cases a
  |some k=>rw[hl] at a;exact⟨k,rfl,by simpa using (a:(!ts.contains k)=true),(sy.mp b).imp (λh=>of_decide_eq_true h) λh=>of_decide_eq_true h⟩
def iC.cells{K:Cx}(w:iC G.K sc nms ts)(er:bX V G J U s.heap):∀p∈sc.names,p.2=.free->∃c,G.env.cells.lookup p.1=some c:=λp hp hk=>by refine gQ (w.free p hp hk) λk a O b=>?_;refine ct (er.nD p.1 k a b) λc ov x=>?_;exact⟨c,x.look⟩
def abx{M:Model}{A:Around}{E:Value->Shared->Prop}{gl:Addr}{cl:List (Str×Addr)}{qual:Str}{outer:Env}{Q:Env->Shared->Prop}
  (hQ:Q {scope:=sc,locals:=s.heap.objs.size,globals:=gl,cells:=cellsFrom (s.heap.objs.size+1) sc.names cl,qual,func:=none,code:=outer.code,frame:=outer.frame,builtins:=outer.builtins} {s with heap:=pushCells (s.heap.push {cls:=.type "dict",data:=.dict #[]}) sc.names}):
  wpAny M A (newFunctionEnv sc gl cl [] qual none .none (some outer)) Q E s:=by
 simp only[newFunctionEnv,Option.isSome_some,if_true];refine ah (wpAny_alloc ?_);refine ah (wpAny_layCells _ (λname kind cells=>by cases YV:kind==NameKind.cell<;>simp[YV]) _ _ _ _ ?_);rw[show({s with heap:=s.heap.push {cls:=.type "dict",data:=.dict #[]}}:Shared).heap.objs.size=s.heap.objs.size+1 from pf ..];exact ah (aH (aH hQ))
inductive Nw(names:List (Str×NameKind))(n:Nat)(acc:List (Str×Addr))(h:Heap)(x:Str)(c:Addr):Prop where
 |old (e:acc.lookup x=some c) (m:(x,NameKind.cell)∉names)
 |new (m:(x,NameKind.cell)∈names) (le:n<=c) (cell:h.IsCell c none)
theorem MJ:∀(names:List (Str×NameKind)) (h:Heap) (acc:List (Str×Addr)) {x:Str} {c:Addr},(cellsFrom h.objs.size names acc).lookup x=some c->Nw names h.objs.size acc (pushCells h names) x c:=by
 intro names
 induction names with
 |nil=>intro h acc x c e;exact .old e nofun
 |cons p_ r gI=>
  obtain⟨y,k⟩:=p_;intro h acc x c e;unfold cellsFrom at e;unfold pushCells;by_cases hk:(k==NameKind.cell)=true
  ·rw[if_pos hk] at e⊢;have oK:k=.cell:=by simpa using hk
   subst oK;have sz:(h.push {cls:=.type "cell",data:=.cell none}).objs.size=h.objs.size+1:=pf ..;have ih:=gI (h.push {cls:=.type "cell",data:=.cell none}) ((y,h.objs.size)::acc) (x:=x) (c:=c) (by rw[sz];exact e);cases ih with
   |new m le cell=>exact .new (bS _ m) (by rw[sz] at le;exact nR le) cell
   |old e2 m=>
    rw[iH] at e2;cases hx:x==y with
    |true=>
     rw[hx] at e2;have:x=y:=by simpa using hx
     subst this;obtain rfl:=sj e2;exact .new bA (bf _) ⟨_,pushCells_keeps r _ _ _ (cY _ rfl),rfl⟩
    |false=>
     rw[hx] at e2;refine .old e2 λhm=>?_;rcases bQ.mp hm with h1|h1
     ·cases h1;simp at hx
     ·exact m h1
  ·rw[if_neg hk] at e⊢;cases gI h acc e with
   |new m le cell=>exact .new (bS _ m) le cell
   |old e m=>
    refine .old e λhm=>?_;rcases bQ.mp hm with h1|h1
    ·cases h1;simp at hk
    ·exact m h1
theorem MI:∀(names:List (Str×NameKind)) (n:Nat) (acc:List (Str×Addr)) (x:Str),((x,NameKind.cell)∈names\/∃c,acc.lookup x=some c)->∃c,(cellsFrom n names acc).lookup x=some c:=by
 intro names
 induction names with
 |nil=>
  intro n acc x h;rcases h with h|h
  ·cases h
  ·exact h
 |cons p_ r ih=>
  obtain⟨y,k⟩:=p_;intro n acc x h;unfold cellsFrom;by_cases hk:(k==NameKind.cell)=true
  ·rw[if_pos hk];refine ih _ _ x ?_;rw[iH];cases hx:x==y with
   |true=>exact .inr ⟨_,rfl⟩
   |false=>
    rcases h with h|h
    ·rcases bQ.mp h with h|h
     ·cases h;simp at hx
     ·exact .inl h
    ·exact .inr h
  ·rw[if_neg hk];refine ih _ _ x ?_;rcases h with h|h
   ·rcases bQ.mp h with h|h
    ·cases h;simp at hk
    ·exact .inl h
   ·exact .inr h
def ab9(names:List (Str×NameKind))(h:Heap):(cellsFrom h.objs.size names []).Pairwise λx y=>x.2≠y.2:=(cellsFrom_ok names h 0 [] ⟨λO O hm=>(nomatch hm),List.Pairwise.nil⟩ (jP _)).apart
theorem ab8:∀(names:List (Str×NameKind)) (n:Nat) (acc:List (Str×Addr)),cellsFrom n names acc=cellsFrom n names []++acc:=by
 intro names
 induction names with
 |nil=>intro n acc;exact rfl
 |cons p_ r ih=>
  obtain⟨y,k⟩:=p_;intro n acc;unfold cellsFrom;cases k==NameKind.cell with
  |true=>show cellsFrom (n+1) r ((y,n)::acc)=cellsFrom (n+1) r [(y,n)]++acc;rw[ih _ ((y,n)::acc),ih _ [(y,n)],eW];rfl
  |false=>exact ih n acc
noncomputable def BF(names:List (Str×NameKind))(cells:List (Str×Addr)):List Addr:=names.filterMap λp=>if p.2=.cell then cells.lookup p.1 else none
def Jc{cells:List (Str×Addr)}{a:Addr}(h:a∈BF names cells):∃x,(x,NameKind.cell)∈names/\cells.lookup x=some a:=by
 refine aq (qH.mp h) λp hp e=>?_;obtain⟨x,k⟩:=p
 set_option tactic.hygienic true in split at e
 ·rename_i hk;have hk:k=.cell:=hk;subst hk;exact⟨x,hp,e⟩
 ·exact aR e
def abz(R0:V.h₀.objs.size<=s.heap.objs.size)(er:bX V G J U s.heap)(hφ:∀b,s.heap.objs.size<=b->b∉J.map (·.2))(w:iC G.K sc nms ts){h:Heap}{cenv:Env}
  (eh:h=pushCells (s.heap.push {cls:=.type "dict",data:=.dict #[]}) sc.names)
  (e1:cenv.scope=relabel sc G.env) (e2:cenv.locals=s.heap.objs.size) (e3:cenv.globals=G.env.globals) (e4:cenv.builtins=G.env.builtins) (e5:cenv.cells=cellsFrom (s.heap.objs.size+1) sc.names (g8 G.env.cells sc.names [])):
  bX V ⟨l7 G.K sc.names nms,G.A,cenv,s.heap.objs.size::BF sc.names cenv.cells⟩ J (jn ts U) h:=by
 have iq:(s.heap.push {cls:=.type "dict",data:=.dict #[]}).objs.size=s.heap.objs.size+1:=pf ..;have DO:∀a o,s.heap.get? a=some o->(s.heap.push {cls:=.type "dict",data:=.dict #[]}).get? a=some o:=λa o e=>ig _ e;have keep:∀a o,s.heap.get? a=some o->h.get? a=some o:=λa o e=>by rw[eh];exact pushCells_keeps _ _ a o (DO a o e)
 have ns:h.Ns s.heap.objs.size λO=>none:=by rw[eh];exact(Heap.Ns.new s.heap (.type "dict")).keeps (pushCells_keeps _ _)
 have at_:∀{x c},cenv.cells.lookup x=some c->Nw sc.names (s.heap.objs.size+1) (g8 G.env.cells sc.names []) h x c:=λ{x c} hl=>by rw[e5,<- iq] at hl;have:=MJ _ _ _ hl;rw[iq,<- eh] at this;exact this
 have cells:=w.cells (K:=G.K) er;have kindOf:∀x,cenv.kindOf x=(sc.names.lookup x).map (xh G.env x):=by intro x;unfold Env.kindOf;rw[e1];exact Uh G.env sc.names x
 have DE:∀(x:Str) (k1:NameKind),(x,k1)∈sc.names->∀k2,sc.names.lookup x=some k2->k1=k2:=λx k1 hm k2 h2=>jR ((w.look _ hm).symm.trans h2);refine mQ (id ns) λoC es ep eC dC rC=>?_;have clo:∀z c,(g8 G.env.cells sc.names []).lookup z=some c->(z,NameKind.free)∈sc.names/\G.env.cells.lookup z=some c:=λz c hz=>by
  rcases abL G.env.cells sc.names [] z c hz with u|⟨a1,a2⟩
  ·exact aR u
  ·refine ue (cells _ a1 rfl) λcx Em=>?_;rw[Em] at a2⊢;exact⟨a1,congrArg some a2⟩
 have own:∀a∈s.heap.objs.size::BF sc.names cenv.cells,s.heap.objs.size<=a/\∃o,h.get? a=some o/\oW o:=λa ha=>by
  rcases bQ.mp ha with rfl|ha
  ·exact⟨bf _,oC,eC,.inl ⟨es,ep,dC⟩⟩
  ·refine aq (Jc ha) λx hm hl=>?_;cases at_ hl with
   |old e m=>exact absurd hm m
   |new m le cell=>refine aq cell λo e hd=>?_;clear cell;exact⟨nR le,o,e,.inr (.inl ⟨_,hd⟩)⟩
 refine(bX.mk (by show cenv.scope.kind=_;rw[e1];exact w.kind) (e3.trans er.rO) (e4.trans er.rV) (λa ha=>(own a ha).2) (λa ha=>aM R0 (own a ha).1) (λa ha=>hφ a (own a ha).1) (by show cenv.locals∈_;rw[e2];exact bA) (λx hx=>?_) ⟨λO=>none,by show h.Ns cenv.locals _;rw[e2];exact ns,kg.mk (λx O hk=>?_) (λx k hx hk dd hd=>?_)⟩ (λx k hx hk=>?_) (λx y c hx hy=>?_) (λx y k hx hy=>WW w.nodup hx hy) (λx k hx=>?_))
 ·have hx:sc.names.lookup x=some .globalImplicit:=hx;show cenv.kindOf x=_;rw[kindOf,hx];rfl
 ·have hk:sc.names.lookup x=some .local:=hk;show cenv.kindOf x=_;rw[kindOf,hk];rfl
 ·have hk:sc.names.lookup x=some .local:=hk;cases CE G.K nms sc.names x k hx with
  |own kd a _ b=>exact absurd hd ((E0 ts U k).1 (w.GN (x,k) (jv b)) dd)
  |free a b=>cases DE x _ a _ hk
 ·have hk:sc.names.lookup x=some .cell\/sc.names.lookup x=some .free:=hk;cases CE G.K nms sc.names x k hx with
  |own kd a Ed b=>
   have hc:sc.names.lookup x=some .cell:=by
    rcases hk with hk|hk
    ·exact hk
    ·have:=DE x _ a _ hk;subst this;rcases Ed with z|z<;>cases z
   have hm:=jv hc;refine ue (MI sc.names (s.heap.objs.size+1) (g8 G.env.cells sc.names []) x (.inl hm)) λc oL=>?_;rw[<- e5] at oL;cases at_ oL with
   |old e m=>exact absurd hm m
   |new m le cell=>
    have kd:cenv.kindOf x=some .cell:=by rw[kindOf,hc];rfl
    refine⟨c,none,gm.mk oL (.inl kd) cell ?_ (hφ c (nR le)) (aM R0 (nR le)) (λO=>⟨bS _ (qH.mpr ⟨(x,.cell),hm,?_⟩),kd⟩) (λdd hd=>absurd hd ((E0 ts U k).1 (w.GN (x,k) (jv b)) dd))⟩
    ·show c≠cenv.locals;rw[e2];exact dM le
    ·exact(if_pos rfl).trans oL
  |free a b=>
   refine gQ (w.free _ a rfl) λk' h1 h2 h3=>?_;rw[b] at h1;obtain rfl:=sj h1;have hl:sc.names.lookup x=some .free:=w.look _ a;refine ct (er.nD x k b h3) λc ov g=>?_;refine ue (abK G.env.cells sc.names [] x (.inl a)) λc0 Y9=>?_;refine ue (MI sc.names (s.heap.objs.size+1) (g8 G.env.cells sc.names []) x (.inr ⟨c0,Y9⟩)) λc' oM=>?_;rw[<- e5] at oM;have Y8:c'=c:=by
    cases at_ oM with
    |new m _ _=>cases DE x _ m _ hl
    |old e m=>have:=(clo x c' e).2;rw[g.look] at this;exact(jR this).symm
   subst Y8;refine aq (id g.cell) λoc ec dc=>?_;refine⟨c',ov,gm.mk oM ?_ ⟨oc,keep _ _ ec,dc⟩ ?_ g.out g.low (λz=>?_) (λdd hd=>?_)⟩
   ·show cenv.kindOf x=_\/cenv.kindOf x=_;rw[kindOf,hl];unfold xh;by_cases q:(NameKind.free==NameKind.free&&G.env.scope.kind==.function&&G.env.kindOf x==some .cell)=true
    ·exact .inl (congrArg some (if_pos q))
    ·exact .inr (congrArg some (if_neg q))
   ·show _≠cenv.locals;rw[e2];intro z;exact absurd (fx ec) (by rw[z];exact jQ _)
   ·have z:sc.names.lookup x=some .cell:=z;rw[hl] at z;cases z
   ·rw[(E0 ts U k).2 h2] at hd;refine aq (g.val dd hd) λv e' r=>?_;exact⟨v,e',(λr=>r.mono (X:=[]) ⟨λa o e O O=>.inl (keep a o e)⟩ (d0.nil _) (Gr.refl ..):∀{v:Value} {d:AV},VR V J s.heap v d->VR V J h v d) r⟩
 ·have hx:cenv.cells.lookup x=some c:=hx;have hy:cenv.cells.lookup y=some c:=hy;have old:∀{z},(g8 G.env.cells sc.names []).lookup z=some c->cN s.heap c:=λ{z} hz=>by refine ua (clo z c hz) λa1 a2=>?_;refine gQ (w.free _ a1 rfl) λk' h1 h2 h3=>?_;refine ct (er.nD z k' h1 h3) λc2 ov g=>?_;rw[g.look] at a2;obtain rfl:=sj a2;refine aq g.cell λoc ec O=>?_;exact⟨oc,ec⟩
  have fresh:∀{z},s.heap.objs.size+1<=c->(g8 G.env.cells sc.names []).lookup z=some c->False:=λle hz=>jH (nR le) (old hz);cases at_ hx with
  |old ex mx=>
   cases at_ hy with
   |old ey my=>exact er.apart x y c (clo x c ex).2 (clo y c ey).2
   |new my le _=>exact(fresh le ex).elim
  |new mx le _=>
   cases at_ hy with
   |old ey my=>exact(fresh le ey).elim
   |new my _ _=>
    rw[e5,ab8,<- iq] at hx hy;have inl:∀{z},(cellsFrom (s.heap.push {cls:=.type "dict",data:=.dict #[]}).objs.size sc.names []++g8 G.env.cells sc.names []).lookup z=some c->(z,c)∈cellsFrom (s.heap.push {cls:=.type "dict",data:=.dict #[]}).objs.size sc.names []:=λ{z} hz=>by
     rw[List.lookup_append] at hz;cases ha:(cellsFrom (s.heap.push {cls:=.type "dict",data:=.dict #[]}).objs.size sc.names []).lookup z with
     |some c'=>rw[ha] at hz;obtain rfl:=sj hz;exact jv ha
     |none=>rw[ha] at hz;exact(fresh le hz).elim
    exact name_of_addr (ab9 sc.names (s.heap.push {cls:=.type "dict",data:=.dict #[]})) (inl hx) (inl hy)
 ·cases CE G.K nms sc.names x k hx with
  |own kd a Ed b=>
   rcases Ed with rfl|rfl
   ·exact .inl (w.look _ a)
   ·exact .inr (.inl (w.look _ a))
  |free a b=>exact .inr (.inr (w.look _ a))
def ao.but{C:Addr}{s':Shared}(pre:ao V d q G J U H s)(k:eg C s s')(hI:∃m,s.heap.Ns C m)(hn:V.h₀.objs.size<=C)(hφ:C∉J.map (·.2))(hX:C∉G.X)(hF:BP G.A C):ao V d q G J U H s':=by refine i7 hI λm o es ep e hd O=>?_;clear hI;exact pre.MY k ⟨o,e,.inl ⟨es,ep,hd⟩,λv hv=>by rw[hd] at hv;cases hv⟩ (pre.fr.but k.keep hF) hn hφ hX
end
section
variable {V:Cf}{G:Fm}{φ₀ J:Ph}{s₀ s:Shared}{U:aC}{H:Hp}{d:Nat}{q:Bool}{E:Ev}
def kj(V:Cf)(d:Nat)(G:Fm)(J:Ph)(s:Shared)(U:aC)(H':Hp)(k:Nat)(D C:Addr)(s':Shared)(φ':Ph):Prop:=(Nx G.X J φ' s s')/\(ao V d true G φ' U H' s')/\(φ'[k]?=some (D,D))/\(∃m,s'.heap.Ns C m)/\(V.h₀.objs.size<=C)/\(C∉φ'.map (·.2))/\(C∉G.X)/\(¬ cN s.heap C)/\(BP G.A C)
section
variable {b1 b2 b3 b4 b5 b6 b7 b8 b9 nE yQ yP}(x:kj b1 b2 b3 b4 b5 b6 b7 b8 b9 nE yQ yP)
def kj.mk:=λm1 m2 m3 m4 m5 m6 m7 m8 m9=>(⟨m1,m2,m3,m4,m5,m6,m7,m8,m9⟩:kj b1 b2 b3 b4 b5 b6 b7 b8 b9 nE yQ yP)
def kj.nx:=x.1
def kj.pre:=x.2.1
def kj.val:=x.2.2.1
def kj.ns:=x.2.2.2.1
def kj.low:=x.2.2.2.2.1
def kj.out:=x.2.2.2.2.2.1
def kj.nX:=x.2.2.2.2.2.2.1
def kj.new:=x.2.2.2.2.2.2.2.1
def kj.IU:=x.2.2.2.2.2.2.2.2
end
def oU(V:Cf)(K:Cx)(elt tg ifs:C)(sc:Scope):Prop:=(iC K sc (mR tg elt) (slots tg elt))/\(mI (l7 K sc.names (mR tg elt)) tg=true)/\(wf V elt (l7 K sc.names (mR tg elt))=true)/\(jU V ifs (l7 K sc.names (mR tg elt))=true)
section
variable {b1 b2 b3 b4 b5 b6}(x:oU b1 b2 b3 b4 b5 b6)
def oU.mk:=fp (oU b1 b2 b3 b4 b5 b6) rfl
def oU.sW:=x.1
def oU.Rx:=x.2.1
def oU.aaH:=x.2.2.1
def oU.Yu:=x.2.2.2
end
def vU(G:Fm)(sc:Scope)(C:Addr):Env:={scope:=relabel sc G.env,locals:=C,globals:=G.env.globals,cells:=cellsFrom (C+1) sc.names (g8 G.env.cells sc.names []),qual:=G.env.qual,func:=none,code:=G.env.code,frame:=G.env.frame,builtins:=G.env.builtins}
def cX(G:Fm)(sc:Scope)(C:Addr):List Addr:=C::BF sc.names (vU G sc C).cells
variable {sc:Scope}
def ace(h:Heap):∀a∈cX G sc h.objs.size,h.objs.size<=a:=λa ha=>by
 rcases bQ.mp ha with rfl|ha
 ·exact bf _
 ·refine aq (Jc ha) λx hm hl=>?_;have iq:(h.push {cls:=.type "dict",data:=.dict #[]}).objs.size=h.objs.size+1:=pf ..;have hl:(cellsFrom (h.objs.size+1) sc.names (g8 G.env.cells sc.names [])).lookup x=some a:=hl;rw[<- iq] at hl;cases MJ _ _ _ hl with
  |old e m=>exact absurd hm m
  |new m le cell=>rw[iq] at le;exact nR le
variable {elt tg ifs:C}
def Ml(ok:ef V)(Sd:vZ V E)(pre:ao V d true G J U H s){v:Value}{x:AV}{src:bJ}{it':Expr}{pos:Pos}{H':Hp}{ρ':aC}
  (hv:VR V J s.heap v x) (lU:eQ x H=some src) (w:oU V G.K elt tg ifs sc)
  (he:E.cp d tg src ifs elt H.length (jn (slots tg elt) U) (H++[.list []])=.ok () ρ' H') {RR:Value->Addr->Result->Shared->Prop} {Ex:Value->Shared->Prop}
  (h:∀D C s' φ',kj V d G J s U H' H.length D C s' φ'->RR (.ref D) C (.ok .next) s'):
  wpAny (model V.prog V.w) G.A (pyIter v) (λit s₂=>wpAny (model V.prog V.w) G.A (newList []) (λacc s₃=>wpAny (model V.prog V.w) G.A (newFunctionEnv sc G.env.globals (g8 G.env.cells sc.names []) [] G.env.qual none .none (some G.env)) (λcenv s₄=>codeAny (model V.prog V.w) G.A (.compStart (.ListComp (au elt) (⟨au tg,it',bN ifs,0⟩::iT (bN elt)) sc pos) 0 it acc {cenv with scope:=relabel sc G.env}) (RR acc cenv.locals) s₄) Ex s₃) Ex s₂) Ex s:=by
 refine DP ok pre hv lU λI s1 g1 iP hI=>?_;have p1:=pre.grow g1;refine wpAny_newList ?_ (by simp);generalize Ef:({s1 with heap:=s1.heap.push {cls:=.type "list",data:=.seq ([]:List Value).toArray}}:Shared)=s2;have g2:ax s1 s2:=by rw[<- Ef];exact ax.push s1 _ s1.toks
 have Ey:¬ cN s1.heap s1.heap.objs.size:=jH (bf _);have eD:IsL s2.heap s1.heap.objs.size ([]:List Value).toArray 0:=by rw[<- Ef];exact IsL.new ..
 have ZG:s2.heap.objs.size=s1.heap.objs.size+1:=by rw[<- Ef];simp
 generalize K7:s1.heap.objs.size=D at *;have qg:Gr J (J++[(D,D)]) s1.heap:=Gr.push J (D,D) Ey;have Ab:aZ V (J++[(D,D)]) (H++[.list []]) s2.heap:=p1.rel.push g2.keep (aW K7) ⟨_,eD⟩ (g2.at p1.rel) ⟨[],0,mj.mk rfl eD .nil (jP _)⟩;refine abx ?_;generalize Ks:({s2 with heap:=pushCells (s2.heap.push {cls:=.type "dict",data:=.dict #[]}) sc.names}:Shared)=s4;have e4:s4.heap=pushCells (s2.heap.push {cls:=.type "dict",data:=.dict #[]}) sc.names:=by rw[<- Ks]
 have JO:∀a o,s2.heap.get? a=some o->s4.heap.get? a=some o:=λa o e=>by rw[e4];exact pushCells_keeps _ _ a o (ig _ e)
 have g4:ax s2 s4:=by rw[<- Ks] at JO⊢;exact(ax.mk JO rfl rfl)
 have Zj:=ace (G:=G) (sc:=sc) s2.heap;have EA:s1.heap.objs.size<=s2.heap.objs.size:=by rw[ZG,K7];exact i4 _
 have K8:¬ cN s.heap s2.heap.objs.size:=λho=>jH EA (g1.live _ ho);have hCφ:=Ab.fresh (bf s2.heap.objs.size);have ER:=abz (s:=s2) (cenv:=vU G sc s2.heap.objs.size) Ab.base (p1.er.mono (g2.ext [] J) qg) (λb hb=>Ab.fresh hb) w.sW e4 rfl rfl rfl rfl rfl;have hk:(J++[(D,D)])[H.length]?=some (D,D):=by rw[<- pre.rel.len,pG (bf _)];simp
 have K2:∀a∈cX G sc s2.heap.objs.size,s1.heap.objs.size<=a:=λa ha=>aM EA (Zj a ha);have ER:bX V ⟨l7 G.K sc.names (mR tg elt),G.A,vU G sc s2.heap.objs.size,cX G sc s2.heap.objs.size⟩ (J++[(D,D)]) (jn (slots tg elt) U) s4.heap:=ER;generalize hCC:s2.heap.objs.size=C at *;have pC:ao V d true ⟨l7 G.K sc.names (mR tg elt),G.A,vU G sc C,cX G sc C⟩ (J++[(D,D)]) (jn (slots tg elt) U) (H++[.list []]) s4:=(ao.mk (Ab.grow g4) ER pre.room pre.hd ⟨((p1.fr.mono (g2.ext [] J) qg (λO ha=>nomatch ha)).grow g4).fr⟩)
 have eT:cI V (J++[(D,D)]) s4.heap I src:=iP.mono ((g2.trans g4).ext G.X J) p1.er.fG qg hI.2;have Zl:qy s ⟨l7 G.K sc.names (mR tg elt),G.A,vU G sc C,cX G sc C⟩ I:=⟨hI.1,λhm=>aq (lQ iP.st) λo e O=>absurd (fx e) (hZ.mpr (K2 I hm))⟩;have key:=Sd.cp (it':=it') (pr:=[]) (sc:=sc) (pos:=pos) (((g1.trans g2).trans g4).nx (cX G sc C) (J++[(D,D)])) Zl pC eT hk w.Rx w.Yu w.aaH;rw[he] at key;have loop:codeAny (model V.prog V.w) G.A (CT.code (BA elt tg ifs it' [] sc pos) (.ref I) (.ref D) (vU G sc C)) (RR (.ref D) C) s4:=by
  refine qL (key nofun) λr s' hr=>?_;cases r with
  |error=>exact hr.elim
  |ok f=>
   refine i7 hr λb ρ'' H'' φ' e f' aa=>?_;clear hr;subst aa;cases e;have n':=f'.nx;have ne:∀a o,s.heap.get? a=some o->a≠D/\a∉cX G sc C:=λa o e=>⟨λq=>Ey ⟨o,q▸g1.keep a o e⟩,λq=>absurd (fx (g1.keep a o e)) (hZ.mpr (K2 a q))⟩;have ex:∀Y,dD Y J s.heap s'.heap:=λY=>⟨λa o e ha O=>n'.ext.keep a o e (by rw[ew,ko,not_or];exact⟨ha,by simpa using (ne a o e).1⟩) (ne a o e).2⟩
   have Le:Gr J φ' s.heap:=(Gr.push J (D,D) λho=>Ey (g1.live _ ho)).trans n'.gr λO h=>h;have mC:C∈cX G sc C:=bA;refine aq f'.er.ns λm hm O=>?_;exact h D _ s' φ' (kj.mk (Nx.mk (ex G.X) Le n'.gens n'.os n'.live) (ao.mk f'.rel (pre.er.mono (ex []) Le) pre.room pre.hd ⟨f'.fr.fr⟩) (n'.gr.get hk) ⟨m,hm⟩ (f'.er.sH C mC) (f'.er.qQ C mC) (Cc p1 EA) K8 (pre.fr.VW K8))
 exact codeAny_compStart_list loop (HA eT.st loop)
def HF{C:Addr}{h':Heap}(hs:Heap.SameBut C s.heap h'):eg C s {s with heap:=h'}:=(eg.mk (λb o hb e=>(hs.2 b hb).trans e) rfl rfl)
def Gi{it:C}{p:Pos}(h:wf V (.comp elt tg it ifs sc p) G.K=true):wf V it G.K=true/\tj (au it)=true/\oU V G.K elt tg ifs sc:=by refine zt h λh1 h2 h3 h4 h5 h6=>?_;exact⟨h1,h2,oU.mk (To h3) h4 h5 h6⟩
variable {nms:List (Str×Nat)}
def iC.Mt{ts:List Nat}(w:iC G.K sc nms ts)(er:bX V G J U s.heap):closureFor sc G.env=pure (g8 G.env.cells sc.names []):=abH (w.cells (K:=G.K) er)
def iC.locs{K:Cx}{ts:List Nat}(w:iC K sc nms ts):∀x∈sc.names,x.2=.local->sc.names.lookup x.1=some .local:=λx hx hl=>hl▸w.look x hx
def Mm{x:AV}(hs:tS E d elt tg ifs x U H≠.stuck):∃src ρ' H',eQ x H=some src/\E.cp d tg src ifs elt H.length (jn (slots tg elt) U) (H++[.list []])=.ok () ρ' H'/\tS E d elt tg ifs x U H=.ok (.ref H.length) U H':=by
 unfold tS at hs⊢;cases lU:eQ x H with
 |none=>rw[lU] at hs;exact absurd rfl hs
 |some src=>
  rw[lU] at hs;dsimp only at hs⊢;cases he:E.cp d tg src ifs elt H.length (jn (slots tg elt) U) (H++[.list []]) with
  |exc=>rw[he] at hs;exact absurd rfl hs
  |stuck=>rw[he] at hs;exact absurd rfl hs
  |ok u ρ' H'=>exact⟨src,ρ',H',rfl,he,rfl⟩
def L6(ok:ef V)(Sd:vZ V E)(pre:ao V d q G J U H s){it:C}{p:Pos}(hw:wf V (.comp elt tg it ifs sc p) G.K=true):
  ag V G J s (eval (.ListComp (au elt) (⟨au tg,au it,bN ifs,0⟩::iT (bN elt)) sc p) G.env) (vR E d q elt tg it ifs U H) (VR V):=by
 cases q with
 |false=>exact ag.stuck
 |true=>refine zx (Gi hw) λh1 h2 w=>?_;rw[eval_ListComp];refine TT.imp (λQ Ex h=>wpAny_comprehension_free (use:=none) rfl (As h2) (w.sW.Mt pre.er) w.sW.kind w.sW.locs h) (TT.seq (Nx.refl ..) pre (Sd.e pre h1) λv x ρ1 H1 φ1 s1 n1 m1 p1 r1=>?_);intro hs;refine mQ (Mm hs) λsrc ρ' H' e1 e2 e3=>?_;rw[e3];refine Ml ok Sd p1 r1 e1 w e2 λD C s' φ' c=>?_;refine⟨_,c.ns.choose_spec,λh' gV=>?_⟩;have k:=HF gV;exact⟨_,_,_,φ',rfl,(c.pre.but k c.ns c.low c.out c.nX c.IU).rX (m1.trans (c.nx.but k c.new)),VR.ref c.val⟩
def TC(ok:ef V)(jL:v9 V)(Sd:vZ V E)(pre:ao V d true G J U H s){t it:C}{p zK:Pos}(ht:sI V G.K t=true)(hw:wf V (.comp elt tg it ifs sc p) G.K=true)
  (YD:swapsWithSole [au t] (.ListComp (au elt) (⟨au tg,au it,bN ifs,0⟩::iT (bN elt)) sc p) zK.line G.env=pure true):
  ag V G J s (exec (.Assign [au t] (.ListComp (au elt) (⟨au tg,au it,bN ifs,0⟩::iT (bN elt)) sc p) zK) G.env) (M.bind (vR E d true elt tg it ifs) (λv=>M.bind (wV V.P (E.e d true) true v [t]) λO=>cj .next) U H) (d6 V):=by
 refine zx (Gi hw) λh1 h2 w=>?_;have assoc:∀{α β γ:Type} (m:M α) (f:α->M β) (g:β->M γ) (U:aC) (H:Hp),M.bind (M.bind m f) g U H=M.bind m (λx=>M.bind (f x) g) U H:=by intro α β γ m f g U H;unfold M.bind;cases m U H<;>rfl
 show ag V G J s _ (M.bind (M.bind (E.e d true it) (tS E d elt tg ifs)) _ U H) _;rw[assoc,arm_exec_Assign,YD,arm_evalThenUse_ListComp];refine TT.imp (λQ Ex h=>ah (fy (ah (aH (ah (ah (wpAny_comprehension_free (use:=some λv=>assignAll v ((assignEach [au t] G.env).map (·.2))) rfl (As h2) (w.sW.Mt pre.er) w.sW.kind w.sW.locs h))))))) ?_;refine TT.seq (Nx.refl ..) pre (Sd.e pre h1) λv x ρ1 H1 φ1 s1 n1 m1 p1 r1=>?_;intro hs;refine mQ (Mm λz=>hs (vV z)) λsrc ρ' H' e1 e2 e3=>?_;rw[tV e3] at hs⊢;refine Ml ok Sd p1 r1 e1 w e2 λD C s' φ' c=>?_;refine cz ((GL ok jL Sd.tod3 [t] c.pre (λt' h=>by rw[fU.mp h];exact ht) (VR.ref c.val)) λz=>hs (vV z)) (λO ja hr=>?_) λex ja hr=>?_
 ·refine i7 hr λb ρ2 H2 φ2 e f O=>?_;clear hr;rw[tV e];have n2:=f.nx;refine ue c.ns λm hm=>?_;have KD:ja.heap.Ns C m:=ju.ns hm λo e=>n2.ext.keep C o e c.out c.nX;refine⟨m,KD,λh' gV=>aH (aH ?_)⟩;have k:=HF gV;exact⟨.next,ρ2,H2,φ2,rfl,((f.pre c.pre).but k ⟨m,KD⟩ c.low (n2.gr.not (cO hm λo O O e O=>⟨o,e⟩) c.out:C∉φ2.map (·.2)) c.nX c.IU).rX (m1.trans ((c.nx.trans n2).but k c.new)),rfl⟩
 ·refine i7 hr λk ρ2 H2 φ2 e f U1=>?_;clear hr;rw[MV e];exact⟨k,ρ2,H2,φ2,rfl,f.up (m1.trans c.nx),U1.low (m1.trans c.nx).live⟩
end
section
variable {V:Cf}{G:Fm}{φ₀ J:Ph}{s₀ s:Shared}{U:aC}{H:Hp}{d:Nat}{q:Bool}{E:Ev}
variable {v:Value}
def abC(pre:ao V d q G J U H s){x:AV}{l:List AV}(hx:VR V J s.heap v x)(hl:rh H x=some l):
  ∀(Q:List Value->Shared->Prop) (E:Value->Shared->Prop),(∀xs s',ax s s'->aQ V J s'.heap xs l->Q xs s')->wpAny (model V.prog V.w) G.A (notIterableAtAll v) (λb s₁=>b=false/\wpAny (model V.prog V.w) G.A (collect v) Q E s₁) E s:=by
 intro Q E h;refine zw (QT pre.rel hx hl) λa items n T x=>?_;rw[x.eq];obtain⟨id,sl⟩:∃id,Slot T "__iter__" id:=by
  rcases x.ty with rfl|rfl
  ·exact⟨_,slot_list_iter⟩
  ·exact⟨_,F.slot_tuple_iter⟩
 unfold notIterableAtAll;refine ah (wpAny_specialOf ⟨_,x.at_,rfl⟩ sl.lookup (aH ⟨rfl,?_⟩));exact wpAny_collect_seq a x.ty x.at_ rfl rfl (λh' k=>h _ _ (ax.mk k rfl rfl) (x.all.mono (X:=[]) ⟨λa o e O O=>.inl (k a o e)⟩ (d0.nil _) (Gr.refl ..))) (by rw[dj,x.all.length];exact i8 x.len)
def G7(pre:ao V d q G J U H s)(n0:Nx G.X φ₀ J s₀ s){x:AV}{α:Type}{g:List Value->α}{R:Ph->Heap->α->List AV->Prop}(hx:VR V J s.heap v x)(hR:∀J h xs l,aQ V J h xs l->R J h (g xs) l):
  TT V G φ₀ s₀ (λQ E=>StarOf (model V.prog V.w) G.A E v (λvs s₂=>Q (g vs) s₂) s) (cu (λH=>rh H x) U H) R:=by
 intro hs;unfold cu at hs⊢;dsimp only at hs⊢;cases hl:rh H x with
 |none=>rw[hl] at hs;exact absurd rfl hs
 |some l=>exact abC pre hx hl _ _ λxs s' gr r=>⟨l,U,H,J,rfl,(pre.grow gr).rX (n0.trans (gr.nx G.X J)),hR _ _ _ _ r⟩
variable {pos:Pos}
def Sv(Sd:d3 V E):∀(m l:List C) {J:Ph} {U:aC} {H:Hp} {s:Shared},ao V d q G J U H s->kU V G.K l m ->
  ag V G J s (spliced (backTo pos (starEach (l.map au) G.env))) (gZ (E.e d q) l U H) (aQ V):=by
 intro m
 induction m with
 |nil=>
  intro l J U H s pre w;rcases w.is with rfl|⟨a,p,rfl,h⟩
  ·exact TT.imp (λO O h=>aH h) (TT.now (Nx.refl ..) pre .nil)
  ·show ag V G J s (spliced ((true,do let v <- eval (au a) G.env;standAt pos;pure v)::[])) (M.bind (E.e d q a) (λv=>cu λH=>rh H v) U H) _;refine TT.imp (λQ Ex h=>ks_spliced h) (TT.seq (Nx.refl ..) pre (Sd.e pre h) λv x ρ1 H1 φ1 s1 n1 m1 p1 r1=>?_);exact TT.imp (λQ Ex h=>cz h (λb s₂ hb=>⟨hb.1,cz hb.2 (λxs s₃ hx=>Calls.spliced_nil (by rw[eV];exact hx)) λO O e=>e⟩) λO O e=>e) (G7 (g:=id) p1 m1 r1 λO O O O h=>h)
 |cons c m ih=>
  intro l J U H s pre w;obtain⟨l',rfl,w'⟩:∃l',l=c::l'/\kU V G.K l' m:=by
   have all:∀x∈m,jr V G.K x/\x.kB=none:=λx hx=>w.all x (bS _ hx);rcases w.is with rfl|⟨a,p,rfl,h⟩
   ·exact⟨m,rfl,kU.mk all (.inl rfl)⟩
   ·exact⟨m++[.star a p],rfl,kU.mk all (.inr ⟨a,p,rfl,h⟩)⟩
  refine ua (w.all c bA) λhc hn=>?_;rw[bE,wX hc.plain,LQ _ _ hn];refine TT.imp (λO O h=>Calls.spliced_cons h) (TT.seq (Nx.refl ..) pre (Sd.e pre hc.wf) λv x ρ1 H1 φ1 s1 n1 m1 p1 r1=>?_);exact TT.seq m1 p1 (ih l' p1 w') λvs xs ρ2 H2 φ2 s2 n2 m2 p2 r2=>TT.now m2 p2 (.cons (n2.vr p1.er r1) r2)
def qB(V:Cf)(J:Ph)(h:Heap)(a:Args)(xs:List AV):Prop:=(a.kw=[])/\(aQ V J h a.pos xs)
section
variable {b1 b2 b3 b4 b5}(x:qB b1 b2 b3 b4 b5)
def qB.mk:=jI (qB b1 b2 b3 b4 b5) rfl
def qB.kw:=x.1
def qB.all:=x.2
end
variable {f:Value}
def yR(Sd:d3 V E)(pre:ao V d q G J U H s){l:C}(h:nY V l G.K=true):
  ag V G J s (evalArgs f true (backTo pos (starEach (bN l) G.env)) []) (gZ (E.e d q) (cs l) U H) (qB V):=by
 refine ik (Cg h) λe m w=>?_;rw[e];generalize cs l=l at w;cases m with
 |cons c m=>
  have key:=Sv Sd (pos:=pos) (c::m) l pre w;obtain⟨l',rfl⟩:∃l',l=c::l':=by
   rcases w.is with rfl|⟨a,p,rfl,h⟩
   ·exact⟨_,rfl⟩
   ·exact⟨_,rfl⟩
  refine ua (w.all c bA) λhc hn=>?_;rw[bE,wX hc.plain] at key⊢;refine TT.imp (λQ Ex h=>Calls.evalArgs_plain h) (λhs=>cz (key hs) (λvs s' hr=>?_) λO O e=>e);refine i7 hr λb ρ' H' φ' e f' r4=>?_;clear hr;exact⟨b,ρ',H',φ',e,f',qB.mk rfl r4⟩
 |nil=>
  rcases w.is with rfl|⟨a,p,rfl,h⟩
  ·exact TT.imp (λO O h=>evalArgs_nil3 h) (TT.now (Nx.refl ..) pre (qB.mk rfl .nil))
  ·show ag V G J s (evalArgs f true [(true,do let v <- eval (au a) G.env;standAt pos;pure v)] []) (M.bind (E.e d q a) (λv=>cu λH=>rh H v) U H) _;refine TT.imp (λQ Ex h=>ks_lone h) (TT.seq (Nx.refl ..) pre (Sd.e pre h) λv x ρ1 H1 φ1 s1 n1 m1 p1 r1=>?_);exact G7 (g:=λvs=>(⟨vs,[]⟩:Args)) p1 m1 r1 λO O O O h=>(qB.mk rfl h)
def yL(Q:Value->Shared->Prop)(Ex:Value->Shared->Prop)(r:Result)(s:Shared):Prop:=match r with
 |.ok (.ret v)=>Q v s
 |.ok _=>False
 |.error e=>Ex e s
def uc(V:Cf)(G:Fm)(J:Ph)(s:Shared)(vf:Value)(vs:List Value)(r:dG AV):Prop:=TT V G J s (λQ Ex=>codeAny (model V.prog V.w) G.A (.call vf ⟨vs,[]⟩) (yL Q Ex) s) r (VR V)
variable {vs:List Value}{Q Ex:Value->Shared->Prop}
def BD{M:Model}{A:Around}(h:codeAny M A (.call f ⟨vs,[]⟩) (yL Q Ex) s):wpAny M A (call f vs) Q Ex s:=wpAny_call (qL h λr s' z=>by rcases r with e|(_|_|_|_)<;>first|exact z|exact z.elim)
def uc.tri{vf:Value}{r:dG AV}(x:uc V G J s vf vs r):ag V G J s (call vf vs) r (VR V):=λhs=>BD (x hs)
structure me(V:Cf)(E:Ev):Prop extends vZ V E where
 yz:∀{d G J U H s vf k fd vs xs},ao V d true G J U H s->V.P.gt[k]?=some (.fn fd)->V.gv k=some vf->aQ V J s.heap vs xs->uc V G J s vf vs (E.call d (.glob k) xs U H)
 rho:∀{d k fd xs U H v ρ' H'},V.P.gt[k]?=some (.fn fd)->E.call d (.glob k) xs U H=.ok v ρ' H'->ρ'=U
 call:∀{d G J U H s vf fv vs xs},ao V d true G J U H s->VR V J s.heap vf fv->aQ V J s.heap vs xs->ag V G J s (call vf vs) (E.call d fv xs U H) (VR V)
variable {env:Env}
def acb{f':Expr}{es:List Expr}(h:Dj f'=true):eval (.Call f' es [] pos) env=(do callWith pos (<- eval f' env) [] (backTo pos (starEach es env)) []):=by cases f'<;>first|rfl|exact cR h
def yu(ok:Ok V)(R:aZ V J H s.heap):V.fr.In s.heap:=ok.ZP.keeps R.keep
def Fu(k:Keeper):Prop:=k=Keeper.frame\/k=Keeper.machine\/k=Keeper.boundFrame
def JN{M:Model}(ok:Ok V){k:Nat}(h:V.gv k=some v):∀hp:Heap,V.fr.In hp->∃kp,Fu kp/\Looks M hp (keeperOf v) kp:=by
 intro hp X;rcases ok.keeps k v h with⟨id,rfl⟩|⟨T,rfl⟩|hk
 ·exact⟨.machine,.inr (.inl rfl),.now⟩
 ·exact⟨.machine,.inr (.inl rfl),.now⟩
 ·exact keeps_K hk hp X
def Fe{M:Model}{A:Around}{P:Heap->Prop}{first:List Value}{args:List (Bool×Sem Value)} 
  (hk:∀h,P h->∃k,Fu k/\Looks M h (keeperOf f) k)
  (h:wpAny M A (evalArgs f true args []) (λa s₁=>P s₁.heap/\wpAny M A (call f (first++a.pos) a.kw) Q Ex s₁) Ex s):wpAny M A (callWith pos f first args []) Q Ex s:=by
 cases oG:args.any (·.1) with
 |true=>exact ks_call oG hk h
 |false=>exact callWith_of (by rw[oG];rfl) hk h
structure adF(V:Cf)(G:Fm)(J:Ph)(s:Shared)(vf:Value)(P:Heap->Prop):Prop where
 is:∀h,P h->∃k,Fu k/\Looks (model V.prog V.w) h (keeperOf vf) k
 on:∀{d q ρ2 H2 φ2 s2},Nx G.X J φ2 s s2->ao V d q G φ2 ρ2 H2 s2->P s2.heap
def XH(ok:Ok V)(pre:ao V d q G J U H s){vf:Value}{fv:AV}(hx:VR V J s.heap vf fv)(hc:tU fv=true):∃P,adF V G J s vf P:=by
 cases fv with
 |glob k=>exact⟨λh=>V.fr.In h,JN ok hx,λO p2=>yu ok p2.rel⟩
 |cP m=>refine mP hx λb a dd o aa x=>?_;clear hx;subst aa;refine⟨λh=>h.get? b=some o,λh hb=>⟨.machine,.inr (.inl rfl),(Looks.ld (part:=none) hb).andThen ?_⟩,λn2 p2=>n2.ext.get pre.er.fG x.get x.out (.mk' x.cls (by decide) (by rw[x.data];simp) (by rw[x.data];simp))⟩;obtain⟨c,dct,dt,sl⟩:=o;have e3:=x.cls;have e4:=x.data;dsimp only at e3 e4;subst e3;subst e4;exact .now
 |_=>exact cR hc
def aa0(ok:Ok V)(Sd:me V E)(pre:ao V d q G J U H s){f args:C}(hf:Dj (au f)=true)(h1:wf V f G.K=true)(h2:nY V args G.K=true):
  ag V G J s (eval (.Call (au f) (bN args) [] pos) G.env) (MM E d q f args U H) (VR V):=by
 rw[acb hf];refine ag.bind pre (Sd.e pre h1) λvf fv ρ1 H1 φ1 s1 n1 p1 r1=>?_;cases hc:tU fv with
 |false=>exact ag.stuck
 |true=>
  cases q with
  |false=>exact ag.stuck
  |true=>refine ue (XH ok p1 r1 hc) λP kp=>?_;refine TT.imp (λQ Ex h=>Fe (first:=[]) kp.is h) (TT.seq (Nx.refl ..) p1 (yR Sd.tod3 p1 h2) λa xs ρ2 H2 φ2 s2 n2 m2 p2 r2=>?_);intro hs;refine⟨kp.on n2 p2,?_⟩;rw[r2.kw];exact TT.last m2 (Sd.call p2 (n2.vr p1.er r1) r2.all) hs
def MZ{o:Expr}{attr:Str}{whole:Sem Value}(h:Aj o=true):attributeBase o attr env whole=whole:=by
 cases o with
 |Call f as ks p=>cases f<;>first|rfl|(cases as<;>first|rfl|(cases ks<;>first|rfl|exact cR h))
 |_=>rfl
def Wg{o':Expr}{name:Str}{apos:Pos}{es:List Expr}(h:Aj o'=true):eval (.Call (.Attribute o' name apos) es [] pos) env=(do
  let ov <- eval o' env
  standAt apos.atName
  methodCall o' name apos pos env ov es.length (backTo pos (starEach es env)) []):=by
 rw[arm_eval_Call,MZ h];rfl
theorem C6{pos:Pos}{env:Env}:∀{m:List C},(∀c∈m,jr V G.K c)->(backTo pos (starEach (m.map au) env)).all (!·.1)=true/\(backTo pos (starEach (m.map au) env)).any (·.1)=false:=by
 intro m
 induction m with
 |nil=>intro _;exact⟨rfl,rfl⟩
 |cons c m ih=>intro h;rw[bE,wX (h c bA).plain];refine ua (ih λc hc=>h c (bS _ hc)) λa b=>?_;exact⟨by simpa using a,by simpa using b⟩
theorem Sl{pos:Pos}{env:Env}{a:C}{p:Pos}:∀{m:List C},(∀c∈m,jr V G.K c)->(backTo pos (starEach ((m++[C.star a p]).map au) env)).all (!·.1)=false:=by
 intro m
 induction m with
 |nil=>intro _;exact rfl
 |cons c m ih=>
  intro h;rw[List.cons_append,bE,wX (h c bA).plain];have:=ih λc hc=>h c (bS _ hc)
  simpa using this
def Zc{m:List C}{a:C}{p:Pos}:vB (m++[.star a p])=true:=by unfold vB;rw[List.any_append];exact sy.mpr (.inr rfl)
def oX(V:Cf)(H:Hp)(ov:AV)(m k nn c:Nat)(cd:CD)(fs:List (Option AV)):Prop:=(ov=.ref nn)/\(H[nn]?=some (.inst c fs))/\(V.P.gt[c]?=some (.cl cd))/\(cd.meths.lookup m=some k)
section
variable {b1 b2 b3 b4 b5 b6 b7 b8 b9}(x:oX b1 b2 b3 b4 b5 b6 b7 b8 b9)
def oX.mk:=fp (oX b1 b2 b3 b4 b5 b6 b7 b8 b9) rfl
def oX.ov:=x.1
def oX.at_:=x.2.1
def oX.cls:=x.2.2.1
def oX.Dt:=x.2.2.2
end
def nJ(s:Shared)(vo:Value)(mk:MK):Prop:=(s.TypeIs vo (Dw mk))/\(∀a,vo=.ref a->∃o,s.heap.get? a=some o/\o.dict=none)
section
variable {b1 b2 b3}(x:nJ b1 b2 b3)
def nJ.mk:=jI (nJ b1 b2 b3) rfl
def nJ.ty:=x.1
def nJ.Dk:=x.2
end
def EZ{c:Nat}{cd:CD}{P:bP}(h:l8 P c=some cd):P.gt[c]?=some (.cl cd):=by
 refine ub h λg h1 h2=>?_;rw[cQ] at h1;cases g with
 |cl=>obtain rfl:=sj h2;exact h1
 |_=>exact aR h2
noncomputable def X3(m:MK):Bool:=match m with|.user _=>true|_=>false
def Ax{m:MK}(h:X3 m=false)(k:Nat):m≠.user k:=λe=>by rw[e] at h;exact Bool.noConfusion h
def XE(R:aZ V J H s.heap){vo:Value}{ov:AV}{m:Nat}{mk:MK}(hv:VR V J s.heap vo ov)(h:kL V.P ov m H=some mk):
  (∃k nn c cd fs,mk=.user k/\oX V H ov m k nn c cd fs)\/((∀k,mk≠.user k)/\nJ s vo mk):=by
 cases ov with
 |str l=>obtain rfl:=sj h;refine aq hv λt aa O=>?_;clear hv;subst aa;exact .inr ⟨Ax rfl,nJ.mk (typeIs_str _ _ _) nofun⟩
 |ref nn=>
  refine ub h λo h1 h2=>?_;rw[cQ] at h1;refine aq (ij hv rfl) λp aa hp=>?_;subst aa;have r:=R.at h1 hp;cases o with
  |inst c fs=>refine ub h2 λcd h3 h2=>?_;refine um h2 λk h4 aa=>?_;subst aa;exact .inl ⟨k,nn,c,cd,fs,rfl,oX.mk rfl h1 (EZ h3) h4⟩
  |list l=>obtain rfl:=sj h2;refine ct r λitems n x=>?_;clear r;exact .inr ⟨Ax rfl,nJ.mk ⟨_,x.eq▸x.at_,rfl⟩ (λa e=>by cases e;exact⟨_,x.eq▸x.at_,rfl⟩)⟩
  |dict ep l=>obtain rfl:=sj h2;refine ue r λes x=>?_;clear r;exact .inr ⟨Ax rfl,nJ.mk ⟨_,x.eq▸x.at_,rfl⟩ (λa e=>by cases e;exact⟨_,x.eq▸x.at_,rfl⟩)⟩
  |set l=>obtain rfl:=sj h2;refine ua r λe x=>?_;clear r;exact .inr ⟨Ax rfl,nJ.mk (e▸x.set.typeIs) (e▸x.set.noDict)⟩
  |_=>exact aR h2
 |_=>exact aR h
def Wi(ok:Ok V)(Sd:d3 V E)(pre:ao V d q G J U H s){vo:Value}{ov:AV}{m:Nat}{mk:MK}{args:C}{o':Expr}{name:Str}{apos:Pos}(hv:VR V J s.heap vo ov)(kb:nJ s vo mk)
  (hn:u9 mk m=true->name=Az m) (h2:nY V args G.K=true) (hl:(apos.endLine==pos.line)=true) (rN:(cs args).length<30):
  ag V G J s (methodCall o' name apos pos G.env vo (bN args).length (backTo pos (starEach (bN args) G.env)) []) (AB E d q mk ov m args U H) (VR V):=by
 unfold AB;cases hm:u9 mk m with
 |false=>exact ag.stuck
 |true=>
  cases oG:vB (cs args) with
  |true=>exact ag.stuck
  |false=>
   have mf:=WC hm;have hn:=hn hm;subst hn;refine ik (Cg h2) λe mm w=>?_;have e':cs args=mm:=by
    rcases w.is with e|⟨a,p,e,_⟩
    ·exact e
    ·rw[e,Zc] at oG;cases oG
   have pl:=C6 (V:=V) (G:=G) (pos:=pos) (env:=G.env) (m:=mm) λc hc=>(w.all c hc).1;rw[<- e',<- e] at pl;have yi:methodCallForm (bN args).length (backTo pos (starEach (bN args) G.env)) []=true:=by unfold methodCallForm;rw[pl.1,e,aJ];simp;exact rN
   unfold methodCall;rw[yi];refine TT.imp (λQ Ex h=>ah (c8 (getMethod_builtin kb.ty mf.plain mf.slot mf.ty kb.Dk (ah (ib (by unfold methodCallPos;simp[hl]:methodCallPos true o' G.env apos pos=pure pos) (Calls.callWith_builtin pl.2 h)))))) (TT.seq (Nx.refl ..) pre (yR Sd pre h2) λa xs ρ1 H1 φ1 s1 n1 m1 q1 r1=>?_);rw[r1.kw];exact TT.last m1 (Wh q1 ok.toef (n1.vr pre.er hv) r1.all)
end
theorem Qu(L:List (Str×Value)):∀(ns:List Str) (vs:List Value),ns.Nodup->ns.length<=vs.length->(∀n∈ns,L.lookup n=(ns.zip vs).lookup n)->ns.filterMap (λn=>(L.lookup n).map (n,·))=ns.zip vs:=by
 intro ns
 induction ns with
 |nil=>intro _ _ _ _;simp
 |cons n ns gI=>
  intro t_ hd h hL;cases t_ with
  |nil=>simp at h
  |cons v vs=>
   rw[gN] at hd;have ih:=gI vs hd.2 (by simpa using h) (λx hx=>by
    rw[hL x (bS _ hx),wz,iH];have d7:(x==n)=false:=by
     simp only[beq_eq_false_iff_ne]
     rintro rfl
     exact hd.1 hx
    rw[d7])
   have e1:L.lookup n=some v:=by rw[hL n bA];simp
   rw[wz,wA];rw[e1];show(n,v)::_=_;rw[ih]
def Qv(ns:List Str)(vs:List Value)(hd:ns.Nodup)(h:ns.length<=vs.length):ns.filterMap (λn=>((ns.zip vs).lookup n).map (n,·))=ns.zip vs:=Qu _ ns vs hd h λO O=>rfl
theorem Qt:∀(ns:List Str) (vs:List Value),ns.length<=vs.length->∀n∈ns,((ns.zip vs).lookup n).isNone=false:=by
 intro ns
 induction ns with
 |nil=>intro _ _ n h;cases h
 |cons m ns ih=>
  intro t_ h n hn;cases t_ with
  |nil=>simp at h
  |cons v vs=>
   rw[wz,iH];cases e:n==m with
   |true=>rfl
   |false=>
    rcases bQ.mp hn with rfl|hn
    ·simp at e
    ·exact ih vs (by simpa using h) n hn
variable {A:Around}{s:Shared}{E:Value->Shared->Prop}
def vm{α:Type}{M:Model}{Q:α->Shared->Prop}{c:Prop}[Decidable c]{t e:Sem α}(h:¬c)(x:wpAny M A e Q E s):wpAny M A (if c then t else e) Q E s:=by rw[if_neg h];exact x
def ZT{α β:Type}{M:Model}{Q:β->Shared->Prop}{L:List α}{b:β}{f:α->β->Sem (ForInStep β)}(h:L=[])(x:Q b s):wpAny M A (forIn L b f) Q E s:=by subst h;exact aH x
variable {Q:List (Str×Value)->Shared->Prop}{kd:List (Option Expr)}
def MU{M:Model}{fd:FuncData}{as:List Arg}{va:Option Arg}{df:List Expr}{vals:List Value}
  (hp:fd.params={posonlyargs:=[],args:=as,vararg:=va,kwonlyargs:=[],kw_defaults:=kd,kwarg:=none,defaults:=df}) (hd:fd.defaults=.none) (hn:(as.map (·.arg)).Nodup) (hl:as.length<=vals.length)
  (YC:va=none->vals.length=as.length)
  (h:match va with
   |none=>Q ((as.map (·.arg)).zip vals) s
   |some a=>(vals.drop as.length).length<=sizeLine/\Q ((as.map (·.arg)).zip vals++[(a.arg,.ref s.heap.objs.size)]) {s with heap:=s.heap.push {cls:=.type "tuple",data:=.seq (vals.drop as.length).toArray}}):
  wpAny M A (bindArgs fd ⟨vals,[]⟩) Q E s:=by
 have A1:(as.map (·.arg)).length<=vals.length:=by rw[aJ];exact hl
 obtain⟨f1,f2,f3,f4,f5,f6,f7,f8,f9,f10,f11,yB,vH,f14,f15⟩:=fd;dsimp only at hp hd;subst hp hd;have names:(as.map (·.arg)++([]:List Str)).filterMap (λn=>((((as.map (·.arg)).zip vals)).lookup n).map (n,·))=(as.map (·.arg)).zip vals:=by rw[eV];exact Qv _ _ hn A1
 unfold bindArgs;refine ah (aH ?_);refine ah (ib (a:=none) rfl ?_);refine vm (show ¬ (decide (vals.length>(as.map (·.arg)).length)&&va.isNone)=true from ?_) ?_
 ·cases va with
  |none=>rw[YC rfl,aJ];simp
  |some=>simp
 refine vm (λoM=>?_) ?_
 ·have hc:∀k,(!(List.filter (λn=>(List.lookup n ((as.map (·.arg)).zip vals)).isNone) (List.take k (as.map (·.arg)))).isEmpty)=true->False:=λk hc=>by
   rw[show List.filter (λn=>(List.lookup n ((as.map (·.arg)).zip vals)).isNone) (List.take k (as.map (·.arg)))=[] from by rw[List.filter_eq_nil_iff];intro n dY;rw[Qt _ vals A1 n (List.mem_of_mem_take dY)];simp] at hc
   cases hc
  exact hc _ oM
 refine ah (ZT (show List.zip _ (List.drop _ [])=[] by rw[List.drop_nil,List.zip_nil_right]) ?_);refine ah (aH ?_);refine vm qG ?_;cases va with
 |none=>exact aH (show Q ((as.map (·.arg)++([]:List Str)).filterMap (λn=>((((as.map (·.arg)).zip vals)).lookup n).map (n,·))) s by rw[names];exact h)
 |some a=>
  refine ah (wt (aH ?_) ?_)
  ·show Q ((as.map (·.arg)++([]:List Str)).filterMap (λn=>((((as.map (·.arg)).zip vals)).lookup n).map (n,·))++[(a.arg,.ref s.heap.objs.size)]) {s with heap:=s.heap.push {cls:=.type "tuple",data:=.seq (vals.drop (as.map (·.arg)).length).toArray}};rw[names,aJ];exact h.2
  ·show(vals.drop (as.map (·.arg)).length).toArray.size<=sizeLine;rw[aJ,dj];exact h.1
def acu{M:Model}{fd:FuncData}{x y:Arg}{df:List Expr}{v dv:Value}{T:Addr}{o:Obj}{k:Nat}
  (hp:fd.params={posonlyargs:=[],args:=[x,y],vararg:=none,kwonlyargs:=[],kw_defaults:=kd,kwarg:=none,defaults:=df}) (hd:fd.defaults=.ref T) (ho:s.heap.get? T=some o) (hs:o.data=.seq #[dv] k) (hn:x.arg≠y.arg)
  (h:Q [(x.arg,v),(y.arg,dv)] s):wpAny M A (bindArgs fd ⟨[v],[]⟩) Q E s:=by
 have d7:(y.arg==x.arg)=false:=by simpa using fi hn
 have e2:(forIn [(y.arg,dv)] [(x.arg,v)] λ(x:Str×Value) (r:List (Str×Value))=>if(List.lookup x.fst r).isNone=true then pure (ForInStep.yield (r++[(x.fst,x.snd)])) else pure (ForInStep.yield r):Sem (List (Str×Value)))=pure [(x.arg,v),(y.arg,dv)]:=by
  rw[wm];have:(List.lookup y.arg [(x.arg,v)]).isNone=true:=by simp[iH,d7]
  simp only[this,if_true,pure_bind];rw[List.forIn_nil]
  rfl
 have e3:List.filterMap (λn=>Option.map (λx=>(n,x)) (List.lookup n [(x.arg,v),(y.arg,dv)])) [x.arg,y.arg]=[(x.arg,v),(y.arg,dv)]:=by simp[wA,iH,d7]
 obtain⟨f1,f2,f3,f4,f5,f6,f7,f8,f9,f10,f11,yB,vH,f14,f15⟩:=fd;dsimp only at hp hd;subst hp hd;unfold bindArgs;refine ah (aH ?_);refine ah (wpAny_seqItems ho hs ?_);refine vm (λh=>qG h) ?_;refine vm (show ¬ (!(List.filter (λn=>(List.lookup n [(x.arg,v)]).isNone) [x.arg]).isEmpty)=true by simp[sm,iH]) ?_;refine ah (ib e2 ?_);refine ah (aH ?_);refine vm qG ?_;exact aH (show Q (List.filterMap (λn=>Option.map (λx=>(n,x)) (List.lookup n [(x.arg,v),(y.arg,dv)])) [x.arg,y.arg]) s by rw[e3];exact h)
noncomputable def s9:Nat->List Str->List (Str×Nat)
 |_,[]=>[]
 |k,x::r=>(x,k)::s9 (k+1) r
def rR(names:List (Str×NameKind))(ps:List Str):Cx where
 sc:=s9 0 (ps++(names.filterMap λp=>if(p.2=.local\/p.2=.cell)/\p.1∉ps then some p.1 else none))
 kn:=names
def Aq:∀(l:List Str) (k:Nat) {x:Str} {j:Nat},(s9 k l).lookup x=some j->k<=j/\l[j-k]?=some x:=by
 intro r
 induction r with
 |nil=>intro _ _ _ h;exact aR h
 |cons y r ih=>
  intro k x j h;rw[show s9 k (y::r)=(y,k)::s9 (k+1) r from rfl,iH] at h;cases e:x==y with
  |true=>
   rw[e] at h;obtain rfl:=sj h;have:x=y:=by simpa using e
   subst this;exact⟨bf _,by simp⟩
  |false=>
   rw[e] at h;refine ua (ih (k+1) h) λh1 h2=>?_;refine⟨by exact NB ‹_›,?_⟩;have:j-k=(j-(k+1))+1:=R4 h1;rw[this]
   simpa using h2
def VI{l:List Str}{k:Nat}{x y:Str}{j:Nat}(h1:(s9 k l).lookup x=some j)(h2:(s9 k l).lookup y=some j):x=y:=by have a:=(Aq l k h1).2;have b:=(Aq l k h2).2;rw[a] at b;exact jR b
def acv(kindOf:Str->Option NameKind):∀(ns:List Str) (vs:List Value) (m:Str->Option Value),ns.Nodup->∀(i:Nat) (x:Str) (v:Value),ns[i]?=some x->vs[i]?=some v->kindOf x=some .local->bindL kindOf (ns.zip vs) m x=some v:=by
 have keep:∀(l:List (Str×Value)) (m:Str->Option Value) (x:Str),x∉l.map (·.1)->bindL kindOf l m x=m x:=by
  intro l
  induction l with
  |nil=>intro m x _;rfl
  |cons p r ih=>
   intro m x hx;rw[bE,bQ,not_or] at hx;unfold bindL;rw[ih _ x hx.2];by_cases q:kindOf p.1=some .local
   ·rw[if_pos q];exact if_neg hx.1
   ·rw[if_neg q]
 intro ns
 induction ns with
 |nil=>intro vs m _ i x v h;simp at h
 |cons y r ih=>
  intro vs m hn i x v h1 h2 hk;cases vs with
  |nil=>simp at h2
  |cons w vs=>
   rw[gN] at hn;rw[wz];unfold bindL;cases i with
   |zero=>simp at h1 h2;subst h1;subst h2;rw[keep _ _ y (λhm=>by refine aq (bU.mp hm) λp hp e=>?_;exact hn.1 (e▸(List.of_mem_zip hp).1)),if_pos hk,if_pos rfl]
   |succ i=>simp at h1 h2;exact ih vs _ hn.2 i x v h1 h2 hk
def acw(kindOf:Str->Option NameKind):∀(ns:List Str) (vs:List Value) (m:Str->Option Value),ns.Nodup->∀(i:Nat) (x:Str) (v:Value),ns[i]?=some x->vs[i]?=some v->kindOf x≠some .local->bindC kindOf (ns.zip vs) m x=some v:=by
 have keep:∀(l:List (Str×Value)) (m:Str->Option Value) (x:Str),x∉l.map (·.1)->bindC kindOf l m x=m x:=by
  intro l
  induction l with
  |nil=>intro m x _;rfl
  |cons p r ih=>
   intro m x hx;rw[bE,bQ,not_or] at hx;unfold bindC;rw[ih _ x hx.2];by_cases q:kindOf p.1=some .local
   ·rw[if_pos q]
   ·rw[if_neg q];exact if_neg hx.1
 intro ns
 induction ns with
 |nil=>intro vs m _ i x v h;simp at h
 |cons y r ih=>
  intro vs m hn i x v h1 h2 hk;cases vs with
  |nil=>simp at h2
  |cons w vs=>
   rw[gN] at hn;rw[wz];unfold bindC;cases i with
   |zero=>simp at h1 h2;subst h1;subst h2;rw[keep _ _ y (λhm=>by refine aq (bU.mp hm) λp hp e=>?_;exact hn.1 (e▸(List.of_mem_zip hp).1)),if_neg hk,if_pos rfl]
   |succ i=>simp at h1 h2;exact ih vs _ hn.2 i x v h1 h2 hk
theorem Fd:∀(names:List (Str×NameKind)) (k:Nat) (acc:List (Str×Addr)) (x:Str),((x,NameKind.cell)∈names\/(acc.lookup x).isSome=true)->((cellsFrom k names acc).lookup x).isSome=true:=by
 intro names
 induction names with
 |nil=>
  intro _ acc x h;rcases h with h|h
  ·cases h
  ·exact h
 |cons p_ r ih=>
  obtain⟨y,kd⟩:=p_;intro k acc x h;unfold cellsFrom;by_cases hk:kd=.cell
  ·subst hk;rw[if_pos (by simp)];refine ih (k+1) _ x ?_;rw[iH];cases e:x==y with
   |true=>exact .inr rfl
   |false=>
    rcases h with h|h
    ·rcases bQ.mp h with h|h
     ·cases h;simp at e
     ·exact .inl h
    ·exact .inr h
  ·rw[if_neg (by simpa using hk)];refine ih k acc x ?_;rcases h with h|h
   ·rcases bQ.mp h with h|h
    ·cases h;exact absurd rfl hk
    ·exact .inl h
   ·exact .inr h
section
variable {V:Cf}{G:Fm}{φ₀ J:Ph}{s₀ s:Shared}{U:aC}{H:Hp}{d:Nat}{q:Bool}{E:Ev}
noncomputable def Lw(k:NameKind):Bool:=match k with
 |.local=>true
 |.cell=>true
 |.globalImplicit=>true
 |_=>false
def E9(sc:Scope)(ps:List Str):Bool:=
 decide (sc.kind=.function)&&decide ps.Nodup&&sc.names.all (λp=>decide (sc.names.lookup p.1=some p.2)&&Lw p.2) &&
 ps.all (λx=>decide (sc.names.lookup x=some .local)||decide (sc.names.lookup x=some .cell))&&!sc.isCoroutine&&!sc.isGenerator
def kZ(sc:Scope)(ps:List Str):Prop:=(sc.kind=.function)/\(ps.Nodup)/\(∀p∈sc.names,sc.names.lookup p.1=some p.2)/\(∀p∈sc.names,Lw p.2=true)/\(∀x∈ps,sc.names.lookup x=some .local\/sc.names.lookup x=some .cell)/\(sc.isCoroutine=false)/\(sc.isGenerator=false)
section
variable {b1 b2}(x:kZ b1 b2)
def kZ.mk:=Dv (kZ b1 b2) rfl
def kZ.kind:=x.1
def kZ.nodup:=x.2.1
def kZ.names:=x.2.2.1
def kZ.kinds:=x.2.2.2.1
def kZ.ps:=x.2.2.2.2.1
def kZ.co:=x.2.2.2.2.2.1
def kZ.gen:=x.2.2.2.2.2.2
end
def Lu{sc:Scope}{ps:List Str}(h:E9 sc ps=true):kZ sc ps:=by refine zt h λh1 h2 h3 h4 h5 h6=>?_;rw[jw] at h3 h4;exact(kZ.mk (of_decide_eq_true h1) (of_decide_eq_true h2) (λp hp=>of_decide_eq_true (nF (h3 p hp)).1) (λp hp=>(nF (h3 p hp)).2) (λx hx=>(sy.mp (h4 x hx)).imp (λh=>of_decide_eq_true h) λh=>of_decide_eq_true h) (jf h5) (jf h6))
noncomputable def yx(sc:Scope)(env:Env)(K:Cx)(A:Around):Fm:=⟨K,A,env,env.locals::sc.names.filterMap λp=>env.cells.lookup p.1⟩
variable {A:Around}
def Lr(R:aZ V J H s.heap){sc:Scope}{ps:List Str}(w:kZ sc ps){vs:List Value}{ds:List AV}(hv:aQ V J s.heap vs ds)(hl:ps.length=vs.length){k:Nat}{qual:Str}{a:Addr}{code:Value}{s':Shared}{env:Env} 
  (he:env=newEnv sc s.heap.objs.size mainGlobals (cellsFrom (s.heap.objs.size+1) sc.names []) qual (some a) code none builtinsNs)
  (x:InCallC s env.locals (bindL env.kindOf (ps.zip vs) λO=>none) env.cells (bindC env.kindOf (ps.zip vs) λO=>none) s'):
  bX V (yx sc env (rR sc.names ps) A) J (ds.map some++List.replicate k none) s'.heap/\ax s s':=by
 have e2:env.locals=s.heap.objs.size:=by rw[he];rfl
 have e5:env.cells=cellsFrom (s.heap.objs.size+1) sc.names []:=by rw[he];rfl
 have kindOf:∀y,env.kindOf y=sc.names.lookup y:=λy=>by rw[he];rfl
 refine ct x.toInCall.same λhh tk Kt=>?_;have g:ax s s':=(ax.mk x.toInCall.keep (by rw[Kt]) (by rw[Kt]));have ns:=x.toInCall.ns;have Nf:∀y c,env.cells.lookup y=some c->s.heap.objs.size<c:=λy c h=>e2▸x.above y c (jv h);have base:=R.base;have DX:∀b∈(env.locals::sc.names.filterMap λp=>env.cells.lookup p.1),s.heap.objs.size<=b/\∃o,s'.heap.get? b=some o/\oW o:=λb hb=>by
  rcases bQ.mp hb with rfl|hb
  ·refine mQ ns λo es ep e hd O=>?_;clear ns;exact⟨aW e2.symm,o,e,.inl ⟨es,ep,hd⟩⟩
  ·refine aq (qH.mp hb) λp hp hy=>?_;refine aq (x.cell p.1 b hy) λo e hd=>?_;exact⟨fF (Nf p.1 b hy),o,e,.inr (.inl ⟨_,hd⟩)⟩
 have val:∀(y:Str) (j:Nat) (dd:AV),(rR sc.names ps).sc.lookup y=some j->(ds.map some++List.replicate k none)[j]?=some (some dd)->∃v,ps[j]?=some y/\vs[j]?=some v/\VR V J s'.heap v dd:=by
  intro y j dd hy hd;have hj:j<ds.length:=by refine Nat.lt_of_not_le λYY=>?_;rw[pG (by simpa using YY)] at hd;have:=jS hd;rw[List.mem_replicate] at this;exact aR this.2.symm
  rw[wi (by simpa using hj),qF] at hd;refine um hd λd' El e=>?_;obtain rfl:=sj e;refine aq (hv.get El) λv h1 h2=>?_;have YX:j<ps.length:=by rw[hl,hv.length];exact hj
  have:=(Aq _ 0 hy).2;rw[Nat.sub_zero,wi YX] at this;exact⟨v,this,h1,g.vr h2⟩
 refine⟨(bX.mk (by show env.scope.kind=_;rw[he];exact w.kind) (by show env.globals=_;rw[he];rfl) (by show env.builtins=_;rw[he];rfl) (λb hb=>(DX b hb).2) (λb hb=>aM base (DX b hb).1) (λb hb=>R.fresh (DX b hb).1) bA (λy hy=>?_) ⟨_,ns,kg.mk (λy O hk=>?_) (λy j hy hk dd hd=>?_)⟩ (λy j hy hk=>?_) (λy z c hy hz=>name_of_addr x.apart (jv hy) (jv hz)) (λy z j hy hz=>VI hy hz) (λy j hy=>?_)),g⟩
 ·show env.kindOf y=_;rw[kindOf];exact hy
 ·show env.kindOf y=_;rw[kindOf];exact hk
 ·refine gQ (val y j dd hy hd) λv h1 h2 h3=>?_;exact⟨v,acv _ ps vs _ w.nodup j y v h1 h2 (by rw[kindOf];exact hk),h3⟩
 ·have oK:sc.names.lookup y=some .cell\/sc.names.lookup y=some .free:=hk;have hk:sc.names.lookup y=some .cell:=by
   rcases oK with hk|hk
   ·exact hk
   ·cases w.kinds _ (jv hk)
  refine ue (sA.mp (Fd sc.names (s.heap.objs.size+1) [] y (.inl (jv hk)))) λc oL=>?_;rw[<- e5] at oL;have ir:=Nf y c oL;refine⟨c,_,gm.mk oL (.inl (by show env.kindOf y=_;rw[kindOf];exact hk)) (x.cell y c oL) (by show c≠env.locals;rw[e2];exact dM ir) (R.fresh (fF ir)) (aM base (fF ir)) (λO=>⟨bS _ (qH.mpr ⟨(y,.cell),jv hk,oL⟩),by show env.kindOf y=_;rw[kindOf];exact hk⟩) (λdd hd=>?_)⟩;refine gQ (val y j dd hy hd) λv h1 h2 h3=>?_;exact⟨v,acw _ ps vs _ w.nodup j y v h1 h2 (by rw[kindOf,hk];simp),h3⟩
 ·have:=jS (Aq _ 0 hy).2;rcases ko.mp this with h|h
  ·rcases w.ps y h with h|h
   ·exact .inl h
   ·exact .inr (.inl h)
  ·refine aq (qH.mp h) λp hp e=>?_
   set_option tactic.hygienic true in split at e
   ·rename_i hk;obtain rfl:=sj e;have:=w.names p hp;rcases hk.1 with hk|hk
    ·exact .inl (this.trans (by rw[hk]))
    ·exact .inr (.inl (this.trans (by rw[hk])))
   ·exact aR e
def kX(cL:FuncData)(fd:FD)(as:List Arg)(va:Option Arg)(kd:List (Option Expr))(df:List Expr):Prop:=(cL.params={posonlyargs:=[],args:=as,vararg:=va,kwonlyargs:=[],kw_defaults:=kd,kwarg:=none,defaults:=df})/\((as.map (·.arg)++va.toList.map (·.arg)).Nodup)/\(fd.npar=as.length)/\(fd.va=va.isSome)
section
variable {b1 b2 b3 b4 b5 b6}(x:kX b1 b2 b3 b4 b5 b6)
def kX.mk:=fp (kX b1 b2 b3 b4 b5 b6) rfl
def kX.ps:=x.1
def kX.nodup:=x.2.1
def kX.npar:=x.2.2.1
def kX.va:=x.2.2.2
end
def mv(V:Cf)(J:Ph)(s:Shared)(names:List Str)(ρ':aC)(s1:Shared)(vs:List Value)(ds:List AV)(k:Nat):Prop:=(ax s s1)/\(aQ V J s1.heap vs ds)/\(names.length=vs.length)/\(ρ'=ds.map some++List.replicate k none)
section
variable {b1 b2 b3 b4 b5 b6 b7 b8 b9}(x:mv b1 b2 b3 b4 b5 b6 b7 b8 b9)
def mv.mk:=fp (mv b1 b2 b3 b4 b5 b6 b7 b8 b9) rfl
def mv.grow:=x.1
def mv.all:=x.2.1
def mv.len:=x.2.2.1
def mv.rho:=x.2.2.2
end
def acr(R:aZ V J H s.heap){M:Model}{Q:List (Str×Value)->Shared->Prop}{Ex:Value->Shared->Prop}{cL:FuncData}{fd:FD}{as:List Arg}{va:Option Arg}{kd:List (Option Expr)}{df:List Expr}{vals:List Value}{ds:List AV}{ρ':aC}
  (w:kX cL fd as va kd df) (hd:cL.defaults=.none) (h3:fd.dflt=[]) (hv:aQ V J s.heap vals ds) (e:kQ fd ds=some ρ')
  (h:∀s1 vs vN k,mv V J s (as.map (·.arg)++va.toList.map (·.arg)) ρ' s1 vs vN k->Q ((as.map (·.arg)++va.toList.map (·.arg)).zip vs) s1):
  wpAny M A (bindArgs cL ⟨vals,[]⟩) Q Ex s:=by
 have hn:=(sq.mp w.nodup).1;have h1:=w.npar;unfold kQ at e;rw[w.va,h3] at e;cases va with
 |none=>
  refine ur e λhc e=>?_;obtain rfl:=sj e;rw[eV] at h;have hc:=bW hc;have hlen:vals.length=as.length:=by rw[hv.length,<- h1];exact hc
  exact MU w.ps hd hn (aW hlen.symm) (λO=>hlen) (by
   have:=h s vals ds (fd.xE-fd.npar) (mv.mk (ax.refl _) hv (by simp[hlen]) rfl)
   simpa using this)
 |some a=>
  refine ur e λhc e=>?_;obtain rfl:=sj e;refine us hc λhc A9=>?_;have hc:=gO hc;have A9:=gO A9;have hlen:as.length<=vals.length:=by rw[hv.length,<- h1];exact hc
  refine MU w.ps hd hn hlen (λz=>nomatch z) ⟨?_,?_⟩
  ·rw[qE,hv.length];exact aM (nU _ _) (i8 A9)
  ·have g:ax s {s with heap:=s.heap.push {cls:=.type "tuple",data:=.seq (vals.drop as.length).toArray}}:=ax.push s _ s.toks;have nt:VR V J (s.heap.push {cls:=.type "tuple",data:=.seq (vals.drop as.length).toArray}) (.ref s.heap.objs.size) (.tup (ds.drop as.length)):=I2 R g (n:=0) (cY _ rfl) (hv.drop _) (aM (by rw[qE];exact nU ..) A9)
   have:=h _ (vals.take as.length++[.ref s.heap.objs.size]) (ds.take as.length++[.tup (ds.drop as.length)]) (fd.xE-fd.npar-1)
    (mv.mk g (((g.jW hv).take _).append (.cons nt .nil)) (by rw[bF,bF,aJ,uw,wk hlen];rfl) (by rw[h1];simp))
   have ez:(as.map (·.arg)++(some a).toList.map (·.arg)).zip (vals.take as.length++[.ref s.heap.objs.size])=(as.map (·.arg)).zip vals++[(a.arg,.ref s.heap.objs.size)]:=by
    rw[List.zip_append (by rw[aJ,uw,wk hlen])]
    congr 1
    have:∀(l:List Str) (vs:List Value),l.zip (vs.take l.length)=l.zip vs:=by
     intro l
     induction l with
     |nil=>exact λvs=>rfl
     |cons x r ih=>intro vs;cases vs with
      |nil=>rfl
      |cons v vs=>exact congrArg (List.cons (x,v)) (ih vs)
    have h':=this (as.map (·.arg)) vals;rwa[aJ] at h'
   rw[ez] at this;exact this
variable {h:Heap}
def dB.list(F:dB V G J h):∃l,G.A.frames=some l/\fR V l J h:=qU F.fr λdZ outer L a1 a2 a3 a4=>⟨_,a1,a4⟩
variable {l:List Env}{cenv:Env}
def fR.deeper{L:Addr}{m:Str->Option Value}(F:fR V l J h)(hA:A.frames=some l)(hk:cenv.scope.kind≠.module)(hf:cenv.frame=some L)(hn:h.Ns L m)(h0:V.h₀.get? L=none)(hφ:L∉J.map (·.2)){K:Cx}{X:List Addr}:
  dB V ⟨K,A.deeper cenv,cenv,X⟩ J h:=by
 refine mQ (id hn) λo es ep e hd O=>?_;refine⟨cenv,l,L,Around.frames_deeper hA,hf,hf,Heap.FunFrames.cons hk hf hn h0 F.vE,λL' iS=>?_,λL' iS=>?_⟩<;>rw[wA,hf] at iS
 ·rcases bQ.mp iS with rfl|iS
  ·exact hφ
  ·exact F.out L' iS
 ·rcases bQ.mp iS with rfl|iS
  ·exact⟨o,e,es,ep,hd⟩
  ·exact F.dct L' iS
def dB.tail{K:Cx}{X:List Addr}(F:dB V ⟨K,A.deeper cenv,cenv,X⟩ J h)(hA:A.frames=some l):fR V l J h:=by
 refine qU F.fr λdZ outer L a1 a2 a3 a4=>?_;have a1:(A.deeper cenv).frames=_:=a1;rw[Around.frames_deeper hA] at a1;cases a1;have sub:∀L'∈l.filterMap (·.frame),L'∈(cenv::l).filterMap (·.frame):=λL' iS=>by
  cases h:cenv.frame with
  |none=>rw[List.filterMap_cons_none h];exact iS
  |some x=>rw[List.filterMap_cons_some h];exact bS _ iS
 exact(fR.mk a4.vE.2.2 (λL' iS=>a4.out L' (sub L' iS)) (λL' iS=>a4.dct L' (sub L' iS)))
def dB.back{φ':Ph}{h':Heap}(F:dB V G J h)(hA:G.A.frames=some l)(F':fR V l φ' h'):dB V G φ' h':=by refine qU F.fr λdZ outer L a1 a2 a3 a4=>?_;rw[hA] at a1;obtain rfl:=sj a1;exact⟨dZ,outer,L,hA,a2,a3,F'⟩
def HT(h:kW A (d+1)):kW (A.deeper cenv) d/\A.depth<recursionLimit:=by
 obtain⟨h1,h2⟩:=h;refine⟨(kW.mk ?_ ?_),by exact NZ ‹_›⟩
 ·show A.depth+1+8*d+8<recursionLimit;exact FG ‹_›
 ·show A.units+3+100*d+100<cLine;exact NQ ‹_›
end
section
variable {V:Cf}{G:Fm}{φ₀ J:Ph}{s₀ s:Shared}{U:aC}{H:Hp}{d:Nat}{q:Bool}{E:Ev}
def d5(V:Cf)(J:Ph)(h₁:Heap)(Y:List Addr)(s s':Shared):Prop:=(dD Y J s.heap s'.heap)/\(∀a∈Y,∃o,s.heap.get? a=some o/\ki o)/\(∀a∈Y,iD V J h₁ a)/\(∀a o,V.h₀.get? a=some o->s'.heap.get? a=some o)/\(∀p∈J,s'.heap.get? p.2=s.heap.get? p.2)/\(s'.gens=s.gens)/\(s'.os=s.os)/\(∀a,cN s.heap a->cN s'.heap a)
section
variable {b1 b2 b3 b4 b5 b6}(x:d5 b1 b2 b3 b4 b5 b6)
def d5.mk:=I8 (d5 b1 b2 b3 b4 b5 b6) rfl
def d5.ext:=x.1
def d5.fG:=x.2.1
def d5.new:=x.2.2.1
def d5.XI:=x.2.2.2.1
def d5.same:=x.2.2.2.2.1
def d5.gens:=x.2.2.2.2.2.1
def d5.os:=x.2.2.2.2.2.2.1
def d5.live:=x.2.2.2.2.2.2.2
end
variable {h₁:Heap}{Y:List Addr}{s':Shared}
def d5.Gg(x:d5 V J h₁ Y s s'):d0 Y s.heap:=λa ha=>aq (x.fG a ha) λo e h=>⟨o,e,.inr (.inr (.inr h))⟩
def d5.nf(x:d5 V J h₁ Y s s'){a:Addr}{o:Obj}(e:s.heap.get? a=some o)(h:∀vs,o.data≠.fields vs):a∉Y:=λha=>by refine aq (x.fG a ha) λo' e' w=>?_;rw[e] at e';obtain rfl:=sj e';refine ue w.data λvs hv=>?_;exact h vs hv
def d5.rel(x:d5 V J h₁ Y s s')(R:aZ V J H s.heap):aZ V J H s'.heap:=R.mono x.ext x.Gg x.XI x.same
def d5.fr(x:d5 V J h₁ Y s s')(F:dB V G J s.heap):dB V G J s'.heap:=F.mono x.ext (Gr.refl ..) λa ha o e bV=>ct bV λes n hd=>absurd ha (x.nf e λvs h=>by rw[hd] at h;cases h)
def ao.note(pre:ao V d q G J U H s)(x:d5 V J h₁ Y s s')(Zi:∀a∈G.X,a∉Y):ao V d q G J U H s':=
 (ao.mk (x.rel pre.rel) (pre.er.DN x.ext x.Gg (Gr.refl ..) λa o ha e hφ=>x.ext.keep a o e hφ (by
  rcases ha with ha|⟨v,ha⟩
  ·exact Zi a ha
  ·exact x.nf e λvs h=>by rw[ha] at h;cases h)) pre.room pre.hd (x.fr pre.fr))
def Nx.note{X:List Addr}{φ₁:Ph}{ja:Shared}(nx:Nx X J φ₁ s s')(nt:d5 V φ₁ s.heap Y s' ja):Nx X J φ₁ s ja:=by refine(Nx.mk ⟨λa o eo u1 u2=>?_⟩ nx.gr (nt.gens.trans nx.gens) (nt.os.trans nx.os) (λa u=>nt.live a (nx.live a u)));exact(nx.ext.keep a o eo u1 u2).trans λo' w=>nt.ext.keep a o' w (nx.gr.not ⟨o,eo⟩ u1) (λhm=>(nt.new a hm).new ⟨o,eo⟩:a∉Y)
variable {Ex:Value->Shared->Prop}{outer:List Env}
def ZJ{M:Model}{A:Around}{env:Env}{dZ:Env}{L:Addr}{base:Heap}{Q:Value->Shared->Prop}(tN:A.frames=some (dZ::outer))(hl:s.heap.FunFrames base (dZ::outer))(hf:dZ.frame=some L)(he:env.frame=some L)
  (h:∀h',Heap.SlotsOnly ((dZ::outer).filterMap (·.frame)) s.heap h'->Q (.ref L) {s with heap:=h'}):wpAny M A (PySem.frameOf env) Q Ex s:=by
 unfold PySem.frameOf;refine ah (wpAny_frameEnvs tN ?_);have Y4:((dZ::outer).dropWhile λx=>x.frame != env.frame)=dZ::outer:=by simp[List.dropWhile,hf,he]
 rw[Y4];unfold frameObject;refine ah (ah (wpAny_readyFrames_fun hl λh₁ vw=>aH ?_));rw[hf];exact aH (h h₁ vw)
variable {vs:Array Value}
def aaj{k:Nat}{o:Obj}(hc:o.cls=LO V k)(hd:o.data=.fields vs):ki o:=by
 refine(ki.mk ⟨vs,hd⟩ (λT hT=>?_));rw[hc] at hT;cases k with
 |zero=>cases hT;rfl
 |succ k=>cases hT
def qw(l:List Env)(e:Addr)(oe:Obj)(vs:Array Value)(s:Shared)(h':Heap)(T:Addr)(oT:Obj)(ts:Array Value):Prop:=(∀b o,b≠e->s.heap.get? b=some o->h'.get? b=some o\/(b∈l.filterMap (·.frame)/\∃sl,h'.get? b=some {o with slots:=sl}))/\(s.heap.objs.size<=T)/\(h'.get? e=some {oe with data:=.fields (vs.setIfInBounds 1 (.ref T))})/\(nG h' T oT ts)
section
variable {b1 b2 b3 b4 b5 b6 b7 b8 b9}(x:qw b1 b2 b3 b4 b5 b6 b7 b8 b9)
def qw.mk:=fp (qw b1 b2 b3 b4 b5 b6 b7 b8 b9) rfl
def qw.keep:=x.1
def qw.new:=x.2.1
def qw.exc:=x.2.2.1
def qw.tb:=x.2.2.2
end
variable {Q:Unit->Shared->Prop}
def IP{M:Model}{A:Around}{env:Env}{dZ:Env}{L e:Addr}{base:Heap}{oe:Obj}{head:Value}{Zh:Bool}(tN:A.frames=some (dZ::outer))(hl:s.heap.FunFrames base (dZ::outer))(hf:dZ.frame=some L)(Y3:env.frame=some L)
  (he:s.heap.get? e=some oe) (hd:oe.data=.fields vs) (iq:1<vs.size)
  (h:∀h' T oT ts,qw (dZ::outer) e oe vs s h' T oT ts->Q () {s with heap:=h'}):
  wpAny M A (do let a <- PySem.frameOf env;let pl <- entryPlaceOf L Zh;let b <- EntryCells.newEntry head a .none (rawInt L) .none pl;setField (.ref e) 1 b) (λO s'=>wpAny M A (setFlight (.ref e) none) Q Ex s') Ex s:=by
 have Y0:e∉(dZ::outer).filterMap (·.frame):=λhm=>by refine Rg (hl.mem hm) λO o ho ye=>?_;rw[he] at ho;injection ho with ho;subst ho;exact ye vs hd
 refine ah (ZJ tN hl hf Y3 λh₁ vw=>?_);refine ah (wpAny_entryPlaceOf λpl AZ=>?_);unfold EntryCells.newEntry newFields;refine ah (wt ?_ (AZ.sizeOk5 _ _ _ _ _));have KN:h₁.get? e=some oe:=(vw.2.1 e Y0).trans he;generalize A6:([head,.ref L,.none,rawInt L,.none]++(if pl.isEmpty then List.replicate 6 Value.none else pl)).toArray=fs;have Ln:3<fs.size:=by rw[<- A6];simp only[dj,bF,i6,List.length_nil];exact NW
 generalize D8:({cls:=.type "traceback",dict:=none,data:=.fields fs}:Obj)=tb;have KL:=ig (h:=h₁) tb KN;refine uj KL hd iq ?_;have K4:h₁.objs.size≠e:=dM (fx KN);have YZ:Obj.mapFields (·.setIfInBounds 1 (Value.ref h₁.objs.size)) oe={oe with data:=.fields (vs.setIfInBounds 1 (.ref h₁.objs.size))}:=by
  obtain⟨c,dct,dt,sl⟩:=oe;dsimp only at hd;subst hd
  rfl
 have KJ:((h₁.push tb).update e (Obj.mapFields (·.setIfInBounds 1 (Value.ref h₁.objs.size)))).get? e=some {oe with data:=.fields (vs.setIfInBounds 1 (.ref h₁.objs.size))}:=(qJ _ KL (zf (wy hd _))).trans (by rw[YZ])
 have K3:((h₁.push tb).update e (Obj.mapFields (·.setIfInBounds 1 (Value.ref h₁.objs.size)))).get? h₁.objs.size=some tb:=(pE _ _ (fi K4)).trans (cY h₁ (by rw[<- D8];rfl:tb.isFreed=false))
 unfold setFlight;refine ah (qK KJ rfl (x:=.ref h₁.objs.size) (by simp[iq]) ?_);rw[if_pos (show(Value.ref h₁.objs.size != Value.none)=true from by simp)];have Ek:tb.data=.fields fs:=by rw[<- D8]
 refine uj K3 Ek Ln ?_;refine h _ h₁.objs.size _ _ (qw.mk (λb o Za hb=>?_) (aW vw.1.symm) ?_ (nG.mk (qJ _ K3 (zf (wy Ek _))) (wy Ek _) ?_ ?_))
 ·refine ue (vw.2.2 b o hb) λsl Kq=>?_;have Zb:h₁.objs.size≠b:=dM (fx Kq);have up:∀{o'},h₁.get? b=some o'->(((h₁.push tb).update e (Obj.mapFields (·.setIfInBounds 1 (Value.ref h₁.objs.size)))).update h₁.objs.size (Obj.mapFields (·.setIfInBounds 3 (none.getD Value.none)))).get? b=some o':=λhk=>by rw[pE _ _ Zb,pE _ _ (fi Za)];exact ig _ hk
  by_cases KU:b∈(dZ::outer).filterMap (·.frame)
  ·exact .inr ⟨KU,sl,up Kq⟩
  ·exact .inl (up ((vw.2.1 b KU).trans hb))
 ·rw[pE _ _ K4];exact KJ
 ·rw[Obj.cls_mapFields,<- D8]
 ·simp[Ln]
def IM(R:aZ V J H s.heap){l:List Env}(F:fR V l J s.heap){h':Heap} 
  (kp:∀b o,b∉Y->s.heap.get? b=some o->h'.get? b=some o\/(b∈l.filterMap (·.frame)/\∃sl,h'.get? b=some {o with slots:=sl}))
  (y1:∀a∈Y,∃o,s.heap.get? a=some o/\ki o) (y2:∀a∈Y,iD V J h₁ a) (y3:∀a∈Y,cN h' a):d5 V J h₁ Y s {s with heap:=h'}:=by
 refine(d5.mk ⟨λa o e O hY=>?_⟩ y1 y2 (λa o e=>?_) (λp hp=>?_) rfl rfl (λa bV=>ue bV λo e=>?_))
 ·rcases kp a o hY e with z|⟨hm,sl,z⟩
  ·exact .inl z
  ·refine aq (F.dct a hm) λo' e' w=>?_;rw[e] at e';obtain rfl:=sj e';exact .inr ⟨w,sl,z⟩
 ·rcases kp a o (λhm=>(y2 a hm).h0 ⟨o,e⟩) (R.keep a o e) with z|⟨hm,_⟩
  ·exact z
  ·rw[(F.vE.mem hm).1] at e;exact aR e
 ·refine ue (R.live p hp) λo e=>?_;rcases kp p.2 o (λhm=>(y2 _ hm).out (pq hp)) e with z|⟨hm,_⟩
  ·exact z.trans e.symm
  ·exact absurd (pq hp) (F.out _ hm)
 ·by_cases hm:a∈Y
  ·exact y3 a hm
  ·rcases kp a o hm e with z|⟨_,sl,z⟩
   ·exact⟨_,z⟩
   ·exact⟨_,z⟩
def rF{e a:Addr}(h:a∈[e]):a=e:=fU.mp h
def IL{M:Model}(R:aZ V J H s.heap)(F:dB V G J s.heap)(hl:∀a,cN h₁ a->cN s.heap a){v:Value}{k:Nat}(x:o6 V J h₁ s.heap v k) 
  (h:∀Y s',d5 V J h₁ Y s s'->o6 V J h₁ s'.heap v k->Q () s'):wpAny M G.A (noteFrame v G.env) (λO s'=>wpAny M G.A (setFlight v none) Q Ex s') Ex s:=by
 obtain⟨e,oe,vs,rfl,x⟩:=x;obtain⟨dZ,outer,L,a1,a2,a3,FL⟩:=F.fr;have ex:ki oe:=aaj x.cls x.data;have fresh:∀T,s.heap.objs.size<=T->iD V J h₁ T/\T≠e:=λT hT=>⟨(iD.mk (jH (aM R.base hT)) (R.fresh hT) (λo=>jH hT (hl _ o))),λq=>absurd (fx x.get) (hZ.mpr (q▸hT))⟩
 unfold noteFrame;simp only[a2];have done:∀{h' T oT ts},1<vs.size->s.heap.objs.size<=T->h'.get? e=some {oe with data:=.fields (vs.setIfInBounds 1 (.ref T))}->nG h' T oT ts->o6 V J h₁ h' (.ref e) k:=λ{h' T oT ts} sz k2 k3 tb=>⟨e,_,_,rfl,k6.mk k3 x.cls rfl x.new (.inr ⟨T,oT,ts,by simp[sz],(fresh T k2).2,(fresh T k2).1,tb⟩)⟩
 rcases x.tb with ht|⟨T,oT,ts,b1,b3,bn,b⟩
 ·refine ah (qK x.get x.data ht ?_);rw[if_neg (by decide)];have sz:=(wj.mp ht).1;refine IP a1 FL.vE a3 a2 x.get x.data sz λh' T oT ts n=>h [e] _ (IM R FL (λb o hb=>n.keep b o λq=>hb (fU.mpr q)) (λa ha=>?_) (λa ha=>?_) λa ha=>?_) (done sz n.new n.exc n.tb)
  ·rw[rF ha];exact⟨oe,x.get,ex⟩
  ·rw[rF ha];exact x.new
  ·rw[rF ha];exact⟨_,n.exc⟩
 ·refine ah (qK x.get x.data b1 ?_);rw[if_pos (show(Value.ref T != Value.none)=true from by simp)];refine ah (qK b.get b.data b.zero ?_);rw[if_neg (show ¬ ((Value.none==rawInt L)=true) from by simp[rawInt])];refine ah (uj b.get b.data (wj.mp b.zero).1 ?_);have other:∀b,b≠T->(s.heap.update T (Obj.mapFields (·.setIfInBounds 3 Value.none))).get? b=s.heap.get? b:=λb hb=>pE _ _ (fi hb);have hT:(s.heap.update T (Obj.mapFields (·.setIfInBounds 3 Value.none))).get? T=some (Obj.mapFields (·.setIfInBounds 3 Value.none) oT):=qJ _ b.get (zf (wy b.data _));have VV:∀c o,s.heap.get? c=some o->(∀vs,o.data≠.fields vs)->c≠T:=λc o hb ye q=>by rw[q,b.get] at hb;injection hb with hb;subst hb;exact ye ts b.data
  have wQ:=(wj.mp b1).1;refine IP a1 (FL.vE.of_keeps λb o hb ye=>⟨o,(other b (VV b o hb ye)).trans hb,rfl⟩) a3 a2 ((other e (fi b3)).trans x.get) x.data wQ
   λh' T' oT' ts' n=>h [e,T] _ (IM R FL (λb o hb hg=>?_) (λa ha=>?_) (λa ha=>?_) λa ha=>?_) (done wQ ((Heap.size_update ..:(s.heap.update T (Obj.mapFields (·.setIfInBounds 3 Value.none))).objs.size=s.heap.objs.size)▸n.new) n.exc n.tb)
  ·rw[bQ,fU,not_or] at hb;exact n.keep b o hb.1 ((other b hb.2).trans hg)
  ·rcases bQ.mp ha with rfl|ha
   ·exact⟨oe,x.get,ex⟩
   ·rw[rF ha];exact⟨oT,b.get,ki.mk ⟨ts,b.data⟩ (λT hT=>by rw[b.cls] at hT;cases hT;rfl)⟩
  ·rcases bQ.mp ha with rfl|ha
   ·exact x.new
   ·rw[rF ha];exact bn
  ·rcases bQ.mp ha with rfl|ha
   ·exact⟨_,n.exc⟩
   ·rw[rF ha];rcases n.keep T _ b3 hT with z|⟨_,sl,z⟩
    ·exact⟨_,z⟩
    ·exact⟨_,z⟩
end
section
variable {V:Cf}{G:Fm}{φ₀ J:Ph}{s₀ s:Shared}{U:aC}{H:Hp}{d:Nat}{q:Bool}{E:Ev}
noncomputable def rA(as:List Arg)(va:Option Arg):List Str:=as.map (·.arg)++va.toList.map (·.arg)
inductive FC(V:Cf)(cL:FuncData)(fd:FD)(as:List Arg)(va:Option Arg):Prop where
 |none (h:cL.defaults=.none) (e:fd.dflt=[])
 |one (x y:Arg) (T:Addr) (oT:Obj) (m:Nat) (h1:as=[x,y]) (h2:va=Option.none) (h3:fd.dflt=[.none]) (h4:cL.defaults=.ref T) (h5:V.h₀.get? T=some oT) (h6:oT.data=.seq #[.none] m)
def hM(V:Cf)(k:Nat)(fd:FD)(a:Addr)(o:Obj)(cL:FuncData)(as:List Arg)(va:Option Arg)(kd:List (Option Expr))(df:List Expr):Prop:=(V.gv k=some (.ref a))/\(V.h₀.get? a=some o)/\(o.data=.func cL)/\(cL.body=.stmts (c9 fd.body))/\(V.h₀.CodeRec cL.code cL.qualname)/\(cL.closure=[])/\(cL.globals=mainGlobals)/\(cL.builtins=builtinsNs)/\(cL.params={posonlyargs:=[],args:=as,vararg:=va,kwonlyargs:=[],kw_defaults:=kd,kwarg:=none,defaults:=df})/\(E9 cL.scope (rA as va)=true)/\(fd.npar=as.length)/\(fd.va=va.isSome)/\(FC V cL fd as va)/\(eX V fd.body (rR cL.scope.names (rA as va))=true)
section
variable {b1 b2 b3 b4 b5 b6 b7 b8 b9 nE}(x:hM b1 b2 b3 b4 b5 b6 b7 b8 b9 nE)
def hM.mk:=λm1 m2 m3 m4 m5 m6 m7 m8 m9 qd qc xR xQ Dx=>(⟨m1,m2,m3,m4,m5,m6,m7,m8,m9,qd,qc,xR,xQ,Dx⟩:hM b1 b2 b3 b4 b5 b6 b7 b8 b9 nE)
def hM.gv:=x.1
def hM.get:=x.2.1
def hM.data:=x.2.2.1
def hM.body:=x.2.2.2.1
def hM.code:=x.2.2.2.2.1
def hM.Mu:=x.2.2.2.2.2.1
def hM.rO:=x.2.2.2.2.2.2.1
def hM.rV:=x.2.2.2.2.2.2.2.1
def hM.ps:=x.2.2.2.2.2.2.2.2.1
def hM.sc:=x.2.2.2.2.2.2.2.2.2.1
def hM.npar:=x.2.2.2.2.2.2.2.2.2.2.1
def hM.Gq:=x.2.2.2.2.2.2.2.2.2.2.2.1
def hM.dflt:=x.2.2.2.2.2.2.2.2.2.2.2.2.1
def hM.wf:=x.2.2.2.2.2.2.2.2.2.2.2.2.2
end
def Nv(V:Cf)(k:Nat)(fd:FD):Prop:=∃a o cL as va kd df,hM V k fd a o cL as va kd df
structure BR(V:Cf):Prop extends Ok V where
 lim:V.h₀.NoLimit
 fns:∀k fd,V.P.gt[k]?=some (.fn fd)->Nv V k fd
def MT(R:aZ V J H s.heap){M:Model}{A:Around}{Q:List (Str×Value)->Shared->Prop}{Ex:Value->Shared->Prop}{cL:FuncData}{fd:FD}{as:List Arg}{va:Option Arg}{kd:List (Option Expr)}{df:List Expr}{vals:List Value}{ds:List AV}{ρ':aC}
  (w:kX cL fd as va kd df) (Y6:FC V cL fd as va) (hv:aQ V J s.heap vals ds) (e:kQ fd ds=some ρ')
  (h:∀s1 vs vN k,mv V J s (rA as va) ρ' s1 vs vN k->Q ((rA as va).zip vs) s1):
  wpAny M A (bindArgs cL ⟨vals,[]⟩) Q Ex s:=by
 cases Y6 with
 |none hd h3=>exact acr R w hd h3 hv e h
 |one x y T oT m h1 h2 h3 hd hT hs=>
  subst h1;subst h2;unfold kQ at e;rw[w.va,h3] at e;obtain⟨hc,e⟩:=Aa e;obtain rfl:=sj e;have hc:=bW hc;rw[w.npar] at hc;cases ds with
  |nil=>cases hc
  |cons a ds=>
   cases ds with
   |cons=>cases hc
   |nil=>
    obtain⟨v,r,rfl,hv,rfl⟩:=hv;refine acu w.ps hd (R.keep _ _ hT) hs (λq=>?_) ?_
    ·have hn:=w.nodup;rw[bE,bE,q] at hn;exact(gN.mp hn).1 (by simp)
    ·exact h s [v,.none] [a,.none] (fd.xE-fd.npar) (mv.mk (ax.refl _) (.cons hv (.cons .none .nil)) rfl rfl)
def Nx.drop{Y:List Addr}{φ':Ph}{s1 s2:Shared}(g:ax s s1)(nx:Nx Y J φ' s1 s2)(hY:∀a∈Y,¬ cN s.heap a):Nx [] J φ' s s2:=by refine(Nx.mk ⟨λa o e h1 O=>nx.ext.keep a o (g.keep a o e) h1 λhm=>hY a hm ⟨o,e⟩⟩ ?_ (nx.gens.trans g.gens) (nx.os.trans g.os) (λa h=>nx.live a (g.live a h)));refine aq nx.gr.pre λr aa hr=>?_;subst aa;exact⟨r,rfl,λp hp ho=>hr p hp (g.live _ ho)⟩
def Nx.VY{X:List Addr}{φ':Ph}{s':Shared}(nx:Nx [] J φ' s s'):Nx X J φ' s s':=(Nx.mk nx.ext.IW nx.gr nx.gens nx.os nx.live)
def ao.back{φ':Ph}{s':Shared}{H':Hp}{l:List Env}(pre:ao V d q G J U H s)(nx:Nx [] J φ' s s')(rel:aZ V φ' H' s'.heap)(hA:G.A.frames=some l)(F:fR V l φ' s'.heap):dI V G J s φ' U H' s':=(dI.mk nx.VY rel (pre.er.mono nx.ext nx.gr) (pre.fr.back hA F))
def ZY(ok:BR V)(Sd:me V E)(pre:ao V (d+1) true G J U H s){k:Nat}{fd:FD}{vf:Value}{vs:List Value}{xs:List AV}{ρ':aC}(hk:V.P.gt[k]?=some (.fn fd))(hg:V.gv k=some vf)(hv:aQ V J s.heap vs xs)(hb:kQ fd xs=some ρ'):
  uc V G J s vf vs (qj U (cW (E.s d true) (ss fd.body) ρ' H)):=by
 refine Ra (ok.fns k fd hk) λa o cL as va kd df f=>?_;rw[f.gv] at hg;obtain rfl:=sj hg;have sc:=Lu f.sc;have wb:=f.wf;have rm:=λcenv=>HT (cenv:=cenv) pre.room;have par:kX cL fd as va kd df:=(kX.mk f.ps sc.nodup f.npar f.Gq);have bn:=λ{M:Model} {A:Around} {Q:List (Str×Value)->Shared->Prop} {Ex:Value->Shared->Prop} h=>MT (M:=M) (A:=A) (Q:=Q) (Ex:=Ex) pre.rel par f.dflt hv hb h;refine aq pre.fr.list λl hA FL=>?_;generalize rA as va=ps at *;intro hs;refine(codeAny_call_function (rm G.env).2 (pre.rel.keep _ _ f.get) f.data sc.co sc.gen f.body (f.code.keeps pre.rel.keep) (bn λs1 Ci ds1 j b=>?_));rw[f.Mu,f.rO,f.rV];refine wpAny_newFunctionEnv_cells sc.kind (λx hx=>?_) λcenv he s2 x=>⟨ok.lim.keeps λc o e=>x.toInCall.keep c o (b.grow.keep c o (pre.rel.keep c o e)),codeAny_func ?_⟩
 ·rcases sc.ps x.1 (List.of_mem_zip (show(x.1,x.2)∈ps.zip Ci from hx)).1 with h|h
  ·exact .inl h
  ·exact .inr ⟨h,Fd _ _ _ _ (.inl (jv h))⟩
 have R1:=pre.rel.grow b.grow;have eL:cenv.locals=s1.heap.objs.size:=by rw[he];rfl
 have eF:cenv.frame=some cenv.locals:=by rw[he];rfl
 have eK:cenv.scope=cL.scope:=by rw[he];rfl
 refine ua (Lr (k:=j) (A:=G.A.deeper cenv) R1 sc b.all b.len he x) λer qg=>?_;have gr:=b.grow.trans qg;have fresh:∀c∈(yx cL.scope cenv (rR cL.scope.names ps) (G.A.deeper cenv)).X,¬ cN s.heap c:=λc hc ho=>by
  have le:s1.heap.objs.size<=c:=by
   rcases bQ.mp hc with rfl|hc
   ·exact aW eL.symm
   ·refine aq (qH.mp hc) λp hp e=>?_;have:=x.above p.1 c (jv e);rw[eL] at this;exact fF this
  exact jH le (b.grow.live _ ho)
 have C2:ao V d true (yx cL.scope cenv (rR cL.scope.names ps) (G.A.deeper cenv)) J ρ' H s2:=(ao.mk (R1.grow qg) (b.rho▸er) ((rm cenv).1) pre.hd ((pre.fr.grow gr).list.elim λl' h=>by rw[hA] at h;obtain rfl:=sj h.1;exact h.2.deeper hA (by rw[eK,sc.kind];simp) eF x.toInCall.ns (Heap.get?_none_of_le (er.sH _ er.kJ)) (er.qQ _ er.kJ)))
 have T:=qo Sd.tovY (l:=fd.body) C2 wb;unfold qj at hs⊢;cases hr:cW (E.s d true) (ss fd.body) ρ' H with
 |stuck=>rw[hr] at hs;exact absurd rfl hs
 |ok fl ρ3 H3=>
  rw[hr] at T hs;refine cz (T nofun) (λf s3 h=>?_) λe s3 h=>h.not nofun;refine i7 h λb' ρ4 H4 φ3 e a hR=>?_;clear h;cases e;have back:=pre.back (a.nx.drop gr fresh) a.rel hA (a.fr.tail hA);cases fl with
  |ret v=>refine aq hR λw aa r=>?_;clear hR;subst aa;exact⟨v,U,H3,φ3,rfl,back,r⟩
  |next=>subst hR;exact⟨.none,U,H3,φ3,rfl,back,.none⟩
  |_=>exact absurd rfl hs
 |exc y ρ3 H3=>rw[hr] at T hs;refine cz (T nofun) (λf s3 h=>h.not nofun) λe s3 h=>?_;obtain⟨y',ρ4,H4,φ3,e',a,ex⟩:=h;cases e';have IH:=a.nx.drop gr fresh;refine ah (IL (h₁:=s.heap) a.rel a.fr (λa h=>IH.live a h) (ex.low gr.live) λY s4 nt ex4=>?_);exact⟨y,U,H3,φ3,rfl,pre.back (IH.note nt) (nt.rel a.rel) hA ((nt.fr a.fr).tail hA),ex4⟩
end
end
section
open PySem.W PyProof.Rows Builtin Builtin.ObjectAttr Builtin.Getset_descriptor
section
variable {V:Cf}{G:Fm}{A:Around}{φ₀ J:Ph}{s₀ s:Shared}{U:aC}{H:Hp}{d:Nat}{q:Bool}{E:Ev}
def mu(V:Cf)(c:Nat)(j:Nat)(x:Str)(p:Addr):Prop:=(findIn V.fr (.ref (V.clsAt c)) x=some (some (.ref p)))/\(slotIn V.fr p (V.clsAt c)=some j)/\(typeIn V.fr (.ref p)=some (.type "member_descriptor"))/\(specialIn V.fr (.ref p) "__get__"=some (some (.builtin "member_descriptor.__get__")))/\(takesIn V.fr (.ref p)=some true)
section
variable {b1 b2 b3 b4 b5}(x:mu b1 b2 b3 b4 b5)
def mu.mk:=lI (mu b1 b2 b3 b4 b5) rfl
def mu.find:=x.1
def mu.slot:=x.2.1
def mu.ty:=x.2.2.1
def mu.get:=x.2.2.2.1
def mu.takes:=x.2.2.2.2
end
def iE(V:Cf)(c:Nat)(cd:CD)(m k:Nat)(x:Str)(f:Addr)(fd:FD):Prop:=(V.P.gt[k]?=some (.fn fd))/\(fnIn V.fr f=true)/\(V.nm[m]?=some x)/\(findIn V.fr (.ref (V.clsAt c)) x=some (some (.ref f)))/\(typeIn V.fr (.ref f)=some (.type "function"))/\(V.gv k=some (.ref f))/\(specialIn V.fr (.ref f) "__get__"=some (some (.builtin "function.__get__")))/\(takesIn V.fr (.ref f)=some false)/\(∀a∈cd.bD,V.nm[a]?≠some x)/\(copiedNames.contains x=false)/\(cd.slots=false)
section
variable {b1 b2 b3 b4 b5 b6 b7 b8}(x:iE b1 b2 b3 b4 b5 b6 b7 b8)
def iE.mk:=λm1 m2 m3 m4 m5 m6 m7 m8 m9 qd qc=>(⟨m1,m2,m3,m4,m5,m6,m7,m8,m9,qd,qc⟩:iE b1 b2 b3 b4 b5 b6 b7 b8)
def iE.gt:=x.1
def iE.fn:=x.2.1
def iE.nm:=x.2.2.1
def iE.find:=x.2.2.2.1
def iE.ty:=x.2.2.2.2.1
def iE.gv:=x.2.2.2.2.2.1
def iE.get:=x.2.2.2.2.2.2.1
def iE.takes:=x.2.2.2.2.2.2.2.1
def iE.VS:=x.2.2.2.2.2.2.2.2.1
def iE.V4:=x.2.2.2.2.2.2.2.2.2.1
def iE.II:=x.2.2.2.2.2.2.2.2.2.2
end
def o3(V:Cf)(c:Nat)(cd:CD)(f:Addr)(fd:FD):Prop:=(V.P.gt[cd.init]?=some (.fn fd))/\(findIn V.fr (.ref (V.clsAt c)) "__init__"=some (some (.ref f)))/\(typeIn V.fr (.ref f)=some (.type "function"))/\(V.gv cd.init=some (.ref f))
section
variable {b1 b2 b3 b4 b5}(x:o3 b1 b2 b3 b4 b5)
def o3.mk:=fp (o3 b1 b2 b3 b4 b5) rfl
def o3.gt:=x.1
def o3.find:=x.2.1
def o3.ty:=x.2.2.1
def o3.gv:=x.2.2.2
end
def gk(V:Cf)(c:Nat)(cd:CD):Prop:=(V.gv c=some (.ref (V.clsAt c)))/\(makesIn V.fr (V.clsAt c)=true)/\(∃f fd,o3 V c cd f fd)/\(findIn V.fr (.ref (V.clsAt c)) "__getattribute__"=some (some (.builtin "object.__getattribute__")))/\(findIn V.fr (.ref (V.clsAt c)) "__getattr__"=some none)/\(findIn V.fr (.ref (V.clsAt c)) "__setattr__"=some (some (.builtin "object.__setattr__")))/\(plainOver V.fr (V.clsAt c)=true)/\(∃k,clsIn V.fr (V.clsAt c)=some k/\k.hasDict=!cd.slots)/\(cd.bD.length<=100)/\(cd.bD.Nodup)/\(∀a∈cd.bD,∀b∈cd.bD,∀x,V.nm[a]?=some x->V.nm[b]?=some x->a=b)/\(∀a∈cd.bD,∃x,V.nm[a]?=some x)/\(cd.slots=false->∀a∈cd.bD,∀x,V.nm[a]?=some x->findIn V.fr (.ref (V.clsAt c)) x=some none)/\(cd.slots=true->∀j a,cd.bD[j]?=some a->∀x,V.nm[a]?=some x->∃p,mu V c j x p)/\(∀m k,cd.meths.lookup m=some k->∃x f fd,iE V c cd m k x f fd)
section
variable {b1 b2 b3}(x:gk b1 b2 b3)
def gk.mk:=λm1 m2 m3 m4 m5 m6 m7 m8 m9 qd qc xR xQ Dx WE=>(⟨m1,m2,m3,m4,m5,m6,m7,m8,m9,qd,qc,xR,xQ,Dx,WE⟩:gk b1 b2 b3)
def gk.Zv:=x.1
def gk.makes:=x.2.1
def gk.init:=x.2.2.1
def gk.A5:=x.2.2.2.1
def gk.Eh:=x.2.2.2.2.1
def gk.Kr:=x.2.2.2.2.2.1
def gk.over:=x.2.2.2.2.2.2.1
def gk.DQ:=x.2.2.2.2.2.2.2.1
def gk.LD:=x.2.2.2.2.2.2.2.2.1
def gk.Dk:=x.2.2.2.2.2.2.2.2.2.1
def gk.inj:=x.2.2.2.2.2.2.2.2.2.2.1
def gk.nms:=x.2.2.2.2.2.2.2.2.2.2.2.1
def gk.LB:=x.2.2.2.2.2.2.2.2.2.2.2.2.1
def gk.Ly:=x.2.2.2.2.2.2.2.2.2.2.2.2.2.1
def gk.Dt:=x.2.2.2.2.2.2.2.2.2.2.2.2.2.2
end
structure o9(V:Cf):Prop extends BR V where
 cls:∀c cd,V.P.gt[c]?=some (.cl cd)->gk V c cd
 handed:∀k v,V.gv k=some v->handedIn v=true
variable {h:Heap}
def Gm(ok:o9 V){v:Value}{a:AV}(hx:VR V J h v a):handedIn v=true:=by
 cases a with
 |none=>subst hx;rfl
 |bool=>subst hx;rfl
 |int=>refine ue hx λO aa=>?_;clear hx;subst aa;rfl
 |str=>refine aq hx λO aa O=>?_;clear hx;subst aa;rfl
 |cE=>refine dN hx λO O aa O=>?_;clear hx;subst aa;rfl
 |tup=>refine cO hx λO O O aa O=>?_;clear hx;subst aa;rfl
 |lst=>refine cO hx λO O O aa O=>?_;clear hx;subst aa;rfl
 |dF=>refine mP hx λO O O O aa O=>?_;clear hx;subst aa;rfl
 |ref=>refine dN hx λO O aa O=>?_;clear hx;subst aa;rfl
 |glob k=>exact ok.handed k _ hx
 |cP=>refine mP hx λO O O O aa O=>?_;clear hx;subst aa;rfl
 |vals=>refine cO hx λO O O aa O=>?_;clear hx;subst aa;rfl
 |uW=>refine ct hx λO O aa=>?_;clear hx;subst aa;rfl
variable {m:Str->Option Value}
def WY{a:Addr}(x:h.Ns1 a m):∃o,h.get? a=some o/\∀y,lookIn y o=some (m y):=by
 refine GB x λo es ep e hd hk hu hm=>?_;clear x;refine⟨o,e,λy=>?_⟩;have h1:=hm y;unfold lookIn;rw[hd];dsimp only;unfold nsFind findBy at h1;rw[<- Array.find?_toList] at h1;have hr:(es.toList.any (·.refKey))=false:=by rw[List.any_eq_false];intro en he;refine ct (hk en (Array.mem_toList_iff.mp he)) λnn t YT=>?_;simp[DictEntry.refKey,YT]
 cases hf:es.toList.find? (λe=>e.key.isStr y) with
 |some en=>rw[hf] at h1;simp only[Option.map_some] at h1;rw[<- h1]
 |none=>rw[hf] at h1;simp only[Option.map_none] at h1;rw[<- h1];simp[hr]
structure FA(V:Cf)(J:Ph)(h:Heap)(vo:Value)(nn c:Nat)(fs:List (Option AV))(cd:CD)(p:Addr×Addr)(ox od:Obj):Prop where
 gt:V.P.gt[c]?=some (.cl cd)
 cls:gk V c cd
 len:fs.length=cd.bD.length
 eq:vo=.ref p.1
 ph:J[nn]?=some p
 inst:InstAt h p.1 ox (V.clsAt c) (some od)
 fr:V.fr.In h
 slo:cd.slots=true->∃dx sl,ox={cls:=.ref (V.clsAt c),dict:=some dx,data:=.plain,slots:=sl}/\mn V J h p c fs dx sl
 dct:cd.slots=false->∃m,mq V J h p c cd.bD fs m/\∀y,lookIn y od=some (m y)
variable {nn c:Nat}{fs:List (Option AV)}{vo:Value}
def DW(ok:o9 V)(R:aZ V J H s.heap)(hv:VR V J s.heap vo (.ref nn))(hH:H[nn]?=some (.inst c fs)):∃cd p ox od,FA V J s.heap vo nn c fs cd p ox od:=by
 refine aq (ij hv rfl) λp aa hp=>?_;subst aa;refine ue (R.at hH hp) λcd r=>?_;have X:=yu ok.toBR.toOk R;cases hs:cd.slots with
 |true=>refine ct (r.slo hs) λdx sl y=>?_;refine ue (R.live _ y.dct) λod ho=>?_;exact⟨cd,p,_,od,r.cls,ok.cls c cd r.cls,r.len,rfl,hp,⟨y.eq▸y.get,rfl,rfl,ho⟩,X,λO=>⟨dx,sl,rfl,y⟩,λh=>by rw[hs] at h;cases h⟩
 |false=>refine ue (r.dct hs) λm y=>?_;refine aq (WY y.ns) λod ho vz=>?_;exact⟨cd,p,_,od,r.cls,ok.cls c cd r.cls,r.len,rfl,hp,⟨y.get,rfl,rfl,ho⟩,X,λh=>(by rw[hs] at h;cases h),λO=>⟨m,y,vz⟩⟩
def LA(a:Nat):∀l:List Nat,gy l a=l.idxOf a:=by
 intro l
 induction l with
 |nil=>exact rfl
 |cons x l ih=>
  show(match Nat.beq x a with|true=>0|false=>gy l a+1)=_;rw[List.idxOf_cons,ih];cases h:Nat.beq x a with
  |true=>rw[show(x==a)=true from by rw[beq_iff_eq];exact bW h];rfl
  |false=>rw[show(x==a)=false from by rw[beq_eq_false_iff_ne];exact Nat.ne_of_beq_eq_false h];rfl
variable {a:Nat}
def DZ{l:List Nat}(h:l.idxOf a<l.length):l[l.idxOf a]?=some a:=by rw[pF h,List.getElem_idxOf]
def acU(ok:o9 V)(pre:ao V d q G J U H s){x:Str}{v:AV}{cd:CD}(hv:VR V J s.heap vo (.ref nn))(hH:H[nn]?=some (.inst c fs))(hc:V.P.gt[c]?=some (.cl cd))
  (hx:V.nm[a]?=some x) (hf:fs[cd.bD.idxOf a]?=some (some v)):fQ V G J s (getAttr vo x true) v:=by
 intro Q Ex h;refine zw (DW ok pre.rel hv hH) λML p ox od m=>?_;have:=m.gt;rw[hc] at this;cases this;have C:=m.cls;have hj:=DZ (l:=cd.bD) (a:=a) (by rw[<- m.len];exact(mE.mp hf).1);rw[m.eq];refine aq C.DQ λk hk hd=>?_;cases hs:cd.slots with
 |true=>refine dN (m.slo hs) λdx sl aa y=>?_;subst aa;refine ue (C.Ly hs _ a hj x hx) λpp f=>?_;refine aq (y.fld _ v hf) λval g1 g2=>?_;exact get_bind m.fr m.inst C.A5 (findObj_data (by rw[hk];rfl) f.find f.get f.takes) C.Eh (wpAny_call (slot_get (s:={s with toks:=s.toks+1}) m.fr m.inst f.slot (by show(sl[_]?).join=_;rw[g1];rfl) (handed_on (Gm ok g2) (h val _ (ax.toks s _) g2))))
 |false=>
  refine aq (m.dct hs) λmm y vz=>?_;rw[hs] at hd;refine bB (y.fld.some _ a v hj hf) λx' val hy m1 m2=>?_;rw[hx] at hy;obtain rfl:=sj hy;have Ei:findObj V.fr (V.clsAt c) (some od) x=some (.value val):=by
   unfold findObj;rw[hk,pj,C.LB hs a (jS hj) x hx,pj];dsimp only;rw[pj,pj];dsimp only;unfold W.ownOf;rw[hd];show(lookIn x od).bind _=_;rw[vz,m1]
   rfl
  exact get_value m.fr m.inst C.A5 Ei (Gm ok m2) (h val _ (ax.toks s _) m2)
noncomputable abbrev zO(i:Nat)(v:Value)(o:Obj):Obj:={o with slots:=(o.slots++Array.replicate (i+1-o.slots.size) none).setIfInBounds i (some v)}
variable {ox:Obj}
def SM{prog:Program}{w:World}{R:Result->Shared->Prop}{fr:Frag}{x C p:Addr}{od:Option Obj}{v:Value}{i:Nat}(XX:fr.In s.heap)(I:InstAt s.heap x ox C od)(hp:slotIn fr p C=some i)(hi:i<1000)
  (h:R (.ok (.ret .none)) {s with heap:=s.heap.update x (zO i v)}):
  codeAny (model prog w) A (.call (.builtin "member_descriptor.__set__") ⟨[.ref p,.ref x,v],[]⟩) R s:=by
 obtain⟨nm,tn,owner,behind,tb,dd,sl,cd,ho,hc,hm,hb,rfl⟩:=slot_of XX hp;obtain⟨hh,g,dr,t,os⟩:=s;have L0:=I.type (M:=model prog w);have L1:=looks_mroIn (M:=model prog w) XX hm;have L2:Looks (model prog w) hh (Slots.slotNamesOf (.ref C)) cd.slotNames:=(looks_clsIn XX hc).andThen .now;have hx:=I.at_;dsimp only at ho hx L0 L1;have f0:=looks_field (M:=model prog w) ho 0 (v:=.str nm tn) rfl;have f1:=looks_field (M:=model prog w) ho 1 (v:=owner) rfl;have f3:=looks_field (M:=model prog w) ho 3 (v:=.builtin "proto.slot#set") rfl;have f4:=looks_field (M:=model prog w) ho 4 (v:=.int behind tb) rfl;have f5:Looks (model prog w) hh (descrItself (.ref p)) [.ref p]:=((Looks.ld (part:=none) ho).andThen .now).andThen (Looks.of_pure (by kernel_rfl));refine codeAny_call_builtin KF.slot_mset.plain KF.entry_mset (KF.slot_mset.check _ _ _ _ _ _ _ _ ⟨_,ho,rfl⟩ (KF.args_mset _ _ _) ?_);unfold Builtin.«member_descriptor.__set__» descrSet descrStoreThrough descrCheckInstance descrNameAndClass isInstance
 repeat lk
 refine⟨Code.quiet_builtin _ (by decide +kernel),codeAny_builtin KF.entry_slotset ?_⟩;unfold Builtin.«proto.slot#set» Slots.target
 repeat lk
 rw[if_neg hb];refine aH (ah ?_);unfold setSlotAt;dsimp only;rw[if_neg (by rw[sizeLine_eq];exact Nat.not_le_of_lt (nP hi (by decide)))];exact wpAny_updatePart hx (aH h)
def Xb{α:Type}[DecidableEq α]:∀(l L:List α),l.Nodup->(∀x∈l,x∈L)->l.length<=L.length:=by
 intro t
 induction t with
 |nil=>intro _ _ _;exact jP _
 |cons x t ih=>intro L hn hs;rw[gN] at hn;have a:=ih (L.erase x) hn.2 λy hy=>(List.mem_erase_of_ne (show y≠x from λq=>hn.1 (q▸hy))).mpr (hs y (bS _ hy));rw[List.length_erase_of_mem (hs x bA)] at a;have:=List.length_pos_of_mem (hs x bA);rw[i6];exact aM (sk a) (aW (pn this))
noncomputable def vL(en:DictEntry):Str:=match en.key with|.str nn _=>nn|_=>⟨#[]⟩
def VL{a:Addr}(x:h.Ns1 a m){L:List Str}(hL:∀y v,m y=some v->y∈L):∃o es ep,h.get? a=some o/\o.data=.dict es ep/\es.size<=L.length:=by
 refine GB x λo es ep e hd hk hu hm=>?_;clear x;have hf:∀en∈es.toList,en.key.isStr (vL en)=true:=λen he=>by refine ct ((λen he=>hk en (Array.mem_toList_iff.mp he):∀en∈es.toList,∃nn t,en.key=.str nn t) en he) λnn t hq=>?_;unfold vL;rw[hq];exact beq_self_eq_true nn
 have nd:(es.toList.map vL).Nodup:=by unfold List.Nodup;rw[List.pairwise_map];refine(List.Pairwise.and_mem.mp hu).imp λ{a b} ⟨ha,hb,r⟩ e=>?_;exact r (vL a) (hf a ha) (e▸hf b hb)
 have sub:∀y∈es.toList.map vL,y∈L:=λy hy=>by
  refine aq (bU.mp hy) λen he aa=>?_;subst aa;have:(nsFind es (vL en)).isSome=true:=by unfold nsFind findBy;rw[Option.isSome_map,Array.find?_isSome];exact⟨en,Array.mem_toList_iff.mp he,hf en he⟩
  refine ue (sA.mp this) λv hv=>?_;exact hL _ v ((hm _).symm.trans hv)
 refine⟨o,es,ep,e,hd,?_⟩;have:=Xb _ L nd sub;rwa[aJ,pz] at this
variable {p:Addr×Addr}
def U6(ok:o9 V)(pre:ao V d q G J U H s){vv:Value}{x:Str}{v:AV}{cd:CD}{od:Obj}(m:FA V J s.heap vo nn c fs cd p ox od)(hw:VR V J s.heap vv v)(hx:V.nm[a]?=some x)(hf:cd.bD.idxOf a<fs.length)(hs:cd.slots=true):
  ag V G J s (setAttr (.ref p.1) x vv) (.ok () U (ai H (.inst c (fs.set (cd.bD.idxOf a) (some v))) nn)) (λO O O O=>True):=by
 have C:=m.cls;refine dN (m.slo hs) λdx sl aa y=>?_;subst aa;have few:cd.bD.idxOf a<1000:=by have:=C.LD;have:=m.len;exact N3 ‹_› ‹_› ‹_›
 refine ue (C.Ly hs _ a (DZ (l:=cd.bD) (a:=a) (m.len▸hf)) x hx) λpp f=>?_;generalize cd.bD.idxOf a=j at *;have ht:takerIn V.fr (V.clsAt c) x=some (some (.ref pp)):=by unfold takerIn;rw[f.find,pj];dsimp only;rw[f.takes];rfl
 have gV:Heap.SameBut p.2 s.heap (s.heap.update p.1 (zO j vv)):=by rw[y.eq];exact⟨Heap.size_update ..,λb hb=>pE _ _ (fi hb)⟩
 have hn:(s.heap.update p.1 (zO j vv)).get? p.2=some (zO j vv {cls:=.ref (V.clsAt c),dict:=some dx,data:=.plain,slots:=sl}):=by rw[y.eq];exact qJ _ y.get rfl
 refine ag.put pre m.ph λQ Ex h=>set_plain m.fr m.inst C.Kr (osa_descr (s:={s with toks:=s.toks+1}) KF.slot_mset m.fr m.inst C.over ht f.ty (SM (s:={s with toks:=s.toks+1}) m.fr m.inst f.slot few ?_));refine h () _ (jt.mk gV rfl rfl) ⟨cd,kY.mk m.gt (by rw[List.length_set];exact m.len) (λO=>⟨dx,_,mn.mk y.eq hn y.dct (λi u hu=>?_)⟩) (λh=>by rw[hs] at h;cases h)⟩ ⟨_,hn⟩ trivial;by_cases bY:j=i
 ·subst bY;rw[ug hf] at hu;cases hu;refine⟨vv,?_,hw.put m.ph gV⟩;rw[Array.getElem?_setIfInBounds_self_of_lt];rw[Array.size_append,Array.size_replicate];exact Nat.sub_le_iff_le_add'.mp (bf _)
 ·rw[pA bY] at hu;refine aq (y.fld i u hu) λval g1 g2=>?_;refine⟨val,?_,g2.put m.ph gV⟩;rw[Array.getElem?_setIfInBounds_ne bY,Array.getElem?_append_left (wj.mp g1).1];exact g1
def U9(ok:o9 V)(pre:ao V d q G J U H s){vv:Value}{x:Str}{v:AV}{cd:CD}{od:Obj}(m:FA V J s.heap vo nn c fs cd p ox od)(hw:VR V J s.heap vv v)(hx:V.nm[a]?=some x)(hf:cd.bD.idxOf a<fs.length)(hs:cd.slots=false):
  ag V G J s (setAttr (.ref p.1) x vv) (.ok () U (ai H (.inst c (fs.set (cd.bD.idxOf a) (some v))) nn)) (λO O O O=>True):=by
 have C:=m.cls;have hj:=DZ (l:=cd.bD) (a:=a) (m.len▸hf);have hm:=jS hj;refine aq (m.dct hs) λmm y vz=>?_;refine aq C.DQ λk hk hd=>?_;rw[hs] at hd;generalize cd.bD.idxOf a=j at *;refine ag.put pre m.ph λQ Ex h=>set_plain m.fr m.inst C.Kr (osa_open (s:={s with toks:=s.toks+1}) m.fr m.inst C.over (by unfold takerIn;rw[C.LB hs a hm x hx];rfl:takerIn V.fr (V.clsAt c) x=some none) λb=>?_);have names:∀y' u,(if y'=x then some vv else mm y')=some u->∃b∈cd.bD,V.nm[b]?=some y':=λy' u hu=>by
  by_cases q:y'=x
  ·subst q;exact⟨a,hm,hx⟩
  ·rw[if_neg q] at hu;exact y.fld.name y' u hu
 dsimp only;refine ah (aH (ah (ah (wpAny_loadPart y.get (ah ((looks_clsIn m.fr hk _ _ _ _ (λO O e=>e) ?_)))))));rw[hd];refine aH (a:=some p.2) (ah (aH (ah ?_)));refine wpAny_nsSet1 (s:={s with toks:=s.toks+1}) y.ns λh' dY gV=>?_;obtain⟨o',es,ep,Kz,El,hz⟩:=VL (L:=cd.bD.filterMap λa=>V.nm[a]?) dY λy' u hu=>aq (names y' u hu) λb hb e=>qH.mpr ⟨b,hb,e⟩;have Kk:es.size<=100:=aM hz (aM (List.length_filterMap_le ..) C.LD);refine ah (wpAny_lookBehind Kz (by rw[El];exact pastItsLine_dict (by rw[sizeLine_eq];exact Om ‹_›)) ?_);have AX:h'.get? p.1=some (instObj (V.clsAt c) p.2):=(gV.2 p.1 λq=>y.out (q▸pq (jS m.ph))).trans y.get;have vr:∀{u:Value} {w:AV},VR V J s.heap u w->VR V J h' u w:=λr=>r.put m.ph gV;have other:∀{i b:Nat} {y':Str},cd.bD[i]?=some b->j≠i->V.nm[b]?=some y'->y'≠x:=λhb bY hy q=>by subst q;have:=C.inj _ (jS hb) a hm _ hy hx;subst this;exact bY ((List.getElem?_inj (mE.mp hj).1 C.Dk).mp (hj.trans hb.symm))
 refine aH ?_;refine h () _ (jt.mk gV rfl rfl) ⟨cd,kY.mk m.gt (by rw[List.length_set];exact m.len) (λh=>(by rw[hs] at h;cases h)) (λO=>⟨_,mq.mk y.out AX dY ⟨names,λi b hb qf=>?_,λi b w hb qf=>?_⟩⟩)⟩ ⟨_,Kz⟩ trivial
 ·by_cases bY:j=i
  ·subst bY;rw[ug hf] at qf;cases qf
  ·rw[pA bY] at qf;obtain⟨y',hy,We⟩:=y.fld.none i b hb qf;exact⟨y',hy,(if_neg (other hb bY hy)).trans We⟩
 ·by_cases bY:j=i
  ·subst bY;rw[hj] at hb;obtain rfl:=sj hb;rw[ug hf] at qf;cases qf;exact⟨x,vv,hx,if_pos rfl,vr hw⟩
  ·rw[pA bY] at qf;obtain⟨y',val,hy,m1,m2⟩:=y.fld.some i b w hb qf;exact⟨y',val,hy,(if_neg (other hb bY hy)).trans m1,vr m2⟩
def zN:Slot "list_iterator" "__getattribute__" "object.__getattribute__":=.of (owner:="object") (n:="__getattribute__") (by rw[typeLookup_type,zd];kernel_rfl) (by decide +kernel) (by decide +kernel) (by decide +kernel) (.inl (by decide +kernel)) (by rw[isSubtype_type];kernel_rfl)
def aaE:entryFor table "object.__getattribute__"=some Builtin.«object.__getattribute__»:=entryFor_of_tree (by kernel_rfl)
def acZ(a b:Value):argsOk "object.__getattribute__" ⟨[a,b],[]⟩:=by unfold argsOk;kernel_rfl
def zy:typeOf (.builtin "list_iterator.__next__")=pure (.type "wrapper_descriptor"):=by show builtinType _=_;rw[builtinType_eq_fast];kernel_rfl
def Cy:Slot "wrapper_descriptor" "__get__" "wrapper_descriptor.__get__":=.of (owner:="wrapper_descriptor") (n:="__get__") (by rw[typeLookup_type,zd];kernel_rfl) (by decide +kernel) (by decide +kernel) (by decide +kernel) (by first|exact .inl (by decide +kernel)|exact .inr (by decide +kernel)) (by rw[isSubtype_type];kernel_rfl)
def aaD:entryFor table "wrapper_descriptor.__get__"=some Builtin.«wrapper_descriptor.__get__»:=entryFor_of_tree (by kernel_rfl)
def acY(a b c:Value):argsOk "wrapper_descriptor.__get__" ⟨[a,b,c],[]⟩:=by unfold argsOk;kernel_rfl
def QL:typeLookup (.type "wrapper_descriptor") "__set__"=pure none:=by rw[typeLookup_type,zd];kernel_rfl
def QM:typeLookup (.type "wrapper_descriptor") "__delete__"=pure none:=by rw[typeLookup_type,zd];kernel_rfl
def ZD{prog:Program}{w:World}{I:Addr}{vs:Array Value}{sl:Array (Option Value)}{Q:Value->Shared->Prop}{Ex:Value->Shared->Prop}(e:s.heap.get? I=some {cls:=.type "list_iterator",dict:=none,data:=.fields vs,slots:=sl})
  (h:Q (.ref s.heap.objs.size) {s with heap:=s.heap.push {cls:=.type "method-wrapper",data:=.fields #[.builtin "list_iterator.__next__",.ref I]},toks:=s.toks+1}):
  wpAny (model prog w) A (getAttr (.ref I) "__next__" true) Q Ex s:=by
 have T0:Looks (model prog w) s.heap (typeOf (.ref I)) (.type "list_iterator"):=(Looks.ld e).andThen .now;have G:∀(s':Shared) (Q':Option Value->Shared->Prop) (E':Value->Shared->Prop) (A':Around),Q' (some (.builtin "wrapper_descriptor.__get__")) s'->wpAny (model prog w) A' (specialOf (.builtin "list_iterator.__next__") "__get__") Q' E' s':=λs' Q' E' A' h=>by unfold specialOf;exact ah (ib zy (ib Cy.lookup h))
 refine ah (wpAny_mkText (c8 (ah (T0 _ _ _ _ (λO O e=>e) (ah (ib zN.lookup ?_))))));dsimp only;rw[if_neg (by decide)];unfold getAttrByItsOwn;refine ah (aH (ah (wpAny_attempt (c8 ?_))));unfold callGetattribute;rw[if_neg (by decide)];unfold boundAndCalled;refine ah (ib (zN.bind _) ?_);show wpAny _ _ (call (.builtin "object.__getattribute__") [.ref I,.str _ s.toks]) _ _ _;refine wpAny_call (codeAny_call_builtin zN.plain aaE (zN.check _ _ _ _ _ _ _ _ ⟨_,e,rfl⟩ (acZ _ _) ?_));refine ah (aH (ah (aH (ah (T0 _ _ _ _ (λO O e=>e) ?_)))));have TS:∀(s':Shared) (Q':Bool->Shared->Prop) (E':Value->Shared->Prop) (A':Around),Q' false s'->wpAny (model prog w) A' (takesStores (.builtin "list_iterator.__next__")) Q' E' s':=λs' Q' E' A' h=>by unfold takesStores specialOf;refine ah (ah (ib zy (ib QL ?_)));rw[if_neg (by decide)];exact ah (ah (ib zy (ib QM (aH h))))
 refine ah ?_;unfold Builtin.ObjectAttr.find;refine ah (ib slot_listiter_next.lookup ?_);refine ah (G _ _ _ _ (ah ?_));show wpAny _ _ (do if <- takesStores (.builtin "list_iterator.__next__") then pure (some (Value.builtin "wrapper_descriptor.__get__",Value.builtin "list_iterator.__next__")) else pure none) _ _ _;refine ah (TS _ _ _ _ (aH ?_));unfold ownThenClass inOwnDict ObjectAttr.ownDict instanceDict;dsimp only;refine ah (ah (ah (wpAny_loadPart e ?_)));dsimp only;refine ah (wpAny_loadPart e ?_);dsimp only;rw[if_pos (by decide)];refine aH (aH ?_);dsimp only;unfold copiedAttributeGuard;dsimp only;rw[if_neg (by decide +kernel)];refine ah (aH (ah (wpAny_rule (aH ?_))));dsimp only;unfold bindTo;dsimp only;refine ah (c8 (wpAny_call (codeAny_call_builtin Cy.plain aaD (Cy.check _ _ _ _ _ _ _ _ ?_ (acY _ _ _) ?_))))
 ·exact zy
 obtain⟨hh,g,dr,t,os⟩:=s;unfold Builtin.«wrapper_descriptor.__get__»
 repeat lk
 exact h
def Fo(ok:o9 V):v9 V where
 get:=λ{d q G J U H s vo ov x a} pre hv hx=>ag.opt pre λv e=>by
  refine ub e λnn h1 e=>?_;refine ub e λo h2 e=>?_;rw[cQ] at h2;have Kn:VR V J s.heap vo (.ref nn):=by cases ov<;>first|(cases h1;exact hv)|exact aR h1
  cases o with
  |inst c fs=>refine ub e λcd h3 e=>?_;refine ub e λr h4 e=>?_;have e:r=some v:=e;subst e;rw[cQ,LA] at h4;exact acU ok pre Kn h2 (EZ h3) hx h4
  |iter m i=>refine ur e λh3 e=>?_;obtain rfl:=sj e;cases bW h3;have:=ok.nms 9 (by decide) (by decide);rw[hx] at this;obtain rfl:=sj this;refine aq (ij Kn rfl) λp aa hp=>?_;subst aa;refine ct (pre.rel.at h2 hp) λqq sl y=>?_;intro Q Ex h;exact ZD (y.eq▸y.get) (h _ _ ((ax.push s _ _)) ⟨_,_,_,_,rfl,nH.mk hp (cY _ rfl) rfl rfl (pre.rel.fresh (bf _))⟩)
  |_=>exact aR e
 set:=λ{d q G J U H s vo ov x a vv v} pre hv hw hx=>ag.wH λH' e=>by
  refine ub e λnn h1 e=>?_;refine ub e λr h2 e=>?_;refine ub e λcd h3 e=>?_;refine ur e λh4 e=>?_;obtain rfl:=sj e;rw[LA] at h4⊢;have h4:=bG.mp h4;refine zw (DW ok pre.rel (by cases ov<;>first|(cases h1;exact hv)|exact aR h1:VR V J s.heap vo (.ref nn)) (Yg h2)) λML p ox od m=>?_;have:=m.gt;rw[EZ h3] at this;cases this;rw[m.eq,sN (some v)];cases hs:cd.slots with
  |true=>exact U6 ok pre m hw hx h4 hs
  |false=>exact U9 ok pre m hw hx h4 hs
end
end
section
open PySem.W PyProof.Rows Builtin
section
variable {V:Cf}{G:Fm}{A:Around}{φ₀ J:Ph}{s₀ s:Shared}{U:aC}{H:Hp}{d:Nat}{q:Bool}{E:Ev}
def acf(it:Value):checkBoundCall "list_iterator.__next__" ⟨[it],[]⟩=pure ():=by
 unfold checkBoundCall
 kernel_rfl
def U2{as:Args}:(Code.builtin "list_iterator.__next__" as).quiet=true:=Code.quiet_builtin _ (by decide +kernel)
variable {Q Ex:Value->Shared->Prop}
def IG{b I l:Addr}{i:Nat}{o:Obj}{oi ol:Obj}{items:Array Value}{nl:Nat}{prog:Program}{w:World}(hb:s.heap.get? b=some o)(hc:o.cls=.type "method-wrapper")(hd:o.data=.fields #[.builtin "list_iterator.__next__",.ref I])
  (ho:s.heap.get? I=some oi) (KO:oi.data=.fields #[.ref l,.int i 0]) (YO:s.heap.get? l=some ol) (Y5:ol.data=.seq items nl)
  (h:wpAny (model prog w) A.in1 (match items[i]? with
   |some x=>do setField (.ref I) 1 (rawInt ((i:Int)+1));ret x
   |none=>do setField (.ref I) 0 .none;raiseNew (<- newExc (.type "StopIteration") [])) (λfin s'=>match fin with|.done (.ret v)=>Q v s'|_=>False) Ex s):
  wpAny (model prog w) A (call (.ref b) []) Q Ex s:=by
 refine wpAny_call (uo ?_);show wpAny _ A.in1 (callAny (.ref b) ⟨[],[]⟩) _ _ s;unfold callAny;refine ah (wpAny_load hb ?_);rw[hd,hc];dsimp only;rw[if_pos (by decide)];rw[show(#[Value.builtin "list_iterator.__next__",Value.ref I]:Array Value)[0]?=some (.builtin "list_iterator.__next__") from rfl,show(#[Value.builtin "list_iterator.__next__",Value.ref I]:Array Value)[1]?=some (.ref I) from rfl];dsimp only;rw[if_pos (by decide)];refine ah (ib (acf _) (aH ⟨U2,codeAny_builtin entry_listiter_next ?_⟩));rw[Around.under_plainId slot_listiter_next.plain];show wpAny _ _ (field (.ref I) 0>>=_) _ _ s;refine ah (qK ho KO (x:=.ref l) rfl ?_);show wpAny _ _ (if(Value.ref l==Value.none)=true then _ else _) _ _ s;rw[if_neg (show ¬ ((Value.ref l==Value.none)=true) from qG)];show wpAny _ _ (field (.ref I) 1>>=_) _ _ s;refine ah (qK ho KO (x:=.int i 0) rfl ?_);show wpAny _ _ (seqItems? (.ref l)>>=_) _ _ s;refine ah (wpAny_seqItems YO Y5 ?_);simp only[Int.toNat_natCast];cases hx:items[i]? with
 |some x=>rw[hx] at h;refine cz h (λfin s' z=>?_) λO O z=>z;rcases fin with(_|_|_|_)|_<;>first|exact z|exact z.elim
 |none=>rw[hx] at h;refine ah (wpAny_rule (cz h (λfin s' z=>?_) λO O z=>z));rcases fin with(_|_|_|_)|_<;>first|exact z|exact z.elim
variable {vf:Value}
def VH(pre:ao V d true G J U H s){nn m i:Nat}{l:List AV}(hv:VR V J s.heap vf (.cP nn))(hH:H[nn]?=some (.iter m i))(hm:bx H m=some l):
  ag V G J s (call vf []) ((match l[i]? with|some v=>.ok v U (ai H (.iter m (i+1)) nn)|none=>.exc 0 U (ai H .dead nn)):dG AV) (VR V):=by
 refine mP hv λb a d' o aa x=>?_;clear hv;subst aa;refine ct (pre.rel.at hH x.ph) λqq sl y=>?_;have eq:a=d':=y.eq;subst eq;refine ll (pre.rel.list hm y.ph) λO items nl z=>?_;have gV:∀f,Heap.SameBut a s.heap (s.heap.update a f):=λf=>nS ..;cases hl:l[i]? with
 |some v=>refine aq (z.all.get hl) λw hw r=>?_;refine ag.put pre x.ph λQ Ex h=>IG x.get x.cls x.data y.get rfl z.at_ rfl ?_;rw[show items.toArray[i]?=some w by simpa using hw];refine ah (uj y.get rfl (by simp) (aH ?_));have hn:=qJ (Obj.mapFields (·.setIfInBounds 1 (rawInt ((i:Int)+1)))) y.get rfl;exact h w _ (jt.mk (gV _) rfl rfl) ⟨qq,sl,oZ.mk rfl y.ph (hn.trans rfl)⟩ ⟨_,hn⟩ (r.put x.ph (gV _))
 |none=>
  intro _;have hx:items.toArray[i]?=none:=by
   have:items.length<=i:=by rw[z.all.length];exact uh.mp hl
   simpa using this
  refine IG x.get x.cls x.data y.get rfl z.at_ rfl ?_;rw[hx];refine ah (uj y.get rfl (by simp) ?_);refine ah ?_;simp only[newExc,newTuple];refine ah (wt ?_ (by size_fits));refine ah (m:=firstArgMember _ _) (ib (a:=Value.none) (by first|rfl|(simp only[firstArgMember];rfl)) ?_);refine wt ?_ (by size_fits);simp -iota only[raiseNew];refine ah (wpAny_handled ?_);rw[show G.A.in1.handled=none from pre.hd rfl];refine ah (aH (wpAny_throw ?_));have hn:=qJ (Obj.mapFields (·.setIfInBounds 0 Value.none)) y.get rfl;have R1:aZ V J (H.set nn .dead) (s.heap.update a (Obj.mapFields (·.setIfInBounds 0 Value.none))):=pre.rel.put x.ph (gV _) trivial ⟨_,hn⟩;have E1:=vI x.ph (gV (Obj.mapFields (·.setIfInBounds 0 Value.none))) [];have lv:=w9 (gV (Obj.mapFields (·.setIfInBounds 0 Value.none))) ⟨_,hn⟩;have sz:(s.heap.update a (Obj.mapFields (·.setIfInBounds 0 Value.none))).objs.size=s.heap.objs.size:=Heap.size_update ..;rw[sN];generalize s.heap.update a (Obj.mapFields (·.setIfInBounds 0 Value.none))=hu at *;generalize hto:({cls:=.type "tuple",dict:=none,data:=.seq ([]:List Value).toArray}:Obj)=to;have g1:ax {s with heap:=hu} {s with heap:=hu.push to}:=ax.push {s with heap:=hu} _ s.toks;have g2:∀eo,ax {s with heap:=hu} {s with heap:=(hu.push to).push eo}:=λeo=>g1.trans (ax.push {s with heap:=hu.push to} eo s.toks);have E2:∀eo,dD [] J s.heap ((hu.push to).push eo):=λeo=>E1.trans ((g2 eo).ext [] J) (Gr.refl ..);have le:s.heap.objs.size<=(hu.push to).objs.size:=by rw[pf,sz];exact i4 _
  exact⟨0,U,_,J,rfl,(dI.mk (Nx.mk ((E2 _).IW) (Gr.refl ..) rfl rfl (λa' h=>(g2 _).live a' (lv a' h))) (R1.grow (g2 _)) (pre.er.mono (E2 _) (Gr.refl ..)) (pre.fr.mono (E2 _) (Gr.refl ..) λO ha=>nomatch ha)),
   _,_,_,rfl,k6.mk (cY _ rfl) rfl rfl (iD.mk (jH (aM pre.rel.base le)) (pre.rel.fresh le) (jH le)) (.inl rfl)⟩
def RG(C:Addr)(rest:List Value):(Code.builtin "type.__call__" ⟨.ref C::rest,[]⟩).weight=1:=by kernel_rfl
def RH(C:Addr)(rest:List Value):(Code.builtin "type.__call__" ⟨.ref C::rest,[]⟩).cUnits=1:=by kernel_rfl
def RI(C:Addr)(rest:List Value):(Code.builtin "type.__call__" ⟨.ref C::rest,[]⟩).envs=[]:=by kernel_rfl
noncomputable def zA(A:Around)(C:Addr)(rest:List Value):Around:=A.under (.builtin "type.__call__" ⟨.ref C::rest,[]⟩)
def wN(G:Fm)(C:Addr)(rest:List Value):Fm:=⟨G.K,zA G.A C rest,G.env,G.X⟩
def GQ(C:Addr)(rest:List Value):(zA A C rest).frames=A.frames:=by show pushEnvs (Code.builtin "type.__call__" ⟨.ref C::rest,[]⟩).envs A.frames=_;rw[RI];rfl
def bX.fm{h:Heap}{A':Around}(R:bX V G J U h):bX V ⟨G.K,A',G.env,G.X⟩ J U h:=(bX.mk R.kind R.rO R.rV R.fG R.sH R.qQ R.kJ R.Bb (aq R.ns λm a b=>⟨m,a,kg.mk b.kind b.val⟩) (λx k h1 h2=>ct (R.nD x k h1 h2) λc ov w=>⟨c,ov,gm.mk w.look w.kind w.cell w.loc w.out w.low w.own w.val⟩) R.apart R.inj R.zU)
variable {rest:List Value}
def dB.tc{h:Heap}{C:Addr}(F:dB V (wN G C rest) J h):dB V G J h:=by refine cO F.fr λdZ outer L a1 r=>?_;exact⟨dZ,outer,L,(GQ C rest).symm.trans a1,r⟩
def ao.under(pre:ao V (d+1) q G J U H s)(C:Addr)(rest:List Value):ao V d q (wN G C rest) J U H s:=by
 refine(ao.mk pre.rel pre.er.fm (kW.mk ?_ ?_) pre.hd ?_)
 ·show G.A.depth+(Code.builtin "type.__call__" ⟨.ref C::rest,[]⟩).weight+_+_<_;rw[RG];have:=pre.room.depth;exact FG ‹_›
 ·show G.A.units+(Code.builtin "type.__call__" ⟨.ref C::rest,[]⟩).cUnits+_+_<_;rw[RH];have:=pre.room.units;exact NP ‹_›
 ·refine cO pre.fr.fr λdZ outer L a1 r=>?_;exact⟨dZ,outer,L,(GQ C rest).trans a1,r⟩
def dI.tc{C:Addr}{φ':Ph}{ρ':aC}{H':Hp}{s':Shared}(a:dI V (wN G C rest) J s φ' ρ' H' s'):dI V G J s φ' ρ' H' s':=(dI.mk a.nx a.rel (bX.fm (G:=wN G C rest) (A':=G.A) a.er) a.fr.tc)
def ao.push{p:Addr×Addr}{o:AO}{s':Shared}(pre:ao V d q G J U H s)(g:ax s s')(h1:s.heap.objs.size<=p.2)(h2:∃o,s'.heap.get? p.2=some o)(ho:OR V (J++[p]) s'.heap p o):ao V d q G (J++[p]) U (H++[o]) s'/\Nx G.X J (J++[p]) s s':=
 have gr:Gr J (J++[p]) s.heap:=Gr.push J p (jH h1)
 ⟨(ao.mk (pre.rel.push g.keep h1 h2 (g.at pre.rel) ho) (pre.er.mono (g.ext [] J) gr) pre.room pre.hd (pre.fr.mono (g.ext [] J) gr λO ha=>nomatch ha)),Nx.mk (g.ext G.X J) gr g.gens g.os g.live⟩
variable {vs:List Value}
def Ms(pre:ao V d true G J U H s){s1:Shared}{φ1:Ph}{C x:Addr}{k:Nat}{r:dG AV} 
  (p1:Nx G.X J φ1 s s1) (hx:∃d,φ1[k]?=some (x,d)) (hr:tT U k r≠.stuck) (hρ:∀v ρ' H',r=.ok v ρ' H'->ρ'=U) (T:uc V (wN G C rest) φ1 s1 vf vs r):
  codeAny (model V.prog V.w) (zA G.A C rest) (.call vf ⟨vs,[]⟩) (InitBack x (yL (kH V G J s (tT U k r) (VR V)) (l6 V G J s (tT U k r)))) s1:=by
 cases r with
 |stuck=>exact absurd rfl hr
 |exc=>exact absurd rfl hr
 |ok v ρ' H'=>
  cases v with
  |none=>
   have:=hρ _ _ _ rfl;subst this;refine qL (T nofun) λrr s' z=>?_
   set_option tactic.hygienic true in rcases rr with e|(_|_|_|_)
   ·exact z.not nofun
   all_goals first|exact z.elim|skip
   rename_i v;obtain⟨b,ρ2,H2,φ2,e,a,hR⟩:=z;cases e;subst hR;obtain⟨dd,hx⟩:=hx;exact⟨rfl,_,_,_,φ2,rfl,a.tc.up p1,VR.ref (a.nx.gr.get hx)⟩
  |_=>exact absurd rfl hr
variable {cd:CD}
def I1:(cd.bD.map λO=>(none:Option AV)).length=cd.bD.length:=aJ ..
def IZ{j:Nat}{v:AV}(h:(cd.bD.map λO=>(none:Option AV))[j]?=some (some v)){p:Prop}:p:=by rw[qF] at h;refine um h λO O h=>?_;exact aR h
def abG(ok:o9 V)(Sd:me V E)(pre:ao V d true G J U H s){c:Nat}{xs:List AV}(hc:V.P.gt[c]?=some (.cl cd))(hg:V.gv c=some vf)(hv:aQ V J s.heap vs xs):
  ag V G J s (call vf vs) (vT E d c cd xs U H) (VR V):=by
 cases d with
 |zero=>exact ag.stuck
 |succ d=>
 have C:=ok.cls c cd hc;rw[C.Zv] at hg;obtain rfl:=sj hg;refine ct C.init λfI fd i=>?_;have XX:=yu ok.toBR.toOk pre.rel;have pu:=pre.under (V.clsAt c) vs;have gd:ax s {s with heap:=s.heap.push emptyDict}:=ax.push s emptyDict s.toks;have Ll:ax {s with heap:=s.heap.push emptyDict} {s with heap:=(s.heap.push emptyDict).push (instObj (V.clsAt c) s.heap.objs.size)}:=ax.push {s with heap:=s.heap.push emptyDict} _ s.toks;have wQ:(s.heap.push emptyDict).objs.size=s.heap.objs.size+1:=pf ..;have ed:((s.heap.push emptyDict).push (instObj (V.clsAt c) s.heap.objs.size)).get? s.heap.objs.size=some emptyDict:=ig _ (cY _ rfl);have ex:((s.heap.push emptyDict).push (instObj (V.clsAt c) s.heap.objs.size)).get? (s.heap.objs.size+1)=some (instObj (V.clsAt c) s.heap.objs.size):=by rw[<- wQ];exact cY _ rfl
 have make:∀{Q Ex},codeAny (model V.prog V.w) (zA G.A (V.clsAt c) vs) (.call (.ref fI) ⟨.ref (s.heap.objs.size+1)::vs,[]⟩) (InitBack (s.heap.objs.size+1) (yL Q Ex)) {s with heap:=(s.heap.push emptyDict).push (instObj (V.clsAt c) s.heap.objs.size)} ->
   wpAny (model V.prog V.w) G.A (call (.ref (V.clsAt c)) vs) Q Ex s:=λ{Q Ex} h=>by
  obtain⟨hh,g,dr,t,os⟩:=s;exact BD (make_core (makes_of XX C.makes) (looks_findIn XX i.find) (λself=>bind_fn XX self i.ty) (.inl rfl) h)
 show ag V G J s _ ((match cd.slots with
  |true=>tT U (H.length+1) (E.call d (.glob cd.init) (.ref (H.length+1)::xs) U (H++[.dead,.inst c (cd.bD.map λO=>none)]))
  |false=>tT U H.length (E.call d (.glob cd.init) (.ref H.length::xs) U (H++[.inst c (cd.bD.map λO=>none)]))):dG AV) _
 cases hs:cd.slots with
 |true=>
  intro d7;refine ua (pu.push (p:=(s.heap.objs.size,s.heap.objs.size)) (o:=.dead) gd (bf _) ⟨_,cY _ rfl⟩ trivial) λpd nd=>?_;obtain⟨px,nx⟩:=pd.push (p:=(s.heap.objs.size+1,s.heap.objs.size+1)) (o:=.inst c (cd.bD.map λO=>none)) Ll (aW wQ) ⟨_,ex⟩
   ⟨cd,kY.mk hc I1 (λO=>⟨_,_,mn.mk rfl ex (nT _ (mD _ bA)) (λj v h=>IZ h)⟩) (λh=>by rw[hs] at h;cases h)⟩
  have nn:=nd.trans nx;rw[eW] at px nn;have hx:(J++([(s.heap.objs.size,s.heap.objs.size)]++[(s.heap.objs.size+1,s.heap.objs.size+1)]))[H.length+1]?=some (s.heap.objs.size+1,s.heap.objs.size+1):=by rw[<- pre.rel.len,pG (by exact za)];simp
  rw[eW] at px;exact make (Ms pre nn ⟨_,hx⟩ d7 (λv ρ' H' h=>Sd.rho i.gt h) (Sd.yz px i.gt i.gv (.cons (VR.ref hx) (nn.jW pu.er hv))))
 |false=>
  intro d7;obtain⟨px,nn⟩:=pu.push (p:=(s.heap.objs.size+1,s.heap.objs.size)) (o:=.inst c (cd.bD.map λO=>none)) (gd.trans Ll) (bf _) ⟨_,ed⟩
   ⟨cd,kY.mk hc I1 (λh=>(by rw[hs] at h;cases h)) (λO=>⟨λO=>none,mq.mk (by
    intro hm;rw[ew,ko] at hm;rcases hm with hm|hm
    ·exact pre.rel.fresh (i4 _) hm
    ·simp at hm) ex (Heap.Ns1.of_empty ⟨_,_,_,ed,rfl,λe he=>by simp at he,λO=>rfl⟩) ⟨λy val h=>(nomatch h),λj a hj O=>ue (C.nms a (jS hj)) λx hx=>⟨x,hx,rfl⟩,λj a v hj hf=>IZ hf⟩⟩)⟩
  have hx:(J++[(s.heap.objs.size+1,s.heap.objs.size)])[H.length]?=some (s.heap.objs.size+1,s.heap.objs.size):=by rw[<- pre.rel.len,pG (bf _)];simp
  exact make (Ms pre nn ⟨_,hx⟩ d7 (λv ρ' H' h=>Sd.rho i.gt h) (Sd.yz px i.gt i.gv (.cons (VR.ref hx) (nn.jW pu.er hv))))
def acg{b f x:Addr}{prog:Program}{w:World}(hb:s.heap.get? b=some (methodObj (.ref f) (.ref x)))
  (h:codeAny (model prog w) A (.call (.ref f) ⟨.ref x::vs,[]⟩) (yL Q Ex) s):wpAny (model prog w) A (call (.ref b) vs) Q Ex s:=by
 refine BD (uo ?_);show wpAny _ A.in1 (callAny (.ref b) ⟨vs,[]⟩) _ _ s;unfold callAny;refine ah (wpAny_load hb ?_);dsimp only;rw[if_pos (by decide)];rw[show(#[Value.ref f,Value.ref x]:Array Value)[0]?=some (.ref f) from rfl,show(#[Value.ref f,Value.ref x]:Array Value)[1]?=some (.ref x) from rfl];dsimp only;exact aH ⟨rfl,h⟩
def Q1(ok:o9 V)(Sd:me V E)(pre:ao V d true G J U H s){vo:Value}{ov:AV}{nn c m k:Nat}{fs:List (Option AV)}{args:C}{o':Expr}{name:Str}{apos pos:Pos}(hv:VR V J s.heap vo ov)(ku:oX V H ov m k nn c cd fs)
  (hn:V.nm[m]?=some name) (h2:nY V args G.K=true) (hl:(apos.endLine==pos.line)=true) (rN:(cs args).length<30):
  ag V G J s (methodCall o' name apos pos G.env vo (bN args).length (backTo pos (starEach (bN args) G.env)) []) (I9 E d true k ov args U H) (VR V):=by
 have e1:=ku.ov;subst e1;refine zw (DW ok pre.rel hv ku.at_) λML p ox od mt=>?_;have:=mt.gt;rw[ku.cls] at this;cases this;have C:=mt.cls;refine iJ (C.Dt m k ku.Dt) λx f fd w=>?_;have:=w.nm;rw[hn] at this;obtain rfl:=sj this;refine aq (mt.dct w.II) λmm y vz=>?_;have KA:lookIn name od=some none:=by
  rw[vz];cases hq:mm name with
  |none=>rfl
  |some v=>refine aq (y.fld.name name v hq) λa ha e=>?_;exact absurd e (w.VS a ha)
 rw[mt.eq] at hv⊢;show ag V G J s _ (M.bind (gZ (E.e d true) (cs args)) (λvs=>E.call d (.glob k) (.ref nn::vs)) U H) _;unfold methodCall;refine ik (Cg h2) λe ms wa=>?_;have plain:=λc hc=>(wa.all c hc).1;rcases wa.is with e'|⟨a,pa,e',_⟩
 ·have pl:=C6 (V:=V) (G:=G) (pos:=pos) (env:=G.env) (m:=ms) plain;rw[<- e',<- e] at pl;have yi:methodCallForm (bN args).length (backTo pos (starEach (bN args) G.env)) []=true:=by unfold methodCallForm;rw[pl.1,e,aJ];simp;exact rN
  rw[yi];refine TT.imp (λQ Ex h=>ah (c8 (method_fn mt.fr mt.inst C.A5 C.Eh w.find w.ty (show(lookIn name od).map (·.isSome)=some false by rw[KA];rfl) (ah (ib (by unfold methodCallPos;simp[hl]:methodCallPos true o' G.env apos pos=pure pos) (Fe (JN ok.toBR.toOk w.gv) h)))))) (TT.seq (Nx.refl ..) pre (yR Sd.tod3 pre h2) λa xs ρ1 H1 φ1 s1 n1 k1 q1 g1=>?_);intro hs;refine⟨yu ok.toBR.toOk q1.rel,?_⟩;rw[g1.kw];exact TT.last k1 (Sd.call q1 (n1.vr pre.er (w.gv:VR V J s.heap (.ref f) (.glob k))) (.cons (n1.vr pre.er hv) g1.all)) hs
 ·have p1:=Sl (V:=V) (G:=G) (pos:=pos) (env:=G.env) (a:=a) (p:=pa) (m:=ms) plain;rw[<- e',<- e] at p1;have yi:methodCallForm (bN args).length (backTo pos (starEach (bN args) G.env)) []=false:=by unfold methodCallForm;rw[p1];rfl
  rw[yi];refine aq C.DQ λkk hk hd=>?_;rw[w.II] at hd;have Ei:findObj V.fr (V.clsAt c) (some od) name=some (.bind (.builtin "function.__get__") (.ref f)):=by
   unfold findObj;rw[hk,pj,w.find,pj];dsimp only;rw[w.get,pj];dsimp only;rw[w.takes,pj];dsimp only;unfold W.ownOf;rw[hd];show(lookIn name od).bind _=_;rw[KA,w.V4]
   rfl
  have g:ax s {s with heap:=s.heap.push (methodObj (.ref f) (.ref p.1)),toks:=s.toks+1}:=ax.push s _ _;have C3:=pre.grow g;have eb:(s.heap.push (methodObj (.ref f) (.ref p.1))).get? s.heap.objs.size=some (methodObj (.ref f) (.ref p.1)):=cY _ rfl;refine TT.imp (W:=λQ Ex=>wpAny (model V.prog V.w) G.A (callWith pos (.ref s.heap.objs.size) [] (backTo pos (starEach (bN args) G.env)) []) Q Ex {s with heap:=s.heap.push (methodObj (.ref f) (.ref p.1)),toks:=s.toks+1}) (λQ Ex h=>?_) ?_
  ·refine ah (c8 ?_);show wpAny _ _ (do pure (<- getAttr (.ref p.1) name true,([]:List Value))) _ _ _;refine ah (get_bind mt.fr mt.inst C.A5 Ei C.Eh (wpAny_call (fn_get (s:={s with toks:=s.toks+1}) mt.fr w.ty ?_)));exact handed_on rfl (aH (ah (ib (by unfold methodCallPos;simp:methodCallPos false o' G.env apos pos=pure pos) h)))
  refine TT.imp (λQ Ex h=>Fe (first:=[]) (P:=MethP V.fr s.heap.objs.size f (.ref p.1)) (keeps_M w.fn) h)
   (TT.seq (s:={s with heap:=s.heap.push (methodObj (.ref f) (.ref p.1)),toks:=s.toks+1}) (g.nx G.X J) C3 (yR Sd.tod3 C3 h2) λa xs ρ1 H1 φ1 s1 n1 k1 q1 g1=>?_)
  intro hs;have L3:s1.heap.get? s.heap.objs.size=some (methodObj (.ref f) (.ref p.1)):=n1.ext.get C3.er.fG eb (pre.rel.fresh (bf s.heap.objs.size)) (.mk' (T:="method") rfl (by decide) (by simp) (by simp));refine⟨⟨L3,yu ok.toBR.toOk q1.rel⟩,?_⟩;rw[g1.kw];refine acg L3 (qL (Sd.yz q1 w.gt w.gv (.cons (k1.vr pre.er hv) g1.all) hs) λrr s' z=>?_);rcases rr with e|(_|_|_|_)
  ·exact l6.up k1 z
  all_goals first|exact z.elim|exact kH.up k1 z
end
section
variable {V:Cf}{G:Fm}{φ₀ J:Ph}{s₀ s:Shared}{U:aC}{H:Hp}{d:Nat}{q:Bool}{E:Ev}
noncomputable def yM:List Value:=[.type "ValueError",.type "Exception",.type "BaseException",.type "object"]
structure Np(V:Cf)(k:Nat)(nm q:Str)(N:Addr)(bs:List Value)(hdct sn sub ab col dd k0 k1 k2 k3 k5:_)(mN:Str->Option Value):Prop where
 get:V.h₀.get? (V.clsAt k)=some (excClassObj nm q (V.clsAt k) N bs yM hdct sn sub ab col dd k0 k1 k2 k3 k5 "ValueError.__new__")
 ns:V.h₀.Ns N mN
 init:mN "__init__"=none
inductive BS(V:Cf)(k:Nat):Nat->Prop where
 |stop (h:V.gv k=some (.type "StopIteration")):BS V k 0
 |own (h:V.gv k=some (.ref (V.clsAt k))) (x:∃nm q N bs hdct sn sub ab col dd k0 k1 k2 k3 k5 mN,Np V k nm q N bs hdct sn sub ab col dd k0 k1 k2 k3 k5 mN):BS V k (k+1)
structure rY(V:Cf):Prop extends o9 V where
 exc:∀k x,V.P.gt[k]?=some (.exc x)->BS V k x
variable {k x:Nat}
def rY.gv(ok:rY V)(hk:V.P.gt[k]?=some (.exc x)):∃v,V.gv k=some v:=by
 cases ok.exc k x hk with
 |stop h=>exact⟨_,h⟩
 |own h _=>exact⟨_,h⟩
variable {nx:Str}{np:Pos}{v:Value}{A:Around}
def LN(ok:rY V)(pre:ao V d q G J U H s)(h1:uC V G.K nx k=true)(hk:V.P.gt[k]?=some (.exc x))(hv:V.gv k=some v):
  ∀Q Ex,Q v s->wpAny (model V.prog V.w) A (eval (.Name nx np) G.env) Q Ex s:=by
 intro Q Ex h;refine jx h1 λh2 h4 h3=>?_;refine aq (Lf pre ok.toBQ (of_decide_eq_true h4) (of_decide_eq_true h3)) λw hw hl=>?_;have:=hw _ hk;have:V.gv k=some w:=this;rw[hv] at this;obtain rfl:=sj this;exact wpAny_Name (hl Q Ex h A) (Dd h2)
def QK{K:Cx}{l:C}:jU V l K=true->nY V l K=true:=by
 induction l with
 |nil=>exact λO=>rfl
 |cons a r _ ih=>intro h;refine jx h λh1 h2 h3=>?_;show(wf V a K&&match a.kB with|some _=>qe r|none=>uZ (au a)&&nY V r K)=true;rw[G8 h1,h2,h1,ih h3];rfl
 |_=>exact cR
def Tu(ok:rY V)(Sd:d3 V E)(pre:ao V d q G J U H s){args:C}{Mk pos:Pos}(h1:uC V G.K nx k=true)(h2:jU V args G.K=true):
  ag V G J s (exec (.Raise (some (.Call (.Name nx np) (bN args) [] Mk)) none pos) G.env) (Il V.P E d q k args U H) (d6 V):=by
 cases q with
 |false=>exact ag.stuck
 |true=>
  show ag V G J s _ ((match ae V.P.gt k with
   |some (.exc x)=>match x with
    |0=>M.stuck
    |x+1=>M.bind (gZ (E.e d true) (cs args)) λvs=>match Nat.ble vs.length 100 with|true=>EK (x+1)|false=>M.stuck
   |_=>M.stuck) U H) _
  rw[cQ];cases hk:V.P.gt[k]? with
  |none=>exact ag.stuck
  |some g=>
   cases g with
   |exc x=>
    cases ok.exc k x hk with
    |stop=>exact ag.stuck
    |own hg x=>
     obtain⟨nm,q,N,bs,hdct,sn,sub,ab,col,dd,k0,k1,k2,k3,k5,mN,x⟩:=x;refine ua (uB h2) λe0 h3=>?_;have AZ:=(C6 (V:=V) (G:=G) (pos:=Mk) (env:=G.env) h3).2;rw[<- e0] at AZ;refine TT.imp (λQ Ex h=>wpAny_Raise_call_sub (nm:=nm) (q:=q) (C:=V.clsAt k) (N:=N) (bs:=bs) (hdct:=hdct) (sn:=sn) (sub:=sub) (ab:=ab) (col:=col) (dd:=dd) (k0:=k0) (k1:=k1) (k2:=k2) (k3:=k3) (k5:=k5) PySem.F.excBase_ValueError (pre.hd rfl) AZ x.init (LN ok pre h1 hk hg _ _ ⟨rfl,h⟩)) (TT.seq (Nx.refl ..) pre (yR Sd pre (QK h2)) λa xs ρ1 H1 φ1 s1 n1 m1 p1 r1=>?_);intro hs;cases hb:Nat.ble xs.length 100 with
     |false=>rw[hb] at hs;exact absurd rfl hs
     |true=>
      refine⟨r1.kw,?_,p1.rel.keep _ _ x.get,x.ns.keeps p1.rel.keep,λh' e mk=>?_⟩
      ·rw[r1.all.length];exact aM (gO hb) (by decide)
      ·obtain⟨t,e1,e2,e3⟩:=mk.there;have g:ax s1 {s1 with heap:=h'}:=ax.mk mk.keeps rfl rfl;have no:¬ cN s1.heap e:=λ⟨o,eo⟩=>by rw[mk.new] at eo;exact aR eo
       exact⟨k+1,ρ1,H1,φ1,rfl,(p1.grow g).rX (m1.trans (g.nx G.X φ1)),e,_,_,rfl,k6.mk e1 rfl rfl (iD.mk (λ⟨o,eo⟩=>no ⟨o,p1.rel.keep _ o eo⟩) (p1.rel.out no) (λo=>no (m1.live _ o))) (.inl rfl)⟩
   |_=>exact ag.stuck
def d5.none(R:aZ V J H s.heap)(h₁:Heap):d5 V J h₁ [] s s:=(d5.mk (dD.refl ..) (λa h=>(by cases h)) (λa h=>(by cases h)) R.keep (λO O=>rfl) rfl rfl (λO h=>h))
variable {Ex:Value->Shared->Prop}
def Z4{M:Model}(R:aZ V J H s.heap){h₁:Heap}(x:o6 V J h₁ s.heap v k){Q:Unit->Shared->Prop} 
  (h:∀Y s',d5 V J h₁ Y s s'->Q () s'):wpAny M A (setFlight v none) Q Ex s:=by
 obtain⟨e,oe,vs,rfl,x⟩:=x;unfold setFlight;rcases x.tb with ht|⟨T,oT,ts,b1,b3,bn,b⟩
 ·refine ah (qK x.get x.data ht ?_);rw[if_neg (by decide)];exact aH (h [] s (d5.none R h₁))
 ·refine ah (qK x.get x.data b1 ?_);rw[if_pos (show(Value.ref T != Value.none)=true from by simp)];refine uj b.get b.data (wj.mp b.zero).1 ?_;have other:∀b,b≠T->(s.heap.update T (Obj.mapFields (·.setIfInBounds 3 Value.none))).get? b=s.heap.get? b:=λb hb=>pE _ _ (fi hb);have hT:=qJ (Obj.mapFields (·.setIfInBounds 3 Value.none)) b.get (zf (wy b.data _));refine h [T] _ (d5.mk ⟨λa o e' h1 h2=>.inl ((other a λq=>h2 (fU.mpr q)).trans e')⟩ (λa ha=>?_) (λa ha=>?_) (λa o e'=>?_) (λp hp=>?_) rfl rfl (λa bV=>ue bV λo e'=>?_))
  ·rw[rF ha];exact⟨oT,b.get,ki.mk ⟨ts,b.data⟩ (λS hS=>by rw[b.cls] at hS;cases hS;rfl)⟩
  ·rw[rF ha];exact bn
  ·exact(other a λq=>bn.h0 ⟨o,q▸e'⟩).trans (R.keep a o e')
  ·exact other _ λq=>bn.out (q▸pq hp)
  ·by_cases q:a=T
   ·rw[q];exact⟨_,hT⟩
   ·exact⟨o,(other a q).trans e'⟩
noncomputable def AA(G:Fm)(e:Value):Fm:=⟨G.K,G.A.mark (some e),G.env,G.X⟩
def ao.mark(pre:ao V d q G J U H s)(e:Value):ao V d false (AA G e) J U H s:=(ao.mk pre.rel pre.er.fm (kW.mk pre.room.depth pre.room.units) (λh=>nomatch h) ⟨pre.fr.fr⟩)
def dI.unmark{e:Value}{φ':Ph}{ρ':aC}{H':Hp}{s':Shared}(a:dI V (AA G e) J s φ' ρ' H' s'):dI V G J s φ' ρ' H' s':=(dI.mk a.nx a.rel (bX.fm (G:=AA G e) (A':=G.A) a.er) ⟨a.fr.fr⟩)
def Ww(ok:rY V)(R:aZ V J H s.heap)(hk:V.P.gt[k]?=some (.exc x)){c:Value}{h₁:Heap}(hx:o6 V J h₁ s.heap v x)(hg:V.gv k=some c){M:Model}{Q:Bool->Shared->Prop}(h:Q true s):
  wpAny M A (excMatches v c) Q Ex s:=by
 refine cO hx λe oe vs aa x=>?_;clear hx;subst aa;cases ok.exc k _ hk with
 |stop g1=>rw[hg] at g1;obtain rfl:=sj g1;exact wpAny_excMatches_type ⟨oe,x.get,x.cls⟩ (by rw[isSubtype_type];kernel_rfl) (by rw[isSubtype_type];kernel_rfl) isSubtype_stop h
 |own g1 y=>obtain⟨nm,q,N,bs,hdct,sn,sub,ab,col,dd,k0,k1,k2,k3,k5,mN,y⟩:=y;rw[hg] at g1;obtain rfl:=sj g1;obtain⟨hh,g,dr,t,os⟩:=s;exact wpAny_excMatches_sub_self (R.keep _ _ y.get) x.get x.cls (by decide) h
def Rt(P:bP)(E:Ev)(d:Nat)(k:Nat)(h:S)(r:dG Fl):dG Fl:=match r with
 |.ok f ρ' H'=>.ok f ρ' H'
 |.exc x ρ' H'=>vC P E d k h x ρ' H'
 |.stuck=>.stuck
variable {h:S}
def Ze(ok:rY V)(Sd:vY V E)(pre:ao V d true G J U H s){hp:Pos}(h2:uC V G.K nx k=true)(h3:eX V h G.K=true)(h4:(ss h).isEmpty=false)(hk:V.P.gt[k]?=some (.exc x))
  {e:Value} {s1:Shared} {φ1:Ph} {ρ1:aC} {H1:Hp} (x1:o6 V φ1 s.heap s1.heap e x) (a:dI V G J s φ1 ρ1 H1 s1) {R:dG Fl} (eR:M.calm (cW (E.s d false) (ss h)) ρ1 H1=R) (d7:R≠.stuck):
  wpAny (model V.prog V.w) G.A (noteFrame e G.env) (λO s₂=>wpAny (model V.prog V.w) G.A (setFlight e none) (λO s₃=>wpAny (model V.prog V.w) G.A (handleBy e G.env [.ExceptHandler (some (.Name nx np)) none (c9 h) hp]) (kH V G J s R (d6 V)) (l6 V G J s R) s₃) (l6 V G J s R) s₂) (l6 V G J s R) s1:=by
 refine IL a.rel a.fr a.nx.live x1 λY s2 nt x2=>?_;have apart:∀{Y:List Addr} {s' ja:Shared},d5 V φ1 s.heap Y s' ja->∀a∈G.X,a∉Y:=λnt a ha hY=>(pre.er.fG a ha).elim λo eo=>(nt.new a hY).new ⟨o,eo.1⟩;have p2:=(a.pre pre).note nt (apart nt);have n2:=a.nx.note nt;clear a x1 pre;refine ue (ok.gv hk) λcv KP=>?_;obtain⟨h0,hs,KQ⟩:∃h0 hs,c9 h=h0::hs:=by
  rw[(Gj h3).1];cases YE:ss h with
  |nil=>rw[YE] at h4;cases h4
  |cons c r=>exact⟨_,_,rfl⟩
 have vr:∃ea,e=.ref ea:=x2.imp λO y=>dN y λO O q O=>q;refine ue vr λea aa=>?_;clear vr;subst aa;rw[KQ];refine wpAny_handleBy_cons (codeAny_handlers_test (LN ok p2 h2 hk KP _ _ (Ww ok p2.rel hk x2 KP ?_))) (λq=>nomatch q);refine codeAny_handlers_suite (Z4 p2.rel x2 λY' s3 Dg=>?_);subst eR;rw[<- KQ];exact cz (TT.yK (TT.last (G:=AA G (.ref ea)) (φ₀:=J) (s₀:=s) (n2.note Dg) (qo Sd ((p2.note Dg (apart Dg)).mark (.ref ea)) h3)) d7) (λf s4 bV=>i7 bV λb ρ' H' φ' e a r=>⟨b,ρ',H',φ',e,a.unmark,r⟩) λO O z=>z.elim
def Zf{ρ1:aC}{H1:Hp}(d7:vC V.P E d k h x ρ1 H1≠.stuck):V.P.gt[k]?=some (.exc x)/\M.calm (cW (E.s d false) (ss h)) ρ1 H1=vC V.P E d k h x ρ1 H1:=by
 unfold vC at d7⊢;rw[cQ] at d7⊢;cases hk:V.P.gt[k]? with
 |none=>rw[hk] at d7;exact absurd rfl d7
 |some ge=>
  rw[hk] at d7;cases ge with
  |exc y=>
   dsimp only at d7⊢;cases Kl:Nat.beq y x with
   |false=>rw[Kl] at d7;exact absurd rfl d7
   |true=>exact⟨by rw[bW Kl],rfl⟩
  |_=>exact absurd rfl d7
def Tr(ok:rY V)(Sd:vY V E)(pre:ao V d q G J U H s){b:S}{hp pos:Pos}(h1:eX V b G.K=true)(h2:uC V G.K nx k=true)(h3:eX V h G.K=true)(h4:(ss h).isEmpty=false):
  ag V G J s (exec (.Try (c9 b) [.ExceptHandler (some (.Name nx np)) none (c9 h) hp] [] [] pos) G.env) (uG V.P E d q b k h U H) (d6 V):=by
 cases q with
 |false=>exact ag.stuck
 |true=>
 show ag V G J s _ (Rt V.P E d k h (cW (E.s d true) (ss b) U H)) (d6 V);have T:=qo Sd pre h1;generalize cW (E.s d true) (ss b) U H=r at T⊢;intro d7;refine wpAny_Try_except ?_;cases r with
 |stuck=>exact absurd rfl d7
 |ok fl ρ1 H1=>
  refine cz (T nofun) (λf s1 z=>?_) λe s1 z=>z.not nofun;cases f with
  |next=>exact aH z
  |_=>exact z
 |exc x ρ1 H1=>
  have hh:=Zf d7;refine cz (T nofun) (λf s1 z=>z.not nofun) λe s1 z=>?_;refine i7 z λy' ρ2 H2 φ1 e' a x1=>?_;clear z;injection e' with q1 q2 q3
  subst q1 q2 q3;exact Ze ok Sd pre h2 h3 h4 hh.1 x1 a hh.2 d7
end
section
variable {V:Cf}{G:Fm}{A:Around}{φ₀ J:Ph}{s₀ s:Shared}{U:aC}{H:Hp}{d:Nat}{q:Bool}{E:Ev}
noncomputable def yN(b:BI):Value:=match b with
 |.len=>.builtin "len"
 |.abs=>.builtin "abs"
 |.divmod=>.builtin "divmod"
 |.min=>.builtin "min"
 |.sorted=>.builtin "sorted"
 |.chr=>.builtin "chr"
 |.iter=>.builtin "iter"
 |.range=>.type "range"
 |.int=>.type "int"
 |.tuple=>.type "tuple"
 |.bool=>.type "bool"
 |.set=>.type "set"
 |.max=>.builtin "max"
def fQ.tri{t:Sem Value}{b:AV}(pre:ao V d q G J U H s)(m:fQ V G J s t b):ag V G J s t (.ok b U H) (VR V):=ag.quiet pre m
def acK(pre:ao V d q G J U H s)(ok:ef V){v:Value}{x:AV}{k:Nat}(hx:VR V J s.heap v x)(e:JC x H=some k)(hk:k<=az):fQ V G J s (call (.builtin "len") [v]) (.int k):=by
 intro Q Ex h;have f:=vF hk;have g:ax s {s with toks:=s.toks+1+1}:=ax.toks ..;have sz:∀{n:Nat} {t:Tok} {s':Shared},n=k->VR V J s'.heap (.int (n:Int) t) (.int k):=λh=>h▸.lit _ _;cases x with
 |lst l=>
  obtain rfl:=sj e;refine cO hx λa items n aa y=>?_;clear hx;subst aa;have z:items.toArray.size=l.length:=by rw[dj,y.all.length]
  exact Calls.call_len_list ⟨_,y.at_,rfl,_,rfl⟩ (by rw[z];exact f) (h _ _ g (sz z))
 |tup l=>
  obtain rfl:=sj e;refine cO hx λa items n aa y=>?_;clear hx;subst aa;have z:items.toArray.size=l.length:=by rw[dj,y.all.length]
  exact PyProof.Rows.len_tuple ⟨_,y.at_,rfl,_,rfl⟩ (by rw[z];exact f) (h _ _ g (sz z))
 |str l=>
  obtain rfl:=sj e;refine aq hx λt aa o=>?_;clear hx;subst aa;have z:(V.tx l).length=l.length:=by show(V.enc l).toArray.size=_;rw[dj,rU]
  exact len_str (by rw[z];simpa using f) (h _ _ g (sz z))
 |ref nn=>
  refine aq (ij hx rfl) λp aa hp=>?_;subst aa;have e:(match bx H nn with
   |some l=>some l.length
   |none=>(cD H nn).map λr=>r.2.length)=some k:=e
  cases hl:bx H nn with
  |some l=>
   rw[hl] at e;obtain rfl:=sj e;refine ll (pre.rel.list hl hp) λpe items n y=>?_;have z:items.toArray.size=l.length:=by rw[dj,y.all.length]
   exact Calls.call_len_list ⟨_,y.at_,rfl,_,rfl⟩ (by rw[z];exact f) (h _ _ g (sz z))
  |none=>rw[hl] at e;refine um e λr h1 aa=>?_;subst aa;refine ik (pre.rel.dictAt h1 hp) λpe lO y=>?_;exact call_len_dict (xG pre.rel hp pe ok.big) y.at_.dictOf (by rw[y.len];exact f) (h _ _ g (sz y.len))
 |_=>exact aR e
variable {b:Int}{t:Tok}
def HV{a c:Int}{u v:Tok}{s':Shared}(pre:ao V d q G J U H s)(h:IsRange s'.heap s.heap.objs.size a b c t u v)(ok:oy a b c=true):VR V J s'.heap (.ref s.heap.objs.size) (.dF a b c):=⟨_,_,_,_,rfl,h,pre.rel.fresh (bf _),ok⟩
def acI(pre:ao V d q G J U H s)(ok:oy 0 b 1=true):fQ V G J s (call (.type "range") [.int b t]) (.dF 0 b 1):=λQ Ex h=>call_range_1 (h _ _ (ax.push s _ _) (HV pre (IsRange.new ..) ok))
def acH(pre:ao V d q G J U H s){a:Int}{u:Tok}(ok:oy a b 1=true):fQ V G J s (call (.type "range") [.int a t,.int b u]) (.dF a b 1):=λQ Ex h=>call_range_2 (h _ _ (ax.push s _ _) (HV pre (IsRange.new ..) ok))
def acN(pre:ao V d q G J U H s){a:Int}{u:Tok}(hb:b≠0)(hs:b.natAbs<2^200):fQ V G J s (call (.builtin "divmod") [.int a t,.int b u]) (.tup [.int (a.fdiv b),.int (a.fmod b)]):=λQ Ex h=>divmod_int hb (h _ _ (ax.push s _ _) (.tup (items:=[.int (a.fdiv b) s.toks,.int (a.fmod b) (s.toks+1)]) (Sq.mk (cY _ rfl) (pre.rel.fresh (bf _)) (.cons (.lit ..) (.cons (.lit ..) .nil)) (show 2<=az by decide)))) (.inl (PyProof.noPylong_of_log2 (Hi hs)))
def acO{c:Nat}(h1:c<16):fQ V G J s (call (.builtin "chr") [.int (65+c:Nat) t]) (.str [c]):=λQ Ex h=>P.chr_of_int (by simp;exact⟨Int.add_nonneg (by decide) (kq c),show((65+c:Nat):Int)<=((1114111:Nat):Int) from nO.mpr (aM (mA (fF h1) 65) (by decide))⟩) (h _ _ (ax.toks s _) (VR.str (V:=V) (l:=[c]) (.one h1)))
def acQ{i:Int}:fQ V G J s (call (.builtin "abs") [.int i t]) (.int (if i<0 then -i else i)):=λQ Ex h=>call_abs_int λu tk=>h _ _ (ax.toks s _) (.lit ..)
def acM{i:Int}:fQ V G J s (call (.type "int") [.int i t]) (.int i):=λQ Ex h=>call_int_int (h _ _ (ax.refl s) (.lit ..))
def acG(pre:ao V d q G J U H s):ag V G J s (call (.type "set") []) (.ok (.ref H.length) U (H++[.set []])) (VR V):=
 ag.fresh pre λQ Ex h=>call_set_0 λled=>h _ _ (s.heap.objs.size,s.heap.objs.size) (ax.push s _ _) (bf _) ⟨_,cY _ rfl⟩
  ⟨rfl,⟨_,#[],0,_,cY _ rfl,⟨rfl,rfl,rfl⟩,rfl,(λe he=>nomatch he),(λk=>Iff.intro (λh=>nomatch h) (λbV=>aq bV λe he O=>nomatch he)),by decide,rfl,rfl⟩⟩ (xm J _ pre.rel.len)
variable {p:Addr×Addr}{l:List AV}
def acL(pre:ao V d q G J U H s){nn:Nat}(hp:J[nn]?=some p)(hl:bx H nn=some l):
  ag V G J s (call (.builtin "iter") [.ref p.1]) (.ok (.ref H.length) U (H++[.iter nn 0])) (VR V):=by
 refine ll (pre.rel.list hl hp) λpe items n y=>?_;refine ag.fresh pre λQ Ex h=>Calls.call_function_entry (id:="iter") (by decide +kernel) (by decide +kernel) (entryFor_of_tree (b:=Builtin.«iter») (by kernel_rfl)) (by unfold argsOk;kernel_rfl) ?_;unfold Builtin.«iter»;refine ah (ib (show someArgs "iter" 1 2 ⟨[.ref p.1],[]⟩=pure [.ref p.1] from rfl) ?_);refine ah (wpAny_pyIter_list ⟨_,y.at_,rfl,_,rfl⟩ (aH ⟨_,rfl,?_⟩));refine h _ _ (s.heap.objs.size,s.heap.objs.size) (ax.push s _ _) (bf _) ⟨_,cY _ rfl⟩ ⟨p,_,oZ.mk rfl ?_ (cY _ rfl)⟩ (xm J _ pre.rel.len);rw[wi (mE.mp hp).1];exact hp
def acE(pre:ao V d q G J U H s){v:Value}{x:AV}(hx:VR V J s.heap v x)(e:cH H x=some l):fQ V G J s (call (.type "tuple") [v]) (.tup l):=by intro Q Ex h;refine iJ (lg pre.rel hx e) λa items n y=>?_;rw[y.eq];refine call_tuple_list ⟨_,y.at_,rfl,_,rfl⟩ (λh' hk=>?_) (i8 y.small);have g:ax s {s with heap:=h'.push {cls:=.type "tuple",data:=.seq items.toArray}}:=(ax.mk (λb o e=>ig _ (hk b o e)) rfl rfl);refine h _ _ g (.tup (Sq.mk (cY _ rfl) (λhm=>?_) (g.jW y.all) y.len));refine aq (bU.mp hm) λp hp e'=>?_;refine ue (pre.rel.live p hp) λo eo=>?_;exact absurd (fx (hk _ _ eo)) (by rw[e'];exact jQ _)
def acm(l:Addr)(items:Array Value):Meets (Builtin.«bool.__new__» ⟨[.type "bool",.ref l],[]⟩) (λO R s=>s.heap.IsList l items/\(items.size:Int)<2^63/\R (.ok (.ret (.bool (!items.isEmpty)))) {s with toks:=s.toks+1+1}):=
 Meets.of_wp λprog w A R s hs=>by
  obtain⟨hl,A7,hs⟩:=hs;obtain⟨hp,g,d,tk,os⟩:=s;have f1:=F.conv_sub_bool
  repeat (any_goals (first|assumption|(with_reducible refine wpAny_truthy_list hl A7 ?_)|wp_step))
  all_goals first|exact⟨_,rfl,hs⟩|exact hs|skip
def acP(pre:ao V d q G J U H s){nn:Nat}(hp:J[nn]?=some p)(hl:bx H nn=some l):fQ V G J s (call (.type "bool") [.ref p.1]) (.bool (!l.isEmpty)):=by intro Q Ex h;refine ll (pre.rel.list hl hp) λpe items n y=>?_;refine call_bool_1 (acm p.1 items.toArray) ⟨⟨_,y.at_,rfl,_,rfl⟩,vF y.small,rfl,h _ _ (ax.toks s _) ?_⟩;rw[J4 y.all];exact .bool _
end
section
variable {V:Cf}{G:Fm}{A:Around}{φ₀ J:Ph}{s₀ s:Shared}{U:aC}{H:Hp}{d:Nat}{q:Bool}{E:Ev}
def Yc{h:Heap}:∀{l:List AV} {vs:List Value} {ns:List Int},aQ V J h vs l->lS l=some ns->vs.length=ns.length/\∀(i:Nat) (v:Value),vs[i]?=some v->∃t,v=.int (ns.getD i 0) t:=by
 intro l
 induction l with
 |nil=>intro _ _ r e;subst r;obtain rfl:=sj e;exact⟨rfl,λi v h=>aR h⟩
 |cons x l ih=>
  intro _ _ r e;refine bB r λv r' q hv hr=>?_;clear r;subst q;refine ub e λi h1 e=>?_;refine um e λns h2 aa=>?_;subst aa;refine ue (eE hv h1) λt aa=>?_;subst aa;refine ua (ih hr h2) λhl ha=>?_;refine⟨congrArg (·+1) hl,λj w hw=>?_⟩;cases j with
  |zero=>exact⟨t,(sj hw).symm⟩
  |succ j=>exact ha j w hw
def Wv(x:Int):∀(l:List Int) (b:Int),oB (l++[x]) b=if oB l b<x then x else oB l b:=by
 intro l
 induction l with
 |nil=>intro b;show(match fZ b x with|true=>x|false=>b)=if b<x then x else b;rw[rG];by_cases h:b<x<;>simp[h]
 |cons y l ih=>intro b;exact ih _
def acD{val:Nat->Int}{y:Int}{ys:List Int}(h0:val 0=y)(h:∀i,i<ys.length->val (i+1)=ys.getD i 0):∀k,k<=ys.length->val (argBest (λi j=>decide (val i>val j)) k)=oB (ys.take k) y:=by
 intro k
 induction k with
 |zero=>intro _;exact h0
 |succ k ih=>
  intro hk;have e:=ih (nR hk);have hx:=h k hk;have ht:ys.take (k+1)=ys.take k++[ys.getD k 0]:=by rw[List.take_add_one,k8,pF hk];rfl
  rw[ht,Wv,<- e,<- hx];show val (if decide (val (k+1)>val (argBest _ k))=true then k+1 else argBest _ k)=_;by_cases c:val (argBest (λi j=>decide (val i>val j)) k)<val (k+1)
  ·rw[if_pos (decide_eq_true c),if_pos c]
  ·rw[if_neg (by rw[decide_eq_false c];exact qG),if_neg c]
def acJ(pre:ao V d true G J U H s){v:Value}{x:AV}{l:List AV}{y:Int}{ys:List Int}(hx:VR V J s.heap v x)(hl:cH H x=some l)(hn:lS l=some (y::ys)):fQ V G J s (call (.builtin "max") [v]) (.int (oB ys y)):=by
 intro Q Ex hq;refine iJ (lg pre.rel hx hl) λa items nn z=>?_;refine ua (Yc z.all hn) λhlen KV=>?_;rw[z.eq];have hI:s.heap.IsList a items.toArray:=⟨_,z.at_,rfl,_,rfl⟩;have ir:a<s.heap.objs.size:=fx z.at_;have sz:items.toArray.size=ys.length+1:=by rw[dj,hlen];rfl
 refine call_max_walk (wpAny_pyIter_list hI ⟨_,_,_,_,_,_,_,rfl,Walks.list (A:=G.A.in1) (pre.hd rfl) _ a (dT ir) items.toArray,⟨⟨_,cY _ rfl,rfl,rfl⟩,hI.push _⟩,λb hb=>?_,by rw[sz];exact qO _,
  CmpOf.ints_gt ((y::ys).getD · 0) (λi w hw=>KV i w (by rw[<- pB];exact hw)),λw h' tk hP hk=>?_⟩)
 ·show b<(s.heap.push _).objs.size;rw[pf];rcases bQ.mp hb with rfl|hb
  ·exact wo _
  ·rw[fU.mp hb];exact Nat.lt_succ_of_lt ir
 ·refine ue (KV _ w (by rw[<- pB];exact hP)) λt aa=>?_;subst aa;have key:=acD (val:=λi=>(y::ys).getD i 0) (ys:=ys) rfl (λi O=>rfl) ys.length (bf _);rw[List.take_length] at key;rw[sz] at *;refine hq _ _ (ax.mk (λb o e=>hk b o (λhm=>?_) (ig _ e)) rfl rfl) ⟨t,congrArg (Value.int · t) key⟩;rw[fU.mp hm] at e;exact absurd (fx e) (jQ _)
def GG(pre:ao V d true G J U H s){va vb:Value}{a b:List Nat}(ha:VR V J s.heap va (.str a))(hb:VR V J s.heap vb (.str b)):
  fQ V G J s (call (.builtin "min") [va,vb]) (.str (match bu b a with|true=>b|false=>a))/\fQ V G J s (call (.builtin "max") [va,vb]) (.str (match bu a b with|true=>b|false=>a)):=by
 refine aq ha λt aa oa=>?_;clear ha;subst aa;refine aq hb λu aa ob=>?_;clear hb;subst aa;generalize AY:(#[.str (V.tx a) t,.str (V.tx b) u]:Array Value)=vs;have hT:(s.heap.push {cls:=.type "tuple",data:=.seq #[.str (V.tx a) t,.str (V.tx b) u]}).IsTuple s.heap.objs.size vs:=⟨_,cY _ rfl,rfl,0,by rw[AY]⟩;have sz:(s.heap.push {cls:=.type "tuple",data:=.seq #[.str (V.tx a) t,.str (V.tx b) u]}).objs.size=s.heap.objs.size+1:=pf ..;have hn:vs.size=2:=by rw[<- AY];rfl
 have at_:∀(i:Nat) (v:Value),vs[i]?=some v->∃t,v=.str (V.tx (match i with|0=>a|_=>b)) t:=λi v h=>by
  rw[<- AY] at h
  match i,h with
  |0,h=>exact⟨t,(sj h).symm⟩
  |1,h=>exact⟨u,(sj h).symm⟩
 have less:∀x y:List Nat,decide ((V.tx x).cps.toList<(V.tx y).cps.toList)=bu x y:=λx y=>by
  rw[pg,decide_eq_true_iff]
  simpa[Cf.tx] using Bq x y
 have old:∀{h':Heap} {o:Obj},(∀c o',c∉[s.heap.objs.size+1]->((s.heap.push {cls:=.type "tuple",data:=.seq #[.str (V.tx a) t,.str (V.tx b) u]}).push o).get? c=some o'->h'.get? c=some o')->∀c o',s.heap.get? c=some o'->h'.get? c=some o':=λhk c o' e=>by refine hk c o' (λhm=>?_) (ig _ (ig _ e));rw[fU.mp hm] at e;exact absurd (fx e) (hZ.mpr (i4 _))
 have room:∀c∈[(s.heap.push {cls:=.type "tuple",data:=.seq #[.str (V.tx a) t,.str (V.tx b) u]}).objs.size,s.heap.objs.size],∀o,c<((s.heap.push {cls:=.type "tuple",data:=.seq #[.str (V.tx a) t,.str (V.tx b) u]}).push o).objs.size:=λc hc o=>by
  rw[pf,sz];rcases bQ.mp hc with rfl|hc
  ·rw[sz];exact wo _
  ·rw[fU.mp hc];exact Nat.lt_succ_of_lt (wo _)
 have pick:∀{c:Bool} {v:Value} {bt:Nat->Nat->Bool},bt 1 0=c->vs[argBest bt (vs.size-1)]?=some v->VR V J s.heap v (.str (match c with|true=>b|false=>a)):=λ{c v bt} e h=>by
  rw[hn] at h;have h:vs[if bt 1 0=true then 1 else 0]?=some v:=h;rw[e,<- AY] at h;cases c with
  |true=>exact⟨u,(sj h).symm,ob⟩
  |false=>exact⟨t,(sj h).symm,oa⟩
 refine⟨λQ Ex hq=>call_min_two (wpAny_pyIter_tuple hT ⟨_,[_,s.heap.objs.size],[_],_,_,_,λi j=>bu (match i with|0=>a|_=>b) (match j with|0=>a|_=>b),rfl,Walks.tuple (A:=G.A.in1) (pre.hd rfl) _ s.heap.objs.size (by rw[sz];exact dT (wo _)) vs,
  ⟨⟨_,cY _ rfl,rfl,rfl⟩,hT.push _⟩,λc hc=>room c hc _,by rw[hn];decide,λi j vi vj s Q E hi hj hQ=>?_,λv h' tk hP hk=>?_⟩),
  λQ Ex hq=>call_max_two (wpAny_pyIter_tuple hT ⟨_,[_,s.heap.objs.size],[_],_,_,_,λi j=>bu (match j with|0=>a|_=>b) (match i with|0=>a|_=>b),rfl,Walks.tuple (A:=G.A.in1) (pre.hd rfl) _ s.heap.objs.size (by rw[sz];exact dT (wo _)) vs,
  ⟨⟨_,cY _ rfl,rfl,rfl⟩,hT.push _⟩,λc hc=>room c hc _,by rw[hn];decide,λi j vi vj s Q E hi hj hQ=>?_,λv h' tk hP hk=>?_⟩)⟩
 ·refine ue (at_ i vi hi) λt1 aa=>?_;subst aa;refine ue (at_ j vj hj) λt2 aa=>?_;subst aa;exact P.lt_str (by rw[less];exact hQ)
 ·have g:ax s {s with heap:=h',toks:=tk}:=ax.mk (old (by rw[<- sz];exact hk)) rfl rfl;exact hq _ _ g (g.vr (pick rfl hP))
 ·refine ue (at_ i vi hi) λt1 aa=>?_;subst aa;refine ue (at_ j vj hj) λt2 aa=>?_;subst aa;exact P.gt_str (by rw[less];exact hQ)
 ·have g:ax s {s with heap:=h',toks:=tk}:=ax.mk (old (by rw[<- sz];exact hk)) rfl rfl;exact hq _ _ g (g.vr (pick rfl hP))
end
section
variable {V:Cf}{G:Fm}{A:Around}{φ₀ J:Ph}{s₀ s:Shared}{U:aC}{H:Hp}{d:Nat}{q:Bool}{E:Ev}
def WO(x:List Nat)(xs:List (List Nat))(y:List Nat)(ys:List (List Nat)):kI (x::xs) (y::ys)=(match ak x y with|true=>kI xs ys|false=>bu x y):=rfl
def Jl{l:List Value}{i:Nat}{v:Value}(h:l.toArray[((i:Nat):Int).toNat]?=some v):i+1<=l.length:=by rw[pB] at h;exact(mE.mp h).1
def WM(V:Cf)(J:Ph)(l b:Addr)(items gu:List Value)(n n2:Nat):∀(xs ys:List (List Nat)) (i:Nat),i<=items.length->i<=gu.length ->
  Meets (Builtin.«list.__eq__.loop» ⟨[.ref l,.ref b,rawInt i,rawInt 0],[]⟩) (λA R s=>A.units+60<cLine/\IsL s.heap l items.toArray n/\IsL s.heap b gu.toArray n2 /\
   aQ V J s.heap (items.drop i) (xs.map .str)/\aQ V J s.heap (gu.drop i) (ys.map .str)/\R (.ok (.ret (.bool (kI xs ys)))) s):=by
 intro xs
 induction xs with
 |nil=>
  intro ys i j1 j2 prog w A R s h;obtain⟨hp,g,d,tk,os⟩:=s;obtain⟨hu,hl,hb,rx,ry,h⟩:=h;have e1:items.length<=i:=List.drop_eq_nil_iff.mp rx;have hy:=ry.length;rw[qE,aJ] at hy;wp_walk using jT hl,jT hb;rw[show items.toArray[((i:Nat):Int).toNat]?=none by rw[pB];exact zg e1];wp_walk using jT hl,jT hb;show R (.ok (.ret (.bool (decide (items.toArray.size<gu.toArray.size))))) _;rw[dj,dj,ic e1 j1];rw[show decide (i<gu.length)=kI [] ys by
   cases ys with
   |nil=>exact decide_eq_false λk=>absurd (Nat.sub_pos_of_lt k) (by rw[hy];exact jQ _)
   |cons=>exact decide_eq_true (Nat.lt_of_sub_pos (by rw[hy];exact qO _))]
  exact h
 |cons x xs ih=>
  intro ys i j1 j2 prog w A R s h;obtain⟨hp,g,d,tk,os⟩:=s;obtain⟨hu,hl,hb,rx,ry,h⟩:=h;refine bB rx λv rv aa hx Yy=>?_;have A3:items.toArray[((i:Nat):Int).toNat]?=some v:=by rw[pB,<- List.head?_drop];show(items.drop i).head?=_;rw[aa];rfl
  have gW:items.drop (i+1)=rv:=by rw[<- List.tail_drop,aa];rfl
  have hc:((i:Int)+1)=((i+1:Nat):Int):=rfl;cases ys with
  |nil=>wp_walk using jT hl,jT hb;rw[A3,show gu.toArray[((i:Nat):Int).toNat]?=none by rw[pB];exact zg (List.drop_eq_nil_iff.mp ry)];wp_walk using jT hl,jT hb;show R (.ok (.ret (.bool (decide (items.toArray.size<gu.toArray.size))))) _;rw[dj,dj,decide_eq_false (wq (aM (List.drop_eq_nil_iff.mp ry) j1))];exact h
  |cons y ys=>
   refine bB ry λu ru ow hy Yw=>?_;have Ee:gu.toArray[((i:Nat):Int).toNat]?=some u:=by rw[pB,<- List.head?_drop];show(gu.drop i).head?=_;rw[ow];rfl
   have hd2:gu.drop (i+1)=ru:=by rw[<- List.tail_drop,ow];rfl
   rw[WO] at h;wp_walk using jT hl,jT hb;rw[A3,Ee];refine ct (tF 3 hx rfl) λD as y1=>?_;refine ct (tF 3 hy rfl) λD' bs y2=>?_;refine ah (SeqAt.eqBoolOverData _ _ _ _ _ _ _ _ _ _ _ _ y1.rd y2.rd y1.g9 y2.g9 (cU (mA (aM (Nat.min_le_left ..) y1.deep) _) (Gf hu)) ?_);rw[yC y1.pd y2.pd (rfl:c6 (.str x) (.str y)=some (ak x y))];cases hq:ak x y with
   |true=>rw[hq] at h;wp_walk;rw[hc];exact⟨plainId_quiet zj _,codeAny_builtin MeetsSeq3.entry_eq_loop (by rw[Around.under_plainId zj _];exact ih ys (i+1) (Jl A3) (Jl Ee) prog w A R _ ⟨hu,hl,hb,by rw[gW];exact Yy,by rw[hd2];exact Yw,h⟩)⟩
   |false=>rw[hq] at h;wp_walk using jT hl,jT hb;rw[A3,Ee];exact ah (Dz hx hy rfl _ _ (aH h))
def W5(V:Cf)(J:Ph)(l b:Addr)(items gu:List Value)(n n2:Nat)(xs ys:List (List Nat)):
  Meets (Builtin.«list.__lt__» ⟨[.ref l,.ref b],[]⟩) (λA R s=>A.units+60<cLine/\IsL s.heap l items.toArray n/\IsL s.heap b gu.toArray n2 /\
   aQ V J s.heap items (xs.map .str)/\aQ V J s.heap gu (ys.map .str)/\R (.ok (.ret (.bool (kI xs ys)))) s):=by
 intro prog w A R s h;obtain⟨hp,g,d,tk,os⟩:=s;obtain⟨hu,hl,hb,rx,ry,h⟩:=h;have f3:=AutoSeq1.sub_list_list;wp_walk using jT hl,jT hb;exact⟨plainId_quiet zj _,codeAny_builtin MeetsSeq3.entry_eq_loop (by rw[Around.under_plainId zj _];exact WM V J l b items gu n n2 xs ys 0 (jP _) (jP _) prog w A R _ ⟨hu,hl,hb,rx,ry,h⟩)⟩
def XF{prog:Program}{w:World}(hu:A.units+64<cLine){vx vy:Value}{xs ys:List (List Nat)}(hx:VR V J s.heap vx (.lst (xs.map .str)))(hy:VR V J s.heap vy (.lst (ys.map .str))){Q:Bool->Shared->Prop}{E:Value->Shared->Prop}
  (h:Q (kI xs ys) s):wpAny (model prog w) A (keyLt' oneType' vx vy) Q E s:=by
 refine cO hx λa i1 n1 aa f1=>?_;clear hx;subst aa;refine cO hy λb i2 n2 aa f2=>?_;clear hy;subst aa;rw[keyLt'_oneType,oneLt'_eq];simp only[if_true];refine ah (wpAny_cRoomFor (cU (eB _ _) hu) ?_);refine ah (wpAny_callSpecialIfBound?_slot (T:="list") ⟨_,f1.at_,rfl⟩ F.slot_list_lt (call_meets F.slot_list_lt ⟨_,f1.at_,rfl⟩ F.entry_list_lt (F.args_list_lt_2 _ _) (W5 V J a b i1 i2 n1 n2 xs ys) ⟨cU (mA (by decide) _) hu,f1.at_,f2.at_,f1.all,f2.all,?_⟩));exact wpAny_truthy_bool h
def acX{α:Type}{cmp:Nat->Nat->(Bool->Shared->Prop)->Shared->Prop}{aY:Nat->Nat->Bool}{n:Nat}(hc:∀i j,i<n->j<n->∀C:Bool->Shared->Prop,C (aY i j) s->cmp i j C s){Q:α->Shared->Prop}:
  ∀(t:KasT α) (a:α),l9 aY n t=some a->Q a s->t.kasWp cmp Q s:=by
 intro t
 induction t with
 |ret b=>intro a e h;obtain rfl:=sj e;exact h
 |ask i j k ih=>
  intro a e h;have e:(match Nat.blt i n&&Nat.blt j n with|true=>l9 aY n (k (aY i j))|false=>none)=some a:=e;cases hb:Nat.blt i n&&Nat.blt j n with
  |false=>rw[hb] at e;exact aR e
  |true=>rw[hb] at e;refine us hb λh1 h2=>?_;exact hc i j (bG.mp h1) (bG.mp h2) _ (ih _ a e h)
variable {vs:List Value}
def Vh{h:Heap}{l:List AV}(x:aQ V J h vs l):∀{is:List Nat} {r:List AV},rB l is=some r->aQ V J h (is.map λi=>vs.getD i Value.none) r/\r.length=is.length:=by
 intro is
 induction is with
 |nil=>intro r e;obtain rfl:=sj e;exact⟨.nil,rfl⟩
 |cons i is ih=>intro r e;refine ub e λa h1 e=>?_;refine um e λr h2 aa=>?_;subst aa;rw[cQ] at h1;refine aq (x.get h1) λv hv ra=>?_;refine ua (ih h2) λy z=>?_;exact⟨.cons (by show VR V J h (vs.getD i Value.none) a;rw[k8,hv];exact ra) y,congrArg (·+1) z⟩
def GC:∀{l:List AV} {ts:List (List (List Nat))},pI l=some ts->l=ts.map λt=>.lst (t.map .str):=by
 have one:∀{l:List AV} {t:List (List Nat)},lq l=some t->l=t.map .str:=by
  intro l
  induction l with
  |nil=>intro _ e;obtain rfl:=sj e;rfl
  |cons x l ih=>
   intro _ e;refine ub e λi e1 e=>um e λns e2 aa=>?_;subst aa;rw[ih e2];cases x with
   |str=>obtain rfl:=sj e1;rfl
   |_=>exact aR e1
 intro l
 induction l with
 |nil=>intro _ e;obtain rfl:=sj e;rfl
 |cons x l ih=>
  intro _ e;refine ub e λl' e1 e=>ub e λt e2 e=>um e λts e3 aa=>?_;subst aa;rw[ih e3];cases x with
  |lst=>obtain rfl:=sj e1;rw[one e2];rfl
  |_=>exact aR e1
def W4{prog:Program}{w:World}(hu:A.units+64<cLine){a:Addr}{l r:List AV}{ts:List (List (List Nat))}{n:Nat}{P:Fin->Shared->Prop}{E:Value->Shared->Prop}
  (ho:s.heap.get? a=some (seqObj "list" vs.toArray n)) (hv:∀h',(∀b o,b≠a->s.heap.get? b=some o->h'.get? b=some o)->aQ V J h' vs l) (ht:pI l=some ts) (kN:vs.length<64) (hr:n9 ts l=some r)
  (h:∀out:List Value,(∀h',aQ V J h' vs l->aQ V J h' out r)->P (.done (.ret .none)) {s with heap:=sortedHeap s.heap a vs out.toArray}):
  wpAny (model prog w) A (Builtin.«list.sort» ⟨[.ref a],[]⟩) P E s:=by
 have el:=GC ht;have hn:vs.length=ts.length:=by rw[(hv s.heap λO O O e=>e).length,el,aJ]
 rw[list_sort_plain];have ha:a<s.heap.objs.size:=fx ho;refine ah (listItems_at ho rfl ?_);refine ah (listUpdate_at ho rfl ?_);obtain⟨e1,Kx⟩:∃e1,(s.heap.update a (Obj.mapSeq λO=>#[])).get? a=some (seqObj "list" #[] e1):=⟨_,get?_update_seq ho (λO=>#[])⟩;refine ah (seqEpoch_at Kx rfl ?_);refine ah (wpAny_newTuple ?_);refine ah (wpAny_newList ?_);refine c8 ?_;have A0:(((s.heap.update a (Obj.mapSeq λO=>#[])).push (seqObj "tuple" vs.toArray 0)).push (seqObj "list" #[] 0)).get? a=some (seqObj "list" #[] e1):=ig _ (ig _ Kx);have keep:∀b o,b≠a->s.heap.get? b=some o->(((s.heap.update a (Obj.mapSeq λO=>#[])).push (seqObj "tuple" vs.toArray 0)).push (seqObj "list" #[] 0)).get? b=some o:=λb o hb e=>ig _ (ig _ ((pE _ _ (fi hb)).trans e));have v6:=hv _ keep;show wpAny (model prog w) A _ P E {s with heap:=((s.heap.update a (Obj.mapSeq λO=>#[])).push (seqObj "tuple" vs.toArray 0)).push (seqObj "list" #[] 0)};dsimp only;have fK:vs.length<=sizeLine:=aM (fF kN) (by decide);have sz:vs.toArray.size=vs.length:=dj ..;cases hb:Nat.blt ts.length 2 with
 |true=>
  have h2:vs.toArray.size<2:=by rw[sz,hn];exact bG.mp hb
  rw[if_pos h2,if_pos h2];refine ah (aH ?_);rw[StateT.run_pure];refine ah (aH ?_);dsimp only;refine ah (seqEpoch_at A0 rfl ?_);refine ah (listUpdate_at A0 rfl ?_ (hsz2:=by rw[Array.size_map];show(pairsOf vs).size<=_;rw[pairsOf_size];exact wx fK));simp only[bne_self_eq_false,Bool.false_eq_true,if_false];refine aH ?_;have er:r=l:=by unfold n9 at hr;rw[hb] at hr;exact(sj hr).symm
  have:=h vs λh' x=>er▸x;have ep:(arrOf (SortSt.mk' general' (vs.toArray.zip vs.toArray) #[] 7 none)).map (·.2)=vs.toArray:=by show(pairsOf vs).map (·.2)=_;apply Array.toList_inj.mp;rw[Array.toList_map,pairsOf_toList,List.map_snd_zip (bf _)]
  rw[ep];exact this
 |false=>
  have h2:2<=vs.length:=by rw[hn];exact hZ.mp λk=>by rw[bG.mpr k] at hb;cases hb
  have KC:¬ vs.toArray.size<2:=by rw[sz];exact hZ.mpr h2
  rw[if_neg KC,if_neg KC];unfold n9 at hr;rw[hb] at hr;refine ub hr λp hp hr=>?_;refine ur hr λYJ hr=>?_;have each:∀i,i<ts.length->VR V J (((s.heap.update a (Obj.mapSeq λO=>#[])).push (seqObj "tuple" vs.toArray 0)).push (seqObj "list" #[] 0)) (vs.getD i Value.none) (.lst ((ts.getD i []).map .str)):=λi hi=>by
   have e:l[i]?=some (.lst ((ts.getD i []).map .str)):=by rw[el,qF,k8,pF hi];rfl
   refine aq (v6.get e) λv hv rv=>?_;rw[k8,hv];exact rv
  refine ah (kas_kind (T:=.type "list") h2 (λv hm A Q E s' k q=>?_) rfl rfl ?_)
  ·refine ue (List.mem_iff_getElem?.mp hm) λi hi=>?_;have:=each i (by rw[<- hn];exact(mE.mp hi).1);rw[k8,hi] at this;refine cO this λb items nn aa f=>?_;have q1:v=.ref b:=aa;rw[q1];exact wpAny_typeOf ⟨_,k _ _ f.at_,rfl⟩ q
  ·have est:SortSt.mk' oneType' (vs.toArray.zip vs.toArray) #[] 7 none=kas_st oneType' (pairsOf vs) (List.toArray (List.range vs.length)):=by have e:=kas_range (pairsOf vs);rw[pairsOf_size] at e;show SortSt.mk' oneType' (pairsOf vs) #[] 7 none=SortSt.mk' oneType' ((List.toArray (List.range vs.length)).map (kas_item (pairsOf vs))) #[] 7 none;rw[e]
   rw[est];have ask:(kas_sort vs.length).kasWp (kas_cmp prog w A oneType' (pairsOf vs)) (λp' s'=>p'=p/\s'={s with heap:=((s.heap.update a (Obj.mapSeq λO=>#[])).push (seqObj "tuple" vs.toArray 0)).push (seqObj "list" #[] 0)}) {s with heap:=((s.heap.update a (Obj.mapSeq λO=>#[])).push (seqObj "tuple" vs.toArray 0)).push (seqObj "list" #[] 0)}:=by rw[<- kas_ask_eq,hn];exact acX (λi j hi hj C hC=>XF (s:={s with heap:=_}) hu (each i hi) (each j hj) hC) _ p hp ⟨rfl,rfl⟩
   refine ah (cz (kas_runs (Q:=λO pM s'=>arrOf pM=p.map (kas_item (pairsOf vs))/\failedOf pM=none/\s'={s with heap:=((s.heap.update a (Obj.mapSeq λO=>#[])).push (seqObj "tuple" vs.toArray 0)).push (seqObj "list" #[] 0)}) h2 kN (λp' pM s' a1 a2 a3 a4=>⟨by rw[a2,a4.1],a3,a4.2⟩) ask) ?_ λO O e=>e)
   rintro ⟨⟨⟩,pM⟩ s' ⟨Zd,hf,rfl⟩
   dsimp only;have YN:(arrOf pM).map (·.2)=List.toArray (p.toList.map λi=>vs.getD i Value.none):=by apply Array.toList_inj.mp;rw[Zd,Array.map_map,Array.toList_map];exact iI λi O=>by show(kas_item (pairsOf vs) i).2=_;rw[kas_item_eq]
   have iq:(List.toArray (p.toList.map λi=>vs.getD i Value.none)).size=vs.length:=by rw[dj,aJ,pz,bW YJ,hn]
   rw[YN];refine ah (seqEpoch_at A0 rfl ?_);refine ah (listUpdate_at A0 rfl ?_ (hsz2:=by rw[iq];exact wx fK));rw[hf];simp only[bne_self_eq_false,Bool.false_eq_true,if_false];exact aH (h _ λh' x=>(Vh x hr).1)
end
section
variable {V:Cf}{G:Fm}{A:Around}{φ₀ J:Ph}{s₀ s:Shared}{U:aC}{H:Hp}{d:Nat}{q:Bool}{E:Ev}
variable {α:Type}
def J9(lt:α->α->Bool)(x y:α)(ys:List α):jj lt x (y::ys)=match lt y x with|true=>y::jj lt x ys|false=>x::y::ys:=rfl
def J8(lt:α->α->Bool)(x:α):∀l,(jj lt x l).Perm (x::l):=by
 intro ys
 induction ys with
 |nil=>exact .refl _
 |cons y ys ih=>
  rw[J9];cases lt y x with
  |true=>exact((ih).cons y).trans (.swap x y ys)
  |false=>exact .refl _
def zI(lt:α->α->Bool):∀l,(cC lt l).Perm l:=by
 intro xs
 induction xs with
 |nil=>exact .refl _
 |cons x xs ih=>exact(J8 lt x _).trans ((ih).cons x)
structure yX{α:Type}(lt:α->α->Bool)(le:α->α->Prop):Prop where
 yes:∀a b,lt a b=true->le a b
 no:∀a b,lt a b=false->le b a
 tr:∀a b c,le a b->le b c->le a c
 as:∀a b,le a b->le b a->a=b
variable {lt:α->α->Bool}{le:α->α->Prop}
def Yl(L:yX lt le)(x:α):∀l:List α,l.Pairwise le->(jj lt x l).Pairwise le:=by
 intro ys
 induction ys with
 |nil=>intro _;exact List.pairwise_singleton ..
 |cons y ys ih=>
  intro h;rw[mz] at h;rw[J9];cases vt:lt y x with
  |true=>
   refine mz.mpr ⟨λz hz=>?_,ih h.2⟩;rcases bQ.mp ((J8 lt x ys).mem_iff.mp hz) with rfl|hz
   ·exact L.yes _ _ vt
   ·exact h.1 _ hz
  |false=>
   refine mz.mpr ⟨λz hz=>?_,mz.mpr h⟩;rcases bQ.mp hz with rfl|hz
   ·exact L.no _ _ vt
   ·exact L.tr _ _ _ (L.no _ _ vt) (h.1 z hz)
def Sp(L:yX lt le):∀l:List α,(cC lt l).Pairwise le:=by
 intro xs
 induction xs with
 |nil=>exact .nil
 |cons x xs ih=>exact Yl L x _ (ih)
def Ha(L:yX lt le){l l':List α}(p:l'.Perm l)(h:l'.Pairwise le):l'=cC lt l:=(p.trans (zI lt l).symm).eq_of_pairwise (le:=le) (λa b O O=>L.as a b) h (Sp L l)
def W8:yX fZ (·<=·):=⟨λa b h=>Int.le_of_lt (by rw[rG] at h;exact of_decide_eq_true h),λa b h=>Int.not_lt.mp (by rw[rG] at h;exact of_decide_eq_false h),λO O O=>sE,λO O=>Int.le_antisymm⟩
def W7:yX bu (λa b=>V.enc a<=V.enc b):=⟨λa b h=>List.le_of_lt ((Bq a b).mpr h),λa b h=>(λk=>by have:=(Bq (V:=V) a b).mp k;rw[h] at this;cases this),λO O O=>List.le_trans,λO O h1 h2=>LZ (List.le_antisymm h1 h2)⟩
theorem T8:∀(r:List Str) (x:Str),risingS x r=true->((x::r).map (·.cps.toList)).Pairwise (·<=·):=by
 intro r
 induction r with
 |nil=>intro x _;simp
 |cons y r gI=>
  intro x h;unfold risingS at h;refine us h λh1 h2=>?_;have ih:=gI y h2;have vt:x.cps.toList<=y.cps.toList:=by
   rw[ltCps_eq] at h1;have:¬ y.cps.toList<x.cps.toList:=by simpa using h1
   exact this
  rw[bE];refine mz.mpr ⟨λz hz=>?_,ih⟩;rw[bE] at hz ih;rcases bQ.mp hz with rfl|hz
  ·exact vt
  ·exact List.le_trans vt ((mz.mp ih).1 z hz)
def Sw{l:List Str}(h:sortedS l=true):(l.map (·.cps.toList)).Pairwise (·<=·):=by
 cases l with
 |nil=>exact .nil
 |cons x r=>exact T8 r x h
theorem Rj{h:Heap}:∀{l:List AV} {vs:List Value} {ts:List (List Nat)},aQ V J h vs l->lq l=some ts->StrsAre vs (ts.map V.tx)/\∀x∈ts,cS V x:=by
 intro l
 induction l with
 |nil=>intro _ _ x e;subst x;obtain rfl:=sj e;exact⟨.nil,λx hx=>nomatch hx⟩
 |cons a l ih=>
  intro _ _ bV e;refine bB bV λv r q x y=>?_;clear bV;refine ub e λi h1 e=>?_;refine um e λms h2 aa=>?_;subst aa;refine aq (qS x h1) λt aa o=>?_;subst aa;refine ua (ih y h2) λh3 h4=>?_;subst q;exact⟨.cons _ _ h3,λz hz=>by
   rcases bQ.mp hz with rfl|hz
   ·exact o
   ·exact h4 z hz⟩
theorem QR{h:Heap}:∀{ts:List (List Nat)} {vs:List Value},StrsAre vs (ts.map V.tx)->(∀x∈ts,cS V x)->aQ V J h vs (ts.map .str):=by
 intro ts
 induction ts with
 |nil=>intro _ e _;cases e;exact .nil
 |cons t ts ih=>
  intro _ e hk;cases e with
  |cons y u r=>exact .cons (.str (hk t bA)) (ih r λx hx=>hk x (bS _ hx))
def Rm{us:List Str}{l:List (List Nat)}(p:us.Perm (l.map V.tx)):∃l':List (List Nat),us=l'.map V.tx/\l'.Perm l:=by
 let g:Str->List Nat:=λx=>x.cps.toList.map (·-65)
 have hg:∀t,g (V.tx t)=t:=λt=>by show(V.enc t).map (·-65)=t;unfold Cf.enc;rw[cG];exact(iI λc O=>(show 65+c-65=c from Nat.add_sub_cancel_left ..)).trans (sC t)
 refine⟨us.map g,?_,?_⟩
 ·rw[cG];refine((iI λu hu=>?_).trans (sC us)).symm;refine aq (bU.mp (p.mem_iff.mp hu)) λt O aa=>?_;subst aa;exact congrArg V.tx (hg t)
 ·have:=p.map g;rwa[cG,(iI λt O=>hg t:l.map (g∘V.tx)=l.map _root_.id),sC] at this
theorem X8{h:Heap}:∀{l:List AV} {vs:List Value} {ns:List Int},aQ V J h vs l->lS l=some ns->IntsAre vs ns:=by
 intro l
 induction l with
 |nil=>intro _ _ r e;subst r;obtain rfl:=sj e;exact .nil
 |cons x l ih=>intro _ _ bV e;refine bB bV λv r q h1 h2=>?_;clear bV;subst q;refine ub e λi e1 e=>?_;refine um e λns e2 aa=>?_;subst aa;refine ue (eE h1 e1) λt aa=>?_;subst aa;exact .cons i t (ih h2 e2)
variable {vs:List Value}
def Gl{h:Heap}{ns:List Int}(x:IntsAre vs ns):aQ V J h vs (ns.map .int):=by
 induction x with
 |nil=>exact .nil
 |cons i t r ih=>exact .cons (.lit i t) ih
theorem Yb:∀{l:List AV} {ns:List Int},lS l=some ns->ns.length=l.length:=by
 intro l
 induction l with
 |nil=>intro _ e;obtain rfl:=sj e;rfl
 |cons x l ih=>intro _ e;exact ub e λi e1 e=>um e λns e2 aa=>by subst aa;exact congrArg (·+1) (ih e2)
theorem Rl:∀{l:List AV} {ns:List (List Nat)},lq l=some ns->ns.length=l.length:=by
 intro l
 induction l with
 |nil=>intro _ e;obtain rfl:=sj e;rfl
 |cons x l ih=>intro _ e;exact ub e λi e1 e=>um e λns e2 aa=>by subst aa;exact congrArg (·+1) (ih e2)
def Vi{l:List α}:∀{is:List Nat} {r:List α},rB l is=some r->r.length=is.length:=by
 intro is
 induction is with
 |nil=>intro r e;obtain rfl:=sj e;rfl
 |cons i is ih=>intro r e;exact ub e λa h1 e=>um e λr h2 aa=>by subst aa;exact congrArg (·+1) (ih h2)
variable {l:List AV}{ts:List (List (List Nat))}
def Ri(h:pI l=some ts):l.length=ts.length:=by rw[GC h,aJ]
variable {r:List AV}
def SD(hl:l.length=ts.length)(h:n9 ts l=some r):r.length=l.length:=by
 unfold n9 at h;cases hb:Nat.blt ts.length 2 with
 |true=>rw[hb] at h;obtain rfl:=sj h;rfl
 |false=>rw[hb] at h;refine ub h λp O h=>?_;refine ur h λh1 h=>?_;rw[Vi h,pz,bW h1,hl]
def Sz(hr:jA l=some r):r.length=l.length:=by
 unfold jA at hr;cases hi:lS l with
 |some ns=>rw[hi] at hr;obtain rfl:=sj hr;rw[aJ,(zI _ ns).length_eq,Yb hi]
 |none=>
  rw[hi] at hr;cases ht:lq l with
  |some ts=>rw[ht] at hr;obtain rfl:=sj hr;rw[aJ,(zI _ ts).length_eq,Rl ht]
  |none=>rw[ht] at hr;exact ub hr λts h1 hr=>SD (Ri h1) hr
variable {Ex:Value->Shared->Prop}
def SA{prog:Program}{w:World}(hu:A.in1.units+64<cLine){Q:Shared->Prop}{D:Addr}{m:Nat}(hD:s.heap.get? D=some (seqObj "list" vs.toArray m))(hv:∀h',(∀b o,b≠D->s.heap.get? b=some o->h'.get? b=some o)->aQ V J h' vs l)(kN:l.length<64)(hr:jA l=some r)
  (h:∀out:List Value,(∀h',aQ V J h' vs l->aQ V J h' out r)->Q {s with heap:=sortedHeap s.heap D vs out.toArray}):
  wpAny (model prog w) A (call (.builtin "list.sort") [.ref D]) (λO s'=>Q s') Ex s:=by
 have D7:=hv s.heap λO O O e=>e;have EB:vs.length<64:=by rw[D7.length];exact kN
 unfold jA at hr;cases hi:lS l with
 |some ns=>rw[hi] at hr;obtain rfl:=sj hr;refine uu slot_list_sort ⟨_,hD,rfl⟩ entry_list_sort (list_sort_tree hD (X8 D7 hi) EB λout th a1 a2 a3=>⟨_,rfl,?_⟩) (args_list_sort _);have:=h out.toList (λh' O=>Ha W8 a2 a3▸Gl a1);rwa[Array.toArray_toList] at this
 |none=>
  rw[hi] at hr;cases ht:lq l with
  |none=>rw[ht] at hr;refine ub hr λts h1 hr=>?_;exact uu slot_list_sort ⟨_,hD,rfl⟩ entry_list_sort (W4 hu hD hv h1 EB hr λout O=>⟨_,rfl,h out O⟩) (args_list_sort _)
  |some ts=>rw[ht] at hr;obtain rfl:=sj hr;refine ua (Rj D7 ht) λhS hk=>?_;refine uu slot_list_sort ⟨_,hD,rfl⟩ entry_list_sort (list_sort_treeK strKind_oneLt hD hS.keysOf (λv₁ v₂ rest e=>keyKind_strs (by rw[<- e];exact hS)) EB λpM hp hs=>⟨_,rfl,?_⟩) (args_list_sort _);refine gQ (sorted_out_str hS hp hs) λss' h1 h2 h3=>?_;refine aq (Rm h2) λl' e1 e2=>?_;subst e1;have e:l'=cC bu ts:=Ha (W7 (V:=V)) e2 (by have:=Sw h3;rw[cG] at this;exact List.pairwise_map.mp this);subst e;have:=h ((arrOf pM).map (·.2)).toList (λh' O=>QR h1 λx hx=>hk x ((zI _ ts).mem_iff.mp hx));rwa[Array.toArray_toList] at this
def Sx{prog:Program}{w:World}(hu:A.in1.units+64<cLine){Q:Value->Shared->Prop}{s1:Shared}(R:aZ V J H s.heap)(g:ax s s1)(hv:aQ V J s1.heap vs l)(kN:l.length<64)(hr:jA l=some r)
  (h:∀D s',ax s s'->VR V J s'.heap (.ref D) (.lst r)->Q (.ref D) s'):
  wpAny (model prog w) A (newList vs) (λL s2=>wpAny (model prog w) A (holding [L] (call (.builtin "list.sort") [L] [])) (λO s3=>Q L s3) Ex s2) Ex s1:=by
 have fK:=fF kN;refine wpAny_newList ?_ (by rw[hv.length];exact aM fK (by decide));have g2:ax s1 {s1 with heap:=s1.heap.push (seqObj "list" vs.toArray 0)}:=ax.push s1 _ s1.toks;have hD:(s1.heap.push (seqObj "list" vs.toArray 0)).get? s1.heap.objs.size=some (seqObj "list" vs.toArray 0):=cY _ rfl;refine c8 (SA (V:=V) (J:=J) hu (s:={s1 with heap:=s1.heap.push (seqObj "list" vs.toArray 0)}) hD (λh' k=>?_) kN hr λout ro=>?_)
 ·exact(@ax.mk s1 {s1 with heap:=h'} (λb o e=>k b o (dT (fx e)) (ig _ e)) rfl rfl:ax s1 {s1 with heap:=h'}).jW hv
 have old:∀b o,s1.heap.get? b=some o->(sortedHeap (s1.heap.push (seqObj "list" vs.toArray 0)) s1.heap.objs.size vs out.toArray).get? b=some o:=λb o e=>(sortedHeap_old (dT (fx e)) (fx (ig _ e))).trans (ig _ e)
 have g4:ax s1 {s1 with heap:=sortedHeap (s1.heap.push (seqObj "list" vs.toArray 0)) s1.heap.objs.size vs out.toArray}:=ax.mk old rfl rfl;have g3:=g.trans g4;refine ue (sortedHeap_at (vs:=vs) (out:=out.toArray) hD) λe he=>?_;refine h _ _ g3 (.lst (Sq.mk he (λhm=>?_) (ro _ (g4.jW hv)) (by rw[Sz hr];exact aM fK (by decide))));refine aq (bU.mp hm) λp hp e'=>?_;refine ue (R.live p hp) λo eo=>?_;exact absurd (fx (g.keep _ _ eo)) (by rw[e'];exact jQ _)
def acF(pre:ao V d true G J U H s){v:Value}{x:AV}(hx:VR V J s.heap v x)(hk:cH H x=some l)(kN:l.length<64)(hr:jA l=some r):fQ V G J s (call (.builtin "sorted") [v]) (.lst r):=by intro Q Ex hq;have hu:=pre.room.units;refine Calls.call_function_entry kind_sorted plain_sorted entry_sorted (args_sorted1 _) ?_;unfold Builtin.«sorted»;refine ah (m:=checkCount "sorted" 1 1 _) (aH ?_);refine iJ (lg pre.rel hx hk) λa items nn y=>?_;rw[y.eq];refine ah (collect_list ⟨_,y.at_,rfl,_,rfl⟩ ?_ (by rw[y.all.length];exact aM (fF kN) (by decide)));have g:ax s {s with heap:=(s.heap.push (seqObj "list" #[] 0)).update s.heap.objs.size (Obj.mapSeq (·++items.toArray))}:=(ax.mk (λb o e=>(pE _ _ (dM (fx e))).trans (ig _ e)) rfl rfl);exact ah (cz (Sx (Q:=λv s'=>Q v s') (QA hu) pre.rel g (g.jW y.all) kN hr λD s' g r=>hq _ s' g r) (λL s2 h2=>ah (cz h2 (λO s3 h3=>aH ⟨_,rfl,h3⟩) λO O e=>e)) λO O e=>e)
def acC(ok:ef V)(pre:ao V d true G J U H s){b:BI}{vx:Value}{x:AV}{r:AV×Hp}(hx:VR V J s.heap vx x)(e:tW b x H=some r):ag V G J s (call (yN b) [vx]) (.ok r.1 U r.2) (VR V):=by
 cases b with
 |len=>refine ub e λk h1 e=>?_;refine ur e λh2 e=>?_;obtain rfl:=sj e;exact(acK pre ok hx h1 (gO h2)).tri pre
 |abs=>
  refine um e λa h1 aa=>?_;subst aa;refine ue (eE hx h1) λt aa=>?_;subst aa;have:(match fZ a 0 with|true=>-a|false=>a)=if a<0 then -a else a:=by
   rw[rG];by_cases h:a<0
   ·rw[decide_eq_true h,if_pos h]
   ·rw[decide_eq_false h,if_neg h]
  show ag V G J s _ (.ok (AV.int (match fZ a 0 with|true=>-a|false=>a)) U H) _;rw[this];exact acQ.tri pre
 |int=>refine um e λa h1 aa=>?_;subst aa;refine ue (eE hx h1) λt aa=>?_;subst aa;exact acM.tri pre
 |chr=>refine ub e λa h1 e=>?_;refine ub e λn h2 e=>?_;refine ur e λh3 e=>?_;obtain rfl:=sj e;refine us h3 λh3 h4=>?_;have h3:=gO h3;have h4:=bG.mp h4;refine ue (eE hx h1) λt aa=>?_;subst aa;rw[Aw h2];obtain⟨c,rfl⟩:∃c,n=65+c:=⟨n-65,(Nat.add_sub_of_le h3).symm⟩;rw[show 65+c-65=c from Nat.add_sub_cancel_left ..];exact(acO (by exact OB ‹_›)).tri pre
 |max=>
  refine ub e λl h1 e=>?_;refine ub e λns h2 e=>?_;cases ns with
  |nil=>exact aR e
  |cons y ys=>obtain rfl:=sj e;exact(acJ pre hx h1 h2).tri pre
 |range=>refine ub e λi h1 e=>?_;refine ur e λh2 e=>?_;refine ue (eE hx h1) λt aa=>?_;subst aa;obtain rfl:=sj e;exact(acI pre h2).tri pre
 |sorted=>refine ub e λl h1 e=>?_;refine ur e λh2 e=>?_;refine um e λw h3 aa=>?_;subst aa;exact(acF pre hx h1 (bG.mp h2) h3).tri pre
 |iter=>refine ub e λn h1 e=>?_;refine um e λl h2 aa=>?_;subst aa;refine aq (ij hx h1) λp aa hp=>?_;subst aa;exact acL pre hp h2
 |tuple=>refine um e λl h1 aa=>?_;subst aa;exact(acE pre hx h1).tri pre
 |bool=>refine ub e λn h1 e=>?_;refine um e λl h2 aa=>?_;subst aa;refine aq (ij hx h1) λp aa hp=>?_;subst aa;exact(acP pre hp h2).tri pre
 |_=>exact aR e
def acB(pre:ao V d true G J U H s){b:BI}{vx vy:Value}{x y:AV}{r:AV×Hp}(hx:VR V J s.heap vx x)(hy:VR V J s.heap vy y)(e:MX b x y H=some r):ag V G J s (call (yN b) [vx,vy]) (.ok r.1 U r.2) (VR V):=by
 cases b with
 |divmod=>refine ub e λa h1 e=>?_;refine ub e λc h2 e=>?_;refine ue (eE hx h1) λt aa=>?_;subst aa;refine ue (eE hy h2) λu aa=>?_;subst aa;refine ur e λh3 e=>?_;obtain rfl:=sj e;refine us h3 λh3 h4=>?_;exact(acN pre (AP (jf h3)) (zM h4)).tri pre
 |range=>refine ub e λa h1 e=>?_;refine ub e λc h2 e=>?_;refine ue (eE hx h1) λt aa=>?_;subst aa;refine ue (eE hy h2) λu aa=>?_;subst aa;refine ur e λh3 e=>?_;obtain rfl:=sj e;exact(acH pre h3).tri pre
 |min=>
  refine ub e λa h1 e=>?_;refine um e λb h2 aa=>?_;subst aa;cases x with
  |str l=>
   cases y with
   |str m=>obtain rfl:=sj h1;obtain rfl:=sj h2;exact(GG pre hx hy).1.tri pre
   |_=>exact aR h2
  |_=>exact aR h1
 |max=>
  refine ub e λa h1 e=>?_;refine um e λb h2 aa=>?_;subst aa;cases x with
  |str l=>
   cases y with
   |str m=>obtain rfl:=sj h1;obtain rfl:=sj h2;exact(GG pre hx hy).2.tri pre
   |_=>exact aR h2
  |_=>exact aR h1
 |_=>exact aR e
def acA(ok:ef V)(pre:ao V d true G J U H s){b:BI}{args:List AV}(hs:aQ V J s.heap vs args):ag V G J s (call (yN b) vs) (mG (λH=>yO b args H) U H) (VR V):=ag.Cd λr e=>by
 cases args with
 |nil=>
  subst hs;cases b with
  |set=>obtain rfl:=sj e;exact acG pre
  |_=>exact aR e
 |cons x as=>
  obtain⟨vx,r1,rfl,hx,hs⟩:=hs;cases as with
  |nil=>subst hs;exact acC ok pre hx e
  |cons y as=>
   obtain⟨vy,r2,rfl,hy,hs⟩:=hs;cases as with
   |nil=>subst hs;exact acB pre hx hy e
   |cons=>exact aR e
end
section
variable {V:Cf}{G:Fm}{φ₀ J:Ph}{s₀ s:Shared}{U:aC}{H:Hp}{d:Nat}{q:Bool}{E:Ev}
structure nN(V:Cf):Prop extends rY V where
 bis:∀k b,V.P.gt[k]?=some (.bi b)->V.gv k=some (yN b)
variable {xs:List AV}
def BE{k:Nat}{g:GE}(hk:V.P.gt[k]?=some g):wW V.P E d (.glob k) xs U H=oN E d k g xs U H:=by show(match ae V.P.gt k with|some g=>oN E d k g xs|none=>M.stuck) U H=_;rw[cQ,hk]
variable {vs:List Value}
def LH(ok:nN V)(Sd:me V E)(pre:ao V d true G J U H s){k:Nat}{fd:FD}{vf:Value}(hk:V.P.gt[k]?=some (.fn fd))(hg:V.gv k=some vf)(hv:aQ V J s.heap vs xs):
  uc V G J s vf vs (wW V.P E d (.glob k) xs U H):=by
 rw[BE hk];show uc V G J s vf vs (yw E d fd xs U H);unfold yw;cases d with
 |zero=>exact λh=>absurd rfl h
 |succ d=>
  dsimp only;cases hb:kQ fd xs with
  |none=>exact λh=>absurd rfl h
  |some ρ'=>exact ZY ok.toBR Sd pre hk hg hv hb
def T9{P:bP}{k:Nat}{fd:FD}{v:AV}{ρ':aC}{H':Hp}(hk:P.gt[k]?=some (.fn fd))(h:wW P E d (.glob k) xs U H=.ok v ρ' H'):ρ'=U:=by
 have h:(match ae P.gt k with|some g=>oN E d k g xs|none=>M.stuck) U H=.ok v ρ' H':=h;rw[cQ,hk] at h;have h:yw E d fd xs U H=.ok v ρ' H':=h;unfold yw at h;cases d with
 |zero=>cases h
 |succ d=>
  dsimp only at h;cases hb:kQ fd xs with
  |none=>rw[hb] at h;cases h
  |some r=>
   rw[hb] at h;dsimp only at h;generalize cW (E.s d true) (ss fd.body) r H=z at h;cases z with
   |ok f ρ1 H1=>cases f<;>first|(cases h;rfl)|cases h
   |exc=>cases h
   |stuck=>cases h
def aca(ok:nN V)(Sd:me V E)(pre:ao V d true G J U H s){vf:Value}{fv:AV}(hf:VR V J s.heap vf fv)(hv:aQ V J s.heap vs xs):
  ag V G J s (call vf vs) (wW V.P E d fv xs U H) (VR V):=by
 cases fv with
 |glob k=>
  have hg:V.gv k=some vf:=hf;cases hk:V.P.gt[k]? with
  |none=>show ag V G J s _ ((match ae V.P.gt k with|some g=>oN E d k g xs|none=>M.stuck) U H) _;rw[cQ,hk];exact ag.stuck
  |some g=>
   cases g with
   |fn fd=>exact(LH ok Sd pre hk hg hv).tri
   |cl cd=>rw[BE hk];exact abG ok.too9 Sd pre hk hg hv
   |bi b=>rw[BE hk];have:=ok.bis k b hk;rw[hg] at this;obtain rfl:=sj this;exact acA ok.toef pre hv
   |_=>rw[BE hk];exact ag.stuck
 |cP m=>
  show ag V G J s _ (s8 m xs U H) _;unfold s8;cases xs with
  |cons=>exact ag.stuck
  |nil=>
   subst hv;dsimp only;cases hi:tG H m with
   |none=>exact ag.stuck
   |some p=>
    dsimp only;cases hl:bx H p.1 with
    |none=>exact ag.stuck
    |some l=>dsimp only;rw[cQ];exact VH pre hf (XW hi) hl
 |_=>exact ag.stuck
def aaS(ok:nN V)(Sd:me V E)(pre:ao V d q G J U H s){o args:C}{x:Str}{m:Nat}{ap p:Pos}(h:wf V (.eN o x m args ap p) G.K=true):
  ag V G J s (eval (.Call (.Attribute (au o) x ap) (bN args) [] p) G.env) (Je V.P E d q o m args U H) (VR V):=by
 refine zt h λh1 hp hn h2 hl rN=>?_;have hn:=of_decide_eq_true hn;have rN:=bG.mp rN;rw[Wg hp];refine ag.bind pre (Sd.e pre h1) λvo ov ρ1 H1 φ1 s1 n1 p1 r1=>?_;refine TT.imp (λQ E h=>ah (fy h)) ?_;cases hk:kL V.P ov m H1 with
 |none=>
  have e:cu (kL V.P ov m) ρ1 H1=.stuck:=by unfold cu;rw[hk]
  rw[vV e];exact ag.stuck
 |some mk=>
  have e:cu (kL V.P ov m) ρ1 H1=.ok mk ρ1 H1:=by unfold cu;rw[hk]
  rw[tV e];rcases XE p1.rel r1 hk with⟨k,nn,c,cd,fs,rfl,ku⟩|⟨nu,kb⟩
  ·cases q with
   |false=>exact ag.stuck
   |true=>exact Q1 ok.too9 Sd p1 r1 ku hn h2 hl rN
  ·have T:=Wi (name:=x) ok.toOk Sd.tod3 p1 r1 kb (λhm=>by
    have:m<10/\m≠4:=by
     cases mk with
     |user k=>cases hm
     |list=>have h:=bG.mp (show Nat.blt m 4=true from hm);exact⟨nP h (by decide),dT h⟩
     |dict=>rcases sy.mp (show(Nat.beq m 6||Nat.beq m 7)=true from hm) with h|h<;>cases bW h<;>decide
     |set=>cases bW (show Nat.beq m 8=true from hm);decide
     |str=>cases bW (show Nat.beq m 5=true from hm);decide
    have:=ok.nms m this.1 this.2;rw[hn] at this;exact jR this) h2 hl rN (pos:=p) (o':=au o) (apos:=ap)
   cases mk with
   |user k=>exact absurd rfl (nu k)
   |_=>exact T
def aaO(ok:nN V)(Sd:me V E)(pre:ao V d q G J U H s){c:C}(h:wf V c G.K=true):ag V G J s (eval (au c) G.env) (G5 V.P E d q c U H) (VR V):=by
 cases c with
 |cst c v k p=>show ag V G J s (eval (.Constant c k p) G.env) (.ok v U H) (VR V);rw[arm_eval_Constant];exact abu pre h
 |var x k p=>exact aaL pre h
 |glob x k p=>exact aaV ok.toOk pre h
 |bin op a b p=>refine us h λh1 h2=>?_;exact aa1 Sd.tod3 pre h1 h2
 |neg a p=>exact aaR Sd.tod3 pre h
 |not a p=>exact aaQ Sd.tod3 pre h
 |cmp op a b p=>refine jx h λh1 h2 h3=>?_;exact aaZ ok.toef Sd.tod3 pre h1 h2 (jf h3)
 |fw isAnd l p=>refine ua (uB (l:=l) h) λe h=>?_;have:=L7 Sd.tod3 (pos:=p) (isAnd:=isAnd) (cs l) pre h;rw[<- e] at this;exact this
 |call f args p=>refine pH h λh1 h2 h3 h4=>?_;exact aa0 ok.toOk Sd pre h1 h2 h3
 |eN o x m args ap p=>exact aaS ok Sd pre h
 |attr o x a p=>refine jx h λh1 h2 h3=>?_;refine TT.imp (λO O h=>Attribute_any_ h (by rw[arm_eval_Attribute,MZ h2])) (TT.seq (Nx.refl ..) pre (Sd.e pre h1) λvo ov ρ1 H1 φ1 s1 n1 m1 p1 r1=>TT.last m1 ?_);exact(Fo ok.too9).get p1 r1 (of_decide_eq_true h3)
 |sub o i p=>refine jx h λh1 h2 h3=>?_;exact aaN Sd.tod3 pre h1 h2 (jf h3)
 |fL o lo hi sp p=>refine jx h λh1 h2 h3=>?_;exact aaP Sd.tod3 pre h1 h2 h3
 |list l r p=>refine us h λh1 h2=>?_;exact aaT Sd.tod3 pre h1 (gO h2)
 |tup l k p=>refine us h λh1 h2=>?_;exact aaM Sd.tod3 pre h1 (gO h2)
 |dict p=>exact aaX pre
 |dct k v p=>refine us h λh1 h2=>?_;exact aaY Sd.tod3 pre h1 h2
 |fst c k p p'=>exact aaW pre h
 |oF t a b p=>refine jx h λh1 h2 h3=>?_;exact aaU Sd.tod3 pre h1 h2 h3
 |gen=>exact ag.stuck
 |comp elt tg it ifs sc p=>exact L6 ok.toef Sd.tovZ pre h
 |sJ t e p=>refine us h λh1 h2=>?_;refine TT.imp (λO O h=>wpAny_NamedExpr h) (TT.seq (Nx.refl ..) pre (Sd.e pre h2) λvo ov ρ1 H1 φ1 s1 n1 m1 p1 r1=>?_);exact TT.seq m1 p1 (BK p1 h1 r1) λO O ρ2 H2 φ2 s2 n2 m2 p2 r2=>TT.now m2 p2 (n2.vr p1.er r1)
 |_=>exact ag.stuck
def RN(ok:nN V)(Sd:d3 V E)(pre:ao V d q G J U H s){c:C}(h:wf V c G.K=true):ag V G J s (isTrue (au c) G.env (eval (au c) G.env)) (G2 E d q c U H) (λO O a b=>a=b):=by
 have gen:=RJ Sd pre h;cases c with
 |not a p=>exact RP Sd pre h
 |cmp op a b p=>refine jx h λh1 h2 h3=>?_;exact RU ok.toef Sd pre h1 h2 (jf h3)
 |fw isAnd l p=>refine ua (uB (l:=l) h) λe h=>?_;have:=RV Sd (isAnd:=isAnd) (cs l) pre h;rw[<- e] at this;exact TT.imp (λO O h=>wpAny_isTrue_BoolOp h) this
 |nil=>exact cR h
 |cons=>exact cR h
 |bad=>exact cR h
 |oF=>exact ag.stuck
 |gen=>exact ag.stuck
 |_=>exact gen rfl
def RX{elt tgt:Expr}{gens:List Comprehension}{sc:Scope}{pos:Pos}{line:Nat}{env:Env}:∃b,swapsWithSole [tgt] (.ListComp elt gens sc pos) line env=pure b:=by cases tgt<;>first|exact⟨_,rfl⟩|exact⟨false,rfl⟩
def Vy{ts:C}(h1:tI ts=true)(h2:(cs ts).length=1):∃t,cs ts=[t]/\bN ts=[au t]:=by refine ue (List.length_eq_one_iff.mp h2) λt e=>?_;exact⟨t,e,by rw[DU h1,e];rfl⟩
def aby{e:C}{K:Cx}(h:wf V e K=true):(rE (au e)=true/\qT E d q e=E.e d q e)\/∃elt tg it ifs sc p,e=.comp elt tg it ifs sc p:=by
 cases e with
 |comp elt tg it ifs sc p=>exact .inr ⟨_,_,_,_,_,_,rfl⟩
 |bad=>exact cR h
 |gen=>exact .inl ⟨(nF h).2,rfl⟩
 |_=>exact .inl ⟨rfl,rfl⟩
def TB(ok:nN V)(Sd:me V E)(pre:ao V d q G J U H s){ts e:C}{pos:Pos}(h1:tI ts=true)(h2:∀t∈cs ts,sI V G.K t=true)(h3:wf V e G.K=true)(h4:(Nat.beq (cs ts).length 1||rE (au e))=true)(h5:Ar (au e)=true):
  ag V G J s (exec (.Assign (bN ts) (au e) pos) G.env) (Fp V.P E d q ts e U H) (d6 V):=by
 have jL:=Fo ok.too9;unfold Fp;rcases aby (E:=E) (d:=d) (q:=q) h3 with⟨hc,he⟩|⟨elt,tg,it,ifs,sc,p,rfl⟩
 ·rw[he];exact HG ok.toef jL Sd.tod3 pre h1 h2 (Sd.e pre h3) (SF hc) h5
 ·have hl:(cs ts).length=1:=by
   rcases sy.mp h4 with h|h
   ·exact bW h
   ·exact cR h
  refine aq (Vy h1 hl) λt e1 e2=>?_;refine ue (RX (env:=G.env) (elt:=au elt) (tgt:=au t) (gens:=⟨au tg,au it,bN ifs,0⟩::iT (bN elt)) (sc:=sc) (pos:=p) (line:=pos.line)) λb hb=>?_;cases b with
  |false=>exact HG ok.toef jL Sd.tod3 pre h1 h2 (m:=vR E d q elt tg it ifs) (L6 ok.toef Sd.tovZ pre h3) (by rw[e2];exact hb) h5
  |true=>
   cases q with
   |false=>exact ag.stuck
   |true=>rw[e1,e2];exact TC ok.toef jL Sd.tovZ pre (h2 t (by rw[e1];exact bA)) h3 hb
def Ts(ok:nN V)(Sd:me V E)(pre:ao V d q G J U H s){c:S}(h:wF V c G.K=true):ag V G J s (exec (wI c) G.env) (G3 V.P E d q c U H) (d6 V):=by
 cases c with
 |asg ts e p=>refine Cm h λh1 h2 h3 h4 h5=>?_;rw[jw] at h2;exact TB ok Sd pre h1 h2 h3 h4 h5
 |aug op t e p=>refine us h λh1 h2=>?_;exact TA (Fo ok.too9) Sd.tod3 pre h2 h1
 |expr e p=>refine us h λh1 h2=>?_;exact Tx Sd.tod3 pre h1 h2
 |iff t a b p=>refine jx h λh1 h2 h3=>?_;exact Tv Sd.tovY pre h1 h2 h3
 |gP t a b p=>refine jx h λh1 h2 h3=>?_;exact Tq Sd.toyV pre h1 h2 h3
 |loop tg it b p=>
  refine pH h λh1 h2 h3 h4=>?_;cases q with
  |false=>exact ag.stuck
  |true=>exact Tw ok.toef Sd.toyV pre h1 h2 h3 h4
 |ret e p=>exact Tt Sd.tod3 pre h
 |brk p=>show ag V G J s (exec (.Break p) G.env) (.ok .brk U H) (d6 V);rw[arm_exec_Break];exact TT.imp (λO O h=>ah (fy (aH h))) (TT.now (Nx.refl ..) pre rfl)
 |cont p=>show ag V G J s (exec (.Continue p) G.env) (.ok .cont U H) (d6 V);rw[arm_exec_Continue];exact TT.imp (λO O h=>ah (fy (aH h))) (TT.now (Nx.refl ..) pre rfl)
 |pass p=>show ag V G J s (exec (.Pass p) G.env) (.ok .next U H) (d6 V);rw[arm_exec_Pass];exact TT.imp (λO O h=>ah (fy (aH h))) (TT.now (Nx.refl ..) pre rfl)
 |tri b x k np hh hp p=>refine pH h λh1 h2 h3 h4=>?_;exact Tr ok.torY Sd.tovY pre h1 h2 h3 (jf h4)
 |del o i sp p=>refine us h λh1 h2=>?_;exact Tz Sd.tod3 pre h1 h2
 |raise x k np args cp p=>refine us h λh1 h2=>?_;exact Tu ok.torY Sd.tod3 pre h1 h2
 |_=>exact ag.stuck
def SI(ok:nN V):∀n,me V (ev V.P n):=by
 intro n
 induction n with
 |zero=>exact {e:=λO O=>ag.stuck,t:=λO O=>ag.stuck,s:=λO O=>ag.stuck,w:=λO O O O h=>absurd rfl h,f:=λO O O O O O h=>absurd rfl h,cp:=λO O O O O O O O h=>absurd rfl h,yz:=λO O O O h=>absurd rfl h,rho:=λO h=>(nomatch h),call:=λO O O=>ag.stuck}
 |succ n ih=>
  have Sd:=ih;exact {
   e:=λpre h=>aaO ok Sd pre h
   t:=λpre h=>RN ok Sd.tod3 pre h
   s:=λpre h=>Ts ok Sd pre h
   w:=λpre h1 h2 h3=>QP Sd.toyV pre h1 h2 h3
   f:=λn0 hI pre it h1 h2=>aaa ok.toef Sd.toyV n0 hI pre it h1 h2
   cp:=λn0 hI pre it hD h1 h2 h3=>acd ok.toef Sd.tovZ n0 hI pre it hD h1 h2 h3
   yz:=λpre hk hg hv=>LH ok Sd pre hk hg hv
   rho:=λhk h=>T9 hk h
   call:=λpre hf hv=>aca ok Sd pre hf hv}
end
noncomputable def Bf(h:Heap)(as:List Addr):Frag:=as.filterMap λa=>(h.get? a).map λo=>(a,o)
def ZO(h:Heap):∀as:List Addr,(Bf h as).In h:=by
 intro as
 induction as with
 |nil=>intro _ _ e;exact nomatch e
 |cons b as ih=>
  intro a o e;unfold Bf at e;rw[wA] at e;cases hb:h.get? b with
  |none=>rw[hb] at e;exact ih a o e
  |some ob=>
   rw[hb] at e;dsimp only[Option.map_some] at e;rw[iH] at e;cases hq:(a==b) with
   |true=>rw[hq] at e;obtain rfl:=sj e;rw[eq_of_beq hq];exact hb
   |false=>rw[hq] at e;exact ih a o e
noncomputable def ob{α:Type}(x:Option α)(f:α->Bool):Bool:=match x with
 |some a=>f a
 |none=>false
noncomputable def tO(h:Heap)(x:Str):Option Value:=match h.nsMap mainGlobals x with
 |some v=>some v
 |none=>h.nsMap builtinsNs x
noncomputable def CR(v:Value):Option Addr:=match v with
 |.ref a=>some a
 |_=>none
noncomputable def J6(v:Value):Option Int:=match v with
 |.int i _=>some i
 |_=>none
noncomputable def Hy(d:Data):Option (Array Value):=match d with
 |.seq l _=>some l
 |_=>none
noncomputable def Lx(d:Data):Option FuncData:=match d with
 |.func f=>some f
 |_=>none
def xo(v:Option Value):Option Addr:=v.bind CR
def pU(v:Option Value):Addr:=(xo v).getD 0
noncomputable def X7(g:GE):Bool:=match g with
 |.cv _=>true
 |_=>false
noncomputable def Lc(h:Heap):List Str->List GE->List (Option Value)
 |x::xs,g::gs=>(match X7 g with|true=>none|false=>tO h x)::Lc h xs gs
 |_,_=>[]
def Wc(h:Heap)(fr:Frag)(p:Str×Str):Option Value:=match findIn fr (.ref (pU (tO h p.1))) p.2 with
 |some v=>v
 |none=>none
structure Tb where
 P:bP
 gl:List Str
 nm:List Str
 ms:List (Str×Str)
 as:List Addr
 pr:Program
def Tb.yn(T:Tb)(h:Heap):List (Option Value):=Lc h T.gl T.P.gt++T.ms.map (Wc h (Bf h T.as))
noncomputable def xW(v:Option (Option Value)):Option Value:=match v with
 |some v=>v
 |none=>none
def qb(T:Tb)(w:World)(h:Heap):Cf:={prog:=T.pr,w:=w,h₀:=h,P:=T.P,gl:=T.gl,nm:=T.nm,gv:=λk=>xW (ae (T.yn h) k),clsAt:=λc=>pU (xW (ae (T.yn h) c)),fr:=Bf h T.as}
noncomputable def xY(v:Option (Option Value))(id:String):Bool:=decide (v=some (some (.builtin id)))
def Fc(h:Heap)(v:Value)(fd:FD)(as:List Arg)(va:Option Arg):Bool:=match fd.dflt with
 |[]=>decide (v=.none)
 |d::ds=>d.tu&&ds.isEmpty&&Nat.beq as.length 2&&va.isNone&&decide ((((CR v).bind h.get?).bind λo=>Hy o.data)=some #[.none])
noncomputable def abR(p:Arguments)(fd:FD):Bool:=p.posonlyargs.isEmpty&&p.kwonlyargs.isEmpty&&p.kwarg.isNone&&Nat.beq fd.npar p.args.length&&decide (fd.va=p.vararg.isSome)
def ab3(V:Cf)(fd:FD)(f:FuncData):Bool:=
 V.h₀.codeRecOk f.code f.qualname&&f.closure.isEmpty&&Nat.beq f.globals mainGlobals&&Nat.beq f.builtins builtinsNs&&abR f.params fd&&E9 f.scope (rA f.params.args f.params.vararg) &&
 Fc V.h₀ f.defaults fd f.params.args f.params.vararg&&eX V fd.body (rR f.scope.names (rA f.params.args f.params.vararg))
def EI(h:Heap)(v:Option Value):Option FuncData:=(xo v).bind λa=>(h.get? a).bind λo=>Lx o.data
def MD(V:Cf)(k:Nat)(fd:FD):Bool:=ob (EI V.h₀ (V.gv k)) (ab3 V fd)
def BJ(h:Heap)(v:Option Value):FuncBody:=match EI h v with
 |some f=>f.body
 |none=>.stmts []
noncomputable def DV(g:Option GE):Bool:=match g with
 |some (.fn _)=>true
 |_=>false
def DT(v:Option Value):Bool:=(xo v).isSome
def MC(V:Cf)(c:Nat)(cd:CD):Bool:=DV (ae V.P.gt cd.init)&&DT (V.gv cd.init)&&decide (findIn V.fr (.ref (V.clsAt c)) "__init__"=some (V.gv cd.init))&&decide (typeIn V.fr (.ref (pU (V.gv cd.init)))=some (.type "function"))
def MB(V:Cf)(c:Nat)(cd:CD)(x:Str)(k:Nat):Bool:=
 DV (ae V.P.gt k)&&DT (V.gv k)&&fnIn V.fr (pU (V.gv k))&&decide (findIn V.fr (.ref (V.clsAt c)) x=some (V.gv k))&&decide (typeIn V.fr (.ref (pU (V.gv k)))=some (.type "function")) &&
 xY (specialIn V.fr (.ref (pU (V.gv k))) "__get__") "function.__get__"&&decide (takesIn V.fr (.ref (pU (V.gv k)))=some false)&&cd.bD.all (λa=>!decide (ae V.nm a=some x))&&!copiedNames.contains x&&!cd.slots
noncomputable def E4(V:Cf)(c:Nat)(cd:CD):List (Nat×Nat)->Bool
 |[]=>true
 |p::l=>ob (ae V.nm p.1) (λx=>MB V c cd x p.2)&&E4 V c cd l
def ME(V:Cf)(c j:Nat)(x:Str):Bool:=ob (xo (xW (findIn V.fr (.ref (V.clsAt c)) x))) λp=>decide (slotIn V.fr p (V.clsAt c)=some j)&&decide (typeIn V.fr (.ref p)=some (.type "member_descriptor"))&&xY (specialIn V.fr (.ref p) "__get__") "member_descriptor.__get__"&&decide (takesIn V.fr (.ref p)=some true)
noncomputable def Fb(V:Cf)(c:Nat):Nat->List Nat->Bool
 |_,[]=>true
 |j,a::l=>ob (ae V.nm a) (ME V c j)&&Fb V c (j+1) l
def MA(V:Cf)(c a:Nat):Bool:=ob (ae V.nm a) λx=>decide (findIn V.fr (.ref (V.clsAt c)) x=some none)
def abV(K:Frag)(C:Addr)(sl:Bool):Bool:=ob (clsIn K C) λk=>decide (k.hasDict=!sl)
def MG(V:Cf)(c:Nat)(cd:CD):Bool:=
 decide (V.gv c=some (.ref (V.clsAt c)))&&makesIn V.fr (V.clsAt c)&&MC V c cd&&xY (findIn V.fr (.ref (V.clsAt c)) "__getattribute__") "object.__getattribute__"&&decide (findIn V.fr (.ref (V.clsAt c)) "__getattr__"=some none) &&
 xY (findIn V.fr (.ref (V.clsAt c)) "__setattr__") "object.__setattr__"&&plainOver V.fr (V.clsAt c)&&abV V.fr (V.clsAt c) cd.slots&&Nat.ble cd.bD.length 100&&decide ((cd.bD.map (ae V.nm)).Nodup)&&cd.bD.all (λa=>(ae V.nm a).isSome) &&
 (match cd.slots with|true=>Fb V c 0 cd.bD|false=>cd.bD.all (MA V c))&&E4 V c cd cd.meths
def Mw(h:Heap)(a:Addr)(dt:Data):Bool:=match dt with
 |.cls cd=>decide (cd.mro=.ref a::yM)&&!cd.hasDel&&h.isNs cd.ns&&decide (h.nsMap cd.ns "__init__"=none)
 |_=>false
def Mv(h:Heap)(a:Addr)(o:Obj):Bool:=decide (o.cls=.type "type")&&Mw h a o.data&&Nat.beq o.slots.toList.length 6&&decide (ae o.slots.toList 4=some (some (.builtin "ValueError.__new__")))
def Mx(V:Cf)(k x:Nat):Bool:=match x with
 |0=>decide (V.gv k=some (.type "StopIteration"))
 |y+1=>Nat.beq y k&&decide (V.gv k=some (.ref (V.clsAt k)))&&ob (V.h₀.get? (V.clsAt k)) (Mv V.h₀ (V.clsAt k))
def E8(V:Cf)(k:Nat)(g:GE):Bool:=match g with
 |.fn fd=>MD V k fd
 |.cl cd=>MG V k cd
 |.exc x=>Mx V k x
 |.bi b=>decide (V.gv k=some (yN b))
 |.cv _=>true
noncomputable def E6(V:Cf):Nat->List GE->Bool
 |_,[]=>true
 |k,g::l=>E8 V k g&&E6 V (k+1) l
noncomputable def E5(K:Frag)(v:Option Value):Bool:=match v with
 |none=>true
 |some v=>!decide (v=.none)&&handedIn v&&match v with
  |.builtin _=>true
  |.type _=>true
  |v=>keepIn K v
noncomputable def E7(V:Cf):Nat->List Str->Bool
 |_,[]=>true
 |k,x::l=>ob (tO V.h₀ x) (λv=>ob (ae V.P.gt k) λg=>match g with
   |.cv c=>c.int?.isSome&&decide (J6 v=c.int?)
   |_=>decide (V.gv k=some v))&&E7 V (k+1) l
def abS(nm:List Str)(m:Nat):Bool:=decide (ae nm m=some (Az m))
def yJ(V:Cf)(gvs:List (Option Value)):Bool:=Nat.ble 10 V.h₀.objs.size&&V.h₀.isNs mainGlobals&&V.h₀.isNs builtinsNs&&V.h₀.noLimitOk&&[0,1,2,3,5,6,7,8,9].all (abS V.nm)&&gvs.all (E5 V.fr)&&E7 V 0 V.gl&&E6 V 0 V.P.gt
noncomputable def qi:List GE->Nat->List (Nat×FD)
 |[],_=>[]
 |g::l,k=>match g with
  |.fn fd=>(k,fd)::qi l (k+1)
  |_=>qi l (k+1)
def Fg(V:Cf):List (Nat×FuncBody):=(qi V.P.gt 0).map λp=>(p.1,BJ V.h₀ (V.gv p.1))
section
variable {V:Cf}
def H9{v:Value}{a:Addr}(h:CR v=some a):v=.ref a:=by
 cases v with
 |ref b=>exact congrArg Value.ref (sj h)
 |_=>exact aR h
def CS{v:Option Value}{a:Addr}(h:xo v=some a):v=some (.ref a):=by
 cases v with
 |none=>exact aR h
 |some v=>rw[H9 h]
variable {α:Type}
def uE{x:Option α}{f:α->Bool}{G:Prop}(h:ob x f=true)(k:∀a,x=some a->f a=true->G):G:=by
 cases x with
 |none=>exact cR h
 |some a=>exact k a rfl h
def J1{v:Option Value}(h:DT v=true):v=some (.ref (pU v)):=by refine ue (sA.mp h) λa e=>?_;unfold pU;rw[e];exact CS e
def J3{g:Option GE}(h:DV g=true):∃fd,g=some (.fn fd):=by
 cases g with
 |none=>exact cR h
 |some g=>cases g<;>first|exact⟨_,rfl⟩|exact cR h
variable {v:Option (Option Value)}
def AR{id:String}(h:xY v id=true):v=some (some (.builtin id)):=of_decide_eq_true h
variable {f:FuncData}
def Z0{d:Data}(h:Lx d=some f):d=.func f:=by
 cases d with
 |func g=>exact congrArg Data.func (sj h)
 |_=>exact aR h
def Tc{d:Data}{l:Array Value}(h:Hy d=some l):∃m,d=.seq l m:=by
 cases d with
 |seq g m=>exact⟨m,by rw[sj h]⟩
 |_=>exact aR h
def Ye{v:Value}{i:Int}(h:J6 v=some i):∃t,v=.int i t:=by
 cases v with
 |int j t=>exact⟨t,by rw[sj h]⟩
 |_=>exact aR h
variable {h:Heap}
def Z8{v:Option Value}(e:EI h v=some f):∃a o,v=some (.ref a)/\h.get? a=some o/\o.data=.func f:=by refine ub e λa e1 e=>?_;refine ub e λo e2 e=>?_;exact⟨a,o,CS e1,e2,Z0 e⟩
def Ro:∀l:List α,l.length=2->∃x y,l=[x,y]
 |[x,y],_=>⟨x,y,rfl⟩
def ab4{fd:FD}{as:List Arg}{va:Option Arg}(h:Fc V.h₀ f.defaults fd as va=true):FC V f fd as va:=by
 unfold Fc at h;cases e:fd.dflt with
 |nil=>rw[e] at h;exact .none (of_decide_eq_true h) e
 |cons d ds=>
  rw[e] at h;refine Cm h λh1 h2 h3 h4 h5=>?_;have e1:d=.none:=by cases d<;>first|rfl|exact cR h1
  have e2:=List.isEmpty_iff.mp h2;subst e1 e2;refine ct (Ro as (bW h3)) λx y e3=>?_;refine ub (of_decide_eq_true h5) λo e5 h5=>?_;refine ub e5 λT e6 e7=>?_;refine ue (Tc h5) λm hd=>?_;exact .one x y T o m e3 (B6.mp h4) e (H9 e6) e7 hd
variable {k:Nat}
def ab0{fd:FD}(h:MD V k fd=true)(hb:BJ V.h₀ (V.gv k)=.stmts (c9 fd.body)):Nv V k fd:=by
 unfold BJ at hb;refine uE h λf e h=>?_
 ·rw[e] at hb;refine bB (Z8 e) λa o e1 e2 e3=>?_;refine Gw h λh1 h2 h3 h4 h5 h6 h7 h8=>?_;refine Cm h5 λp1 p2 p3 p4 p5=>?_;have q1:=List.isEmpty_iff.mp p1;have q2:=List.isEmpty_iff.mp p2;have q3:=B6.mp p3;refine⟨a,o,f,f.params.args,f.params.vararg,f.params.kw_defaults,f.params.defaults,hM.mk e1 e2 e3 hb (.of_ok h1) (List.isEmpty_iff.mp h2) (bW h3) (bW h4) ?_ h6 (bW p4) (of_decide_eq_true p5) (ab4 h7) h8⟩;generalize f.params=p at *;cases p;dsimp only at q1 q2 q3;rw[q1,q2,q3]
variable {c:Nat}
def abW{cd:CD}(h:MC V c cd=true):∃f fd,o3 V c cd f fd:=by refine pH h λh1 h2 h3 h4=>?_;have r:=J1 h2;refine ue (J3 h1) λfd e=>?_;exact⟨_,fd,o3.mk (by rw[<- cQ];exact e) (by rw[<- r];exact of_decide_eq_true h3) (of_decide_eq_true h4) r⟩
def abU{m:Nat}{cd:CD}{x:Str}(hx:ae V.nm m=some x)(h:MB V c cd x k=true):∃x f fd,iE V c cd m k x f fd:=by
 refine Q4 h λh1 h2 h3 h4 h5 h6 h7 h8 h9 ED=>?_;have r:=J1 h2;refine ue (J3 h1) λfd e=>?_;rw[jw] at h8;exact⟨x,_,fd,iE.mk (by rw[<- cQ];exact e) h3 (by rw[<- cQ];exact hx) (by rw[<- r];exact of_decide_eq_true h4) (of_decide_eq_true h5) r (AR h6) (of_decide_eq_true h7) (
  λa ha=>by rw[<- cQ];exact of_decide_eq_false (jf (h8 a ha))) (jf h9) (jf ED)⟩
theorem abT{c:Nat}{cd:CD}:∀{l:List (Nat×Nat)},E4 V c cd l=true->∀p∈l,∃x f fd,iE V c cd p.1 p.2 x f fd:=by
 intro l
 induction l with
 |nil=>intro _ _ hp;exact nomatch hp
 |cons p l ih=>
  intro h q hq;refine us h λh1 h2=>?_;rcases bQ.mp hq with rfl|hq
  ·exact uE h1 λx hx h1=>abU hx h1
  ·exact ih h2 q hq
def XQ{x:Value}(h:xW v=some x):v=some (some x):=by
 cases v with
 |none=>exact aR h
 |some v=>exact congrArg some h
def ab2{j:Nat}{x:Str}(h:ME V c j x=true):∃p,mu V c j x p:=by refine uE h λp e0 h=>?_;refine pH h λh1 h2 h3 h4=>?_;exact⟨p,mu.mk (XQ (CS e0)) (of_decide_eq_true h1) (of_decide_eq_true h2) (AR h3) (of_decide_eq_true h4)⟩
theorem ab1{c:Nat}:∀{l:List Nat} {i:Nat},Fb V c i l=true->∀j a,l[j]?=some a->∀x,V.nm[a]?=some x->∃p,mu V c (i+j) x p:=by
 intro l
 induction l with
 |nil=>intro _ _ _ _ e _ _;exact nomatch e
 |cons b l ih=>
  intro i h j a e x hx;refine us h λh1 h2=>?_;cases j with
  |zero=>obtain rfl:=sj e;rw[cQ,hx] at h1;exact ab2 h1
  |succ j=>have:=ih h2 j a e x hx;rwa[ui,Nat.add_comm 1 j] at this
theorem Wk{β:Type}:∀{l:List (Nat×β)} {a:Nat} {b:β},l.lookup a=some b->(a,b)∈l:=by
 intro l
 induction l with
 |nil=>intro _ _ h;exact nomatch h
 |cons p l ih=>
  intro a b h;rw[iH] at h;cases hq:(a==p.1) with
  |true=>rw[hq] at h;obtain rfl:=sj h;rw[eq_of_beq hq];exact bA
  |false=>rw[hq] at h;exact bS _ (ih h)
theorem VU{α β:Type}{f:α->β}:∀{l:List α},(l.map f).Nodup->∀a∈l,∀b∈l,f a=f b->a=b:=by
 intro l
 induction l with
 |nil=>intro _ _ ha _ _ _;exact nomatch ha
 |cons c l ih=>
  intro h a ha b hb e;rw[bE,gN] at h;rcases bQ.mp ha with e1|ha<;>rcases bQ.mp hb with e2|hb
  ·rw[e1,e2]
  ·exact absurd (bU.mpr ⟨b,hb,by rw[<- e,e1]⟩) h.1
  ·exact absurd (bU.mpr ⟨a,ha,by rw[e,e2]⟩) h.1
  ·exact ih h.2 a ha b hb e
theorem VT{α β:Type}{f:α->β}:∀{l:List α},(l.map f).Nodup->l.Nodup:=by
 intro l
 induction l with
 |nil=>intro _;exact mw
 |cons c l ih=>intro h;rw[bE,gN] at h;exact gN.mpr ⟨λhm=>h.1 (pq hm),ih h.2⟩
def ab5{cd:CD}(h:MG V c cd=true):gk V c cd:=by
 refine Q3 h λh1 h2 h3 h4 h5 h6 h7 h8 h9 ED Lb Ba Zs=>?_;have nd:=of_decide_eq_true ED;rw[jw] at Lb;refine(gk.mk (of_decide_eq_true h1) h2 (abW h3) (AR h4) (of_decide_eq_true h5) (AR h6) h7 ?_ (gO h9) (VT nd) (
  λa ha b hb x e1 e2=>VU nd a ha b hb (by rw[cQ,cQ,e1,e2])) (λa ha=>?_) (λhs a ha x hx=>?_) (λhs j a e x hx=>?_) (λm k hm=>abT Zs (m,k) (Wk hm)))
 ·exact uE h8 λk e h8=>⟨k,e,of_decide_eq_true h8⟩
 ·have:=Lb a ha;rw[cQ] at this;exact sA.mp this
 ·rw[hs] at Ba;have:=jw.mp Ba a ha;unfold MA at this;rw[cQ,hx] at this;exact of_decide_eq_true this
 ·rw[hs] at Ba;have:=ab1 Ba j a e x hx;rwa[gA] at this
def vQ{n:Nat}:∀{l:List α},l.length=n+1->∃x r,l=x::r/\r.length=n
 |x::r,h=>⟨x,r,rfl,Nat.succ.inj h⟩
variable {l:List (Option Value)}
def abN(h:l.length=6)(e:ae l 4=some (some (.builtin "ValueError.__new__"))):∃k0 k1 k2 k3 k5,l=[k0,k1,k2,k3,some (.builtin "ValueError.__new__"),k5]:=by refine dN (vQ h) λk0 l0 aa h0=>?_;subst aa;refine dN (vQ h0) λk1 l1 aa h1=>?_;subst aa;refine dN (vQ h1) λk2 l2 aa h2=>?_;subst aa;refine dN (vQ h2) λk3 l3 aa h3=>?_;subst aa;refine dN (vQ h3) λk4 l4 aa h4=>?_;subst aa;refine dN (vQ h4) λk5 l5 aa h5=>?_;subst aa;cases List.eq_nil_of_length_eq_zero h5;exact⟨k0,k1,k2,k3,k5,by rw[jR e]⟩
def abP{h₀:Heap}{C:Addr}{dt:Data}(h:Mw h₀ C dt=true):∃cd,dt=.cls cd/\cd.mro=.ref C::yM/\cd.hasDel=false/\h₀.isNs cd.ns=true/\h₀.nsMap cd.ns "__init__"=none:=by
 cases dt with
 |cls cd=>refine pH h λg1 g2 g3 g4=>?_;exact⟨cd,rfl,of_decide_eq_true g1,jf g2,g3,of_decide_eq_true g4⟩
 |_=>exact cR h
def VE{C:Addr}{o:Obj}{cd:ClassData}{k0 k1 k2 k3 k5:Option Value}(h1:o.cls=.type "type")(h2:o.data=.cls cd)(h3:cd.mro=.ref C::yM)(h4:cd.hasDel=false)(h5:o.slots.toList=[k0,k1,k2,k3,some (.builtin "ValueError.__new__"),k5]):
  o=excClassObj cd.name cd.qualname C cd.ns cd.bases yM cd.hasDict cd.slotNames cd.subclasses cd.abstract cd.collection o.dict k0 k1 k2 k3 k5 "ValueError.__new__":=by
 unfold excClassObj;rw[<- h1,<- h3,<- h4,<- h2,<- h5]
def abO{o:Obj}(ho:V.h₀.get? (V.clsAt k)=some o)(h:Mv V.h₀ (V.clsAt k) o=true):∃nm q N bs hdct sn sub ab col dd k0 k1 k2 k3 k5 mN,Np V k nm q N bs hdct sn sub ab col dd k0 k1 k2 k3 k5 mN:=by refine pH h λh1 h2 h3 h4=>?_;refine Rb (abN (bW h3) (of_decide_eq_true h4)) λk0 k1 k2 k3 k5 e=>?_;refine Rd (abP h2) λcd e2 m1 m2 m3 m4=>?_;refine⟨cd.name,cd.qualname,cd.ns,cd.bases,cd.hasDict,cd.slotNames,cd.subclasses,cd.abstract,cd.collection,o.dict,k0,k1,k2,k3,k5,_,?_,.of_isNs m3,m4⟩;exact ho.trans (congrArg some (VE (of_decide_eq_true h1) e2 m1 m2 e))
def abQ{x:Nat}(h:Mx V k x=true):BS V k x:=by
 cases x with
 |zero=>exact .stop (of_decide_eq_true h)
 |succ y=>refine jx h λh1 h2 h3=>?_;have:=bW h1;subst this;exact uE h3 λo ho h3=>.own (of_decide_eq_true h2) (abO ho h3)
theorem abY:∀{l:List GE} {i:Nat},E6 V i l=true->∀j g,l[j]?=some g->E8 V (i+j) g=true:=by
 intro l
 induction l with
 |nil=>intro _ _ _ _ e;exact nomatch e
 |cons b l ih=>
  intro i h j g e;refine us h λh1 h2=>?_;cases j with
  |zero=>obtain rfl:=sj e;exact h1
  |succ j=>have:=ih h2 j g e;rwa[ui,Nat.add_comm 1 j] at this
def ZA{x:Str}{v:Value}(e:tO h x=some v):h.nsMap mainGlobals x=some v\/(h.nsMap mainGlobals x=none/\h.nsMap builtinsNs x=some v):=by
 unfold tO at e;cases h':h.nsMap mainGlobals x with
 |some v'=>rw[h'] at e;exact .inl e
 |none=>rw[h'] at e;exact .inr ⟨rfl,e⟩
def Yd{c:AV}{i:Int}(h:c.int?=some i):c=.int i:=by
 cases c with
 |int j=>exact congrArg AV.int (sj h)
 |_=>exact aR h
theorem abZ:∀{l:List Str} {i:Nat},E7 V i l=true->∀j x,l[j]?=some x->∃v,se V (i+j) (V.h₀.nsMap mainGlobals) (V.h₀.nsMap builtinsNs) x v:=by
 intro l
 induction l with
 |nil=>intro _ _ _ _ e;exact nomatch e
 |cons b l ih=>
  intro i h j x e;refine us h λh1 h2=>?_;cases j with
  |zero=>
   obtain rfl:=sj e;refine uE h1 λv hv h1=>⟨v,se.mk (ZA hv) (λg hg=>?_)⟩;have hg:V.P.gt[i]?=some g:=hg;rw[cQ,hg] at h1;cases g with
   |cv c=>refine us h1 λh1 h3=>?_;refine ue (sA.mp h1) λi' e1=>?_;refine ue (Ye ((of_decide_eq_true h3).trans e1)) λt e2=>?_;intro J h';rw[e2,Yd e1];exact .lit _ _
   |_=>exact(of_decide_eq_true h1:V.gv i=some v)
  |succ j=>have:=ih h2 j x e;rwa[ui,Nat.add_comm 1 j] at this
theorem ZZ:∀{l:List GE} {i j:Nat} {fd:FD},l[j]?=some (.fn fd)->(i+j,fd)∈qi l i:=by
 intro l
 induction l with
 |nil=>exact λe=>aR e
 |cons g l ih=>
  intro i j fd e;cases j with
  |zero=>obtain rfl:=sj e;exact(bA:(i,fd)∈(i,fd)::qi l (i+1))
  |succ j=>
   have:=ih (i:=i+1) (j:=j) e;rw[ui,Nat.add_comm 1 j] at this;cases g with
   |fn f=>exact(bS _ this:_∈(i,f)::qi l (i+1))
   |_=>exact this
def qz(K:Frag)(v:Value):Prop:=(v≠.none)/\(handedIn v=true)/\((∃id,v=.builtin id)\/(∃T,v=.type T)\/keepIn K v=true)
section
variable {b1 b2}(x:qz b1 b2)
def qz.mk:=lJ (qz b1 b2) rfl
def qz.nn:=x.1
def qz.hd:=x.2.1
def qz.kp:=x.2.2
end
def abX{K:Frag}{v:Value}(h:E5 K (some v)=true):qz K v:=by
 unfold E5 at h;refine jx h λh1 h2 h3=>?_;refine(qz.mk (of_decide_eq_false (jf h1)) h2 ?_);cases v with
 |builtin id=>exact .inl ⟨id,rfl⟩
 |type T=>exact .inr (.inl ⟨T,rfl⟩)
 |_=>exact .inr (.inr h3)
def ac6{gvs:List (Option Value)}(h:yJ V gvs=true)(tN:V.fr.In V.h₀)(Eg:∀k v,V.gv k=some v->some v∈gvs)(hb:Fg V=(qi V.P.gt 0).map λp=>(p.1,.stmts (c9 p.2.body))):nN V:=by
 refine Gw h λh1 h2 h3 h4 h5 h6 h7 h8=>?_;have gt:∀k g,V.P.gt[k]?=some g->E8 V k g=true:=λk g e=>by have:=abY h8 k g e;rwa[gA] at this
 have gv:∀k v,V.gv k=some v->qz V.fr v:=λk v e=>abX (jw.mp h6 _ (Eg k v e));have bod:∀k fd,V.P.gt[k]?=some (.fn fd)->BJ V.h₀ (V.gv k)=.stmts (c9 fd.body):=λk fd e=>by have m:=ZZ (i:=0) e;rw[gA] at m;have:=List.map_inj_left.mp hb _ m;exact(sD this).2
 have yo:BQ V:=⟨_,_,.of_isNs h2,.of_isNs h3,λk x e=>by have:=abZ h7 k x e;rwa[gA] at this⟩
 have ok:Ok V:=⟨(⟨gO h1,λk e=>(gv k _ e).nn rfl⟩:ef V),yo,tN,λk v e=>(gv k v e).kp,λm hm h4=>by
  have:m∈[0,1,2,3,5,6,7,8,9]:=by
   have:∀m<10,m≠4->m∈[0,1,2,3,5,6,7,8,9]:=by decide
   exact this m hm h4
  have:=jw.mp h5 m this;rw[<- cQ];exact of_decide_eq_true this⟩
 exact⟨⟨(⟨(⟨ok,(⟨_,.of_isNs (qI.mp h4).1,B6.mp (qI.mp h4).2⟩:V.h₀.NoLimit),λk fd e=>ab0 (gt k _ e) (bod k fd e)⟩:BR V),λc cd e=>ab5 (gt c _ e),λk v e=>(gv k v e).hd⟩:o9 V),λk x e=>abQ (gt k _ e)⟩,λk b e=>of_decide_eq_true (gt k _ e)⟩
def XR{v:Value}(e:xW (ae l k)=some v):some v∈l:=by
 rw[cQ] at e;cases h:l[k]? with
 |none=>rw[h] at e;exact aR e
 |some w=>rw[h] at e;exact e▸jS h
def abM(T:Tb)(w w':World)(h:Heap)(g:List (Option Value)):yJ (qb T w h) g=yJ (qb T w' h) g:=by kernel_rfl
def aok(T:Tb){w w':World} 
  (hc:yJ (qb T w' h) (T.yn h)=true) (hb:Fg (qb T w' h)=(qi T.P.gt 0).map λp=>(p.1,.stmts (c9 p.2.body))):nN (qb T w h):=
 ac6 (gvs:=T.yn h) ((abM T w w' h _).trans hc) (ZO h _) (λk v e=>XR e) hb
end
end
section
noncomputable abbrev pw:=PySem.Challenge.pw_ny0272_03
noncomputable def R7(s:Stmt)(n:Nat):List Stmt:=match s with
 |.If _ a b _=>match n with|0=>a|_=>b
 |.While _ a b _=>match n with|0=>a|_=>b
 |.For _ _ a _ _=>a
 |_=>[]
noncomputable def n8:List Stmt->List Nat->Stmt
 |b,i::r=>match r with
  |[]=>(b[i]?).getD (.Pass ⟨0,0,0,0⟩)
  |j::r=>n8 (R7 ((b[i]?).getD (.Pass ⟨0,0,0,0⟩)) j) r
 |_,[]=>.Pass ⟨0,0,0,0⟩
noncomputable def jk(i:Nat):List Stmt:=match pw.main.body[i]? with
 |some (.FunctionDef _ _ b _ _ _ _ _ _ _)=>b
 |_=>[]
noncomputable def iy(i j:Nat):List Stmt:=match pw.main.body[i]? with
 |some (.ClassDef _ _ _ b _ _ _ _ _ _ _)=>match b[j]? with
  |some (.FunctionDef _ _ b _ _ _ _ _ _ _)=>b
  |_=>[]
 |_=>[]
noncomputable abbrev ps(a b c:Nat):Pos:=⟨a,b,a,c⟩
noncomputable abbrev C.v(x:Str)(k a b c:Nat):C:=.var x k ⟨a,b,a,c⟩
noncomputable abbrev C.g(x:Str)(k a b c:Nat):C:=.glob x k ⟨a,b,a,c⟩
noncomputable abbrev C.u(x:C):C:=.cons x .nil
noncomputable abbrev S.u(x:S):S:=.cons x .nil
noncomputable abbrev C.uv(x:Str)(k a b c:Nat):C:=.u (.v x k a b c)
abbrev C.ci(n:Int)(l a b:Nat):C:=.cst (.int n) (.int n) 0 (ps l a b)
abbrev S.av(x:Str)(k c:Nat)(v:C)(l a b:Nat):S:=.asg (.uv x k l a c) v (ps l a b)
abbrev C.cg(x:Str)(k b:Nat)(v:C)(l a c:Nat):C:=.call (.g x k l a b) v (ps l a c)
abbrev C.sa(x:Str)(n b l a c:Nat):C:=.attr (.v "self" 0 l a b) x n (ps l a c)
abbrev S.em(o:C)(x:Str)(k:Nat)(v:C)(q:Pos)(l a b:Nat):S:=.expr (.eN o x k v q (ps l a b)) (ps l a b)
abbrev S.ec(x:Str)(k b:Nat)(v:C)(l a c:Nat):S:=.expr (.cg x k b v l a c) (ps l a c)
abbrev C.cp(o:CmpOp)(x y:C)(l a b:Nat):C:=.cmp o x y (ps l a b)
abbrev C.sp(x y:C)(l a b:Nat):C:=.sub x y (ps l a b)
abbrev C.bp(o:Operator)(x y:C)(l a b:Nat):C:=.bin o x y (ps l a b)
abbrev S.rp(x:C)(l a b:Nat):S:=.ret x (ps l a b)
abbrev S.ap(x y:C)(l a b:Nat):S:=.asg x y (ps l a b)
abbrev C.tp(x:C)(l a b:Nat):C:=.tup x 0 (ps l a b)
abbrev C.lp(x:C)(l a b:Nat):C:=.list x false (ps l a b)
noncomputable abbrev da:Str:="rest"
noncomputable abbrev fk:Str:="heap"
noncomputable abbrev fj:Str:="node"
noncomputable abbrev i9:Str:="new"
noncomputable abbrev jz:Str:="words"
noncomputable abbrev jZ:Str:="len"
noncomputable abbrev jY:Str:="pos"
noncomputable abbrev kA:Str:="append"
noncomputable abbrev lA:Str:="lays"
noncomputable abbrev lu:Str:="gain"
noncomputable abbrev mT:Str:="_ready_nodes"
noncomputable abbrev n7:Str:="reached"
noncomputable abbrev pK:Str:="length"
noncomputable abbrev qX:Str:="childpos"
noncomputable abbrev qW:Str:="npredecessors"
noncomputable abbrev sR:Str:="_node2info"
noncomputable abbrev uI:Str:="nodeinfo"
noncomputable abbrev wR:Str:="node2stacki"
noncomputable def f0:FD:=⟨1,false,[],15,(.cons (.av "rows" 1 8 (.cg "_law_rows" 1 20 (.uv "script" 0 280 21 27) 280 11 28) 280 4 28) (.cons (.av jz 2 9 (.comp (.cg "_law_text" 4 22 (.u (.cg "Int2AP" 3 29 (.u (.neg (.cg "_law_number" 2 42 (.uv "row" 13 281 43 46) 281 31 47) (ps 281 30 47))) 281 23 48)) 281 13 49) (.v "row" 13 281 54 57) (.v "rows" 1 281 61 65) .nil ⟨.function,[(".0",.local),("row",.local),("_law_text",.globalImplicit),("Int2AP",.globalImplicit),("_law_number",.globalImplicit)],false,false,[]⟩ (ps 281 12 66)) 281 4 66) (.cons (.iff (.cp .NotEq (.v jz 2 282 7 12) (.comp (.cg "_law_letters" 5 29 (.uv "row" 14 282 30 33) 282 17 34) (.v "row" 14 282 39 42) (.v "rows" 1 282 46 50) .nil ⟨.function,[(".0",.local),("row",.local),("_law_letters",.globalImplicit)],false,false,[]⟩ (ps 282 16 51)) 282 7 51) (.u (.rp (.cst (.bool false) (.bool false) 0 (ps 283 15 20)) 283 8 20)) .nil ⟨282,4,283,20⟩) (.cons (.ap (.u (.tp (.cons (.v n7 3 284 4 11) (.cons (.v lA 4 284 13 17) (.uv "double" 5 284 19 25))) 284 4 25)) (.cg "_law_search" 7 39 (.uv jz 2 284 40 45) 284 28 46) 284 4 46) (.cons (.ap (.u (.tp (.cons (.v "ring" 6 285 4 8) (.cons (.v "told" 7 285 10 14) (.uv "greatest" 8 285 16 24))) 285 4 24)) (.cg "_law_order" 8 37 (.cons (.v n7 3 285 38 45) (.uv lA 4 285 47 51)) 285 27 52) 285 4 52) (.cons (.ap (.u (.tp (.cons (.v "least" 9 286 4 9) (.cons (.v "ends" 10 286 11 15) (.cons (.v "endless" 11 286 17 24) (.uv "deepest" 12 286 26 33)))) 286 4 33)) (.cg "_law_side_by_side" 13 53 (.uv jz 2 286 54 59) 286 36 60) 286 4 60) (.cons (.iff (.fw false (.cons (.cp .NotEq (.v n7 3 287 7 14) (.v "least" 9 287 18 23) 287 7 23) (.cons (.cp .NotEq (.v "double" 5 287 27 33) (.v "ends" 10 287 37 41) 287 27 41) (.u (.cp .NotEq (.v "ring" 6 287 45 49) (.v "endless" 11 287 53 60) 287 45 60)))) (ps 287 7 60)) (.u (.rp (.cst (.bool false) (.bool false) 0 (ps 288 15 20)) 288 8 20)) .nil ⟨287,4,288,20⟩) (.u (.rp (.fw true (.cons (.cp .Eq (.v "told" 7 289 11 15) (.cg "_law_free" 9 28 (.cons (.v n7 3 289 29 36) (.uv lA 4 289 38 42)) 289 19 43) 289 11 43) (.u (.fw false (.cons (.v "ring" 6 289 49 53) (.u (.cp .Eq (.v "greatest" 8 289 57 65) (.v "deepest" 12 289 69 76) 289 57 76))) (ps 289 49 76)))) (ps 289 11 77)) 289 4 77)))))))))⟩
noncomputable def f1:FD:=⟨1,false,[],8,(.cons (.av "drawn" 1 9 (.bp .Add (.fL (.v "script" 0 170 12 18) .nil (.ci 4 170 20 21) (ps 170 19 21) (ps 170 12 22)) (.fL (.lp (.cons (.ci 0 170 26 27) (.cons (.ci 0 170 29 30) (.cons (.ci 9 170 32 33) (.u (.ci 6 170 35 36))))) 170 25 37) (.cg jZ 10 41 (.u (.fL (.v "script" 0 170 42 48) .nil (.ci 4 170 50 51) (ps 170 49 51) (ps 170 42 52))) 170 38 53) .nil (ps 170 38 54) (ps 170 25 55)) 170 12 55) 170 4 55) (.cons (.av "first" 2 9 (.cg "abs" 15 15 (.u (.sp (.v "drawn" 1 171 16 21) (.ci 0 171 22 23) 171 16 24)) 171 12 25) 171 4 25) (.cons (.av "signs" 3 9 (.lp (.cons (.bp .Add (.ci 1 172 13 14) (.bp .Mod (.v "first" 2 172 17 22) (.ci 15 172 25 27) 172 17 27) 172 13 27) (.u (.bp .Add (.ci 1 172 29 30) (.bp .Mod (.bp .Add (.bp .Add (.v "first" 2 172 34 39) (.ci 1 172 42 43) 172 34 43) (.bp .Mod (.bp .FloorDiv (.v "first" 2 172 46 51) (.ci 15 172 55 57) 172 46 57) (.ci 14 172 60 62) 172 46 62) 172 34 62) (.ci 15 172 66 68) 172 33 68) 172 29 68))) 172 12 69) 172 4 69) (.cons (.av "rows" 4 8 (.list .nil true (ps 173 11 13)) 173 4 13) (.cons (.loop (.v "x" 5 174 8 9) (.fL (.v "drawn" 1 174 13 18) (.ci 1 174 19 20) .nil (ps 174 19 21) (ps 174 13 22)) (.cons (.av "row" 6 11 (.comp (.sp (.v "signs" 3 175 15 20) (.bp .Mod (.bp .FloorDiv (.bp .FloorDiv (.cg "abs" 15 24 (.uv "x" 5 175 25 26) 175 21 27) (.ci 4 175 31 32) 175 21 32) (.bp .Pow (.ci 2 175 36 37) (.v "k" 7 175 41 42) 175 36 42) 175 21 42) (.ci 2 175 45 46) 175 21 46) 175 15 47) (.v "k" 7 175 52 53) (.cg "range" 11 62 (.u (.bp .Add (.ci 1 175 63 64) (.bp .Mod (.cg "abs" 15 70 (.uv "x" 5 175 71 72) 175 67 73) (.ci 4 175 76 77) 175 67 77) 175 63 77)) 175 57 78) .nil ⟨.function,[(".0",.local),("k",.local),("abs",.globalImplicit),("signs",.free),("x",.free)],false,false,[]⟩ (ps 175 14 79)) 175 8 79) (.cons (.gP (.cp .In (.v "row" 6 176 14 17) (.v "rows" 4 176 21 25) 176 14 25) (.u (.av "row" 6 15 (.bp .Add (.v "row" 6 177 18 21) (.lp (.u (.sp (.v "signs" 3 177 25 30) (.ci 1 177 31 32) 177 25 33)) 177 24 34) 177 18 34) 177 12 34)) .nil ⟨176,8,177,34⟩) (.u (.em (.v "rows" 4 178 8 12) kA 0 (.uv "row" 6 178 20 23) (ps 178 8 19) 178 8 24)))) ⟨174,4,178,24⟩) (.u (.rp (.v "rows" 4 179 11 15) 179 4 15)))))))⟩
noncomputable def f2:FD:=⟨1,false,[],3,(.cons (.av "number" 1 10 (.ci 0 181 13 14) 181 4 14) (.cons (.loop (.v "figure" 2 182 8 14) (.v "row" 0 182 18 21) (.u (.av "number" 1 14 (.bp .Add (.bp .Mult (.ci 16 183 17 19) (.v "number" 1 183 22 28) 183 17 28) (.v "figure" 2 183 31 37) 183 17 37) 183 8 37)) ⟨182,4,183,37⟩) (.u (.rp (.v "number" 1 184 11 17) 184 4 17))))⟩
def f3:FD:=⟨1,false,[],4,(.cons (.av "val" 1 7 (.cst (.bytes []) (.cE []) 0 (ps 161 10 13)) 161 4 13) (.cons (.av "AP" 2 6 (.cst (.bytes [65,66,67,68,69,70,71,72,73,74,75,76,77,78,79,80]) (.cE [0,1,2,3,4,5,6,7,8,9,10,11,12,13,14,15]) 0 (ps 162 9 28)) 162 4 28) (.cons (.av "num" 0 7 (.cg "int" 17 13 (.u (.cg "abs" 15 17 (.uv "num" 0 163 18 21) 163 14 22)) 163 10 23) 163 4 23) (.cons (.gP (.v "num" 0 164 10 13) (.cons (.ap (.u (.tp (.cons (.v "num" 0 165 8 11) (.uv "mod" 3 165 13 16)) 165 8 16)) (.cg "divmod" 18 25 (.cons (.v "num" 0 165 26 29) (.u (.ci 16 165 31 33))) 165 19 34) 165 8 34) (.u (.av "val" 1 11 (.bp .Add (.fL (.v "AP" 2 166 14 16) (.v "mod" 3 166 17 20) (.bp .Add (.v "mod" 3 166 21 24) (.ci 1 166 27 28) 166 21 28) (ps 166 17 28) (ps 166 14 29)) (.v "val" 1 166 32 35) 166 14 35) 166 8 35))) .nil ⟨164,4,166,35⟩) (.u (.rp (.v "val" 1 167 11 14) 167 4 14))))))⟩
def f4:FD:=⟨1,false,[],2,(.u (.rp (.eN (.cst (.str "") (.str []) 0 (ps 188 11 13)) "join" 5 (.u (.comp (.cg "chr" 19 23 (.uv "octet" 1 188 24 29) 188 20 30) (.v "octet" 1 188 35 40) (.v "word" 0 188 44 48) .nil ⟨.function,[(".0",.local),("octet",.local),("chr",.globalImplicit)],false,false,[]⟩ (ps 188 19 49))) (ps 188 11 18) (ps 188 11 50)) 188 4 50))⟩
def f5:FD:=⟨1,false,[],2,(.u (.rp (.eN (.cst (.str "") (.str []) 0 (ps 186 11 13)) "join" 5 (.u (.comp (.sp (.cst (.str "ABCDEFGHIJKLMNOP") (.str [0,1,2,3,4,5,6,7,8,9,10,11,12,13,14,15]) 0 (ps 186 20 38)) (.v "figure" 1 186 39 45) 186 20 46) (.v "figure" 1 186 51 57) (.v "row" 0 186 61 64) .nil ⟨.function,[(".0",.local),("figure",.local)],false,false,[]⟩ (ps 186 19 65))) (ps 186 11 18) (ps 186 11 66)) 186 4 66))⟩
def f6:FD:=⟨2,false,[],3,(.cons (.iff (.cp .Eq (.fL (.v da 0 190 7 11) .nil (.cg jZ 10 16 (.uv "word" 1 190 17 21) 190 13 22) (ps 190 12 22) (ps 190 7 23)) (.v "word" 1 190 27 31) 190 7 31) (.u (.rp (.tp (.cons (.v da 0 191 16 20) (.cons (.cg jZ 10 25 (.uv "word" 1 191 26 30) 191 22 31) (.cons (.fL (.v da 0 191 33 37) (.cg jZ 10 41 (.uv "word" 1 191 42 46) 191 38 47) .nil (ps 191 38 48) (ps 191 33 49)) (.u (.cst (.bool true) (.bool true) 0 (ps 191 51 55)))))) 191 15 56) 191 8 56)) .nil ⟨190,4,191,56⟩) (.cons (.iff (.cp .Eq (.fL (.v "word" 1 192 7 11) .nil (.cg jZ 10 16 (.uv da 0 192 17 21) 192 13 22) (ps 192 12 22) (ps 192 7 23)) (.v da 0 192 27 31) 192 7 31) (.u (.rp (.tp (.cons (.v da 0 193 16 20) (.cons (.cg jZ 10 25 (.uv da 0 193 26 30) 193 22 31) (.cons (.fL (.v "word" 1 193 33 37) (.cg jZ 10 41 (.uv da 0 193 42 46) 193 38 47) .nil (ps 193 38 48) (ps 193 33 49)) (.u (.cst (.bool true) (.bool true) 0 (ps 193 51 55)))))) 193 15 56) 193 8 56)) .nil ⟨192,4,193,56⟩) (.cons (.av "both" 2 8 (.ci 0 194 11 12) 194 4 12) (.cons (.gP (.cp .Eq (.sp (.v da 0 195 10 14) (.v "both" 2 195 15 19) 195 10 20) (.sp (.v "word" 1 195 24 28) (.v "both" 2 195 29 33) 195 24 34) 195 10 34) (.u (.aug .Add (.v "both" 2 196 8 12) (.ci 1 196 16 17) (ps 196 8 17))) .nil ⟨195,4,196,17⟩) (.u (.rp (.tp (.cons (.v da 0 197 12 16) (.cons (.v "both" 2 197 18 22) (.cons (.cst (.str "") (.str []) 0 (ps 197 24 26)) (.u (.cst (.bool false) (.bool false) 0 (ps 197 28 33)))))) 197 11 34) 197 4 34))))))⟩
noncomputable def f7:FD:=⟨1,false,[],14,(.cons (.av fk 1 8 (.list .nil true (ps 199 11 13)) 199 4 13) (.cons (.av lA 2 8 (.list .nil true (ps 200 11 13)) 200 4 13) (.cons (.av n7 3 11 (.dct (.cst (.str "") (.str []) 0 (ps 201 15 17)) (.ci 0 201 19 20) (ps 201 14 21)) 201 4 21) (.cons (.av "double" 4 10 (.list .nil true (ps 202 13 15)) 202 4 15) (.cons (.loop (.v "k" 5 203 8 9) (.cg "range" 11 18 (.u (.cg jZ 10 22 (.uv jz 0 203 23 28) 203 19 29)) 203 13 30) (.u (.loop (.v "j" 6 204 12 13) (.cg "range" 11 22 (.uv "k" 5 204 23 24) 204 17 25) (.cons (.ap (.u (.tp (.cons (.v da 7 205 12 16) (.cons (.v lu 8 205 18 22) (.cons (.v i9 9 205 24 27) (.uv "fits" 10 205 29 33)))) 205 12 33)) (.cg "_law_lay" 6 44 (.cons (.sp (.v jz 0 205 45 50) (.v "j" 6 205 51 52) 205 45 53) (.u (.sp (.v jz 0 205 55 60) (.v "k" 5 205 61 62) 205 55 63))) 205 36 64) 205 12 64) (.cons (.em (.v lA 2 206 12 16) kA 0 (.u (.tp (.cons (.cst (.str "") (.str []) 0 (ps 206 25 27)) (.cons (.v lu 8 206 29 33) (.cons (.v i9 9 206 35 38) (.uv "fits" 10 206 40 44)))) 206 24 45)) (ps 206 12 23) 206 12 46) (.u (.iff (.v "fits" 10 207 15 19) (.u (.ec "heappush" 20 24 (.cons (.v fk 1 208 25 29) (.u (.tp (.cons (.v lu 8 208 32 36) (.uv i9 9 208 38 41)) 208 31 42))) 208 16 43)) .nil ⟨207,12,208,43⟩)))) ⟨204,8,208,43⟩)) ⟨203,4,208,43⟩) (.cons (.gP (.v fk 1 209 10 14) (.cons (.ap (.u (.tp (.cons (.v pK 11 210 8 14) (.uv da 7 210 16 20)) 210 8 20)) (.cg "heappop" 21 30 (.uv fk 1 210 31 35) 210 23 36) 210 8 36) (.u (.iff (.cp .Eq (.v da 7 211 11 15) (.cst (.str "") (.str []) 0 (ps 211 19 21)) 211 11 21) (.u (.em (.v "double" 4 212 12 18) kA 0 (.uv pK 11 212 26 32) (ps 212 12 25) 212 12 33)) (.u (.iff (.cp .NotIn (.v da 7 213 13 17) (.v n7 3 213 25 32) 213 13 32) (.cons (.ap (.u (.sp (.v n7 3 214 12 19) (.v da 7 214 20 24) 214 12 25)) (.v pK 11 214 28 34) 214 12 34) (.u (.loop (.v "word" 12 215 16 20) (.v jz 0 215 24 29) (.cons (.av "lay" 13 19 (.cg "_law_lay" 6 30 (.cons (.v da 7 216 31 35) (.uv "word" 12 216 37 41)) 216 22 42) 216 16 42) (.cons (.em (.v lA 2 217 16 20) kA 0 (.uv "lay" 13 217 28 31) (ps 217 16 27) 217 16 32) (.u (.iff (.sp (.v "lay" 13 218 19 22) (.ci 3 218 23 24) 218 19 25) (.u (.ec "heappush" 20 28 (.cons (.v fk 1 219 29 33) (.u (.tp (.cons (.bp .Add (.v pK 11 219 36 42) (.sp (.v "lay" 13 219 45 48) (.ci 1 219 49 50) 219 45 51) 219 36 51) (.u (.sp (.v "lay" 13 219 53 56) (.ci 2 219 57 58) 219 53 59))) 219 35 60))) 219 20 61)) .nil ⟨218,16,219,61⟩)))) ⟨215,12,219,61⟩))) .nil ⟨213,8,219,61⟩)) ⟨211,8,219,61⟩))) .nil ⟨209,4,219,61⟩) (.u (.rp (.tp (.cons (.v n7 3 220 12 19) (.cons (.v lA 2 220 21 25) (.u (.fL (.v "double" 4 220 27 33) .nil (.ci 1 220 35 36) (ps 220 34 36) (ps 220 27 37))))) 220 11 38) 220 4 38))))))))⟩
def f8:FD:=⟨2,false,[],20,(.cons (.av "sorter" 2 10 (.cg "TopologicalSorter" 22 30 .nil 222 13 32) 222 4 32) (.cons (.loop (.v da 3 223 8 12) (.v n7 0 223 16 23) (.u (.em (.v "sorter" 2 224 8 14) "add" 8 (.uv da 3 224 19 23) (ps 224 8 18) 224 8 24)) ⟨223,4,224,24⟩) (.cons (.loop (.tp (.cons (.v "old" 4 225 8 11) (.cons (.v lu 5 225 13 17) (.cons (.v i9 6 225 19 22) (.uv "fits" 7 225 24 28)))) 225 8 28) (.v lA 1 225 32 36) (.u (.iff (.cp .NotEq (.v i9 6 226 11 14) (.cst (.str "") (.str []) 0 (ps 226 18 20)) 226 11 20) (.u (.em (.v "sorter" 2 227 12 18) "add" 8 (.cons (.v i9 6 227 23 26) (.uv "old" 4 227 28 31)) (ps 227 12 22) 227 12 32)) .nil ⟨226,8,227,32⟩)) ⟨225,4,227,32⟩) (.cons (.av "ring" 8 8 (.cst (.bool false) (.bool false) 0 (ps 228 11 16)) 228 4 16) (.cons (.tri (.u (.em (.v "sorter" 2 230 8 14) "prepare" 10 .nil (ps 230 8 22) 230 8 24)) "CycleError" 34 (ps 231 11 21) (.u (.av "ring" 8 12 (.cst (.bool true) (.bool true) 0 (ps 232 15 19)) 232 8 19)) ⟨231,4,232,19⟩ ⟨229,4,232,19⟩) (.cons (.av "late" 9 8 (.dict (ps 233 11 13)) 233 4 13) (.cons (.av "told" 10 8 (.list .nil true (ps 234 11 13)) 234 4 13) (.cons (.gP (.eN (.v "sorter" 2 235 10 16) "is_active" 11 .nil (ps 235 10 26) (ps 235 10 28)) (.cons (.av "ready" 11 13 (.eN (.v "sorter" 2 236 16 22) "get_ready" 12 .nil (ps 236 16 32) (ps 236 16 34)) 236 8 34) (.cons (.loop (.v da 3 237 12 16) (.v "ready" 11 237 20 25) (.cons (.em (.v "told" 10 238 12 16) kA 0 (.uv da 3 238 24 28) (ps 238 12 23) 238 12 29) (.u (.ap (.u (.sp (.v "late" 9 239 12 16) (.v da 3 239 17 21) 239 12 22)) (.cg "max" 33 28 (.u (.bp .Add (.lp (.u (.ci 0 239 30 31)) 239 29 32) (.comp (.bp .Add (.eN (.v "late" 9 239 36 40) "get" 6 (.cons (.v "old" 12 239 45 48) (.u (.ci 0 239 50 51))) (ps 239 36 44) (ps 239 36 52)) (.v lu 13 239 55 59) 239 36 59) (.tp (.cons (.v "old" 12 239 64 67) (.cons (.v lu 13 239 69 73) (.cons (.v i9 14 239 75 78) (.uv "fits" 15 239 80 84)))) 239 64 84) (.v lA 1 239 88 92) (.u (.fw true (.cons (.cp .Eq (.v i9 14 239 96 99) (.v da 3 239 103 107) 239 96 107) (.u (.cp .NotEq (.v i9 14 239 112 115) (.cst (.str "") (.str []) 0 (ps 239 119 121)) 239 112 121))) (ps 239 96 121))) ⟨.function,[(".0",.local),("old",.local),(lu,.local),(i9,.local),("fits",.local),("late",.free),(da,.free)],false,false,[]⟩ (ps 239 35 122)) 239 29 122)) 239 25 123) 239 12 123))) ⟨237,8,239,123⟩) (.u (.em (.v "sorter" 2 240 8 14) "done" 13 (.u (.star (.v "ready" 11 240 21 26) (ps 240 20 26))) (ps 240 8 19) 240 8 27)))) .nil ⟨235,4,240,27⟩) (.u (.rp (.tp (.cons (.v "ring" 8 241 12 16) (.cons (.cg "sorted" 14 24 (.uv "told" 10 241 25 29) 241 18 30) (.u (.cg "max" 33 35 (.u (.bp .Add (.lp (.u (.ci 0 241 37 38)) 241 36 39) (.comp (.bp .Add (.eN (.v "late" 9 241 43 47) "get" 6 (.cons (.v "old" 16 241 52 55) (.u (.ci 0 241 57 58))) (ps 241 43 51) (ps 241 43 59)) (.v lu 17 241 62 66) 241 43 66) (.tp (.cons (.v "old" 16 241 71 74) (.cons (.v lu 17 241 76 80) (.cons (.v i9 18 241 82 85) (.uv "fits" 19 241 87 91)))) 241 71 91) (.v lA 1 241 95 99) .nil ⟨.function,[(".0",.local),("old",.local),(lu,.local),(i9,.local),("fits",.local),("late",.free)],false,false,[]⟩ (ps 241 42 100)) 241 36 100)) 241 32 101)))) 241 11 102) 241 4 102))))))))))⟩
def f9:FD:=⟨2,false,[],12,(.cons (.av "left" 2 8 (.comp (.v da 5 243 12 16) (.v da 5 243 21 25) (.v n7 0 243 29 36) .nil ⟨.function,[(".0",.local),(da,.local)],false,false,[]⟩ (ps 243 11 37)) 243 4 37) (.cons (.av "free" 3 8 (.list .nil true (ps 244 11 13)) 244 4 13) (.u (.gP (.cst (.bool true) (.bool true) 0 (ps 245 10 14)) (.cons (.av "goes" 4 12 (.comp (.v da 6 246 16 20) (.v da 6 246 25 29) (.v "left" 2 246 33 37) (.u (.cp .Eq (.comp (.v "old" 7 246 42 45) (.tp (.cons (.v "old" 7 246 50 53) (.cons (.v lu 8 246 55 59) (.cons (.v i9 9 246 61 64) (.uv "fits" 10 246 66 70)))) 246 50 70) (.v lA 1 246 74 78) (.u (.fw true (.cons (.cp .Eq (.v i9 9 246 82 85) (.v da 6 246 89 93) 246 82 93) (.cons (.cp .NotEq (.v i9 9 246 98 101) (.cst (.str "") (.str []) 0 (ps 246 105 107)) 246 98 107) (.u (.cp .In (.v "old" 7 246 113 116) (.v "left" 2 246 120 124) 246 113 124)))) (ps 246 82 125))) ⟨.function,[(".0",.local),("old",.local),(lu,.local),(i9,.local),("fits",.local),("left",.free),(da,.free)],false,false,[]⟩ (ps 246 41 126)) (.lp .nil 246 130 132) 246 41 132)) ⟨.function,[(".0",.local),(da,.cell),(lA,.free),("left",.free)],false,false,[]⟩ (ps 246 15 133)) 246 8 133) (.cons (.iff (.cp .Eq (.v "goes" 4 247 11 15) (.lp .nil 247 19 21) 247 11 21) (.u (.rp (.cg "sorted" 14 25 (.uv "free" 3 248 26 30) 248 19 31) 248 12 31)) .nil ⟨247,8,248,31⟩) (.cons (.em (.v "free" 3 249 8 12) "extend" 3 (.uv "goes" 4 249 20 24) (ps 249 8 19) 249 8 25) (.u (.av "left" 2 12 (.comp (.v da 11 250 16 20) (.v da 11 250 25 29) (.v "left" 2 250 33 37) (.u (.cp .NotIn (.v da 11 250 41 45) (.v "goes" 4 250 53 57) 250 41 57)) ⟨.function,[(".0",.local),(da,.local),("goes",.free)],false,false,[]⟩ (ps 250 15 58)) 250 8 58))))) .nil ⟨245,4,250,58⟩))))⟩
def yB:FD:=⟨2,false,[],8,(.cons (.av "made" 2 8 (.list .nil true (ps 252 11 13)) 252 4 13) (.cons (.loop (.tp (.cons (.v "left" 3 253 8 12) (.uv "right" 4 253 14 19)) 253 8 19) (.v "pairs" 0 253 23 28) (.u (.loop (.v "one" 5 254 12 15) (.oF (.cp .Eq (.v "left" 3 254 28 32) (.cst (.str "") (.str []) 0 (ps 254 36 38)) 254 28 38) (.v jz 1 254 19 24) (.lp (.uv "left" 3 254 45 49) 254 44 50) (ps 254 19 50)) (.u (.loop (.v "two" 6 255 16 19) (.oF (.cp .Eq (.v "right" 4 255 32 37) (.cst (.str "") (.str []) 0 (ps 255 41 43)) 255 32 43) (.v jz 1 255 23 28) (.lp (.uv "right" 4 255 50 55) 255 49 56) (ps 255 23 56)) (.cons (.av "pair" 7 20 (.lp (.cons (.cg "min" 16 27 (.cons (.fL (.v "one" 5 256 28 31) (.ci 1 256 32 33) .nil (ps 256 32 34) (ps 256 28 35)) (.u (.fL (.v "two" 6 256 37 40) (.ci 1 256 41 42) .nil (ps 256 41 43) (ps 256 37 44)))) 256 24 45) (.u (.cg "max" 33 50 (.cons (.fL (.v "one" 5 256 51 54) (.ci 1 256 55 56) .nil (ps 256 55 57) (ps 256 51 58)) (.u (.fL (.v "two" 6 256 60 63) (.ci 1 256 64 65) .nil (ps 256 64 66) (ps 256 60 67)))) 256 47 68))) 256 23 69) 256 16 69) (.u (.iff (.fw true (.cons (.cp .Eq (.sp (.v "one" 5 257 19 22) (.ci 0 257 23 24) 257 19 25) (.sp (.v "two" 6 257 29 32) (.ci 0 257 33 34) 257 29 35) 257 19 35) (.u (.cp .NotIn (.v "pair" 7 257 40 44) (.v "made" 2 257 52 56) 257 40 56))) (ps 257 19 56)) (.u (.em (.v "made" 2 258 20 24) kA 0 (.uv "pair" 7 258 32 36) (ps 258 20 31) 258 20 37)) .nil ⟨257,16,258,37⟩))) ⟨255,12,258,37⟩)) ⟨254,8,258,37⟩)) ⟨253,4,258,37⟩) (.u (.rp (.cg "sorted" 14 17 (.uv "made" 2 259 18 22) 259 11 23) 259 4 23))))⟩
def vH:FD:=⟨1,false,[],13,(.cons (.av "pairs" 1 9 (.comp (.gen (.v "j" 11 261 65 66) (.cg "range" 11 75 (.uv "k" 10 261 76 77) 261 70 78) (.lp (.cons (.sp (.v jz 0 261 14 19) (.v "j" 11 261 20 21) 261 14 22) (.u (.sp (.v jz 0 261 24 29) (.v "k" 10 261 30 31) 261 24 32))) 261 13 33)) (.v "k" 10 261 38 39) (.cg "range" 11 48 (.u (.cg jZ 10 52 (.uv jz 0 261 53 58) 261 49 59)) 261 43 60) .nil ⟨.function,[(".0",.local),("k",.local),("j",.local),("range",.globalImplicit),(jz,.free)],false,false,[]⟩ (ps 261 12 79)) 261 4 79) (.cons (.av "seen" 2 8 (.list .nil true (ps 262 11 13)) 262 4 13) (.cons (.av "least" 3 9 (.dct (.cst (.str "") (.str []) 0 (ps 263 13 15)) (.ci 0 263 17 18) (ps 263 12 19)) 263 4 19) (.cons (.av "ends" 4 8 (.list .nil true (ps 264 11 13)) 264 4 13) (.cons (.av pK 5 10 (.ci 0 265 13 14) 265 4 14) (.cons (.av "deepest" 6 11 (.ci 0 266 14 15) 266 4 15) (.cons (.gP (.fw true (.cons (.cp .NotEq (.v "pairs" 1 267 10 15) (.lp .nil 267 19 21) 267 10 21) (.u (.cp .NotIn (.v "pairs" 1 267 26 31) (.v "seen" 2 267 39 43) 267 26 43))) (ps 267 10 43)) (.cons (.em (.v "seen" 2 268 8 12) kA 0 (.uv "pairs" 1 268 20 25) (ps 268 8 19) 268 8 26) (.cons (.av "made" 7 12 (.cg "_law_read_on" 12 27 (.cons (.v "pairs" 1 269 28 33) (.uv jz 0 269 35 40)) 269 15 41) 269 8 41) (.cons (.aug .Add (.v pK 5 270 8 14) (.ci 1 270 18 19) (ps 270 8 19)) (.cons (.loop (.tp (.cons (.v "one" 8 271 12 15) (.uv "two" 9 271 17 20)) 271 12 20) (.v "made" 7 271 24 28) (.cons (.av "deepest" 6 19 (.v pK 5 272 22 28) 272 12 28) (.u (.iff (.fw true (.cons (.cp .Eq (.v "one" 8 273 15 18) (.cst (.str "") (.str []) 0 (ps 273 22 24)) 273 15 24) (.u (.cp .Eq (.v "two" 9 273 29 32) (.cst (.str "") (.str []) 0 (ps 273 36 38)) 273 29 38))) (ps 273 15 38)) (.u (.em (.v "ends" 4 274 16 20) kA 0 (.uv pK 5 274 28 34) (ps 274 16 27) 274 16 35)) (.u (.iff (.fw true (.cons (.cp .Eq (.v "one" 8 275 17 20) (.cst (.str "") (.str []) 0 (ps 275 24 26)) 275 17 26) (.u (.cp .NotIn (.v "two" 9 275 31 34) (.v "least" 3 275 42 47) 275 31 47))) (ps 275 17 47)) (.u (.ap (.u (.sp (.v "least" 3 276 16 21) (.v "two" 9 276 22 25) 276 16 26)) (.v pK 5 276 29 35) 276 16 35)) .nil ⟨275,12,276,35⟩)) ⟨273,12,276,35⟩))) ⟨271,8,276,35⟩) (.u (.av "pairs" 1 13 (.comp (.v "pair" 12 277 17 21) (.v "pair" 12 277 26 30) (.v "made" 7 277 34 38) (.u (.cp .NotEq (.v "pair" 12 277 42 46) (.lp (.cons (.cst (.str "") (.str []) 0 (ps 277 51 53)) (.u (.cst (.str "") (.str []) 0 (ps 277 55 57)))) 277 50 58) 277 42 58)) ⟨.function,[(".0",.local),("pair",.local)],false,false,[]⟩ (ps 277 16 59)) 277 8 59)))))) .nil ⟨267,4,277,59⟩) (.u (.rp (.tp (.cons (.v "least" 3 278 12 17) (.cons (.fL (.v "ends" 4 278 19 23) .nil (.ci 1 278 25 26) (ps 278 24 26) (ps 278 19 27)) (.cons (.cp .NotEq (.v "pairs" 1 278 29 34) (.lp .nil 278 38 40) 278 29 40) (.uv "deepest" 6 278 42 49)))) 278 11 50) 278 4 50)))))))))⟩
def LL:FD:=⟨2,false,[],2,(.cons (.em (.v fk 0 124 4 8) kA 0 (.uv "item" 1 124 16 20) (ps 124 4 15) 124 4 21) (.u (.ec "_siftdown" 23 13 (.cons (.v fk 0 125 14 18) (.cons (.ci 0 125 20 21) (.u (.bp .Sub (.cg jZ 10 26 (.uv fk 0 125 27 31) 125 23 32) (.ci 1 125 35 36) 125 23 36)))) 125 4 37)))⟩
def yA:FD:=⟨1,false,[],3,(.cons (.av "lastelt" 1 11 (.eN (.v fk 0 127 14 18) "pop" 1 .nil (ps 127 14 22) (ps 127 14 24)) 127 4 24) (.cons (.iff (.v fk 0 128 7 11) (.cons (.av "returnitem" 2 18 (.sp (.v fk 0 129 21 25) (.ci 0 129 26 27) 129 21 28) 129 8 28) (.cons (.ap (.u (.sp (.v fk 0 130 8 12) (.ci 0 130 13 14) 130 8 15)) (.v "lastelt" 1 130 18 25) 130 8 25) (.cons (.ec "_siftup" 24 15 (.cons (.v fk 0 131 16 20) (.u (.ci 0 131 22 23))) 131 8 24) (.u (.rp (.v "returnitem" 2 132 15 25) 132 8 25))))) .nil ⟨128,4,132,25⟩) (.u (.rp (.v "lastelt" 1 133 11 18) 133 4 18))))⟩
def tP:FD:=⟨3,false,[],6,(.cons (.av "newitem" 3 11 (.sp (.v fk 0 135 14 18) (.v jY 2 135 19 22) 135 14 23) 135 4 23) (.cons (.gP (.cp .Gt (.v jY 2 136 10 13) (.v "startpos" 1 136 16 24) 136 10 24) (.cons (.av "parentpos" 4 17 (.bp .RShift (.bp .Sub (.v jY 2 137 20 23) (.ci 1 137 26 27) 137 20 27) (.ci 1 137 31 32) 137 20 32) 137 8 32) (.cons (.av "parent" 5 14 (.sp (.v fk 0 138 17 21) (.v "parentpos" 4 138 22 31) 138 17 32) 138 8 32) (.cons (.iff (.cp .Lt (.v "newitem" 3 139 11 18) (.v "parent" 5 139 21 27) 139 11 27) (.cons (.ap (.u (.sp (.v fk 0 140 12 16) (.v jY 2 140 17 20) 140 12 21)) (.v "parent" 5 140 24 30) 140 12 30) (.cons (.av jY 2 15 (.v "parentpos" 4 141 18 27) 141 12 27) (.u (.cont (ps 142 12 20))))) .nil ⟨139,8,142,20⟩) (.u (.brk (ps 143 8 13)))))) .nil ⟨136,4,143,13⟩) (.u (.ap (.u (.sp (.v fk 0 144 4 8) (.v jY 2 144 9 12) 144 4 13)) (.v "newitem" 3 144 16 23) 144 4 23))))⟩
def rT:FD:=⟨2,false,[],7,(.cons (.av "endpos" 2 10 (.cg jZ 10 16 (.uv fk 0 146 17 21) 146 13 22) 146 4 22) (.cons (.av "startpos" 3 12 (.v jY 1 147 15 18) 147 4 18) (.cons (.av "newitem" 4 11 (.sp (.v fk 0 148 14 18) (.v jY 1 148 19 22) 148 14 23) 148 4 23) (.cons (.av qX 5 12 (.bp .Add (.bp .Mult (.ci 2 149 15 16) (.v jY 1 149 19 22) 149 15 22) (.ci 1 149 25 26) 149 15 26) 149 4 26) (.cons (.gP (.cp .Lt (.v qX 5 150 10 18) (.v "endpos" 2 150 21 27) 150 10 27) (.cons (.av "rightpos" 6 16 (.bp .Add (.v qX 5 151 19 27) (.ci 1 151 30 31) 151 19 31) 151 8 31) (.cons (.iff (.fw true (.cons (.cp .Lt (.v "rightpos" 6 152 11 19) (.v "endpos" 2 152 22 28) 152 11 28) (.u (.not (.cp .Lt (.sp (.v fk 0 152 38 42) (.v qX 5 152 43 51) 152 38 52) (.sp (.v fk 0 152 55 59) (.v "rightpos" 6 152 60 68) 152 55 69) 152 38 69) (ps 152 34 69)))) (ps 152 11 70)) (.u (.av qX 5 20 (.v "rightpos" 6 153 23 31) 153 12 31)) .nil ⟨152,8,153,31⟩) (.cons (.ap (.u (.sp (.v fk 0 154 8 12) (.v jY 1 154 13 16) 154 8 17)) (.sp (.v fk 0 154 20 24) (.v qX 5 154 25 33) 154 20 34) 154 8 34) (.cons (.av jY 1 11 (.v qX 5 155 14 22) 155 8 22) (.u (.av qX 5 16 (.bp .Add (.bp .Mult (.ci 2 156 19 20) (.v jY 1 156 23 26) 156 19 26) (.ci 1 156 29 30) 156 19 30) 156 8 30)))))) .nil ⟨150,4,156,30⟩) (.cons (.ap (.u (.sp (.v fk 0 157 4 8) (.v jY 1 157 9 12) 157 4 13)) (.v "newitem" 4 157 16 23) 157 4 23) (.u (.ec "_siftdown" 23 13 (.cons (.v fk 0 158 14 18) (.cons (.v "startpos" 3 158 20 28) (.uv jY 1 158 30 33))) 158 4 34))))))))⟩
def LK:FD:=⟨2,false,[.none],4,(.cons (.ap (.u (.sa sR 14 12 19 8 23)) (.dict (ps 19 26 28)) 19 8 28) (.cons (.ap (.u (.sa mT 15 12 20 8 25)) (.cst .none .none 0 (ps 20 28 32)) 20 8 32) (.cons (.ap (.u (.sa "_npassedout" 16 12 21 8 24)) (.ci 0 21 27 28) 21 8 28) (.cons (.ap (.u (.sa "_nfinished" 17 12 22 8 23)) (.ci 0 22 26 27) 22 8 27) (.u (.iff (.cp .IsNot (.v "graph" 1 23 11 16) (.cst .none .none 0 (ps 23 24 28)) 23 11 28) (.u (.loop (.tp (.cons (.v fj 2 24 16 20) (.uv "predecessors" 3 24 22 34)) 24 16 34) (.eN (.v "graph" 1 24 38 43) "items" 18 .nil (ps 24 38 49) (ps 24 38 51)) (.u (.em (.v "self" 0 25 16 20) "add" 8 (.cons (.v fj 2 25 25 29) (.u (.star (.v "predecessors" 3 25 32 44) (ps 25 31 44)))) (ps 25 16 24) 25 16 45)) ⟨24,12,25,45⟩)) .nil ⟨23,8,25,45⟩))))))⟩
def EJ:FD:=⟨2,false,[],3,(.cons (.iff (.cp .Is (.sJ (.v "result" 2 28 12 18) (.eN (.sa sR 14 26 28 22 37) "get" 6 (.uv fj 1 28 42 46) (ps 28 22 41) (ps 28 22 47)) (ps 28 12 47)) (.cst .none .none 0 (ps 28 52 56)) 28 11 56) (.u (.ap (.cons (.sp (.sa sR 14 16 29 12 27) (.v fj 1 29 28 32) 29 12 33) (.uv "result" 2 29 36 42)) (.cg "_NodeInfo" 25 54 (.uv fj 1 29 55 59) 29 45 60) 29 12 60)) .nil ⟨28,8,29,60⟩) (.u (.rp (.v "result" 2 30 15 21) 30 8 21)))⟩
def Bo:FD:=⟨2,true,[],6,(.cons (.iff (.cp .IsNot (.sa mT 15 15 33 11 28) (.cst .none .none 0 (ps 33 36 40)) 33 11 40) (.u (.bad (n8 (iy 6 2) [0,0,0]))) .nil ⟨33,8,34,79⟩) (.cons (.av uI 3 16 (.eN (.v "self" 0 35 19 23) "_get_nodeinfo" 19 (.uv fj 1 35 38 42) (ps 35 19 37) (ps 35 19 43)) 35 8 43) (.cons (.aug .Add (.attr (.v uI 3 36 8 16) qW 20 (ps 36 8 30)) (.cg jZ 10 37 (.uv "predecessors" 2 36 38 50) 36 34 51) (ps 36 8 51)) (.u (.loop (.v "pred" 4 37 12 16) (.v "predecessors" 2 37 20 32) (.cons (.av "pred_info" 5 21 (.eN (.v "self" 0 38 24 28) "_get_nodeinfo" 19 (.uv "pred" 4 38 43 47) (ps 38 24 42) (ps 38 24 48)) 38 12 48) (.u (.em (.attr (.v "pred_info" 5 39 12 21) "successors" 21 (ps 39 12 32)) kA 0 (.uv fj 1 39 40 44) (ps 39 12 39) 39 12 45))) ⟨37,8,39,45⟩)))))⟩
def Bn:FD:=⟨1,false,[],3,(.cons (.iff (.cp .IsNot (.sa mT 15 15 42 11 28) (.cst .none .none 0 (ps 42 36 40)) 42 11 40) (.u (.bad (n8 (iy 6 3) [0,0,0]))) .nil ⟨42,8,43,63⟩) (.cons (.ap (.u (.sa mT 15 12 44 8 25)) (.comp (.attr (.v "i" 2 44 29 30) fj 22 (ps 44 29 35)) (.v "i" 2 44 40 41) (.eN (.sa sR 14 49 44 45 60) "values" 7 .nil (ps 44 45 67) (ps 44 45 69)) (.u (.cp .Eq (.attr (.v "i" 2 44 73 74) qW 20 (ps 44 73 88)) (.ci 0 44 92 93) 44 73 93)) ⟨.function,[(".0",.local),("i",.local)],false,false,[]⟩ (ps 44 28 94)) 44 8 94) (.cons (.av "cycle" 1 13 (.eN (.v "self" 0 45 16 20) "_find_cycle" 23 .nil (ps 45 16 32) (ps 45 16 34)) 45 8 34) (.u (.iff (.v "cycle" 1 46 11 16) (.u (.raise "CycleError" 34 (ps 47 18 28) (.cons (.fst (.str "nodes are in a cycle") 0 (ps 47 31 51) (ps 47 29 52)) (.uv "cycle" 1 47 54 59)) (ps 47 18 60) (ps 47 12 60))) .nil ⟨46,8,47,60⟩)))))⟩
def Bm:FD:=⟨1,false,[],4,(.cons (.iff (.cp .Is (.sa mT 15 15 50 11 28) (.cst .none .none 0 (ps 50 32 36)) 50 11 36) (.u (.bad (n8 (iy 6 4) [0,0,0]))) .nil ⟨50,8,51,62⟩) (.cons (.av "result" 1 14 (.cg "tuple" 26 22 (.u (.sa mT 15 27 52 23 40)) 52 17 41) 52 8 41) (.cons (.av "n2i" 2 11 (.sa sR 14 18 53 14 29) 53 8 29) (.cons (.loop (.v fj 3 54 12 16) (.v "result" 1 54 20 26) (.u (.ap (.u (.attr (.sp (.v "n2i" 2 55 12 15) (.v fj 3 55 16 20) 55 12 21) qW 20 (ps 55 12 35))) (.g "_NODE_OUT" 27 55 38 47) 55 12 47)) ⟨54,8,55,47⟩) (.cons (.em (.sa mT 15 12 56 8 25) "clear" 2 .nil (ps 56 8 31) 56 8 33) (.cons (.aug .Add (.sa "_npassedout" 16 12 57 8 24) (.cg jZ 10 31 (.uv "result" 1 57 32 38) 57 28 39) (ps 57 8 39)) (.u (.rp (.v "result" 1 58 15 21) 58 8 21))))))))⟩
def LJ:FD:=⟨1,false,[],1,(.cons (.iff (.cp .Is (.sa mT 15 15 61 11 28) (.cst .none .none 0 (ps 61 32 36)) 61 11 36) (.u (.bad (n8 (iy 6 5) [0,0,0]))) .nil ⟨61,8,62,62⟩) (.u (.rp (.fw false (.cons (.cp .Lt (.sa "_nfinished" 17 19 63 15 30) (.sa "_npassedout" 16 37 63 33 49) 63 15 49) (.u (.cg "bool" 28 57 (.u (.sa mT 15 62 63 58 75)) 63 53 76))) (ps 63 15 76)) 63 8 76)))⟩
def vG:FD:=⟨1,true,[],8,(.cons (.iff (.cp .Is (.sa mT 15 15 69 11 28) (.cst .none .none 0 (ps 69 32 36)) 69 11 36) (.u (.bad (n8 (iy 6 7) [0,0,0]))) .nil ⟨69,8,70,62⟩) (.cons (.av "n2i" 2 11 (.sa sR 14 18 71 14 29) 71 8 29) (.u (.loop (.v fj 3 72 12 16) (.v "nodes" 1 72 20 25) (.cons (.iff (.cp .Is (.sJ (.v uI 4 73 16 24) (.eN (.v "n2i" 2 73 28 31) "get" 6 (.uv fj 3 73 36 40) (ps 73 28 35) (ps 73 28 41)) (ps 73 16 41)) (.cst .none .none 0 (ps 73 46 50)) 73 15 50) (.u (.bad (n8 (iy 6 7) [2,0,0,0,0]))) .nil ⟨73,12,74,76⟩) (.cons (.av "stat" 5 16 (.attr (.v uI 4 75 19 27) qW 20 (ps 75 19 41)) 75 12 41) (.cons (.iff (.cp .NotEq (.v "stat" 5 76 15 19) (.g "_NODE_OUT" 27 76 23 32) 76 15 32) (.u (.iff (.cp .GtE (.v "stat" 5 77 19 23) (.ci 0 77 27 28) 77 19 28) (.u (.bad (n8 (iy 6 7) [2,0,2,0,0,0,0]))) (.u (.iff (.cp .Eq (.v "stat" 5 79 21 25) (.g "_NODE_DONE" 29 79 29 39) 79 21 39) (.u (.bad (n8 (iy 6 7) [2,0,2,0,0,1,0,0,0]))) (.u (.bad (n8 (iy 6 7) [2,0,2,0,0,1,0,1,0]))) ⟨79,16,82,73⟩)) ⟨77,16,82,73⟩)) .nil ⟨76,12,82,73⟩) (.cons (.ap (.u (.attr (.v uI 4 83 12 20) qW 20 (ps 83 12 34))) (.g "_NODE_DONE" 29 83 37 47) 83 12 47) (.cons (.loop (.v "successor" 6 84 16 25) (.attr (.v uI 4 84 29 37) "successors" 21 (ps 84 29 48)) (.cons (.av "successor_info" 7 30 (.sp (.v "n2i" 2 85 33 36) (.v "successor" 6 85 37 46) 85 33 47) 85 16 47) (.cons (.aug .Sub (.attr (.v "successor_info" 7 86 16 30) qW 20 (ps 86 16 44)) (.ci 1 86 48 49) (ps 86 16 49)) (.u (.iff (.cp .Eq (.attr (.v "successor_info" 7 87 19 33) qW 20 (ps 87 19 47)) (.ci 0 87 51 52) 87 19 52) (.u (.em (.sa mT 15 24 88 20 37) kA 0 (.uv "successor" 6 88 45 54) (ps 88 20 44) 88 20 55)) .nil ⟨87,16,88,55⟩)))) ⟨84,12,88,55⟩) (.u (.aug .Add (.sa "_nfinished" 17 16 89 12 27) (.ci 1 89 31 32) (ps 89 12 32)))))))) ⟨72,8,89,32⟩))))⟩
def Bl:FD:=⟨1,false,[],7,(.cons (.av "n2i" 1 11 (.sa sR 14 18 92 14 29) 92 8 29) (.cons (.av "stack" 2 13 (.list .nil true (ps 93 16 18)) 93 8 18) (.cons (.av "itstack" 3 15 (.list .nil true (ps 94 18 20)) 94 8 20) (.cons (.av "seen" 4 12 (.cg "set" 30 18 .nil 95 15 20) 95 8 20) (.cons (.av wR 5 19 (.dict (ps 96 22 24)) 96 8 24) (.cons (.loop (.v fj 6 97 12 16) (.v "n2i" 1 97 20 23) (.cons (.iff (.cp .In (.v fj 6 98 15 19) (.v "seen" 4 98 23 27) 98 15 27) (.u (.cont (ps 99 16 24))) .nil ⟨98,12,99,24⟩) (.u (.gP (.cst (.bool true) (.bool true) 0 (ps 100 18 22)) (.cons (.iff (.cp .In (.v fj 6 101 19 23) (.v "seen" 4 101 27 31) 101 19 31) (.u (.iff (.cp .In (.v fj 6 102 23 27) (.v wR 5 102 31 42) 102 23 42) (.u (.rp (.bp .Add (.fL (.v "stack" 2 103 31 36) (.sp (.v wR 5 103 37 48) (.v fj 6 103 49 53) 103 37 54) .nil (ps 103 37 55) (ps 103 31 56)) (.lp (.uv fj 6 103 60 64) 103 59 65) 103 31 65) 103 24 65)) .nil ⟨102,20,103,65⟩)) (.cons (.em (.v "seen" 4 105 20 24) "add" 8 (.uv fj 6 105 29 33) (ps 105 20 28) 105 20 34) (.cons (.em (.v "itstack" 3 106 20 27) kA 0 (.u (.attr (.cg "iter" 31 39 (.u (.attr (.sp (.v "n2i" 1 106 40 43) (.v fj 6 106 44 48) 106 40 49) "successors" 21 (ps 106 40 60))) 106 35 61) "__next__" 9 (ps 106 35 70))) (ps 106 20 34) 106 20 71) (.cons (.ap (.u (.sp (.v wR 5 107 20 31) (.v fj 6 107 32 36) 107 20 37)) (.cg jZ 10 43 (.uv "stack" 2 107 44 49) 107 40 50) 107 20 50) (.u (.em (.v "stack" 2 108 20 25) kA 0 (.uv fj 6 108 33 37) (ps 108 20 32) 108 20 38))))) ⟨101,16,108,38⟩) (.u (.gP (.v "stack" 2 109 22 27) (.u (.tri (.cons (.av fj 6 28 (.call (.sp (.v "itstack" 3 111 31 38) (.neg (.ci 1 111 40 41) (ps 111 39 41)) 111 31 42) .nil (ps 111 31 44)) 111 24 44) (.u (.brk (ps 112 24 29)))) "StopIteration" 32 (ps 113 27 40) (.cons (.del (.v wR 5 114 28 39) (.eN (.v "stack" 2 114 40 45) "pop" 1 .nil (ps 114 40 49) (ps 114 40 51)) (ps 114 28 52) (ps 114 24 52)) (.u (.em (.v "itstack" 3 115 24 31) "pop" 1 .nil (ps 115 24 35) 115 24 37))) ⟨113,20,115,37⟩ ⟨110,20,115,37⟩)) (.u (.brk (ps 117 20 25))) ⟨109,16,117,25⟩))) .nil ⟨100,12,117,25⟩))) ⟨97,8,117,25⟩) (.u (.rp (.cst .none .none 0 (ps 118 15 19)) 118 8 19))))))))⟩
def LI:FD:=⟨2,false,[],2,(.cons (.ap (.u (.sa fj 22 12 11 8 17)) (.v fj 1 11 20 24) 11 8 24) (.cons (.ap (.u (.sa qW 20 12 12 8 26)) (.ci 0 12 29 30) 12 8 30) (.u (.ap (.u (.sa "successors" 21 12 13 8 23)) (.list .nil true (ps 13 26 28)) 13 8 28))))⟩
def P:bP:=⟨[.fn f0,.fn f1,.fn f2,.fn f3,.fn f4,.fn f5,.fn f6,.fn f7,.fn f8,.fn f9,.bi .len,.bi .range,.fn yB,.fn vH,.bi .sorted,.bi .abs,.bi .min,.bi .int,.bi .divmod,.bi .chr,.fn LL,.fn yA,.cl ⟨35,false,[(19,36),(8,37),(10,38),(12,39),(11,40),(13,41),(23,42)],[14,15,16,17]⟩,.fn tP,.fn rT,.cl ⟨43,true,[],[22,20,21]⟩,.bi .tuple,.cv (.int (-1)),.bi .bool,.cv (.int (-2)),.bi .set,.bi .iter,.exc 0,.bi .max,.exc 35,.fn LK,.fn EJ,.fn Bo,.fn Bn,.fn Bm,.fn LJ,.fn vG,.fn Bl,.fn LI]⟩
noncomputable def gl:List Str:=[("law":Str),("_law_rows":Str),("_law_number":Str),("Int2AP":Str),("_law_text":Str),("_law_letters":Str),("_law_lay":Str),("_law_search":Str),("_law_order":Str),("_law_free":Str),("len":Str),("range":Str),("_law_read_on":Str),("_law_side_by_side":Str),("sorted":Str),("abs":Str),("min":Str),("int":Str),("divmod":Str),("chr":Str),("heappush":Str),("heappop":Str),("TopologicalSorter":Str),("_siftdown":Str),("_siftup":Str),("_NodeInfo":Str),("tuple":Str),("_NODE_OUT":Str),("bool":Str),("_NODE_DONE":Str),("set":Str),("iter":Str),("StopIteration":Str),("max":Str),("CycleError":Str)]
noncomputable def nm:List Str:=[("append":Str),("pop":Str),("clear":Str),("extend":Str),("?":Str),("join":Str),("get":Str),("values":Str),("add":Str),("__next__":Str),("prepare":Str),("is_active":Str),("get_ready":Str),("done":Str),("_node2info":Str),("_ready_nodes":Str),("_npassedout":Str),("_nfinished":Str),("items":Str),("_get_nodeinfo":Str),("npredecessors":Str),("successors":Str),("node":Str),("_find_cycle":Str)]
def MQ:List (Nat×List Stmt):=[(0,(jk 25)),(1,(jk 15)),(2,(jk 16)),(3,(jk 13)),(4,(jk 18)),(5,(jk 17)),(6,(jk 19)),(7,(jk 20)),(8,(jk 21)),(9,(jk 22)),(12,(jk 23)),(13,(jk 24)),(20,(jk 8)),(21,(jk 9)),(23,(jk 10)),(24,(jk 11)),(35,(iy 6 0)),(36,(iy 6 1)),(37,(iy 6 2)),(38,(iy 6 3)),(39,(iy 6 4)),(40,(iy 6 5)),(41,(iy 6 7)),(42,(iy 6 8)),(43,(iy 4 1))]
end
section
open PySem.W PyProof.Rows
abbrev uO:=PySem.Challenge.rw_ny0272_03
def tb:Tb:=⟨P,gl,nm,[("TopologicalSorter","__init__"),("TopologicalSorter","_get_nodeinfo"),("TopologicalSorter","add"),("TopologicalSorter","prepare"),("TopologicalSorter","get_ready"),("TopologicalSorter","is_active"),("TopologicalSorter","done"),("TopologicalSorter","_find_cycle"),("_NodeInfo","__init__")],List.range 260,pw⟩
noncomputable def wd:World:=⟨λO O=>0,{strHash:=λO=>0,shareClass:=λO=>0,mergeTok:=id,idOf:=λO=>0,idOfShared:=λO O=>0,followText:=λO=>false,idOfImm:=λO=>0}⟩
def MH(h:Heap):Cf:=qb tb wd h
def w6(h:Heap):Bool×Bool×List (Nat×FuncBody):=((h.get? (h.objs.size-1)).isSome,yJ (MH h) (tb.yn h),Fg (MH h))
noncomputable def qR:Bool×Bool×List (Nat×FuncBody):=(true,true,MQ.map λp=>(p.1,.stmts p.2))
def acn:((qi P.gt 0).map λp=>(p.1,FuncBody.stmts (c9 p.2.body)))=MQ.map λp=>(p.1,.stmts p.2):=by kernel_rfl
variable {h:Heap}
def ac5(e:w6 h=qR)(w:World):nN (qb tb w h):=by refine ua (sD e) λO e=>?_;refine ua (sD e) λe1 e2=>?_;exact aok tb (w':=wd) e1 (e2.trans acn.symm)
def Wz(e:w6 h=qR):h.isNs mainGlobals=true:=by refine ua (sD e) λO e=>?_;have h:=(sD e).1;refine Q2 h λh O O O O O O=>?_;exact(nF h).2
def Xz(e:w6 h=qR):∃a o,h.get? a=some o/\a+1=h.objs.size:=by refine ue (sA.mp (sD e).1) λo ho=>?_;exact⟨_,o,ho,pn (cU (jP _) (fx ho))⟩
noncomputable def DO:List Nat:=[0,2,3,4,5,6,8,9,10,11,13,15,16,17,18,19,20,21,22,23,24,25]
def qv:Program:=view pw DO
noncomputable def vg:List Str:=[Str.ofString "_NodeInfo"]
def xt(s:Shared):Bool:=xlAt qv [] s&&recOk (RowW.records (OpenRow.toRowW (OpenLaw.row uO))) s
noncomputable def tf(run:(String->Option Builtin)->Program->World->Nat->Option Value->Nat->Shared->Thread->Option Shared)(tb:String->Option Builtin)(p:Program)(w:World)(N:Nat)(s₀:Shared):Option Shared:=
 match s₀.heap.isNs mainGlobals&&s₀.gens.size==0 with
 |true=>(run tb p w s₀.heap.objs.size (s₀.heap.nsMap mainGlobals "__annotations__") N s₀ (topStub p)).bind λs₁=>match staticsOk (importedModules p.main.body) s₀.heap s₁.heap&&namesBound p s₁.heap&&gensDone s₁&&laidKept s₀.heap s₁.heap with
   |true=>some s₁
   |false=>none
 |false=>none
def Ry:topFrom=tf topRun:=rfl
def yf(s:Shared):Bool×Bool×List (Nat×FuncBody):=w6 s.heap
def Xi(w:World)(os:OsState):(tf PySem.W.Fast.tw14082659384304107361 PySem.W.Fast.tw14364793385576792824 pw w 3346 ⟨boot_heap w.params,Array.mk [],boot_drawn,boot_toks,os⟩).map (λs=>(PySem.W.Fast.tw4187177175401517315 qv vg (importedModules pw.main.body) xt true s,yf s))=some (openGood qv vg,qR):=by kernel_rfl
def Xh(w:World)(os:OsState):(topFrom treeTable pw w 3346 ⟨boot_heap w.params,Array.mk [],boot_drawn,boot_toks,os⟩).map (λs=>(openSeen qv vg (importedModules pw.main.body) xt true s,yf s))=some (openGood qv vg,qR):=by rw[Ry,PySem.W.Fast.te14082659384304107361,PySem.W.Fast.te14364793385576792824,PySem.W.Fast.te4187177175401517315];exact Xi w os
def acj:opening pw=plainProg pw.main.scope.names:=by kernel_rfl
def aci(s:Shared):fenceModules? pw s=some s:=by kernel_rfl
def Xg{p q:Program}{loose:List Str}{Xt:Shared->Bool}{α:Type}{Yf:Shared->α}{a:α}{N:Nat}(e:opening p=plainProg p.main.scope.names)(hN:Nat.ble 600 N=true)(f:∀s,fenceModules? p s=some s)
  (h:∀(w:World) (os:OsState),(topFrom treeTable p w N ⟨boot_heap w.params,Array.mk [],boot_drawn,boot_toks,os⟩).map (λs=>(openSeen q loose (importedModules p.main.body) Xt true s,Yf s))=some (openGood q loose,a)):
  LeftO p q loose Xt Yf (λO=>a) N:=by
 intro w;obtain⟨⟨h',gs,d,k,os⟩,e,e'⟩:=wh.mp (boot_open e hN f w);simp only[Prod.mk.injEq] at e';obtain⟨rfl,rfl,rfl,rfl⟩:=e';unfold openEnds;rw[e];exact h w os
def left:LeftO pw qv vg xt yf (λO=>qR) 3346:=Xg acj (by rfl) aci Xh
def CF:OpenLaw.wellSaid uO=true:=by kernel_rfl
def Mf:(defOf qv uO.row.name).isSome=true:=by kernel_rfl
def dk:DefRec×List (Str×Expr):=(defOf qv uO.row.name).get Mf
section
variable {V:Cf}{J:Ph}{s:Shared}{H:Hp}{d:Nat}{E:Ev}
noncomputable def DS(r:dG Fl):Bool:=match r with
 |.ok f _ _=>(match f with
  |.ret v=>(match v with
   |.bool b=>b
   |_=>false)
  |_=>false)
 |_=>false
def X4{r:dG Fl}(h:DS r=true):∃U H,r=.ok (.ret (.bool true)) U H:=by
 cases r with
 |ok f U H=>
  cases f with
  |ret v=>
   cases v with
   |bool b=>exact⟨U,H,by rw[show b=true from h]⟩
   |_=>exact cR h
  |_=>exact cR h
 |_=>exact cR h
def Rv(ok:BR V)(Sd:me V E)(R:aZ V [] H s.heap)(hd:d<=20){k:Nat}{fd:FD}{vf:Value}{vs:List Value}{xs:List AV}{ρ':aC}(hk:V.P.gt[k]?=some (.fn fd))(hg:V.gv k=some vf)(hv:aQ V [] s.heap vs xs)(hb:kQ fd xs=some ρ')
  (hr:DS (cW (E.s d true) (ss fd.body) ρ' H)=true) {Q Ex:Value->Shared->Prop} (h:∀φ' H' s',Nx [] [] φ' s s'->aZ V φ' H' s'.heap->Q (.bool true) s'):wpAny (model V.prog V.w) callerA (call vf vs) Q Ex s:=by
 obtain⟨ρ3,H3,hr⟩:=X4 hr;obtain⟨a,o,cL,as,va,kd,df,f⟩:=ok.fns k fd hk;rw[f.gv] at hg;cases hg;have sc:=Lu f.sc;have wb:=f.wf;have FL:fR V [] [] s.heap:=(fR.mk trivial (λL hL=>(nomatch hL)) (λL hL=>(nomatch hL)));have hA:callerA.frames=some []:=rfl;have rm:=λcenv=>HT (cenv:=cenv) (d:=d) (A:=callerA) (kW.mk (QC hd) (QB hd));have par:kX cL fd as va kd df:=(kX.mk f.ps sc.nodup f.npar f.Gq);have bn:=λ{M:Model} {A:Around} {Q:List (Str×Value)->Shared->Prop} {Ex:Value->Shared->Prop} h=>MT (M:=M) (A:=A) (Q:=Q) (Ex:=Ex) R par f.dflt hv hb h;generalize rA as va=ps at *;refine BD (codeAny_call_function (rm default).2 (R.keep _ _ f.get) f.data sc.co sc.gen f.body (f.code.keeps R.keep) (bn λs1 Ci ds1 j b=>?_));rw[f.Mu,f.rO,f.rV];refine wpAny_newFunctionEnv_cells sc.kind (λx hx=>?_) λcenv he s2 x=>⟨ok.lim.keeps λc o e=>x.toInCall.keep c o (b.grow.keep c o (R.keep c o e)),codeAny_func ?_⟩
 ·rcases sc.ps x.1 (List.of_mem_zip (show(x.1,x.2)∈ps.zip Ci from hx)).1 with h|h
  ·exact .inl h
  ·exact .inr ⟨h,Fd _ _ _ _ (.inl (jv h))⟩
 have R1:=R.grow b.grow;obtain⟨er,qg⟩:=Lr (k:=j) (A:=callerA.deeper cenv) R1 sc b.all b.len he x;have eL:cenv.locals=s1.heap.objs.size:=by rw[he];rfl
 have eF:cenv.frame=some cenv.locals:=by rw[he];rfl
 have eK:cenv.scope=cL.scope:=by rw[he];rfl
 have gr:=b.grow.trans qg;have fresh:∀c∈(yx cL.scope cenv (rR cL.scope.names ps) (callerA.deeper cenv)).X,¬ cN s.heap c:=λc hc ho=>by
  have le:s1.heap.objs.size<=c:=by
   rcases bQ.mp hc with rfl|hc
   ·exact aW eL.symm
   ·obtain⟨p,hp,e⟩:=qH.mp hc;have:=x.above p.1 c (jv e);rw[eL] at this;exact fF this
  exact jH le (b.grow.live _ ho)
 have FL2:fR V [] [] s2.heap:=(fR.mk trivial (λL hL=>(nomatch hL)) (λL hL=>(nomatch hL)));have C2:ao V d true (yx cL.scope cenv (rR cL.scope.names ps) (callerA.deeper cenv)) [] ρ' H s2:=(ao.mk (R1.grow qg) (b.rho▸er) ((rm cenv).1) (λO=>rfl) (FL2.deeper hA (by rw[eK,sc.kind];simp) eF x.toInCall.ns (Heap.get?_none_of_le (er.sH _ er.kJ)) (er.qQ _ er.kJ)))
 have T:=qo Sd.tovY (l:=fd.body) C2 wb;rw[hr] at T;refine cz (T nofun) (λf s3 hh=>?_) λe s3 h=>h.not nofun;obtain⟨b',ρ4,H4,φ3,e,a,hR⟩:=hh;cases e;obtain⟨w,rfl,r⟩:=hR;cases r;exact h φ3 _ s3 (a.nx.drop gr fresh) a.rel
end
end
section
section
def bo{α:Type}(P:bP)(f:Ev->M α)(U:aC)(H:Hp)(r:dG α):Prop:=∃N,∀n,N<=n->f (ev P n) U H=r
section
variable {P:bP}{α β:Type}{U ρ1 ρ2 ρ3:aC}{H H1 H2 H3:Hp}{d:Nat}{q:Bool}
def bo.step{f:Ev->M α}{r:dG α}(h:bo P (λE=>f (G4 P E)) U H r):bo P f U H r:=by obtain⟨N,h⟩:=h;refine⟨N+1,λn hn=>?_⟩;obtain⟨m,rfl⟩:∃m,n=m+1:=⟨n-1,(pn (aM (i5 1 N) hn)).symm⟩;exact h m (by exact Oq ‹_›)
def bo.const{m:M α}{r:dG α}(h:m U H=r):bo P (λO=>m) U H r:=⟨0,λO O=>h⟩
variable {f:Ev->α->M β}
def bo.bind{m:Ev->M α}{a:α}{r:dG β}(h1:bo P m U H (.ok a ρ1 H1))(h2:bo P (λE=>f E a) ρ1 H1 r):bo P (λE=>M.bind (m E) (f E)) U H r:=by obtain⟨N1,h1⟩:=h1;obtain⟨N2,h2⟩:=h2;refine⟨max N1 N2,λn hn=>?_⟩;have e:=h1 n (aM (Nat.le_max_left ..) hn);show M.bind (m (ev P n)) (f (ev P n)) U H=r;unfold M.bind;rw[e];exact(h2 n (aM (Nat.le_max_right ..) hn))
def bo.Fh{m:Ev->M α}{k:Nat}(h1:bo P m U H (.exc k ρ1 H1)):bo P (λE=>M.bind (m E) (f E)) U H (.exc k ρ1 H1):=by obtain⟨N1,h1⟩:=h1;refine⟨N1,λn hn=>?_⟩;show M.bind (m (ev P n)) (f (ev P n)) U H=_;unfold M.bind;rw[h1 n hn]
def bo.ret{a:α}:bo P (λO=>cj a) U H (.ok a U H):=.const rfl
def bo.rd{f:Hp->Option α}{a:α}(h:f H=some a):bo P (λO=>cu f) U H (.ok a U H):=.const (by unfold cu;rw[h])
def bo.wr{f:Hp->Option (α×Hp)}{a:α}(h:f H=some (a,H1)):bo P (λO=>mG f) U H (.ok a U H1):=.const (by unfold mG;rw[h])
def bo.up{f:Hp->Option Hp}(h:f H=some H1):bo P (λO=>gn f) U H (.ok () U H1):=.const (by unfold gn;rw[h])
def bo.Gp{k:Nat}{v:AV}(h:ae U k=some (some v)):bo P (λO=>Mine.mJ k) U H (.ok v U H):=.const (by unfold Mine.mJ;rw[h])
def bo.setM{k:Nat}{v:AV}(h:Nat.blt k U.length=true):bo P (λO=>Mine.lE k v) U H (.ok () (ai U (some v) k) H):=.const (by unfold Mine.lE;rw[h])
def bo.calm{m:Ev->M α}{a:α}(h:bo P m U H (.ok a ρ1 H1)):bo P (λE=>M.calm (m E)) U H (.ok a ρ1 H1):=by obtain⟨N,h⟩:=h;refine⟨N,λn hn=>?_⟩;show M.calm (m (ev P n)) U H=_;unfold M.calm;rw[h n hn]
def RE(P:bP)(d:Nat)(q:Bool)(c:C)(U:aC)(H:Hp)(v:AV)(ρ':aC)(H':Hp):Prop:=bo P (λE=>E.e d q c) U H (.ok v ρ' H')
def RT(P:bP)(d:Nat)(q:Bool)(c:C)(U:aC)(H:Hp)(v:Bool)(ρ':aC)(H':Hp):Prop:=bo P (λE=>E.t d q c) U H (.ok v ρ' H')
def RS(P:bP)(d:Nat)(q:Bool)(c:S)(U:aC)(H:Hp)(v:Fl)(ρ':aC)(H':Hp):Prop:=bo P (λE=>E.s d q c) U H (.ok v ρ' H')
def RB(P:bP)(d:Nat)(q:Bool)(c:S)(U:aC)(H:Hp)(v:Fl)(ρ':aC)(H':Hp):Prop:=bo P (λE=>cW (E.s d q) (ss c)) U H (.ok v ρ' H')
def RW(P:bP)(d:Nat)(q:Bool)(t:C)(b e:S)(U:aC)(H:Hp)(v:Fl)(ρ':aC)(H':Hp):Prop:=bo P (λE=>E.w d q t b e) U H (.ok v ρ' H')
def RA(P:bP)(d:Nat)(q:Bool)(c:C)(U:aC)(H:Hp)(v:List AV)(ρ':aC)(H':Hp):Prop:=bo P (λE=>gZ (E.e d q) (cs c)) U H (.ok v ρ' H')
structure RC(P:bP)(d:Nat)(f:AV)(args:List AV)(H:Hp)(v:AV)(H':Hp):Prop where
 run:∀U,bo P (λE=>E.call d f args) U H (.ok v U H')
def RO(P:bP)(d:Nat)(q:Bool)(c:C)(U:aC)(H:Hp)(v:AV)(ρ':aC)(H':Hp):Prop:=bo P (λE=>tQ (E.e d q) c) U H (.ok v ρ' H')
def RF(P:bP)(d:Nat)(tg:C)(src:bJ)(b:S)(U:aC)(H:Hp)(v:Fl)(ρ':aC)(H':Hp):Prop:=bo P (λE=>E.f d true tg src b) U H (.ok v ρ' H')
def RK(P:bP)(d:Nat)(tg:C)(src:bJ)(ifs elt:C)(k:Nat)(U:aC)(H:Hp)(ρ':aC)(H':Hp):Prop:=bo P (λE=>E.cp d tg src ifs elt k) U H (.ok () ρ' H')
def RM(P:bP)(d:Nat)(elt tg it ifs:C)(U:aC)(H:Hp)(v:AV)(ρ':aC)(H':Hp):Prop:=bo P (λE=>vR E d true elt tg it ifs) U H (.ok v ρ' H')
def RQ(P:bP)(d:Nat)(ifs:C)(U:aC)(H:Hp)(v:Bool)(ρ':aC)(H':Hp):Prop:=bo P (λE=>uF (E.t d true) true (cs ifs)) U H (.ok v ρ' H')
variable {a b c l args:C}{x y v w:AV}{p p' C7:Pos}{k m:Nat}{s:S}{r bb ee:S}{fl:Fl}
def aS{cc:Const}:RE P d q (.cst cc v k p) U H v U H:=.step .ret
variable {n:Str}
def af(h:ae U k=some (some v)):RE P d q (.var n k p) U H v U H:=.step (.Gp h)
def bL(h:yr P k U H=.ok v U H):RE P d q (.glob n k p) U H v U H:=.step (.const h)
def du{op:Operator}(h1:RE P d q a U H x ρ1 H1)(h2:RE P d q b ρ1 H1 y ρ2 H2)(h:iz op x y H2=some v):RE P d q (.bin op a b p) U H v ρ2 H2:=.step (.bind h1 (.bind h2 (.rd h)))
def CW(h1:RE P d q a U H x ρ1 H1)(h:Dm x=some v):RE P d q (.neg a p) U H v ρ1 H1:=.step (.bind h1 (.rd h))
def Ac{op:CmpOp}(h1:RE P d q a U H x ρ1 H1)(h2:RE P d q b ρ1 H1 y ρ2 H2)(h:BB op x y H2=some v):RE P d q (.cmp op a b p) U H v ρ2 H2:=.step (.bind h1 (.bind h2 (.rd h)))
def dP(h1:RE P d q a U H x ρ1 H1)(h2:RE P d q b ρ1 H1 y ρ2 H2)(h:lB x y H2=some v):RE P d q (.sub a b p) U H v ρ2 H2:=.step (.bind h1 (.bind h2 (.rd h)))
def fb(h1:RE P d q a U H x ρ1 H1)(h:qr P k x H1=some v):RE P d q (.attr a n k p) U H v ρ1 H1:=.step (.bind h1 (.rd h))
def aE:RA P d q .nil U H [] U H:=.ret
variable {vs:List AV}
def aB(hs:a.kB=none)(h1:RE P d q a U H x ρ1 H1)(h2:RA P d q l ρ1 H1 vs ρ2 H2):RA P d q (.cons a l) U H (x::vs) ρ2 H2:=by
 have:(λE:Ev=>gZ (E.e d q) (cs (.cons a l)))=λE=>M.bind (E.e d q a) λv=>M.bind (gZ (E.e d q) (cs l)) λvs=>cj (v::vs):=by
  funext E
  show(match a.kB with|some a=>_|none=>_)=_;rw[hs];rfl
 unfold RA;rw[this];exact .bind h1 (.bind h2 .ret)
def ou(h1:RA P d q l U H vs ρ1 H1):RE P d q (.tup l k p) U H (.tup vs) ρ1 H1:=.step (.bind h1 .ret)
def e9{bb:Bool}(h1:RA P d q l U H vs ρ1 H1)(h:Jv bb vs H1=some (v,H2)):RE P d q (.list l bb p) U H v ρ1 H2:=.step (.bind h1 (.wr h))
def CX:RE P d q (.dict p) U H (.ref H.length) U (H++[.dict 0 []]):=.step (.const rfl)
def Ul{c:Const}:RE P d q (.fst c k p p') U H .uW U H:=.step (.const rfl)
variable {t:Bool}
def Ib(h1:RT P d q c U H t ρ1 H1)(h2:RE P d q (bif t then a else b) ρ1 H1 v ρ2 H2):RE P d q (.oF c a b p) U H v ρ2 H2:=by refine .step (.bind h1 ?_);cases t<;>exact h2
def jc{lo hi:C}{sp:Pos}{x1 x2:AV}(h1:RE P d q a U H x ρ1 H1)(h2:RO P d q lo ρ1 H1 x1 ρ2 H2)(h3:RO P d q hi ρ2 H2 x2 ρ3 H3)(h:kC x x1 x2 H3=some v):RE P d q (.fL a lo hi sp p) U H v ρ3 H3:=.step (.bind h1 (.bind h2 (.bind h3 (.rd h))))
def CU{p2:Pos}(h1:RE P d q a U H v ρ1 H1)(hk:Nat.blt k ρ1.length=true):RE P d q (.sJ (.var n k p2) a p) U H v (ai ρ1 (some v) k) H1:=.step (.bind h1 (.bind (.setM hk) .ret))
def jD:RO P d q .nil U H .none U H:=.ret
def iO(h1:RE P d q a U H v ρ1 H1)(hn:∀f:C->M AV,tQ f a=f a):RO P d q a U H v ρ1 H1:=by unfold RO;simp only[hn];exact h1
def CV{r:C}(h1:RE P d q a U H v ρ1 H1)(h:gR v H1=some true):RE P d q (.fw false (.cons a (.cons b r)) p) U H v ρ1 H1:=.step (.bind h1 (.bind (.rd h) .ret))
def Ia(h1:RE P d q a U H x ρ1 H1)(h:gR x H1=some false)(h2:RE P d q b ρ1 H1 v ρ2 H2):RE P d q (.fw false (.cons a (.cons b .nil)) p) U H v ρ2 H2:=.step (.bind h1 (.bind (.rd h) h2))
def uP{r:C}(h1:RT P d q a U H false ρ1 H1):RT P d q (.fw true (.cons a r) p) U H false ρ1 H1:=.step (.bind h1 .ret)
def mV(h1:RT P d q a U H true ρ1 H1)(h2:RT P d q b ρ1 H1 t ρ2 H2):RT P d q (.fw true (.cons a (.cons b .nil)) p) U H t ρ2 H2:=by refine .step (.bind h1 (.bind h2 ?_));cases t<;>exact .ret
def bO(h1:RE P d true a U H x ρ1 H1)(hc:tU x=true)(h2:RA P d true args ρ1 H1 vs ρ2 H2)(h:RC P d x vs H2 v H3):RE P d true (.call a args p) U H v ρ2 H3:=by refine .step (.bind h1 ?_);show bo P (λE=>match tU x&&true with|true=>M.bind (gZ (E.e d true) (cs args)) λvs=>E.call d x vs|false=>M.stuck) _ _ _;rw[hc];exact .bind h2 (h.run ρ2)
def eM{mk:MK}(h1:RE P d q a U H x ρ1 H1)(hk:kL P x m H1=some mk)(hu:u9 mk m=true)(hs:vB (cs args)=false)(h2:RA P d q args ρ1 H1 vs ρ2 H2)(h:lL mk m x vs H2=some (v,H3)):
  RE P d q (.eN a n m args p p') U H v ρ2 H3:=by
 have e:(λE:Ev=>Du E d q mk x m args)=λE=>AB E d q mk x m args:=by funext E;cases mk<;>first|rfl|cases hu
 refine .step (.bind h1 (.bind (.rd hk) ?_));show bo P (λE=>Du E d q mk x m args) _ _ _;rw[e];show bo P (λE=>match u9 mk m&&!vB (cs args) with|true=>_|false=>M.stuck) _ _ _;rw[hu,hs];exact .bind h2 (.wr h)
variable {j:Nat}
def mX(h1:RE P d true a U H x ρ1 H1)(hk:kL P x m H1=some (.user j))(h2:RA P d true args ρ1 H1 vs ρ2 H2)(h:RC P d (.glob j) (x::vs) H2 v H3):
  RE P d true (.eN a n m args p p') U H v ρ2 H3:=.step (.bind h1 (.bind (.rd hk) (.bind h2 (h.run ρ2))))
def bH{op:CmpOp}(h1:RE P d q a U H x ρ1 H1)(h2:RE P d q b ρ1 H1 y ρ2 H2)(h:fO op x y H2=some t):RT P d q (.cmp op a b p) U H t ρ2 H2:=.step (.bind h1 (.bind h2 (.rd h)))
def TL(h1:RT P d q a U H t ρ1 H1):RT P d q (.not a p) U H (!t) ρ1 H1:=.step (.bind h1 .ret)
def kE(h1:RE P d q (.var n k p) U H x ρ1 H1)(h:gR x H1=some t):RT P d q (.var n k p) U H t ρ1 H1:=.step (.bind h1 (.rd h))
def bC(h1:RE P d q a U H v ρ1 H1)(hn:∀E,qT E d q a=E.e d q a)(hk:Nat.blt k ρ1.length=true)(hr:ai ρ1 (some v) k=ρ2):RS P d q (.asg (.cons (.var n k p) .nil) a p') U H .next ρ2 H1:=by subst hr;refine .step (.bind (a:=v) (ρ1:=ρ1) (H1:=H1) ?_ (.bind (.bind (.setM hk) .ret) .ret));simp only[hn];exact h1
def pS(h1:RE P d q a U H v ρ1 H1)(hn:∀E,qT E d q a=E.e d q a)(h2:RE P d q b ρ1 H1 x ρ2 H2)(h3:RE P d q c ρ2 H2 y ρ3 H3){H4:Hp}(h:rb x y v H3=some H4):RS P d q (.asg (.cons (.sub b c p) .nil) a p') U H .next ρ3 H4:=by refine .step (.bind (a:=v) (ρ1:=ρ1) (H1:=H1) ?_ (.bind (.bind (.bind h2 (.bind h3 (.up h))) .ret) .ret));simp only[hn];exact h1
def pT(h1:RE P d q a U H v ρ1 H1)(hn:∀E,qT E d q a=E.e d q a)(h2:RE P d q b ρ1 H1 x ρ2 H2)(h:pP P j x v H2=some H3):RS P d q (.asg (.cons (.attr b n j p) .nil) a p') U H .next ρ2 H3:=by refine .step (.bind (a:=v) (ρ1:=ρ1) (H1:=H1) ?_ (.bind (.bind (.bind h2 (.up h)) .ret) .ret));simp only[hn];exact h1
def uQ{tl:C}{kk:Nat}(h1:RE P d true a U H v ρ1 H1)(hn:∀E,qT E d true a=E.e d true a)(h:jq (.tup tl kk p) v ρ1 H1=.ok () ρ2 H1):RS P d true (.asg (.cons (.tup tl kk p) .nil) a p') U H .next ρ2 H1:=by refine .step (.bind (a:=v) (ρ1:=ρ1) (H1:=H1) ?_ (.bind (.bind (.const h) .ret) .ret));simp only[hn];exact h1
def TQ(h1:RE P d q a U H v ρ1 H1)(hn:∀E,qT E d q a=E.e d q a)(h2:RE P d q b ρ1 H1 x ρ2 H2)(h3:RE P d q c ρ2 H2 y ρ3 H3){H4:Hp}(h:rb x y v H3=some H4)(hk:Nat.blt k ρ3.length=true):RS P d q (.asg (.cons (.sub b c p) (.cons (.var n k C7) .nil)) a p') U H .next (ai ρ3 (some v) k) H4:=by refine .step (.bind (a:=v) (ρ1:=ρ1) (H1:=H1) ?_ (.bind (.bind (.bind h2 (.bind h3 (.up h))) (.bind (.setM hk) .ret)) .ret));simp only[hn];exact h1
variable {tg it ifs:C}{sc:Scope}
def rn(h1:RM P d a tg it ifs U H v ρ1 H1)(hk:Nat.blt k ρ1.length=true)(hr:ai ρ1 (some v) k=ρ2):RS P d true (.asg (.cons (.var n k C7) .nil) (.comp a tg it ifs sc p) p') U H .next ρ2 H1:=by subst hr;exact .step (.bind h1 (.bind (.bind (.setM hk) .ret) .ret))
def HN(h1:RM P d a tg it ifs U H v ρ1 H1)(h2:RE P d true b ρ1 H1 x ρ2 H2)(h:pP P j x v H2=some H3):RS P d true (.asg (.cons (.attr b n j C7) .nil) (.comp a tg it ifs sc p) p') U H .next ρ2 H3:=.step (.bind h1 (.bind (.bind (.bind h2 (.up h)) .ret) .ret))
def xe{op:Operator}{z:AV}(h1:RE P d q b U H z ρ1 H1)(hx:qr P j z H1=some x)(h2:RE P d q a ρ1 H1 y ρ2 H2)(h:tX op x y=some v)(h3:pP P j z v H2=some H3):RS P d q (.aug op (.attr b n j p) a p') U H .next ρ2 H3:=.step (.bind h1 (.bind (.rd hx) (.bind h2 (.bind (.rd (f:=λO=>tX op x y) h) (.bind (.up h3) .ret)))))
def TR{sp:Pos}(h1:RE P d q a U H x ρ1 H1)(h2:RE P d q b ρ1 H1 y ρ2 H2)(h:yH x y H2=some H3):RS P d q (.del a b sp p) U H .next ρ2 H3:=.step (.bind h1 (.bind h2 (.bind (.up h) .ret)))
def eJ(h1:RE P d q a U H v ρ1 H1):RS P d q (.expr a p) U H .next ρ1 H1:=.step (.bind h1 .ret)
def fW(h1:RE P d q a U H v ρ1 H1)(hn:∀f:C->M AV,tQ f a=f a):RS P d q (.ret a p) U H (.ret v) ρ1 H1:=by refine .step (.bind (a:=v) (ρ1:=ρ1) (H1:=H1) ?_ .ret);simp only[hn];exact h1
def CH:RS P d q (.brk p) U H .brk U H:=.step .ret
def HM:RS P d q (.cont p) U H .cont U H:=.step .ret
def bM(h1:RT P d q a U H t ρ1 H1)(h2:RB P d q (bif t then r else bb) ρ1 H1 fl ρ2 H2):RS P d q (.iff a r bb p) U H fl ρ2 H2:=by refine .step (.bind h1 ?_);cases t<;>exact h2
def aO:RB P d q .nil U H .next U H:=.ret
def aj(h1:RS P d q s U H .next ρ1 H1)(h2:RB P d q r ρ1 H1 fl ρ2 H2):RB P d q (.cons s r) U H fl ρ2 H2:=.bind h1 h2
def cK(h1:RS P d q s U H fl ρ1 H1)(hf:fl≠.next):RB P d q (.cons s r) U H fl ρ1 H1:=by
 refine .bind h1 ?_;cases fl with
 |next=>exact absurd rfl hf
 |_=>exact .ret
def kF(h:RW P d q a r bb U H fl ρ1 H1):RS P d q (.gP a r bb p) U H fl ρ1 H1:=.step (.calm h)
noncomputable def yp(f:Fl):Bool:=match f with|.next=>true|.cont=>true|_=>false
noncomputable def C8(f:Fl):Fl:=match f with|.brk=>.next|f=>f
def mU(h1:RT P d q a U H false ρ1 H1)(h2:RB P d q bb ρ1 H1 fl ρ2 H2):RW P d q a r bb U H fl ρ2 H2:=.step (.calm (.bind h1 h2))
def kD{f:Fl}(h1:RT P d q a U H true ρ1 H1)(h2:RB P d q r ρ1 H1 f ρ2 H2)(hf:yp f=true)(h3:RW P d q a r bb ρ2 H2 fl ρ3 H3):RW P d q a r bb U H fl ρ3 H3:=by
 refine .step (.calm (.bind h1 (.bind h2 ?_)));cases f with
 |next=>exact h3
 |cont=>exact h3
 |brk=>cases hf
 |ret=>cases hf
def xc{f:Fl}(h1:RT P d q a U H true ρ1 H1)(h2:RB P d q r ρ1 H1 f ρ2 H2)(hf:yp f=false):RW P d q a r bb U H (C8 f) ρ2 H2:=by
 refine .step (.calm (.bind h1 (.bind h2 ?_)));cases f with
 |next=>cases hf
 |cont=>cases hf
 |brk=>exact .ret
 |ret=>exact .ret
noncomputable def LC(f:Fl):Option AV:=match f with
 |.ret v=>some v
 |.next=>some .none
 |_=>Option.none
def eS{fd:FD}(hj:ae P.gt j=some (.fn fd))(hb:kQ fd vs=some ρ1)(h:∃ρ2,RB P d true fd.body ρ1 H fl ρ2 H2)(hf:LC fl=some v):RC P (d+1) (.glob j) vs H v H2:=by
 refine⟨λU=>?_⟩;obtain⟨ρ2,h⟩:=h;refine .step ?_;obtain⟨N,h⟩:=h;refine⟨N,λn hn=>?_⟩;have h:cW ((ev P n).s d true) (ss fd.body) ρ1 H=_:=h n hn;show(match ae P.gt j with|some g=>oN (ev P n) (d+1) j g vs|none=>M.stuck) U H=_;rw[hj];show(match kQ fd vs with|some ρ'=>qj U (cW ((ev P n).s d true) (ss fd.body) ρ' H)|none=>.stuck)=_;rw[hb];show qj U (cW ((ev P n).s d true) (ss fd.body) ρ1 H)=_;rw[h];cases fl with
 |ret v=>obtain rfl:=sj hf;rfl
 |next=>obtain rfl:=sj hf;rfl
 |_=>exact aR hf
def UW{bi:BI}(hj:ae P.gt j=some (.bi bi))(h:yO bi vs H=some (v,H2)):RC P d (.glob j) vs H v H2:=by refine⟨λU=>?_⟩;refine .step ⟨0,λn O=>?_⟩;show(match ae P.gt j with|some g=>oN (ev P n) d j g vs|none=>M.stuck) U H=_;rw[hj];show mG (λH=>yO bi vs H) U H=_;unfold mG;dsimp only;rw[h]
variable {src:bJ}
def iN(h1:RE P d true it U H x ρ1 H1)(hs:eQ x H1=some src)(h2:RF P d tg src r ρ1 H1 fl ρ2 H2):RS P d true (.loop tg it r p) U H fl ρ2 H2:=by refine .step (.bind h1 ?_);refine ue (bo.calm h2) λN h2=>?_;refine⟨N,λn hn=>?_⟩;show AI (ev P n) d tg r x ρ1 H1=_;unfold AI;rw[hs];exact h2 n hn
noncomputable def bJ.nx(s:bJ)(tg:C)(H:Hp):Option (Option (AV×bJ)×Hp):=(s.next H).map λo=>(o,H)
variable {o:Option (AV×bJ)}
def jd(h:src.next H=some o):src.nx tg H=some (o,H):=by unfold bJ.nx;rw[h];rfl
def xD(h:src.nx tg H=some (o,H1)):src.next H=some o/\H1=H:=by refine um h λo' h1 aa=>?_;obtain⟨rfl,rfl⟩:=sD aa;exact⟨h1,rfl⟩
def Uc(h:src.nx tg H=some (none,H1)):RF P d tg src r U H .next U H1:=by refine .step ⟨0,λn O=>?_⟩;obtain⟨h,rfl⟩:=xD h;show pL (ev P n) d true tg src r U _=_;unfold pL;rw[h]
def gS(h:src.next H=some none):RF P d tg src r U H .next U H:=Uc (jd h)
variable {src':bJ}
def Ua{f:Fl}{H0:Hp}(h:src.nx tg H=some (some (v,src'),H0))(hb:jq tg v U H0=.ok () ρ1 H0)(h1:RB P d true r ρ1 H0 f ρ2 H2)(hf:yp f=true)(h2:RF P d tg src' r ρ2 H2 fl ρ3 H3):RF P d tg src r U H fl ρ3 H3:=by
 have h1:bo P (λE=>M.bind (jq tg v) λO=>M.bind (cW (E.s d true) (ss r)) (wJ (E.f d true tg src' r))) U H0 (.ok fl ρ3 H3):=by
  refine .bind (.const hb) (.bind h1 ?_);cases f with
  |next=>exact h2
  |cont=>exact h2
  |brk=>cases hf
  |ret=>cases hf
 obtain⟨h,rfl⟩:=xD h;refine ue (bo.calm h1) λN h1=>?_;refine .step ⟨N,λn hn=>?_⟩;show pL (ev P n) d true tg src r U _=_;unfold pL;rw[h];exact h1 n hn
def e8{f:Fl}(h:src.next H=some (some (v,src')))(hb:jq tg v U H=.ok () ρ1 H)(h1:RB P d true r ρ1 H f ρ2 H2)(hf:yp f=true)(h2:RF P d tg src' r ρ2 H2 fl ρ3 H3):RF P d tg src r U H fl ρ3 H3:=Ua (jd h) hb h1 hf h2
def Ub{f:Fl}{H0:Hp}(h:src.nx tg H=some (some (v,src'),H0))(hb:jq tg v U H0=.ok () ρ1 H0)(h1:RB P d true r ρ1 H0 f ρ2 H2)(hf:yp f=false):RF P d tg src r U H (C8 f) ρ2 H2:=by
 have h1:bo P (λE=>M.bind (jq tg v) λO=>M.bind (cW (E.s d true) (ss r)) (wJ (E.f d true tg src' r))) U H0 (.ok (C8 f) ρ2 H2):=by
  refine .bind (.const hb) (.bind h1 ?_);cases f with
  |next=>cases hf
  |cont=>cases hf
  |brk=>exact .ret
  |ret=>exact .ret
 obtain⟨h,rfl⟩:=xD h;refine ue (bo.calm h1) λN h1=>?_;refine .step ⟨N,λn hn=>?_⟩;show pL (ev P n) d true tg src r U _=_;unfold pL;rw[h];exact h1 n hn
variable {elt:C}
def CO(h1:RE P d true it U H x ρ1 H1)(hs:eQ x H1=some src)(h2:RK P d tg src ifs elt H1.length (jn (slots tg elt) ρ1) (H1++[.list []]) ρ2 H2):RM P d elt tg it ifs U H (.ref H1.length) ρ1 H2:=by refine .bind h1 ?_;obtain⟨N,h2⟩:=h2;refine⟨N,λn hn=>?_⟩;have h2:(ev P n).cp d tg src ifs elt H1.length (jn (slots tg elt) ρ1) (H1++[.list []])=_:=h2 n hn;show tS (ev P n) d elt tg ifs x ρ1 H1=_;unfold tS;rw[hs];dsimp only;rw[h2]
def uT(h:RM P d elt tg it ifs U H v ρ1 H1):RE P d true (.comp elt tg it ifs sc p) U H v ρ1 H1:=.step h
def HY(h:src.nx tg H=some (none,H1)):RK P d tg src ifs elt k U H U H1:=by refine .step ⟨0,λn O=>?_⟩;obtain⟨h,rfl⟩:=xD h;show sU (ev P n) d tg src ifs elt k U _=_;unfold sU;rw[h]
def xj(h:src.next H=some none):RK P d tg src ifs elt k U H U H:=HY (jd h)
def RL(P:bP)(d:Nat)(elt:C)(k:Nat)(U:aC)(H:Hp)(ρ':aC)(H':Hp):Prop:=bo P (λE=>vM E d elt k) U H (.ok () ρ' H')
def xI(elt:C):Prop:=∀E d k,vM E d elt k=M.bind (E.e d true elt) λx=>gn (tY k x)
def CP(hg:xI elt)(h1:RE P d true elt U H x ρ1 H1)(h2:tY k x H1=some H2):RL P d elt k U H ρ1 H2:=by unfold RL;simp only[hg _ _ _];exact .bind h1 (.up h2)
def CQ(h1:RE P d true it U H x ρ1 H1)(hs:eQ x H1=some src)(h2:RK P d tg src .nil elt k ρ1 H1 ρ2 H2):RL P d (.gen tg it elt) k U H ρ2 H2:=.bind h1 (.bind (.rd hs) h2)
def rz{H0:Hp}(h:src.nx tg H=some (some (v,src'),H0))(hb:jq tg v U H0=.ok () ρ1 H0)(h1:RQ P d ifs ρ1 H0 t ρ2 H2)
  {ρ':aC} {H':Hp} (h2:match t with
   |true=>∃ρ3 H3,RL P d elt k ρ2 H2 ρ3 H3/\RK P d tg src' ifs elt k ρ3 H3 ρ' H'
   |false=>RK P d tg src' ifs elt k ρ2 H2 ρ' H'):RK P d tg src ifs elt k U H ρ' H':=by
 have h1:bo P (λE=>M.bind (jq tg v) λO=>M.bind (uF (E.t d true) true (cs ifs)) λb=>match b with
  |true=>M.bind (vM E d elt k) λO=>E.cp d tg src' ifs elt k
  |false=>E.cp d tg src' ifs elt k) U H0 (.ok () ρ' H'):=by
  refine .bind (.const hb) (.bind h1 ?_);cases t with
  |true=>exact dN h2 λρ3 H3 h3 h5=>.bind h3 h5
  |false=>exact h2
 obtain⟨h,rfl⟩:=xD h;refine ue (bo.calm h1) λN h1=>?_;refine .step ⟨N,λn hn=>?_⟩;show sU (ev P n) d tg src ifs elt k U _=_;unfold sU;rw[h];exact h1 n hn
def xf:RQ P d .nil U H true U H:=.ret
def oq(h:RT P d true a U H t ρ1 H1):RQ P d (.cons a .nil) U H t ρ1 H1:=by refine .bind h ?_;cases t<;>exact .ret
def HK{xn:Str}{np hp:Pos}{hh:S}(h:RB P d true r U H fl ρ1 H1):RS P d true (.tri r xn k np hh hp p) U H fl ρ1 H1:=by obtain⟨N,h⟩:=h;refine .step ⟨N,λn hn=>?_⟩;have h:cW ((ev P n).s d true) (ss r) U H=_:=h n hn;show uG P (ev P n) d true r k hh U H=_;unfold uG;dsimp only;rw[h]
def HL{xn:Str}{np hp:Pos}{hh:S}{y:Nat}(h:bo P (λE=>cW (E.s d true) (ss r)) U H (.exc y ρ1 H1))(hk:ae P.gt k=some (.exc y))(h2:RB P d false hh ρ1 H1 fl ρ2 H2):RS P d true (.tri r xn k np hh hp p) U H fl ρ2 H2:=by obtain⟨N,h⟩:=h;obtain⟨N2,h2⟩:=bo.calm h2;refine .step ⟨max N N2,λn hn=>?_⟩;have h:cW ((ev P n).s d true) (ss r) U H=_:=h n (aM (Nat.le_max_left ..) hn);show uG P (ev P n) d true r k hh U H=_;unfold uG;dsimp only;rw[h];unfold vC;rw[hk];dsimp only;rw[fT];exact(h2 n (aM (Nat.le_max_right ..) hn):M.calm (cW ((ev P n).s d false) (ss hh)) ρ1 H1=_)
def UI{i:Nat}{lst:List AV}(h1:tG H j=some (m,i))(h2:bx H m=some lst)(h3:ae lst i=some v):RC P d (.cP j) [] H v (ai H (.iter m (i+1)) j):=by refine⟨λU=>?_⟩;refine .step ⟨0,λn O=>?_⟩;show s8 j [] U H=_;unfold s8;dsimp only;rw[h1];dsimp only;rw[h2];dsimp only;rw[h3]
def Uv{i:Nat}{lst:List AV}(h1:tG H j=some (m,i))(h2:bx H m=some lst)(h3:ae lst i=none):bo P (λE=>E.call d (.cP j) []) U H (.exc 0 U (ai H .dead j)):=by refine .step ⟨0,λn O=>?_⟩;show s8 j [] U H=_;unfold s8;dsimp only;rw[h1];dsimp only;rw[h2];dsimp only;rw[h3]
def UU{cd:CD}(hj:ae P.gt j=some (.cl cd))(hs:cd.slots=false)(h:RC P d (.glob cd.init) (.ref H.length::vs) (H++[.inst j (cd.bD.map λO=>none)]) .none H2):RC P (d+1) (.glob j) vs H (.ref H.length) H2:=by refine⟨λU=>?_⟩;refine ue (h.run U) λN h=>?_;refine .step ⟨N,λn hn=>?_⟩;have h:(ev P n).call d (.glob cd.init) (.ref H.length::vs) U (H++[.inst j (cd.bD.map λO=>none)])=_:=h n hn;show(match ae P.gt j with|some g=>oN (ev P n) (d+1) j g vs|none=>M.stuck) U H=_;rw[hj];show vT (ev P n) (d+1) j cd vs U H=_;unfold vT;dsimp only;rw[hs];dsimp only;rw[h];rfl
def Uw{cd:CD}(hj:ae P.gt j=some (.cl cd))(hs:cd.slots=true)(h:RC P d (.glob cd.init) (.ref (H.length+1)::vs) (H++[.dead,.inst j (cd.bD.map λO=>none)]) .none H2):RC P (d+1) (.glob j) vs H (.ref (H.length+1)) H2:=by refine⟨λU=>?_⟩;refine ue (h.run U) λN h=>?_;refine .step ⟨N,λn hn=>?_⟩;have h:(ev P n).call d (.glob cd.init) (.ref (H.length+1)::vs) U (H++[.dead,.inst j (cd.bD.map λO=>none)])=_:=h n hn;show(match ae P.gt j with|some g=>oN (ev P n) (d+1) j g vs|none=>M.stuck) U H=_;rw[hj];show vT (ev P n) (d+1) j cd vs U H=_;unfold vT;dsimp only;rw[hs];dsimp only;rw[h];rfl
end
end
section
section
variable {α:Type}{l m:List α}{n k:Nat}{x y:α}
def cV(h:n<l.length):ae (ai l y n) n=some y:=by
 induction l generalizing n with
 |nil=>cases h
 |cons a r ih=>cases n with
  |zero=>rfl
  |succ n=>exact ih (zi h)
def bh(h:n≠k):ae (ai l y n) k=ae l k:=by
 induction l generalizing n k with
 |nil=>rfl
 |cons a r ih=>cases n with
  |zero=>cases k with
   |zero=>exact absurd rfl h
   |succ k=>rfl
  |succ n=>cases k with
   |zero=>rfl
   |succ k=>exact ih λe=>h (congrArg (·+1) e)
def sM:ai (ai l x n) y n=ai l y n:=by
 induction l generalizing n with
 |nil=>rfl
 |cons a r ih=>cases n with
  |zero=>rfl
  |succ n=>exact congrArg (a::·) ih
def zu(h:ae l n=some x):ai l x n=l:=by
 induction l generalizing n with
 |nil=>rfl
 |cons a r ih=>cases n with
  |zero=>obtain rfl:=sj h;rfl
  |succ n=>exact congrArg (a::·) (ih h)
def cB:(ai l x n).length=l.length:=by
 induction l generalizing n with
 |nil=>rfl
 |cons a r ih=>cases n with
  |zero=>rfl
  |succ n=>exact congrArg (·+1) ih
def bk(h:ae l n=some x):n<l.length:=by
 induction l generalizing n with
 |nil=>exact aR h
 |cons a r ih=>cases n with
  |zero=>exact qO _
  |succ n=>exact Nat.succ_lt_succ (ih h)
def je(h:n<l.length):∃x,ae l n=some x:=by
 induction l generalizing n with
 |nil=>cases h
 |cons a r ih=>cases n with
  |zero=>exact⟨a,rfl⟩
  |succ n=>exact ih (zi h)
def cb(h:ae l n=some x):ae (l++m) n=some x:=by
 induction l generalizing n with
 |nil=>exact aR h
 |cons a r ih=>cases n with
  |zero=>exact h
  |succ n=>exact ih h
def dX:ae (l++x::m) l.length=some x:=by
 induction l with
 |nil=>rfl
 |cons a r ih=>exact ih
def jG:ae (l++m) (l.length+n)=ae m n:=by
 induction l with
 |nil=>rw[List.nil_append,List.length_nil,gA]
 |cons a r ih=>rw[List.cons_append,i6,ux];exact ih
def Gx:ai (l++m) y (l.length+n)=l++ai m y n:=by
 induction l with
 |nil=>rw[List.nil_append,List.length_nil,gA];rfl
 |cons a r ih=>rw[List.cons_append,i6,ux];exact congrArg (a::·) ih
def uD:ai (l++x::m) y l.length=l++y::m:=by have:=Gx (l:=l) (m:=x::m) (y:=y) (n:=0);exact this
def il{β:Type}(f:α->β):ae (l.map f) n=(ae l n).map f:=by
 induction l generalizing n with
 |nil=>rfl
 |cons a r ih=>cases n with
  |zero=>rfl
  |succ n=>exact ih
def lh{β:Type}(f:α->β):ai (l.map f) (f x) n=(ai l x n).map f:=by
 induction l generalizing n with
 |nil=>rfl
 |cons a r ih=>cases n with
  |zero=>rfl
  |succ n=>exact congrArg (f a::·) ih
end
section
variable {H:Hp}{n:Nat}
def dy{l:List AV}(h:ae H n=some (.list l)):bx H n=some l:=by unfold bx;rw[h];rfl
variable {e:Nat}{l:List (List Nat×AV)}
def j9(h:ae H n=some (.dict e l)):cD H n=some (e,l):=by unfold cD;rw[h];rfl
def Hw{l:List (List Nat)}(h:ae H n=some (.set l)):oh H n=some l:=by unfold oh;rw[h];rfl
def Yh{c:Nat}{f:List (Option AV)}(h:ae H n=some (.inst c f)):xZ H n=some (c,f):=by unfold xZ;rw[h];rfl
variable {m:Nat}
def JV{i:Nat}(h:ae H n=some (.iter m i)):tG H n=some (m,i):=by unfold tG;rw[h];rfl
def xH(h:ae H n=some (.dict e l)):bx H n=none:=by unfold bx;rw[h];rfl
variable {v:AV}
def sS{l:List AV}{k:Int}(h:ae H n=some (.list l))(hk:j6 k l=some v):lB (.ref n) (.int k) H=some v:=by show(match bx H n with|some l=>_|none=>_)=_;rw[dy h];exact hk
def Cs{k:List Nat}(h:ae H n=some (.dict e l))(hk:cy k l=some v):lB (.ref n) (.str k) H=some v:=by unfold lB;show(match bx H n with|some l=>_|none=>_)=_;rw[xH h,j9 h];exact hk
def w0{p:Nat}{l:List AV}(h:ae H n=some (.list l))(hp:p<l.length):rb (.ref n) (.int p) v H=some (ai H (.list (ai l v p)) n):=by show(match bx H n with|some l=>_|none=>_)=_;rw[dy h];show aI (Nat.blt p l.length) _=_;rw[bG.mpr hp];rfl
def w4{k:List Nat}(h:ae H n=some (.dict e l))(hl:l.length<az):rb (.ref n) (.str k) v H=some (ai H (.dict (match c5 k l with|true=>e|false=>e+1) (eH k v l)) n):=by unfold rb;show(match bx H n with|some l=>_|none=>_)=_;rw[xH h,j9 h];show aI (Nat.blt l.length az) _=_;rw[bG.mpr hl];rfl
def Xd{l:List AV}(h:ae H n=some (.list l))(hl:l.length<=az):tW .len (.ref n) H=some (.int l.length,H):=by show((match bx H n with|some l=>some l.length|none=>_).bind λk=>aI (Nat.ble k az) (some (AV.int k,H)))=_;rw[dy h];show aI (Nat.ble l.length az) _=_;rw[eO.mpr hl];rfl
def AD{l:List AV}{args:List AV}(h:ae H n=some (.list l)):lL .list m (.ref n) args H=vc m n l args H:=by show((AV.ref n).j3.bind λn=>(bx H n).bind λl=>vc m n l args H)=_;show((bx H n).bind λl=>vc m n l args H)=_;rw[dy h];rfl
def kR{l:List AV}(h:ae H n=some (.list l))(hl:l.length<az):lL .list 0 (.ref n) [v] H=some (.none,ai H (.list (l++[v])) n):=by rw[AD h];show aI (Nat.blt l.length az) _=_;rw[bG.mpr hl];rfl
def C5{l:List AV}(h:ae H n=some (.list (l++[v]))):lL .list 1 (.ref n) [] H=some (v,ai H (.list l) n):=by rw[AD h];show((l++[v]).getLast?).map _=_;rw[List.getLast?_concat,List.dropLast_concat];rfl
def gG{P:bP}{l:List AV}(h:ae H n=some (.list l)):kL P (.ref n) m H=some .list:=by show(ae H n).bind _=_;rw[h];rfl
def xU{P:bP}(h:ae H n=some (.dict e l)):kL P (.ref n) m H=some .dict:=by show(ae H n).bind _=_;rw[h];rfl
def XD{P:bP}{l:List (List Nat)}(h:ae H n=some (.set l)):kL P (.ref n) m H=some .set:=by show(ae H n).bind _=_;rw[h];rfl
def wK{l:List AV}(h:ae H n=some (.list l)):gR (.ref n) H=some (!l.isEmpty):=by show(bx H n).map _=_;rw[dy h];rfl
end
def Ic{P:bP}{d:Nat}{q:Bool}{U ρ1 ρ2:aC}{H:Hp}{a b:C}{p:Pos}{y:AV}{kk:List Nat}(h1:RE P d q a U (H++[.dict 0 []]) (.str kk) ρ1 (H++[.dict 0 []]))(h2:RE P d q b ρ1 (H++[.dict 0 []]) y ρ2 (H++[.dict 0 []])):RE P d q (.dct a b p) U H (.ref H.length) ρ2 (H++[.dict 1 [(kk,y)]]):=by refine .step (?_:bo P (λE=>M.bind yG λr=>M.bind (E.e d q a) λx=>M.bind (E.e d q b) λy=>M.bind (gn (Ah r x y)) λO=>cj r) U H _);refine .bind (m:=λO=>yG) (f:=λE r=>M.bind (E.e d q a) λx=>M.bind (E.e d q b) λy=>M.bind (gn (Ah r x y)) λO=>cj r) (.const rfl) (.bind h1 (.bind h2 (.bind (.up ?_) .ret)));show(cD (H++[AO.dict 0 []]) H.length).bind _=_;rw[j9 dX];show some (ai (H++[AO.dict 0 []]) (.dict 1 [(kk,y)]) H.length)=_;rw[uD]
end
section
noncomputable def bg(b:S)(n:Nat):S:=match n with
 |0=>(match b with|.cons a _=>a|b=>b)
 |n+1=>(match b with|.cons _ r=>bg r n|b=>b)
noncomputable def xb(b:S)(n:Nat):S:=match n with
 |0=>b
 |n+1=>(match b with|.cons _ r=>xb r n|b=>b)
noncomputable def gB(s:S):C:=match s with
 |.gP t _ _ _=>t
 |.iff t _ _ _=>t
 |_=>.nil
noncomputable def bz(s:S):S:=match s with
 |.gP _ b _ _=>b
 |.iff _ b _ _=>b
 |.loop _ _ b _=>b
 |.tri b _ _ _ _ _ _=>b
 |_=>.nil
noncomputable def iW(s:S):S:=match s with
 |.gP _ _ b _=>b
 |.iff _ _ b _=>b
 |_=>.nil
noncomputable def gC(s:S):C:=match s with
 |.loop t _ _ _=>t
 |_=>.nil
noncomputable def jX(s:S):C:=match s with
 |.asg _ e _=>e
 |.ret e _=>e
 |.expr e _=>e
 |.loop _ e _ _=>e
 |_=>.nil
noncomputable def eU(c:C):C:=match c with
 |.comp e _ _ _ _ _=>e
 |_=>.nil
noncomputable def eP(c:C):C:=match c with
 |.comp _ t _ _ _ _=>t
 |_=>.nil
noncomputable def eT(c:C):C:=match c with
 |.comp _ _ i _ _ _=>i
 |_=>.nil
noncomputable def gJ(c:C):C:=match c with
 |.comp _ _ _ i _ _=>i
 |_=>.nil
section
variable {d:Nat}{U:aC}{H:Hp}
variable {i k:Int}
def kT{j:Int}(h:i+j=k):iz .Add (.int i) (.int j) H=some (.int k):=by subst h;rfl
def GU{j:Int}(h:i-j=k):iz .Sub (.int i) (.int j) H=some (.int k):=by subst h;rfl
def SJ{n:Nat}(h:n<=az):fK (n:Int)=true:=bG.mpr (cU h (by decide))
def Dr{j:Int}(h1:fK i=true)(h2:fK j=true)(h:i*j=k):iz .Mult (.int i) (.int j) H=some (.int k):=by subst h;show aI (fK i&&fK j) _=_;rw[h1,h2];rfl
def SX(h:i.fdiv (2^1)=k):iz .RShift (.int i) (.int 1) H=some (.int k):=by subst h;rfl
def LF:∀a b:Nat,((a:Nat):Int).fdiv (b:Nat)=((a/b:Nat):Int)
 |0,b=>by rw[Nat.zero_div];rfl
 |_+1,_=>rfl
def Zg(p:Nat):((p+1:Nat)-1:Int).fdiv (2^1)=((p/2:Nat):Int):=by rw[show((p+1:Nat):Int)-1=(p:Nat) from Int.add_sub_cancel p 1];exact LF p 2
abbrev aT:=Int×List Nat
noncomputable def cm(p:aT):AV:=.tup [.int p.1,.str p.2]
def fY(a b:aT):Bool:=match dQ a.1 b.1 with
 |true=>(match ak a.2 b.2 with|true=>false|false=>bu a.2 b.2)
 |false=>fZ a.1 b.1
def DC(a b:aT):AH (cm a) (cm b)=some (fY a b):=by
 show((some (dQ a.1 b.1)).bind λt=>match t with|true=>((some (ak a.2 b.2)).bind λt=>match t with|true=>some false|false=>some (bu a.2 b.2))|false=>some (fZ a.1 b.1))=_;unfold fY;cases dQ a.1 b.1 with
 |false=>rfl
 |true=>show((some (ak a.2 b.2)).bind λt=>match t with|true=>some false|false=>some (bu a.2 b.2))=_;cases ak a.2 b.2<;>rfl
def dz(l:List aT):AO:=.list (l.map cm)
noncomputable def iM(x:aT):Nat->List aT->Nat->List aT
 |0,l,p=>ai l x p
 |n+1,l,p=>match p with
  |0=>ai l x 0
  |p+1=>match ae l (p/2) with
   |none=>ai l x (p+1)
   |some y=>match fY x y with
    |true=>iM x n (ai l y (p+1)) (p/2)
    |false=>ai l x (p+1)
variable {a:Nat}
def Ti{x:aT}:∀(n:Nat) {l:List aT} {p:Nat} {u v:Option AV} {H:Hp},p<=n->p<l.length->ae H a=some (dz l) ->
  ∃l' p' u' v',RW P d true (gB (bg tP.body 1)) (bz (bg tP.body 1)) (iW (bg tP.body 1))
   [some (.ref a),some (.int 0),some (.int p),some (cm x),u,v] H .next [some (.ref a),some (.int 0),some (.int (p':Nat)),some (cm x),u',v'] (ai H (dz l') a)/\p'<l'.length/\ai l' x p'=iM x n l p:=by
 intro n
 induction n with
 |zero=>intro l p u v H hn hp hl;cases Nat.le_zero.mp hn;refine⟨l,0,u,v,?_,hp,rfl⟩;rw[zu hl];exact mU (bH (af rfl) (af rfl) rfl) aO
 |succ n ih=>
  intro l p u v H hn hp hl;cases p with
  |zero=>refine⟨l,0,u,v,?_,hp,rfl⟩;rw[zu hl];exact mU (bH (af rfl) (af rfl) rfl) aO
  |succ p=>
   have hq:p/2<l.length:=cU (Nat.div_le_self p 2) (Nat.lt_of_succ_lt hp);refine ue (je hq) λy h1=>?_;have EE:ae (l.map cm) (p/2)=some (cm y):=by rw[il,h1];rfl
   have hs:∀{fl:Fl} {ρ':aC} {H':Hp},RB P d true (xb (bz (bg tP.body 1)) 2) [some (.ref a),some (.int 0),some (.int (p+1:Nat)),some (cm x),some (.int (p/2:Nat)),some (cm y)] H fl ρ' H' ->
     RB P d true (bz (bg tP.body 1)) [some (.ref a),some (.int 0),some (.int (p+1:Nat)),some (cm x),u,v] H fl ρ' H':=λ{fl ρ' H'} h=>by
    exact aj (bC (v:=.int (p/2:Nat)) (du (du (af rfl) aS (GU rfl)) aS (SX (Zg p))) (λO=>rfl) rfl rfl) (aj (bC (dP (af rfl) (af rfl) (sS hl EE)) (λO=>rfl) rfl rfl) h)
   have e:iM x (n+1) l (p+1)=match fY x y with|true=>iM x n (ai l y (p+1)) (p/2)|false=>ai l x (p+1):=by show(match ae l (p/2) with|none=>_|some y=>_)=_;rw[h1]
   rw[e];cases hb:fY x y with
   |true=>
    refine i7 (ih (l:=ai l y (p+1)) (p:=p/2) (u:=some (.int (p/2:Nat))) (v:=some (cm y)) (H:=ai H (dz (ai l y (p+1))) a) (aM (Nat.div_le_self p 2) (Nat.le_of_succ_le_succ hn)) (by rw[cB];assumption) (cV (bk hl))) λl' p' u' v' h3 h4 h5=>?_;rw[sM] at h3;refine⟨l',p',u',v',?_,h4,h5⟩;apply kD (f:=.cont) (hf:=rfl) (h3:=h3)
    ·exact bH (af rfl) (af rfl) rfl
    ·refine hs ?_;apply cK (fl:=.cont)
     ·refine bM (t:=true) (bH (af rfl) (af rfl) ((DC x y).trans (by rw[hb]))) ?_;refine aj (pS (af rfl) (λO=>rfl) (af rfl) (af rfl) (w0 hl (by rw[aJ];exact hp))) ?_;rw[lh];refine aj (bC (af rfl) (λO=>rfl) rfl rfl) ?_;exact cK HM nofun
     ·nofun
   |false=>refine⟨l,p+1,some (.int (p/2:Nat)),some (cm y),?_,hp,rfl⟩;rw[zu hl];exact xc (f:=.brk) (bH (af rfl) (af rfl) rfl) (hs (aj (bM (t:=false) (bH (af rfl) (af rfl) ((DC x y).trans (by rw[hb]))) aO) (cK CH nofun))) rfl
def Ig{p:Nat}{l:List aT}{x:aT}(hl:ae H a=some (dz l))(hx:ae l p=some x):RC P (d+1) (.glob 23) [.ref a,.int 0,.int p] H .none (ai H (dz (iM x p l p)) a):=by refine i7 (Ti (d:=d) (x:=x) p (u:=none) (v:=none) (bf _) (bk hx) hl) λl' p' u' v' h3 h4 h5=>?_;refine eS (fd:=tP) (fl:=.next) (ρ1:=[some (.ref a),some (.int 0),some (.int p),none,none,none]) rfl rfl ?_ rfl;refine⟨[some (.ref a),some (.int 0),some (.int (p':Nat)),some (cm x),u',v'],?_⟩;refine aj (bC (dP (af rfl) (af rfl) (sS hl (show ae (l.map cm) p=_ by rw[il,hx];rfl))) (λO=>rfl) rfl rfl) ?_;refine aj (kF h3) ?_;apply aj (h1:=pS (af rfl) (λO=>rfl) (af rfl) (af rfl) (w0 (cV (bk hl)) (by rw[aJ];exact h4)));rw[lh,sM,h5];exact aO
def oJ(x:aT)(l:List aT):List aT:=iM x l.length (l++[x]) l.length
def gj{P:bP}{j:Nat}{b:BI}{vs:List AV}{v:AV}{H':Hp}(hj:ae P.gt j=some (.bi b))(h:yO b vs H=some (v,H')):RC P d (.glob j) vs H v H':=UW hj h
def xq{l:List AV}(hl:ae H a=some (.list l))(h:l.length<=az):RC P d (.glob 10) [.ref a] H (.int l.length) H:=gj (b:=.len) rfl (Xd hl h)
def UD{l:List aT}{x:aT}(hl:ae H a=some (dz l))(hs:l.length<az):RC P (d+2) (.glob 20) [.ref a,cm x] H .none (ai H (dz (oJ x l)) a):=by
 have e:(l++[x]).map cm=l.map cm++[cm x]:=by rw[ew];rfl
 refine eS (fd:=LL) (fl:=.next) (ρ1:=[some (.ref a),some (cm x)]) rfl rfl ?_ rfl;refine⟨[some (.ref a),some (cm x)],?_⟩;refine aj (eJ (eM (mk:=.list) (af rfl) (gG hl) rfl rfl (aB rfl (af rfl) aE) (kR hl (by rw[aJ];exact hs)))) ?_;rw[<- e];have vA:ae (ai H (.list ((l++[x]).map cm)) a) a=some (dz (l++[x])):=cV (bk hl);have f1:=xq (d:=d+1) vA (by rw[aJ,bF];exact hs);rw[aJ,bF] at f1;refine aj (eJ (bO (vs:=[.ref a,.int 0,.int (l.length:Nat)]) (bL rfl) rfl (aB rfl (af rfl) (aB rfl aS (aB rfl (du (bO (bL rfl) rfl (aB rfl (af rfl) aE) f1) aS (GU (Int.add_sub_cancel l.length 1))) aE))) (Ig vA dX))) ?_;rw[sM];exact aO
end
end
section
section
variable {d:Nat}{U:aC}{H:Hp}
def gi(l:List aT)(c:Nat):Nat:=match Nat.blt (c+1) l.length with
 |true=>(match ae l c with
  |some a=>(match ae l (c+1) with
   |some b=>(match fY a b with|true=>c|false=>c+1)
   |none=>c)
  |none=>c)
 |false=>c
noncomputable def gp:Nat->List aT->Nat->List aT×Nat
 |0,l,p=>(l,p)
 |n+1,l,p=>match Nat.blt (2*p+1) l.length with
  |false=>(l,p)
  |true=>match ae l (gi l (2*p+1)) with
   |some y=>gp n (ai l y p) (gi l (2*p+1))
   |none=>(l,p)
def GR(n:Nat)(l:List aT)(p:Nat):gp (n+1) l p=match Nat.blt (2*p+1) l.length with|false=>(l,p)|true=>match ae l (gi l (2*p+1)) with|some y=>gp n (ai l y p) (gi l (2*p+1))|none=>(l,p):=rfl
variable {l:List aT}
def ab6{c:Nat}(h:c<l.length):gi l c<l.length/\c<=gi l c:=by
 have z:c<l.length/\c<=c:=⟨h,bf _⟩;unfold gi;cases hb:Nat.blt (c+1) l.length with
 |false=>exact z
 |true=>
  cases ae l c with
  |none=>exact z
  |some a=>
   cases ae l (c+1) with
   |none=>exact z
   |some b=>
    show(match fY a b with|true=>c|false=>c+1)<l.length/\c<=(match fY a b with|true=>c|false=>c+1);cases fY a b with
    |true=>exact z
    |false=>exact⟨bG.mp hb,i4 _⟩
variable {a:Nat}
def wU{p:Nat}{y:aT}(hl:ae H a=some (dz l))(h:ae l p=some y):lB (.ref a) (.int p) H=some (cm y):=sS hl (show ae (l.map cm) p=_ by rw[il,h];rfl)
variable {x:aT}
def R9{p n:Nat}{u:Option AV}(hl:ae H a=some (dz l))(hc:2*p+1<l.length){fl:Fl}{ρ':aC}{H':Hp}
  (h:RB P d true (xb (bz (bg rT.body 4)) 2) [some (.ref a),some (.int (p:Nat)),some (.int (l.length:Nat)),some (.int 0),some (cm x),some (.int (gi l (2*p+1):Nat)),some (.int (2*p+1+1:Nat))] H fl ρ' H'):
  RB P d true (bz (bg rT.body 4)) [some (.ref a),some (.int (p:Nat)),some (.int (l.length:Nat)),some (.int 0),some (cm x),some (.int (2*p+1:Nat)),u] H fl ρ' H':=by
 refine aj (bC (v:=.int (2*p+1+1:Nat)) (du (af rfl) aS (kT rfl)) (λO=>rfl) rfl rfl) ?_;apply aj (h2:=h);unfold gi;cases hb:Nat.blt (2*p+1+1) l.length with
 |false=>exact bM (t:=false) (uP (bH (af rfl) (af rfl) (congrArg some hb))) aO
 |true=>
  refine ue (je hc) λy1 h1=>?_;refine ue (je (bG.mp hb)) λy2 h2=>?_;have jy:RT P d true (gB (bg (bz (bg rT.body 4)) 1)) [some (.ref a),some (.int (p:Nat)),some (.int (l.length:Nat)),some (.int 0),some (cm x),some (.int (2*p+1:Nat)),some (.int (2*p+1+1:Nat))] H (!fY y1 y2) [some (.ref a),some (.int (p:Nat)),some (.int (l.length:Nat)),some (.int 0),some (cm x),some (.int (2*p+1:Nat)),some (.int (2*p+1+1:Nat))] H:=by exact mV (bH (af rfl) (af rfl) (congrArg some hb)) (TL (bH (dP (af rfl) (af rfl) (wU hl h1)) (dP (af rfl) (af rfl) (wU hl h2)) (DC y1 y2)))
  rw[h1,h2];dsimp only;cases hq:fY y1 y2 with
  |true=>rw[hq] at jy;exact bM jy aO
  |false=>rw[hq] at jy;exact bM jy (aj (bC (af rfl) (λO=>rfl) rfl rfl) aO)
def R8:∀(n:Nat) {l:List aT} {p:Nat} {u:Option AV} {H:Hp},l.length<=p+n->l.length<=az->p<l.length->ae H a=some (dz l) ->
  ∃u' w',RW P d true (gB (bg rT.body 4)) (bz (bg rT.body 4)) (iW (bg rT.body 4))
   [some (.ref a),some (.int (p:Nat)),some (.int (l.length:Nat)),some (.int 0),some (cm x),some (.int (2*p+1:Nat)),u] H .next
   [some (.ref a),some (.int ((gp n l p).2:Nat)),some (.int (l.length:Nat)),some (.int 0),some (cm x),w',u'] (ai H (dz (gp n l p).1) a)/\(gp n l p).1.length=l.length/\(gp n l p).2<l.length:=by
 intro n
 induction n with
 |zero=>intro l p u H hn hs hp hl;exact absurd hp (hZ.mpr hn)
 |succ n ih=>
  intro l p u H hn hs hp hl;rw[GR];cases hb:Nat.blt (2*p+1) l.length with
  |false=>refine⟨u,some (.int (2*p+1:Nat)),?_,rfl,hp⟩;rw[zu hl];exact mU (bH (af rfl) (af rfl) (congrArg some hb)) aO
  |true=>
   have hc:=bG.mp hb;refine ua (ab6 hc) λc1 c2=>?_;refine ue (je c1) λy h1=>?_;rw[h1];dsimp only;refine bB (ih (l:=ai l y p) (p:=gi l (2*p+1)) (u:=some (.int (2*p+1+1:Nat))) (H:=ai H (dz (ai l y p)) a) (by rw[cB];exact NR ‹_› ‹_›) (by rw[cB];exact hs) (by rw[cB];exact c1) (cV (bk hl))) λu' w' h3 h4 h5=>?_;rw[sM] at h3;rw[cB] at h3 h4 h5;refine⟨u',w',?_,h4,h5⟩;apply kD (f:=.next) (hf:=rfl) (h3:=h3)
   ·exact bH (af rfl) (af rfl) (congrArg some hb)
   ·refine R9 (n:=n) hl hc ?_;refine aj (pS (dP (af rfl) (af rfl) (wU hl h1)) (λO=>rfl) (af rfl) (af rfl) (w0 hl (by rw[aJ];exact hp))) ?_;rw[lh];refine aj (bC (af rfl) (λO=>rfl) rfl rfl) ?_;exact aj (bC (v:=.int (2*gi l (2*p+1)+1:Nat)) (du (du aS (af rfl) (Dr (by decide) (SJ (by exact FW ‹_› ‹_›)) rfl)) aS (kT (i:=2*(gi l (2*p+1):Nat)) (j:=1) rfl)) (λO=>rfl) rfl rfl) aO
def og(x:aT)(l:List aT):List aT:=iM x (gp l.length l 0).2 (ai (gp l.length l 0).1 x (gp l.length l 0).2) (gp l.length l 0).2
def Ux(hl:ae H a=some (dz l))(hx:ae l 0=some x)(hs:l.length<=az):RC P (d+2) (.glob 24) [.ref a,.int 0] H .none (ai H (dz (og x l)) a):=by
 have ha:=bk hl;refine bB (R8 (d:=d+1) (x:=x) l.length (u:=none) (by exact FX) hs (bk hx) hl) λu' w' h3 h4 h5=>?_;generalize hL:(gp l.length l 0).1=l' at h3 h4;generalize hP:(gp l.length l 0).2=p' at h3 h5;have tK:p'<l'.length:=by exact B0 ‹_› ‹_›
 have f1:=xq (d:=d+1) hl (by rw[aJ];exact hs);refine eS (fd:=rT) (fl:=.next) (ρ1:=[some (.ref a),some (.int 0),none,none,none,none,none]) rfl rfl ?_ rfl;refine⟨[some (.ref a),some (.int (p':Nat)),some (.int (l.length:Nat)),some (.int 0),some (cm x),w',u'],?_⟩;rw[aJ] at f1;refine aj (bC (bO (bL rfl) rfl (aB rfl (af rfl) aE) f1) (λO=>rfl) rfl rfl) (aj (bC (af rfl) (λO=>rfl) rfl rfl) (aj (bC (dP (af rfl) (af rfl) (wU (p:=0) hl hx)) (λO=>rfl) rfl rfl) (aj (bC (du (du aS (af rfl) (Dr (by decide) (by decide) rfl)) aS (kT rfl)) (λO=>rfl) rfl rfl) (aj (kF h3) ?_))));apply aj (h1:=pS (af rfl) (λO=>rfl) (af rfl) (af rfl) (w0 (cV ha:ae (ai H (dz l') a) a=some (dz l')) (by rw[aJ];exact tK)));have f2:=Ig (d:=d) (cV ha:ae (ai H (dz (ai l' x p')) a) a=some (dz (ai l' x p'))) (cV tK);rw[lh,sM];rw[sM] at f2;refine aj (eJ (bO (bL rfl) rfl (aB rfl (af rfl) (aB rfl (af rfl) (aB rfl (af rfl) aE))) f2)) ?_;unfold og;rw[hL,hP];exact aO
def gx(l:List aT)(x:aT):aT×List aT:=match l with
 |[]=>(x,[])
 |y::r=>(y,og x (x::r))
def UG(hl:ae H a=some (dz (l++[x])))(hs:l.length<=az):RC P (d+3) (.glob 21) [.ref a] H (cm (gx l x).1) (ai H (dz (gx l x).2) a):=by
 have ha:=bk hl;have e:(l++[x]).map cm=l.map cm++[cm x]:=by rw[ew];rfl
 have vA:ae (ai H (.list (l.map cm)) a) a=some (dz l):=cV ha;have first:∀{fl:Fl} {ρ':aC} {H':Hp},RB P (d+2) true (xb yA.body 1) [some (.ref a),some (cm x),none] (ai H (dz l) a) fl ρ' H'->RB P (d+2) true yA.body [some (.ref a),none,none] H fl ρ' H':=λ{fl ρ' H'} h=>by apply aj (h2:=h);exact bC (eM (mk:=.list) (af rfl) (gG hl) rfl rfl aE (C5 (by rw[<- e];exact hl:ae H a=some (.list (l.map cm++[cm x]))))) (λO=>rfl) rfl rfl
 have jy:=wK vA;cases l with
 |nil=>refine eS (fd:=yA) (fl:=.ret (cm x)) (ρ1:=[some (.ref a),none,none]) rfl rfl ?_ rfl;refine⟨[some (.ref a),some (cm x),none],first ?_⟩;refine aj (bM (kE (af rfl) jy) aO) ?_;exact cK (fW (af rfl) λO=>rfl) nofun
 |cons y r=>
  have f2:=Ux (d:=d) (H:=ai H (dz (x::r)) a) (x:=x) (cV ha) rfl hs;refine eS (fd:=yA) (fl:=.ret (cm y)) (ρ1:=[some (.ref a),none,none]) rfl rfl ?_ rfl;refine⟨[some (.ref a),some (cm x),some (cm y)],first ?_⟩;refine cK (fl:=.ret (cm y)) (bM (kE (af rfl) jy) ?_) nofun;refine aj (bC (dP (af rfl) aS (wU (p:=0) vA rfl)) (λO=>rfl) rfl rfl) ?_;refine aj (pS (af rfl) (λO=>rfl) (af rfl) aS (w0 (p:=0) vA (qO _))) ?_;rw[sM] at f2⊢;refine aj (eJ (bO (bL rfl) rfl (aB rfl (af rfl) (aB rfl aS aE)) f2)) ?_
  ·exact cK (fW (af rfl) λO=>rfl) nofun
end
end
section
abbrev Ky:=List Nat
structure Nd where
 key:Ky
 np:Int
 su:List Ky
 ia:Nat
 sa:Nat
noncomputable def gw(n:Nd):AO:=.inst 25 [some (.str n.key),some (.int n.np),some (.ref n.sa)]
noncomputable def cn(l:List Ky):AO:=.list (l.map .str)
noncomputable def dS(ns:List Nd):List (List Nat×AV):=ns.map λn=>(n.key,.ref n.ia)
def iY(H:Hp)(n:Nd):Prop:=(ae H n.ia=some (gw n))/\(ae H n.sa=some (cn n.su))
section
variable {b1 b2}(x:iY b1 b2)
def iY.mk:=jI (iY b1 b2) rfl
def iY.inf:=x.1
def iY.dW:=x.2
end
def c7(H:Hp)(d ep:Nat)(ns:List Nd):Prop:=(ae H d=some (.dict ep (dS ns)))/\(∀n∈ns,iY H n)/\((ns.map (·.key)).Nodup)/\((ns.map (·.ia)).Nodup)/\((ns.map (·.sa)).Nodup)
section
variable {b1 b2 b3 b4}(x:c7 b1 b2 b3 b4)
def c7.mk:=lI (c7 b1 b2 b3 b4) rfl
def c7.dct:=x.1
def c7.ok:=x.2.1
def c7.keys:=x.2.2.1
def c7.vq:=x.2.2.2.1
def c7.uN:=x.2.2.2.2
end
section
variable {d ep:Nat}{ns:List Nd}{H H':Hp}
def c7.mono(G:c7 H d ep ns)(h1:ae H' d=ae H d)(h2:∀n∈ns,ae H' n.ia=ae H n.ia/\ae H' n.sa=ae H n.sa):c7 H' d ep ns:=(c7.mk (h1.trans G.dct) (λn hn=>(iY.mk ((h2 n hn).1.trans (G.ok n hn).inf) ((h2 n hn).2.trans (G.ok n hn).dW))) G.keys G.vq G.uN)
def c7.app(G:c7 H d ep ns)(Y:Hp):c7 (H++Y) d ep ns:=(c7.mk (cb G.dct) (λn hn=>(iY.mk (cb (G.ok n hn).inf) (cb (G.ok n hn).dW))) G.keys G.vq G.uN)
def g6(k:Ky):ak k k=true:=by
 induction k with
 |nil=>rfl
 |cons a r ih=>show(match Nat.beq a a with|true=>ak r r|false=>false)=true;rw[fT];exact ih
theorem gz:∀{a b:Ky},ak a b=true->a=b:=by
 intro a
 induction a with
 |nil=>
  intro t_ h;cases t_ with
  |nil=>exact rfl
  |cons _ _=>exact nomatch h
 |cons x xs ih=>
  intro t_ h;cases t_ with
  |nil=>exact nomatch h
  |cons y ys=>
   have h:(match Nat.beq x y with|true=>ak xs ys|false=>false)=true:=h;cases e:Nat.beq x y with
   |true=>rw[e] at h;rw[bW e,ih h]
   |false=>rw[e] at h;cases h
def nC{a b:Ky}(h:a≠b):ak a b=false:=by
 cases e:ak a b with
 |true=>exact absurd (gz e) h
 |false=>rfl
theorem AJ:∀{l:List Nd},(l.map (·.key)).Nodup->∀n∈l,cy n.key (dS l)=some (.ref n.ia):=by
 intro l
 induction l with
 |nil=>intro _ n hn;exact nomatch hn
 |cons m l ih=>
  intro h n hn;rw[bE,gN] at h;show(match ak m.key n.key with|true=>some (AV.ref m.ia)|false=>cy n.key (dS l))=_;rcases bQ.mp hn with rfl|hn
  ·rw[g6]
  ·rw[nC (λe=>h.1 (bU.mpr ⟨n,hn,e.symm⟩))];exact ih h.2 n hn
theorem Jz{k:Ky}:∀{l:List Nd},(∀n∈l,n.key≠k)->cy k (dS l)=none:=by
 intro l
 induction l with
 |nil=>intro _;exact rfl
 |cons m l ih=>intro h;show(match ak m.key k with|true=>some (AV.ref m.ia)|false=>cy k (dS l))=_;rw[nC (h m bA)];exact ih λn hn=>h n (bS _ hn)
theorem U7{k:Ky}{v:AV}:∀{l:List Nd},(∀n∈l,n.key≠k)->eH k v (dS l)=dS l++[(k,v)]:=by
 intro l
 induction l with
 |nil=>intro _;exact rfl
 |cons m l ih=>intro h;show(match ak m.key k with|true=>(m.key,v)::dS l|false=>(m.key,AV.ref m.ia)::eH k v (dS l))=_;rw[nC (h m bA)];exact congrArg ((m.key,AV.ref m.ia)::·) (ih λn hn=>h n (bS _ hn))
def eZ(ns:List Nd)(k:Ky)(f:Nd->Nd):List Nd:=ns.map λn=>match ak n.key k with|true=>f n|false=>n
theorem tv{α β:Type}{f:α->β}:∀{l:List α},(l.map f).Nodup->∀a∈l,∀b∈l,f a=f b->a=b:=by
 intro l
 induction l with
 |nil=>intro _ _ ha _ _ _;exact nomatch ha
 |cons c l ih=>
  intro h a ha b hb e;rw[bE,gN] at h;rcases bQ.mp ha with e1|ha<;>rcases bQ.mp hb with e2|hb
  ·rw[e1,e2]
  ·exact absurd (bU.mpr ⟨b,hb,by rw[<- e,e1]⟩) h.1
  ·exact absurd (bU.mpr ⟨a,ha,by rw[e,e2]⟩) h.1
  ·exact ih h.2 a ha b hb e
variable {f:Nd->Nd}
def zP{k:Ky}{m:Nd}(h:m∈eZ ns k f):∃n∈ns,(n.key=k/\m=f n)\/(n.key≠k/\m=n):=by
 refine aq (bU.mp h) λn hn e=>?_;refine⟨n,hn,?_⟩;cases hk:ak n.key k with
 |true=>rw[hk] at e;exact .inl ⟨gz hk,e.symm⟩
 |false=>rw[hk] at e;refine .inr ⟨λq=>?_,e.symm⟩;rw[q,g6] at hk;cases hk
def zQ{β:Type}(g:Nd->β){k:Ky}(h:∀n,g (f n)=g n):(eZ ns k f).map g=ns.map g:=by
 unfold eZ;rw[cG];refine iI λn O=>?_;show g (match ak n.key k with|true=>f n|false=>n)=g n;cases ak n.key k with
 |true=>exact h n
 |false=>rfl
def uM{β:Type}(g:Nd->β){k:Ky}(h:∀n,g (f n)=g n)(hn:(ns.map g).Nodup):((eZ ns k f).map g).Nodup:=by rw[zQ g h];exact hn
variable {fs:List (Option AV)}
def tJ{a b:Nat}{c:Nat}{l:List AV}(h1:ae H a=some (.inst c fs))(h2:ae H b=some (.list l)):a≠b:=λe=>by rw[e,h2] at h1;cases h1
variable {l:List (List Nat×AV)}
def vp{a b:Nat}{c e:Nat}(h1:ae H a=some (.inst c fs))(h2:ae H b=some (.dict e l)):a≠b:=λe=>by rw[e,h2] at h1;cases h1
def AK{a b:Nat}{e:Nat}{fs:List AV}(h1:ae H a=some (.list fs))(h2:ae H b=some (.dict e l)):a≠b:=λe=>by rw[e,h2] at h1;cases h1
def c7.Hs(G:c7 H d ep ns){n:Nd}(hn:n∈ns)(v:Int):c7 (ai H (gw {n with np:=v}) n.ia) d ep (eZ ns n.key λm=>{m with np:=v}):=by
 have hi:=(G.ok n hn).inf;refine(c7.mk ?_ (λm hm=>?_) ?_ ?_ ?_)
 ·rw[bh (vp hi G.dct),G.dct];unfold dS;rw[show(eZ ns n.key λm=>{m with np:=v}).map (λm=>(m.key,AV.ref m.ia))=ns.map λm=>(m.key,AV.ref m.ia) from zQ (λm=>(m.key,AV.ref m.ia)) λO=>rfl]
 ·obtain⟨n',dY,h|h⟩:=zP hm
  ·refine ua h λh1 aa=>?_;clear h;subst aa;have:=tv G.keys n' dY n hn h1;subst this;exact(iY.mk (cV (bk hi)) ((bh (tJ hi (G.ok n' dY).dW)).trans (G.ok n' dY).dW))
  ·refine ua h λh1 aa=>?_;clear h;subst aa;exact(iY.mk ((bh (λe=>h1 (by rw[tv G.vq n hn m dY e]):n.ia≠m.ia)).trans (G.ok m dY).inf) ((bh (tJ hi (G.ok m dY).dW)).trans (G.ok m dY).dW))
 ·exact uM (·.key) (by intro _;rfl) G.keys
 ·exact uM (·.ia) (by intro _;rfl) G.vq
 ·exact uM (·.sa) (by intro _;rfl) G.uN
def c7.S9(G:c7 H d ep ns){n:Nd}(hn:n∈ns)(l:List Ky):c7 (ai H (cn l) n.sa) d ep (eZ ns n.key λm=>{m with su:=l}):=by
 have hi:=(G.ok n hn).dW;refine(c7.mk ?_ (λm hm=>?_) ?_ ?_ ?_)
 ·rw[bh (AK hi G.dct),G.dct];unfold dS;rw[show(eZ ns n.key λm=>{m with su:=l}).map (λm=>(m.key,AV.ref m.ia))=ns.map λm=>(m.key,AV.ref m.ia) from zQ (λm=>(m.key,AV.ref m.ia)) λO=>rfl]
 ·obtain⟨n',dY,h|h⟩:=zP hm
  ·refine ua h λh1 aa=>?_;clear h;subst aa;have:=tv G.keys n' dY n hn h1;subst this;exact(iY.mk ((bh (tJ (G.ok n' dY).inf hi).symm).trans (G.ok n' dY).inf) (cV (bk hi)))
  ·refine ua h λh1 aa=>?_;clear h;subst aa;exact(iY.mk ((bh (tJ (G.ok m dY).inf hi).symm).trans (G.ok m dY).inf) ((bh (λe=>h1 (by rw[tv G.uN n hn m dY e]):n.sa≠m.sa)).trans (G.ok m dY).dW))
 ·exact uM (·.key) (by intro _;rfl) G.keys
 ·exact uM (·.ia) (by intro _;rfl) G.vq
 ·exact uM (·.sa) (by intro _;rfl) G.uN
end
section
variable {P:bP}{H:Hp}{n c a:Nat}{fs fs':List (Option AV)}{v:AV}
def d9(h:ae H n=some (.inst c fs))(hv:((l8 P c).bind λcd=>(ae fs (gy cd.bD a)).bind λr=>r)=some v):qr P a (.ref n) H=some v:=by
 show((ae H n).bind λo=>match o with
 |.inst c fs=>(l8 P c).bind λcd=>(ae fs (gy cd.bD a)).bind λr=>r
 |.iter _ _=>aI (Nat.beq a 9) (some (.cP n))
 |_=>none)=_
 rw[h];exact hv
def jB(h:ae H n=some (.inst c fs))(hv:((l8 P c).bind λcd=>aI (Nat.blt (gy cd.bD a) fs.length) (some (ai fs (some v) (gy cd.bD a))))=some fs'):pP P a (.ref n) v H=some (ai H (.inst c fs') n):=by
 show((xZ H n).bind λr=>(l8 P r.1).bind λcd=>aI (Nat.blt (gy cd.bD a) r.2.length) (some (ai H (.inst r.1 (ai r.2 (some v) (gy cd.bD a))) n)))=_;rw[Yh h];show((l8 P c).bind λcd=>aI (Nat.blt (gy cd.bD a) fs.length) (some (ai H (.inst c (ai fs (some v) (gy cd.bD a))) n)))=_;cases hc:l8 P c with
 |none=>rw[hc] at hv;exact aR hv
 |some cd=>
  rw[hc] at hv;obtain⟨h1,h2⟩:Nat.blt (gy cd.bD a) fs.length=true/\ai fs (some v) (gy cd.bD a)=fs':=by
   have hv:aI (Nat.blt (gy cd.bD a) fs.length) (some (ai fs (some v) (gy cd.bD a)))=some fs':=hv;cases hb:Nat.blt (gy cd.bD a) fs.length with
   |false=>rw[hb] at hv;exact aR hv
   |true=>rw[hb] at hv;exact⟨rfl,jR hv⟩
  show aI (Nat.blt (gy cd.bD a) fs.length) (some (ai H (.inst c (ai fs (some v) (gy cd.bD a))) n))=_;rw[h1,h2];rfl
def nh{m k:Nat}(h:ae H n=some (.inst c fs))(hv:((l8 P c).bind λcd=>(cd.meths.lookup m).map MK.user)=some (.user k)):kL P (.ref n) m H=some (.user k):=by show(ae H n).bind _=_;rw[h];exact hv
end
section
variable {d:Nat}{H:Hp}
def UP(k:Ky):RC P (d+2) (.glob 25) [.str k] H (.ref (H.length+1)) (H++[.dead,gw ⟨k,0,[],H.length+1,H.length+2⟩,cn []]):=by
 have e:∀o m,ai (H++.dead::o::m)=λy n=>ai (H++.dead::o::m) y n:=λO O=>rfl;have at1:∀{o:AO} {m:Hp},ae (H++.dead::o::m) (H.length+1)=some o:=λ{o m}=>jG (n:=1);have up1:∀{o y:AO} {m:Hp},ai (H++.dead::o::m) y (H.length+1)=H++.dead::y::m:=λ{o y m}=>Gx (n:=1);refine Uw (cd:=⟨43,true,[],[22,20,21]⟩) rfl rfl ?_;refine eS (fd:=LI) (fl:=.next) (ρ1:=[some (.ref (H.length+1)),some (.str k)]) rfl rfl ?_ rfl;refine⟨[some (.ref (H.length+1)),some (.str k)],?_⟩;refine aj (pT (af rfl) (λO=>rfl) (af rfl) (jB at1 rfl)) ?_;rw[up1];refine aj (pT aS (λO=>rfl) (af rfl) (jB at1 rfl)) ?_;rw[up1];refine aj (pT (e9 aE rfl) (λO=>rfl) (af rfl) (jB (fs':=[some (.str k),some (.int 0),some (.ref (H.length+2))]) (cb at1) ?_)) ?_
 ·have:(H++[AO.dead,AO.inst 25 [some (AV.str k),some (AV.int 0),none]]).length=H.length+2:=by rw[bF];rfl
  show some [some (AV.str k),some (AV.int 0),some (AV.ref (List.length _))]=_;rw[<- this];rfl
 ·rw[eW];show RB _ _ _ _ _ (ai (H++.dead::_::[.list []]) _ _) _ _ _;rw[up1];exact aO
end
end
section
noncomputable def gD(d:Nat)(r:AV)(np nf:Int):AO:=.inst 22 [some (.ref d),some r,some (.int np),some (.int nf)]
abbrev Ad:=Ky×Int×List Ky
noncomputable def aX(ns:List Nd):List Ad:=ns.map λn=>(n.key,n.np,n.su)
def rM(k:Ky)(g:List Ad):Bool:=g.any λt=>ak t.1 k
def iB(g:List Ad)(k:Ky):List Ad:=match rM k g with|true=>g|false=>g++[(k,0,[])]
def ke(g:List Ad)(k:Ky)(f:Int->Int):List Ad:=g.map λt=>match ak t.1 k with|true=>(t.1,f t.2.1,t.2.2)|false=>t
def qu(g:List Ad)(k x:Ky):List Ad:=g.map λt=>match ak t.1 k with|true=>(t.1,t.2.1,t.2.2++[x])|false=>t
def Bd(lo hi:Nat)(ns:List Nd):Prop:=∀n∈ns,(lo<=n.ia/\n.ia<hi)/\lo<=n.sa/\n.sa<hi
def fh(H:Hp)(s d lo:Nat)(g:List Ad)(r:AV)(np nf:Int):Prop:=(ae H s=some (gD d r np nf))/\(∃ep ns,c7 H d ep ns/\aX ns=g/\Bd lo H.length ns)/\(lo<=s)/\(lo<=d)/\(d<H.length)
section
variable {b1 b2 b3 b4 b5 b6 b7 b8}(x:fh b1 b2 b3 b4 b5 b6 b7 b8)
def fh.mk:=lI (fh b1 b2 b3 b4 b5 b6 b7 b8) rfl
def fh.self:=x.1
def fh.gY:=x.2.1
def fh.ng:=x.2.2.1
def fh.vh:=x.2.2.2.1
def fh.vO:=x.2.2.2.2
end
def ba(lo:Nat)(H H':Hp):Prop:=(H.length<=H'.length)/\(∀a,a<lo->ae H' a=ae H a)
section
variable {b1 b2 b3}(x:ba b1 b2 b3)
def ba.mk:=jI (ba b1 b2 b3) rfl
def ba.len:=x.1
def ba.low:=x.2
end
def ba.refl(lo:Nat)(H:Hp):ba lo H H:=(ba.mk (bf _) (λO O=>rfl))
variable {lo:Nat}
def ba.trans{H H1 H2:Hp}(a:ba lo H H1)(b:ba lo H1 H2):ba lo H H2:=(ba.mk (aM a.len b.len) (λx hx=>(b.low x hx).trans (a.low x hx)))
def ba.upd{n:Nat}{H:Hp}{o:AO}(h:lo<=n):ba lo H (ai H o n):=(ba.mk (by rw[cB];exact bf _) (λa ha=>bh (by exact NN ‹_› ‹_›)))
def pY{α:Type}{l:List α}{n:Nat}(h:l.length<=n):ae l n=none:=by
 cases e:ae l n with
 |none=>rfl
 |some x=>exact absurd (bk e) (by exact ND ‹_›)
def uX{α:Type}{l m:List α}{n:Nat}(h:n<l.length):ae (l++m) n=ae l n:=by refine ue (je h) λx e=>?_;rw[e,cb e]
def ba.app{H:Hp}(Y:Hp)(h:lo<=H.length):ba lo H (H++Y):=(ba.mk (by rw[bF];exact za) (λa ha=>uX (by exact FK ‹_› ‹_›)))
section
variable {ns:List Nd}
def Ni{k:Ky}{f:Nd->Nd}{g:Ad->Ad}(h:∀n,((f n).key,(f n).np,(f n).su)=g (n.key,n.np,n.su)):aX (eZ ns k f)=(aX ns).map λt=>match ak t.1 k with|true=>g t|false=>t:=by
 unfold aX eZ;rw[cG,cG];refine iI λn O=>?_;show((match ak n.key k with|true=>f n|false=>n).key,(match ak n.key k with|true=>f n|false=>n).np,(match ak n.key k with|true=>f n|false=>n).su)=match ak n.key k with|true=>g (n.key,n.np,n.su)|false=>(n.key,n.np,n.su)
 cases ak n.key k with
 |true=>exact h n
 |false=>rfl
def Eu{k:Ky}:rM k (aX ns)=true↔∃n∈ns,n.key=k:=by unfold rM aX;rw[List.any_map,List.any_eq_true];exact⟨λbV=>aq bV λn hn h=>⟨n,hn,gz h⟩,λbV=>aq bV λn hn h=>⟨n,hn,by rw[<- h];exact g6 _⟩⟩
def Bd.mono{lo hi A4:Nat}(b:Bd lo hi ns)(h:hi<=A4):Bd lo A4 ns:=λn hn=>⟨⟨(b n hn).1.1,dU (b n hn).1.2 h⟩,(b n hn).2.1,dU (b n hn).2.2 h⟩
def Bd.CB{lo hi:Nat}{k:Ky}{f:Nd->Nd}(b:Bd lo hi ns)(h1:∀n,(f n).ia=n.ia)(h2:∀n,(f n).sa=n.sa):Bd lo hi (eZ ns k f):=λm hm=>by
 obtain⟨n,hn,⟨_,rfl⟩|⟨_,rfl⟩⟩:=zP hm
 ·rw[h1,h2];exact b n hn
 ·exact b m hn
end
section
variable {dd s d lo:Nat}{H:Hp}{g:List Ad}{r:AV}{np nf:Int}
def UK:RC P (dd+2) (.glob 22) [] H (.ref H.length) (H++[gD (H.length+1) .none 0 0,.dict 0 []]):=by refine UU (cd:=⟨35,false,[(19,36),(8,37),(10,38),(12,39),(11,40),(13,41),(23,42)],[14,15,16,17]⟩) rfl rfl ?_;refine eS (fd:=LK) (fl:=.next) (ρ1:=[some (.ref H.length),some .none,none,none]) rfl rfl ?_ rfl;refine⟨[some (.ref H.length),some .none,none,none],?_⟩;refine aj (pT CX (λO=>rfl) (af rfl) (jB (cb dX) rfl)) ?_;rw[eW,bF];show RB _ _ _ _ _ (ai (H++.inst 22 _::[.dict 0 []]) _ _) _ _ _;rw[uD];refine aj (pT aS (λO=>rfl) (af rfl) (jB dX rfl)) ?_;rw[uD];refine aj (pT aS (λO=>rfl) (af rfl) (jB dX rfl)) ?_;rw[uD];refine aj (pT aS (λO=>rfl) (af rfl) (jB dX rfl)) ?_;rw[uD];refine aj (bM (t:=false) (bH (af rfl) aS rfl) aO) ?_;exact aO
def Sn:fh (H++[gD (H.length+1) .none 0 0,.dict 0 []]) H.length (H.length+1) H.length [] .none 0 0:=(fh.mk dX ⟨0,[],(c7.mk (jG (n:=1)) nofun mw mw mw),rfl,nofun⟩ (bf _) (i4 _) (by rw[bF];exact Nat.add_lt_add_left (by decide:1<2) _))
variable {l:List (List Nat×AV)}
def Li{k:Ky}{e:Nat}(h:ae H d=some (.dict e l)):lL .dict 6 (.ref d) [.str k] H=some ((cy k l).getD .none,H):=by show((cD H d).bind λr=>xP 6 d r.2 [.str k] H)=_;rw[j9 h];rfl
def Lo{k:Ky}(S:fh H s d lo g r np nf){e:Nat}(hd:ae H d=some (.dict e l)){u:Option AV}{p1 p2 p3 p4 p5:Pos}:
  RE P dd true (.eN (.attr (.var "self" 0 p1) "_node2info" 14 p2) "get" 6 (.cons (.var "node" 1 p3) .nil) p4 p5) [some (.ref s),some (.str k),u] H ((cy k l).getD .none) [some (.ref s),some (.str k),u] H:=
 eM (mk:=.dict) (fb (af rfl) (d9 S.self rfl)) (xU hd) rfl rfl (aB rfl (af rfl) aE) (Li hd)
def UQ{k:Ky}(S:fh H s d lo g r np nf)(hg:g.length<az):
  ∃H' n,RC P (dd+3) (.glob 36) [.ref s,.str k] H (.ref n.ia) H'/\ba lo H H'/\(∃ep ns,n∈ns/\n.key=k/\c7 H' d ep ns/\aX ns=iB g k/\Bd lo H'.length ns)/\ae H' s=some (gD d r np nf):=by
 refine bB S.gY λep ns G aa B=>?_;subst aa;by_cases hk:∃n∈ns,n.key=k
 ·have ek:iB (aX ns) k=aX ns:=by unfold iB;rw[Eu.mpr hk]
  refine aq hk λn hn aa=>?_;clear hk;subst aa;have f:=λp1 p2 p3 p4 p5 p6 p7=>CU (n:="result") (k:=2) (p:=p6) (p2:=p7) (Lo (p1:=p1) (p2:=p2) (p3:=p3) (p4:=p4) (p5:=p5) (dd:=dd+2) (k:=n.key) S G.dct (u:=none)) rfl;refine⟨H,n,?_,ba.refl ..,⟨ep,ns,hn,rfl,G,ek.symm,B⟩,S.self⟩;refine eS (fd:=EJ) (fl:=.ret (.ref n.ia)) (ρ1:=[some (.ref s),some (.str n.key),none]) rfl rfl ?_ rfl;refine⟨[some (.ref s),some (.str n.key),some (.ref n.ia)],?_⟩;simp only[AJ G.keys n hn] at f;refine aj (bM (t:=false) ?_ aO) (cK (fW (af rfl) λO=>rfl) nofun);exact bH (f ..) aS rfl
 ·have oK:∀n∈ns,n.key≠k:=λn hn e=>hk ⟨n,hn,e⟩;have ek:iB (aX ns) k=aX ns++[(k,0,[])]:=by
   unfold iB;cases h:rM k (aX ns) with
   |true=>exact absurd (Eu.mp h) hk
   |false=>rfl
  have lo1:lo<=H.length:=aM S.ng (fF (bk S.self));have hs:s≠d:=vp S.self G.dct;have G1:=G.app [.dead,gw ⟨k,0,[],H.length+1,H.length+2⟩,cn []];have d1:ae (H++[.dead,gw ⟨k,0,[],H.length+1,H.length+2⟩,cn []]) (H.length+1)=some (gw ⟨k,0,[],H.length+1,H.length+2⟩):=jG (n:=1);have d2:ae (H++[.dead,gw ⟨k,0,[],H.length+1,H.length+2⟩,cn []]) (H.length+2)=some (cn []):=jG (n:=2);have Xe:(H++[.dead,gw ⟨k,0,[],H.length+1,H.length+2⟩,cn []]).length=H.length+3:=by rw[bF];rfl
  refine⟨ai (H++[.dead,gw ⟨k,0,[],H.length+1,H.length+2⟩,cn []]) (.dict (ep+1) (dS ns++[(k,.ref (H.length+1))])) d,⟨k,0,[],H.length+1,H.length+2⟩,?_,(ba.app _ lo1).trans (ba.upd S.vh),⟨ep+1,ns++[⟨k,0,[],H.length+1,H.length+2⟩],mD _ bA,rfl,?_,?_,?_⟩,?_⟩
  ·refine eS (fd:=EJ) (fl:=.ret (.ref (H.length+1))) (ρ1:=[some (.ref s),some (.str k),none]) rfl rfl ?_ rfl;have f:=λp1 p2 p3 p4 p5 p6 p7=>CU (n:="result") (k:=2) (p:=p6) (p2:=p7) (Lo (p1:=p1) (p2:=p2) (p3:=p3) (p4:=p4) (p5:=p5) (dd:=dd+2) (k:=k) S G.dct (u:=none)) rfl;refine⟨[some (.ref s),some (.str k),some (.ref (H.length+1))],?_⟩;simp only[Jz oK] at f;refine aj (bM (t:=true) (bH (f ..) aS rfl) ?_) (cK (fW (af rfl) λO=>rfl) nofun);refine aj (TQ (bO (bL rfl) rfl (aB rfl (af rfl) aE) (UP k)) (λO=>rfl) (fb (af rfl) (d9 (cb S.self) rfl)) (af rfl) (H4:=ai (H++[.dead,gw ⟨k,0,[],H.length+1,H.length+2⟩,cn []]) (.dict (ep+1) (dS ns++[(k,.ref (H.length+1))])) d) ?_ rfl) aO;have:=w4 (k:=k) (v:=.ref (H.length+1)) G1.dct (by unfold dS;rw[aJ];unfold aX at hg;rw[aJ] at hg;exact hg);rw[U7 oK] at this;have h0:c5 k (dS ns)=false:=by unfold c5;rw[Jz oK];rfl
   rw[h0] at this;exact this
  ·refine(c7.mk ?_ (λm hm=>?_) ?_ ?_ ?_)
   ·rw[cV (bk G1.dct)];unfold dS;rw[ew];rfl
   ·rcases ko.mp hm with hm|hm
    ·have o:=G1.ok m hm;exact(iY.mk ((bh (vp o.inf G1.dct).symm).trans o.inf) ((bh (AK o.dW G1.dct).symm).trans o.dW))
    ·cases fU.mp hm;exact(iY.mk ((bh (vp d1 G1.dct).symm).trans d1) ((bh (AK d2 G1.dct).symm).trans d2))
   ·rw[ew];refine sq.mpr ⟨G.keys,by simp,λa ha b hb e=>?_⟩;refine aq (bU.mp ha) λm hm aa=>?_;subst aa;exact oK m hm (e.trans (by simpa using hb))
   ·rw[ew];refine sq.mpr ⟨G.vq,by simp,λa ha b hb e=>?_⟩;refine aq (bU.mp ha) λm hm aa=>?_;subst aa;have hb:b=H.length+1:=by simpa using hb
    have:=(B m hm).1.2;exact Ob (e:m.ia=b) hb this
   ·rw[ew];refine sq.mpr ⟨G.uN,by simp,λa ha b hb e=>?_⟩;refine aq (bU.mp ha) λm hm aa=>?_;subst aa;have hb:b=H.length+2:=by simpa using hb
    have:=(B m hm).2.2;exact Oa (e:m.sa=b) hb this
  ·rw[ek];unfold aX;rw[ew];rfl
  ·rw[cB,Xe];intro m hm;rcases ko.mp hm with hm|hm
   ·exact B.mono (by exact za) m hm
   ·cases fU.mp hm;exact⟨⟨by show lo<=H.length+1;exact B1 ‹_›,by show H.length+1<H.length+3;exact BY⟩,by show lo<=H.length+2;exact NC ‹_›,by show H.length+2<H.length+3;exact BZ⟩
  ·exact(bh hs.symm).trans (cb S.self)
end
end
section
def fE(H:Hp)(s d lo:Nat)(g:List Ad)(r:AV)(np nf:Int)(n:Nd):Prop:=(ae H s=some (gD d r np nf))/\(∃ep ns,n∈ns/\c7 H d ep ns/\aX ns=g/\Bd lo H.length ns)/\(lo<=s)/\(lo<=d)/\(d<H.length)
section
variable {b1 b2 b3 b4 b5 b6 b7 b8 b9}(x:fE b1 b2 b3 b4 b5 b6 b7 b8 b9)
def fE.mk:=lI (fE b1 b2 b3 b4 b5 b6 b7 b8 b9) rfl
def fE.self:=x.1
def fE.gY:=x.2.1
def fE.ng:=x.2.2.1
def fE.vh:=x.2.2.2.1
def fE.vO:=x.2.2.2.2
end
section
variable {dd s d lo:Nat}{H:Hp}{g:List Ad}{r:AV}{np nf:Int}{n:Nd}
def fE.Hb(S:fE H s d lo g r np nf n):fh H s d lo g r np nf:=(fh.mk S.self (nZ S.gY λep ns O a b c=>⟨ep,ns,a,b,c⟩) S.ng S.vh S.vO)
def fE.ok(S:fE H s d lo g r np nf n):iY H n:=bB S.gY λep ns a G O=>G.ok n a
def fE.Jx(S:fE H s d lo g r np nf n):lo<=n.ia/\lo<=n.sa:=nZ S.gY λep ns a O O B=>⟨(B n a).1.1,(B n a).2.1⟩
def zH(h1:ae H s=some (gD d r np nf))(h2:ae H n.ia=some (gw n)):n.ia≠s:=λe=>by rw[e,h1] at h2;cases h2
variable {ns:List Nd}
def Ht{f:Nd->Nd}(h:n∈ns):f n∈eZ ns n.key f:=bU.mpr ⟨n,h,by rw[g6]⟩
variable {k:Ky}
def BM{v:Int}:aX (eZ ns k λm=>{m with np:=v})=ke (aX ns) k λO=>v:=Ni (g:=λt=>(t.1,v,t.2.2)) (by intro _;rfl)
def fE.xr(S:fE H s d lo g r np nf n)(v:Int):fE (ai H (gw {n with np:=v}) n.ia) s d lo (ke g n.key λO=>v) r np nf {n with np:=v}:=by refine nZ S.gY λep ns a G aa B=>?_;subst aa;refine(fE.mk ((bh (zH S.self (G.ok n a).inf)).trans S.self) ⟨ep,_,Ht (f:=λm=>{m with np:=v}) a,G.Hs a v,BM,?_⟩ S.ng S.vh (by rw[cB];exact S.vO));rw[cB];exact B.CB (by intro _;rfl) (by intro _;rfl)
def adz{f f':Int->Int}(h:∀t∈g,t.1=k->f t.2.1=f' t.2.1):ke g k f=ke g k f':=iI λt ht=>by
 cases e:ak t.1 k with
 |true=>show(t.1,f t.2.1,t.2.2)=(t.1,f' t.2.1,t.2.2);rw[h t ht (gz e)]
 |false=>rfl
def ady(hk:(ns.map (·.key)).Nodup)(hn:n∈ns)(x:Ky):aX (eZ ns n.key λm=>{m with su:=n.su++[x]})=qu (aX ns) n.key x:=by
 rw[Ni (g:=λt=>(t.1,t.2.1,n.su++[x])) (by intro _;rfl)];unfold qu aX;rw[cG,cG];refine iI λm hm=>?_;show(match ak m.key n.key with|true=>(m.key,m.np,n.su++[x])|false=>(m.key,m.np,m.su))=match ak m.key n.key with|true=>(m.key,m.np,m.su++[x])|false=>(m.key,m.np,m.su)
 cases e:ak m.key n.key with
 |true=>rw[tv hk m hm n hn (gz e)]
 |false=>rfl
def Ct(h1:ae H s=some (gD d r np nf))(h2:ae H n.sa=some (cn n.su)):n.sa≠s:=λe=>by rw[e,h1] at h2;cases h2
def fE.Va(S:fE H s d lo g r np nf n)(x:Ky):fE (ai H (cn (n.su++[x])) n.sa) s d lo (qu g n.key x) r np nf {n with su:=n.su++[x]}:=by refine nZ S.gY λep ns a G aa B=>?_;subst aa;refine(fE.mk ((bh (Ct S.self (G.ok n a).dW)).trans S.self) ⟨ep,_,Ht (f:=λm=>{m with su:=n.su++[x]}) a,G.S9 a _,ady G.keys a x,?_⟩ S.ng S.vh (by rw[cB];exact S.vO));rw[cB];exact B.CB (by intro _;rfl) (by intro _;rfl)
def Ij(S:fh H s d lo g r np nf)(hg:g.length<az):
  ∃H' n,RC P (dd+3) (.glob 36) [.ref s,.str k] H (.ref n.ia) H'/\ba lo H H'/\n.key=k/\fE H' s d lo (iB g k) r np nf n:=by
 obtain⟨H',n,h1,h2,⟨ep,ns,a,b,c,e,f⟩,h3⟩:=UQ (dd:=dd) (k:=k) S hg;exact⟨H',n,h1,h2,b,fE.mk h3 ⟨ep,ns,a,c,e,f⟩ S.ng S.vh (dU S.vO h2.len)⟩
def cT(g:List Ad)(n:Nat):Prop:=(g.length+n<az)/\(∀t∈g,t.2.2.length+n<az)
section
variable {b1 b2}(x:cT b1 b2)
def cT.mk:=jI (cT b1 b2) rfl
def cT.len:=x.1
def cT.dW:=x.2
end
def cT.key{m:Nat}(h:cT g (m+1)):cT (iB g k) m:=by
 have h1:=h.len;unfold iB;cases rM k g with
 |true=>exact(cT.mk (by exact qC ‹_›) (λt ht=>by have:=h.dW t ht;exact qC ‹_›))
 |false=>
  refine(cT.mk (by rw[bF];show g.length+1+m<_;exact zc ‹_›) (λt ht=>?_));rcases ko.mp ht with ht|ht
  ·have:=h.dW t ht;exact qC ‹_›
  ·rw[fU.mp ht];show 0+m<_;exact Oc ‹_›
def cT.chg{m:Nat}{f:Int->Int}(h:cT g m):cT (ke g k f) m:=by refine(cT.mk (by unfold ke;rw[aJ];exact h.len) (λt ht=>?_));refine aq (bU.mp ht) λu hu aa=>?_;subst aa;cases ak u.1 k<;>exact h.dW u hu
def cT.su{x:Ky}{m:Nat}(h:cT g (m+1)):cT (qu g k x) m:=by
 have h1:=h.len;refine(cT.mk (by unfold qu;rw[aJ];exact qC ‹_›) (λt ht=>?_));refine aq (bU.mp ht) λu hu aa=>?_;subst aa;have:=h.dW u hu;cases ak u.1 k
 ·show u.2.2.length+m<_;exact qC ‹_›
 ·show(u.2.2++[x]).length+m<_;rw[bF];show u.2.2.length+1+m<_;exact zc ‹_›
def yT(g:List Ad)(k:Ky)(ps:List Ky):List Ad:=ps.foldl (λg p=>qu (iB g p) p k) (ke (iB g k) k (·+ps.length))
def adi{tup:AV}{u:Option AV}:∀(ps:List Ky) {g:List Ad} {H:Hp} {v w:Option AV},fh H s d lo g .none np nf->cT g (2*ps.length) ->
  ∃H' v' w',RF P (dd+3) (gC (bg Bo.body 3)) (.fix (ps.map .str)) (bz (bg Bo.body 3)) [some (.ref s),some (.str k),some tup,u,v,w] H .next [some (.ref s),some (.str k),some tup,u,v',w'] H' /\
   ba lo H H'/\fh H' s d lo (ps.foldl (λg p=>qu (iB g p) p k) g) .none np nf:=by
 intro ps
 induction ps with
 |nil=>intro g H v w S _;exact⟨H,v,w,gS rfl,ba.refl ..,S⟩
 |cons q ps ih=>
  intro g H v w S F;refine nZ (Ij (dd:=dd) (k:=q) S (by have:=F.len;exact ud ‹_›)) λH1 n h1 h2 h3 S1=>?_;have F1:=(by rw[i6] at F;exact F:cT g (2*ps.length+1+1)).key (k:=q);have fs:=S1.gY;refine nZ fs λep ns a G e B=>?_;clear fs;have D9:n.su.length<az:=by have:=F1.dW (n.key,n.np,n.su) (by rw[<- e];exact bU.mpr ⟨n,a,rfl⟩);have this:n.su.length+(2*ps.length+1)<az:=this;exact ud ‹_›
  have o:=S1.ok;have S2:=S1.Va k;rw[h3] at S2;obtain⟨H',v',w',h4,h5,S'⟩:=ih (v:=some (.str q)) (w:=some (.ref n.ia)) S2.Hb F1.su;refine⟨H',v',w',?_,(h2.trans (ba.upd S1.Jx.2)).trans h5,S'⟩;refine e8 rfl rfl (aj (bC (mX (af rfl) (nh S.self rfl) (aB rfl (af rfl) aE) h1) (λO=>rfl) rfl rfl) (aj (eJ (eM (mk:=.list) (fb (af rfl) (d9 o.inf rfl)) (gG o.dW) rfl rfl (aB rfl (af rfl) aE) (kR o.dW (by rw[aJ];exact D9)))) aO)) rfl ?_;have e2:(AO.list (n.su.map .str++[.str k]))=cn (n.su++[k]):=by unfold cn;rw[ew];rfl
  rw[e2];exact h4
def Ik{ps:List Ky}(S:fh H s d lo g .none np nf)(F:cT g (2*ps.length+1)):
  ∃H',RC P (dd+4) (.glob 37) (.ref s::.str k::ps.map .str) H .none H'/\ba lo H H'/\fh H' s d lo (yT g k ps) .none np nf:=by
 refine nZ (Ij (dd:=dd) (k:=k) S (by have:=F.len;exact ud ‹_›)) λH1 n h1 h2 h3 S1=>?_;have o:=S1.ok;have S2:=S1.xr (n.np+ps.length);refine nZ S1.gY λep ns a G e B=>?_;have e1:ke (iB g k) n.key (λO=>n.np+ps.length)=ke (iB g k) k (·+ps.length):=by rw[h3];refine adz λt ht hk=>?_;rw[<- e] at ht;refine aq (bU.mp ht) λm hm aa=>?_;subst aa;have:m=n:=tv G.keys m hm n a (hk.trans h3.symm);rw[this]
 rw[e1] at S2;refine mQ (adi (dd:=dd) (k:=k) (tup:=.tup (ps.map .str)) (u:=some (.ref n.ia)) ps (v:=none) (w:=none) S2.Hb ((F.key (k:=k)).chg (k:=k) (f:=(·+(ps.length:Int))))) λH' v' w' h4 h5 S'=>?_;refine⟨H',?_,(h2.trans (ba.upd S1.Jx.1)).trans h5,S'⟩;have hl:ps.length<=az:=by have:=F.len;exact Od ‹_›
 refine eS (fd:=Bo) (fl:=.next) (ρ1:=[some (.ref s),some (.str k),some (.tup (ps.map .str)),none,none,none]) rfl ?_ ?_ rfl
 ·show aI (Nat.ble 2 (ps.map AV.str).length.succ.succ&&Nat.ble (ps.map AV.str).length.succ.succ az) _=_;rw[eO.mpr (by exact NI),eO.mpr (by rw[aJ];exact Qz F.len)]
  rfl
 refine⟨[some (.ref s),some (.str k),some (.tup (ps.map .str)),some (.ref n.ia),v',w'],?_⟩;refine aj (bM (t:=false) (bH (fb (af rfl) (d9 S.self rfl)) aS rfl) aO) ?_;refine aj (bC (mX (af rfl) (nh S.self rfl) (aB rfl (af rfl) aE) h1) (λO=>rfl) rfl rfl) ?_;refine aj (xe (x:=.int n.np) (y:=.int ps.length) (af rfl) (d9 o.inf rfl) (bO (bL rfl) rfl (aB rfl (af rfl) aE) (gj (b:=.len) rfl ?_)) rfl (jB (fs':=[some (.str n.key),some (.int (n.np+ps.length)),some (.ref n.sa)]) o.inf rfl)) ?_
 ·show((some (ps.map AV.str).length).bind λm=>aI (Nat.ble m az) (some (AV.int m,H1)))=_;rw[aJ];show aI (Nat.ble ps.length az) _=_;rw[eO.mpr hl];rfl
 ·exact aj (iN (af rfl) rfl h4) aO
end
end
section
section
variable {P:bP}{U ρ1 ρ2:aC}{H H1 H2:Hp}{d k x:Nat}{a args:C}{s r:S}{p p':Pos}{v:AV}{vs:List AV}
def Ud{H3:Hp}(h1:RE P d true a U H v ρ1 H1)(hc:tU v=true)(h2:RA P d true args ρ1 H1 vs ρ2 H2)(h:bo P (λE=>E.call d v vs) ρ2 H2 (.exc x ρ2 H3)):bo P (λE=>E.e d true (.call a args p)) U H (.exc x ρ2 H3):=by refine .step (.bind h1 ?_);show bo P (λE=>match tU v&&true with|true=>M.bind (gZ (E.e d true) (cs args)) λvs=>E.call d v vs|false=>M.stuck) _ _ _;rw[hc];exact .bind h2 h
def TP{ts:C}(hn:∀E,qT E d true a=E.e d true a)(h:bo P (λE=>E.e d true a) U H (.exc x ρ1 H1)):bo P (λE=>E.s d true (.asg ts a p)) U H (.exc x ρ1 H1):=by refine .step (.Fh ?_);simp only[hn];exact h
def Ae(h:bo P (λE=>E.s d true s) U H (.exc x ρ1 H1)):bo P (λE=>cW (E.s d true) (ss (.cons s r))) U H (.exc x ρ1 H1):=.Fh h
end
structure En where
 n:Nd
 i:Nat
 j:Nat
theorem mY(k:Ky):∀l:List Ky,aU k l=true↔k∈l
 |[]=>⟨λh=>(nomatch h),λh=>(nomatch h)⟩
 |y::l=>by
  show(match ak y k with|true=>true|false=>aU k l)=true↔_;cases h:ak y k with
  |true=>exact⟨λO=>by rw[gz h];exact bA,λO=>rfl⟩
  |false=>
   refine(mY k l).trans ⟨bS _,λh'=>?_⟩;rcases bQ.mp h' with e|h'
   ·rw[e,g6] at h;cases h
   ·exact h'
abbrev Fr:=Ky×List Ky
noncomputable def hJ(E:List En):List Fr:=E.map λe=>(e.n.key,e.n.su.drop e.i)
noncomputable def mK:List Fr->Option (Ky×List Fr)
 |[]=>none
 |f::E=>match f.2 with|[]=>mK E|y::su=>some (y,(f.1,su)::E)
def dE(K:Hp)(ns:List Nd)(E:List En)(seen:List Ky)(H:Hp):Prop:=(∀a,a<K.length->ae H a=ae K a)/\(ae H K.length=some (.list ((E.reverse).map λe=>.str e.n.key)))/\(ae H (K.length+1)=some (.list ((E.reverse).map λe=>.cP e.j)))/\(ae H (K.length+2)=some (.set seen))/\(∃ep l,ae H (K.length+3)=some (.dict ep l)/\l.map (·.1)=((E.reverse).map λe=>e.n.key)/\∀p∈l,∃k:Nat,p.2=.int k/\k<1000)/\(∀e∈E,K.length+4<=e.j/\ae H e.j=some (.iter e.n.sa e.i))/\((E.map (·.j)).Nodup)/\(∀e∈E,e.n∈ns/\e.n.key∈seen)/\((E.map λe=>e.n.key).Nodup)/\(K.length+4<=H.length)/\(E.length<=seen.length)
section
variable {b1 b2 b3 b4 b5}(x:dE b1 b2 b3 b4 b5)
def dE.mk:=λm1 m2 m3 m4 m5 m6 m7 m8 m9 qd qc=>(⟨m1,m2,m3,m4,m5,m6,m7,m8,m9,qd,qc⟩:dE b1 b2 b3 b4 b5)
def dE.low:=x.1
def dE.zF:=x.2.1
def dE.JS:=x.2.2.1
def dE.ri:=x.2.2.2.1
def dE.Ay:=x.2.2.2.2.1
def dE.it:=x.2.2.2.2.2.1
def dE.js:=x.2.2.2.2.2.2.1
def dE.mem:=x.2.2.2.2.2.2.2.1
def dE.DK:=x.2.2.2.2.2.2.2.2.1
def dE.len:=x.2.2.2.2.2.2.2.2.2.1
def dE.cnt:=x.2.2.2.2.2.2.2.2.2.2
end
section
variable {K:Hp}{ns:List Nd}{seen:List Ky}{dg ep d:Nat}
variable {α:Type}
def ot{β:Type}(f:α->β)(e:α)(E:List α):((e::E).reverse).map f=(E.reverse).map f++[f e]:=by rw[List.reverse_cons,ew];rfl
def Ki(l:List α)(x:α):j6 (-1) (l++[x])=some x:=by
 show aI (Nat.blt 0 (l++[x]).length) (ae (l++[x]) ((l++[x]).length-1))=_;have e:(l++[x]).length=l.length+1:=by rw[bF];rfl
 rw[e];show ae (l++[x]) l.length=_;exact dX
theorem aa5{k:Ky}{v:AV}:∀{l:List (List Nat×AV)},k∉l.map (·.1)->oR k (l++[(k,v)])=l:=by
 intro l
 induction l with
 |nil=>intro _;show(match ak k k with|true=>[]|false=>_)=_;rw[g6]
 |cons p l ih=>intro h;show(match ak p.1 k with|true=>l++[(k,v)]|false=>p::oR k (l++[(k,v)]))=_;rw[bE,bQ,not_or] at h;rw[nC (fi h.1)];exact congrArg (p::·) (ih h.2)
theorem C0{k:Ky}{v:AV}:∀{l:List (List Nat×AV)},k∉l.map (·.1)->eH k v l=l++[(k,v)]/\c5 k l=false:=by
 intro l
 induction l with
 |nil=>intro _;exact⟨rfl,rfl⟩
 |cons p l ih=>
  intro h;rw[bE,bQ,not_or] at h;refine ua (ih h.2) λh1 h2=>?_;have e:=nC (fi h.1);constructor
  ·show(match ak p.1 k with|true=>(p.1,v)::l|false=>p::eH k v l)=_;rw[e];exact congrArg (p::·) h1
  ·show(match ak p.1 k with|true=>some p.2|false=>cy k l).isSome=_;rw[e];exact h2
def abn{H:Hp}{n e:Nat}{l:List (List Nat×AV)}{k:List Nat}(h:ae H n=some (.dict e l))(hk:c5 k l=true):yH (.ref n) (.str k) H=some (ai H (.dict (e+1) (oR k l)) n):=by show((cD H n).bind λr=>aI (c5 k r.2) (some (ai H (AO.dict (r.1+1) (oR k r.2)) n)))=_;rw[j9 h];show aI (c5 k l) _=_;rw[hk];rfl
noncomputable def fg(s dg L:Nat)(x:Option AV):aC:=[some (.ref s),some (.ref dg),some (.ref L),some (.ref (L+1)),some (.ref (L+2)),some (.ref (L+3)),x]
abbrev Bg:S:=bg Bl.body 5
abbrev mH:S:=bg (bz Bg) 1
abbrev lj:S:=bg (bz mH) 1
def j7{l:List α}{n:Nat}{x:α}(h:ae l n=some x):l.drop n=x::l.drop (n+1):=by
 induction l generalizing n with
 |nil=>exact aR h
 |cons a r ih=>cases n with
  |zero=>obtain rfl:=sj h;rfl
  |succ n=>exact ih h
def EU{l:List α}{n:Nat}(h:ae l n=none):l.drop n=[]:=by
 induction l generalizing n with
 |nil=>exact List.drop_nil
 |cons a r ih=>cases n with
  |zero=>exact aR h.symm
  |succ n=>exact ih h
theorem Q7{s:Nat}(G:∀n∈ns,iY K n):∀(E:List En) {H:Hp} {x:AV},dE K ns E seen H ->
  (∃y H' E',mK (hJ E)=some (y,hJ E')/\RW P d true (gB lj) (bz lj) (iW lj) (fg s dg K.length (some x)) H .next (fg s dg K.length (some (.str y))) H'/\dE K ns E' seen H') \/
  (∃H',mK (hJ E)=none/\RW P d true (gB lj) (bz lj) (iW lj) (fg s dg K.length (some x)) H .brk (fg s dg K.length (some x)) H'/\dE K ns [] seen H'):=by
 intro E
 induction E with
 |nil=>intro H x D;refine .inr ⟨H,rfl,?_,D⟩;refine mU (kE (af rfl) (wK D.zF)) (cK CH nofun)
 |cons e E gI=>
  intro H x D;refine ua (D.mem e bA) λm1 m2=>?_;refine ua (D.it e bA) λj1 j2=>?_;have hs:ae H e.n.sa=some (cn e.n.su):=(D.low _ (bk (G e.n m1).dW)).trans (G e.n m1).dW;have oG:=D.zF;have hit:=D.JS;rw[ot (λe:En=>AV.str e.n.key)] at oG;rw[ot (λe:En=>AV.cP e.j)] at hit;have tr:gR (.ref K.length) H=some true:=by rw[wK oG];cases (List.map (λe:En=>AV.str e.n.key) E.reverse)<;>rfl
  have keep:∀{o:AO} {a:Nat},a<K.length+4->ae (ai H o e.j) a=ae H a:=λh=>bh ((λh=>N5 ‹_› h:∀{a:Nat},a<K.length+4->e.j≠a) h);have js:=D.js;rw[bE,gN] at js;have other:∀{o:AO},∀e'∈E,ae (ai H o e.j) e'.j=ae H e'.j:=λe' h'=>bh λq=>js.1 (bU.mpr ⟨e',h',q.symm⟩);have pw:=D.DK;rw[bE,gN] at pw;cases hy:ae e.n.su e.i with
  |some y=>
   have rc:=UI (P:=P) (d:=d) (v:=.str y) (JV j2) (dy hs) (by rw[il,hy];rfl);refine .inl ⟨y,ai H (.iter e.n.sa (e.i+1)) e.j,{e with i:=e.i+1}::E,by show(match e.n.su.drop e.i with|[]=>mK (hJ E)|y::su=>some (y,(e.n.key,su)::hJ E))=_;rw[j7 hy];rfl,?_,?_⟩
   ·exact xc (f:=.brk) (kE (af rfl) tr) (cK (HK (aj (bC (bO (dP (af rfl) (CW aS rfl) (sS hit (Ki _ _))) rfl aE rc) (λO=>rfl) rfl rfl) (cK CH nofun))) nofun) rfl
   ·refine bB D.Ay λep l n1 n2 n0=>?_;refine(dE.mk (λa ha=>(keep (by exact FO ‹_›)).trans (D.low a ha)) (by rw[ot (λe:En=>AV.str e.n.key)];exact(keep (by exact FF)).trans oG) (by rw[ot (λe:En=>AV.cP e.j)];exact(keep (by exact FE)).trans hit) ((keep (by exact BY)).trans D.ri) ⟨ep,l,(keep (by exact BZ)).trans n1,by rw[n2,ot (λe:En=>e.n.key),ot (λe:En=>e.n.key)],n0⟩ (λe' fM=>?_) D.js (λe' fM=>?_) D.DK (by rw[cB];exact D.len) D.cnt)
    ·rcases bQ.mp fM with rfl|fM
     ·exact⟨j1,cV (bk j2)⟩
     ·exact⟨(D.it e' (bS _ fM)).1,(other e' fM).trans (D.it e' (bS _ fM)).2⟩
    ·rcases bQ.mp fM with rfl|fM
     ·exact⟨m1,m2⟩
     ·exact D.mem e' (bS _ fM)
  |none=>
   refine bB D.Ay λep l n1 n2 n0=>?_;rw[ot (λe:En=>e.n.key)] at n2;refine bB (List.map_eq_append_iff.mp n2) λl0 l1 aa n3 n4=>?_;subst aa;obtain⟨q,rfl,n5⟩:∃q,l1=[q]/\q.1=e.n.key:=by
    cases l1 with
    |nil=>exact absurd (congrArg List.length n4) (by simp)
    |cons q l1=>cases l1 with
     |nil=>exact⟨q,rfl,(nQ n4).1⟩
     |cons=>exact absurd (congrArg List.length n4) (by simp)
   obtain⟨qk,qv⟩:=q;have n5:qk=e.n.key:=n5;rw[n5] at n1;clear n2 n4 n5;have fresh:e.n.key∉l0.map (·.1):=λhm=>by rw[n3] at hm;refine aq (bU.mp hm) λe' fM q=>?_;exact pw.1 (bU.mpr ⟨e',wu.mp fM,q⟩)
   have stop:=Uv (P:=P) (d:=d) (U:=fg s dg K.length (some x)) (JV j2) (dy hs) (by rw[il,hy];rfl);have a1:ae (ai H .dead e.j) K.length=some (.list ((E.reverse).map (λe:En=>AV.str e.n.key)++[.str e.n.key])):=(keep (by exact FF)).trans oG;have a2:ae (ai H .dead e.j) (K.length+1)=some (.list ((E.reverse).map (λe:En=>AV.cP e.j)++[.cP e.j])):=(keep (by exact FE)).trans hit;have a3:ae (ai H .dead e.j) (K.length+3)=some (.dict ep (l0++[(e.n.key,qv)])):=(keep (by exact BZ)).trans n1;have a4:ae (ai H .dead e.j) (K.length+2)=some (.set seen):=(keep (by exact BY)).trans D.ri;have Xf:(ai H .dead e.j).length=H.length:=cB;have ve:∀a,a<K.length->ae (ai H .dead e.j) a=ae K a:=λa ha=>(keep (by exact FO ‹_›)).trans (D.low a ha);have iP:∀e'∈E,K.length+4<=e'.j/\ae (ai H .dead e.j) e'.j=some (.iter e'.n.sa e'.i):=λe' fM=>⟨(D.it e' (bS _ fM)).1,(other e' fM).trans (D.it e' (bS _ fM)).2⟩;generalize ai H .dead e.j=H1 at *;have del:yH (.ref (K.length+3)) (.str e.n.key) (ai H1 (.list ((E.reverse).map λe:En=>AV.str e.n.key)) K.length)=some (ai (ai H1 (.list ((E.reverse).map λe:En=>AV.str e.n.key)) K.length) (.dict (ep+1) l0) (K.length+3)):=by
    have:c5 e.n.key (l0++[(e.n.key,qv)])=true:=by
     cases h:c5 e.n.key (l0++[(e.n.key,qv)]) with
     |true=>rfl
     |false=>
      have h2:∀l:List (List Nat×AV),c5 e.n.key (l++[(e.n.key,qv)])=true:=λl=>by
       induction l with
       |nil=>show(match ak e.n.key e.n.key with|true=>some qv|false=>none).isSome=true;rw[g6];rfl
       |cons p l ih=>
        show(match ak p.1 e.n.key with|true=>some p.2|false=>cy e.n.key (l++[(e.n.key,qv)])).isSome=true;cases ak p.1 e.n.key with
        |true=>rfl
        |false=>exact ih
      rw[h2] at h;cases h
    have r:=abn (H:=ai H1 (.list ((E.reverse).map λe:En=>AV.str e.n.key)) K.length) (n:=K.length+3) ((bh (by exact B3)).trans a3) this;rwa[aa5 fresh] at r
   have D':dE K ns E seen (ai (ai (ai H1 (.list ((E.reverse).map λe:En=>AV.str e.n.key)) K.length) (.dict (ep+1) l0) (K.length+3)) (.list ((E.reverse).map λe:En=>AV.cP e.j)) (K.length+1)):=by
    have k3:∀{a},a≠K.length->a≠K.length+1->a≠K.length+3->ae (ai (ai (ai H1 (.list ((E.reverse).map λe:En=>AV.str e.n.key)) K.length) (.dict (ep+1) l0) (K.length+3)) (.list ((E.reverse).map λe:En=>AV.cP e.j)) (K.length+1)) a=ae H1 a:=λh1 h2 h3=>by rw[bh (fi h2),bh (fi h3),bh (fi h1)]
    have hl:=D.len;refine(dE.mk (λa ha=>(k3 (by exact BX ‹_›) (by exact FR ‹_›) (by exact FP ‹_›)).trans (ve a ha)) ?_ ?_ ((k3 (by exact zb) (by exact B2) (by exact uf)).trans a4) ⟨ep+1,l0,?_,n3,λp hp=>n0 p (nT _ hp)⟩ (λe' fM=>⟨(iP e' fM).1,?_⟩) js.2 (λe' fM=>D.mem e' (bS _ fM)) pw.2 (by rw[cB,cB,cB,Xf];exact D.len) (nR D.cnt))
    ·rw[bh (by exact NJ),bh (by exact NK),cV (by exact Oe ‹_› ‹_›)]
    ·rw[cV (by rw[cB,cB];exact N6 ‹_› ‹_›)]
    ·rw[bh (by exact FT),cV (by rw[cB];exact B0 ‹_› ‹_›)]
    ·have:=(iP e' fM).1;exact(k3 (by exact FQ ‹_›) (by exact FJ ‹_›) (by exact FI ‹_›)).trans (iP e' fM).2
   have turn:∀{fl ρ' H'},RW P d true (gB lj) (bz lj) (iW lj) (fg s dg K.length (some x)) (ai (ai (ai H1 (.list ((E.reverse).map λe:En=>AV.str e.n.key)) K.length) (.dict (ep+1) l0) (K.length+3)) (.list ((E.reverse).map λe:En=>AV.cP e.j)) (K.length+1)) fl ρ' H'->RW P d true (gB lj) (bz lj) (iW lj) (fg s dg K.length (some x)) H fl ρ' H':=λ{fl ρ' H'} h=>by
    refine kD (f:=.next) (kE (af rfl) tr) (aj (HL (Ae (TP (λO=>rfl) (Ud (dP (af rfl) (CW aS rfl) (sS hit (Ki _ _))) rfl aE stop))) rfl ?_) aO) rfl h;refine aj (TR (af rfl) (eM (mk:=.list) (af rfl) (gG a1) rfl rfl aE (C5 a1)) del) ?_;have a5:ae (ai (ai H1 (.list ((E.reverse).map λe:En=>AV.str e.n.key)) K.length) (.dict (ep+1) l0) (K.length+3)) (K.length+1)=some (.list ((E.reverse).map (λe:En=>AV.cP e.j)++[.cP e.j])):=by rw[bh (by exact zb),bh (by exact uf)];exact a2
    exact aj (eJ (eM (mk:=.list) (af rfl) (gG a5) rfl rfl aE (C5 a5))) aO
   have eu:mK (hJ (e::E))=mK (hJ E):=by show(match e.n.su.drop e.i with|[]=>mK (hJ E)|y::su=>some (y,(e.n.key,su)::hJ E))=_;rw[EU hy]
   rw[eu];rcases gI D' (x:=x) with⟨y,H',E1,b1,b2,b3⟩|⟨H',b1,b2,b3⟩
   ·exact .inl ⟨y,H',E1,b1,turn b2,b3⟩
   ·exact .inr ⟨H',b1,turn b2,b3⟩
end
end
section
section
variable {K:Hp}{ns:List Nd}{seen:List Ky}{dg ep d s:Nat}
variable {H:Hp}{n:Nat}{k:Ky}
def AS{l:List Ky}(h:ae H n=some (.set l)):fO .In (.str k) (.ref n) H=some (aU k l):=by
 have e1:bx H n=none:=by unfold bx;rw[h];rfl
 have e2:cD H n=none:=by unfold cD;rw[h];rfl
 show(match bx H n with|some l=>_|none=>(match cD H n with|some r=>some (c5 k r.2)|none=>(oh H n).map λl=>aU k l))=_;rw[e1,e2,Hw h];rfl
def AU{e:Nat}{l:List (List Nat×AV)}(h:ae H n=some (.dict e l)):fO .In (.str k) (.ref n) H=some (c5 k l):=by show(match bx H n with|some l=>_|none=>(match cD H n with|some r=>some (c5 k r.2)|none=>(oh H n).map λl=>aU k l))=_;rw[xH h,j9 h]
def yk:∀l:List (List Nat×AV),c5 k l=aU k (l.map (·.1)):=by
 intro l
 induction l with
 |nil=>rfl
 |cons p l ih=>
  show(match ak p.1 k with|true=>some p.2|false=>cy k l).isSome=(match ak p.1 k with|true=>true|false=>aU k (l.map (·.1)));cases ak p.1 k with
  |true=>rfl
  |false=>exact ih
def WZ:∀{l:List (List Nat×AV)},c5 k l=true->∃p∈l,cy k l=some p.2:=by
 intro l
 induction l with
 |nil=>intro h;exact nomatch h
 |cons p l ih=>
  intro h;have h:(match ak p.1 k with|true=>some p.2|false=>cy k l).isSome=true:=h;show ∃q∈p::l,(match ak p.1 k with|true=>some p.2|false=>cy k l)=some q.2;cases e:ak p.1 k with
  |true=>exact⟨p,bA,rfl⟩
  |false=>rw[e] at h;exact aq (ih h) λq hq h2=>⟨q,bS _ hq,h2⟩
def Wj(E:List En):aU k ((E.reverse).map λe=>e.n.key)=aU k (E.map λe=>e.n.key):=by rw[pg,mY,mY,List.map_reverse,wu]
def adg{l:List Ky}(h:ae H n=some (.set l))(hk:aU k l=false)(hl:l.length<1000):lL .set 8 (.ref n) [.str k] H=some (.none,ai H (.set (l++[k])) n):=by show((oh H n).bind λl=>aI (Nat.blt l.length 1000) (some (AV.none,match aU k l with|true=>H|false=>ai H (.set (l++[k])) n)))=_;rw[Hw h];show aI (Nat.blt l.length 1000) (some (AV.none,match aU k l with|true=>H|false=>ai H (.set (l++[k])) n))=_;rw[bG.mpr hl,hk];rfl
def acS{P:bP}{m i:Nat}(h:ae H n=some (.iter m i)):qr P 9 (.ref n) H=some (.cP n):=by
 show((ae H n).bind λo=>match o with
 |.inst c fs=>(l8 P c).bind λcd=>(ae fs (gy cd.bD 9)).bind λr=>r
 |.iter _ _=>aI (Nat.beq 9 9) (some (.cP n))
 |_=>none)=_
 rw[h];rfl
def UN{l:List AV}(h:ae H n=some (.list l)):RC P d (.glob 31) [.ref n] H (.ref H.length) (H++[.iter n 0]):=gj (b:=.iter) rfl (by show((bx H n).map λO=>(AV.ref H.length,H++[.iter n 0]))=_;rw[dy h];rfl)
section
variable {E:List En}{H:Hp}{k0:Ky}
def KW(D:dE K ns E seen H):∃e l,ae H (K.length+3)=some (.dict e l)/\c5 k0 l=aU k0 (E.map λe=>e.n.key)/\∀p∈l,∃k:Nat,p.2=.int k/\k<1000:=by refine bB D.Ay λe l n1 n2 n3=>⟨e,l,n1,?_,n3⟩;rw[yk,n2,Wj]
def Wr(D:dE K ns E seen H)(hm:aU k0 seen=true)(hk:aU k0 (E.map λe=>e.n.key)=false):RS P (d+1) true (bg (bz mH) 0) (fg s dg K.length (some (.str k0))) H .next (fg s dg K.length (some (.str k0))) H:=by have j5:=AS (k:=k0) D.ri;rw[hm] at j5;refine bB (KW (k0:=k0) D) λe l n1 n2 n3=>?_;have inD:=AU (k:=k0) n1;rw[n2,hk] at inD;exact bM (bH (af rfl) (af rfl) j5) (aj (bM (bH (af rfl) (af rfl) inD) aO) aO)
def Wq(D:dE K ns E seen H)(hm:aU k0 seen=true)(hk:aU k0 (E.map λe=>e.n.key)=true)(hs:seen.length<1000):∃v,RS P (d+1) true (bg (bz mH) 0) (fg s dg K.length (some (.str k0))) H (.ret v) (fg s dg K.length (some (.str k0))) H/\gR v=λO=>some true:=by
 have j5:=AS (k:=k0) D.ri;rw[hm] at j5;refine bB (KW (k0:=k0) D) λe l n1 n2 n3=>?_;have inD:=AU (k:=k0) n1;rw[n2,hk] at inD;rw[hk] at n2;refine aq (WZ n2) λq hq e1=>?_;refine aq (n3 q hq) λk e2 YW=>?_;rw[e2] at e1;have sl:kC (.ref K.length) (.int k) .none H=some (.lst (((E.reverse).map λe=>AV.str e.n.key).drop k)):=by show((bx H K.length).bind λl=>(aI (Nat.ble k az) (some (some (k:Int)))).bind λa=>some (AV.lst (dA a none l)))=_;rw[dy D.zF,eO.mpr (aM (fF YW) (by decide:1000<=az))];rfl
 have hl:(((E.reverse).map λe=>AV.str e.n.key).drop k).length+1<=az:=by rw[qE,aJ,ie];exact aM (ze (aM (nU _ _) (aM D.cnt (fF hs))) 1) (by decide:1001<=az)
 have ad:iz .Add (.lst (((E.reverse).map λe=>AV.str e.n.key).drop k)) (.lst [.str k0]) H=some (.lst (((E.reverse).map λe=>AV.str e.n.key).drop k++[.str k0])):=by show aI (Nat.ble ((((E.reverse).map λe=>AV.str e.n.key).drop k).length+1) az) _=_;rw[eO.mpr hl];rfl
 refine⟨_,bM (bH (af rfl) (af rfl) j5) (cK (bM (bH (af rfl) (af rfl) inD) (cK (fW (du (jc (af rfl) (iO (dP (af rfl) (af rfl) (Cs n1 e1)) λO=>rfl) jD sl) (e9 (aB rfl (af rfl) aE) rfl) ad) λO=>rfl) nofun)) nofun),?_⟩
 funext H'
 show some (!(((E.reverse).map λe=>AV.str e.n.key).drop k++[AV.str k0]).isEmpty)=_;cases ((E.reverse).map λe=>AV.str e.n.key).drop k<;>rfl
def Ws{n0:Nd}(G:c7 K dg ep ns)(D:dE K ns E seen H)(h0:n0∈ns)(hm:aU n0.key seen=false)(hs:seen.length<1000):
  ∃H' j,RS P (d+1) true (bg (bz mH) 0) (fg s dg K.length (some (.str n0.key))) H .next (fg s dg K.length (some (.str n0.key))) H'/\dE K ns (⟨n0,0,j⟩::E) (seen++[n0.key]) H':=by
 refine bB D.Ay λed l n1 n2 nI=>?_;have IV:n0.key∉E.map λe=>e.n.key:=λh=>by refine aq (bU.mp h) λe he q=>?_;have:=(mY _ _).mpr (D.mem e he).2;rw[q,hm] at this;cases this
 have fresh:n0.key∉l.map (·.1):=λh=>by rw[n2,List.map_reverse,wu] at h;exact IV h
 have j5:=AS (k:=n0.key) D.ri;rw[hm] at j5;have hlen:=D.len;have Y7:=D.cnt;have hE:E.length<1000:=by exact OA ‹_› ‹_›
 have hz:(1000:Nat)<=az:=by decide
 have g0:=G.ok n0 h0;have adj:=adg D.ri hm hs;have b1:∀{a},a≠K.length+2->ae (ai H (.set (seen++[n0.key])) (K.length+2)) a=ae H a:=λh=>bh (fi h);have c2:ae (ai H (.set (seen++[n0.key])) (K.length+2)) (K.length+2)=some (.set (seen++[n0.key])):=cV (by exact qC ‹_›);have l1:(ai H (.set (seen++[n0.key])) (K.length+2)).length=H.length:=cB;have ve:∀a,a<K.length->ae (ai H (.set (seen++[n0.key])) (K.length+2)) a=ae K a:=λa ha=>(b1 (by exact NF ‹_›)).trans (D.low a ha);have Sh:=(b1 (by exact NL)).trans D.zF;have JR:=(b1 (by exact uf)).trans D.JS;have V8:=(b1 (by exact B2)).trans n1;have iP:∀e∈E,K.length+4<=e.j/\ae (ai H (.set (seen++[n0.key])) (K.length+2)) e.j=some (.iter e.n.sa e.i):=λe he=>⟨(D.it e he).1,(b1 (by have:=(D.it e he).1;exact Ov ‹_›)).trans (D.it e he).2⟩;generalize ai H (.set (seen++[n0.key])) (K.length+2)=H1 at *;have xT:∀a x,ae H1 a=some x->ae (H1++[.iter n0.sa 0]) a=some x:=λa x h=>cb h;have nw:ae (H1++[.iter n0.sa 0]) H1.length=some (.iter n0.sa 0):=dX;have l2:(H1++[AO.iter n0.sa 0]).length=H.length+1:=by rw[bF,l1];rfl
 have WU:∀a,a<K.length->ae (H1++[.iter n0.sa 0]) a=ae K a:=λa ha=>(uX (NX ‹K.length+4<=H.length› ha l1)).trans (ve a ha);have Sg:=xT _ _ Sh;have XU:=xT _ _ JR;have V7:=xT _ _ V8;have Td:=xT _ _ c2;have ni:∀e∈E,K.length+4<=e.j/\ae (H1++[.iter n0.sa 0]) e.j=some (.iter e.n.sa e.i):=λe he=>⟨(iP e he).1,xT _ _ (iP e he).2⟩;have XS:∀e∈E,e.j<H1.length:=λe he=>bk (iP e he).2;have f3:RC P (d+1) (.glob 31) [.ref n0.sa] H1 (.ref H1.length) (H1++[.iter n0.sa 0]):=UN ((ve _ (bk g0.dW)).trans g0.dW);have s1:lB (.ref dg) (.str n0.key) H1=some (.ref n0.ia):=Cs ((ve _ (bk G.dct)).trans G.dct) (AJ G.keys n0 h0);have s2:qr P 21 (.ref n0.ia) H1=some (.ref n0.sa):=d9 ((ve _ (bk g0.inf)).trans g0.inf) rfl;have s3:qr P 9 (.ref H1.length) (H1++[.iter n0.sa 0])=some (.cP H1.length):=acS nw;generalize K6:H1++[.iter n0.sa 0]=H2 at *;have ap1:=kR (v:=.cP H1.length) XU (by rw[aJ,ie];exact B4 ‹_› ‹_›);have b3:∀{a},a≠K.length+1->ae (ai H2 (.list ((E.reverse).map (λe:En=>AV.cP e.j)++[.cP H1.length])) (K.length+1)) a=ae H2 a:=λh=>bh (fi h);have XT:ae (ai H2 (.list ((E.reverse).map (λe:En=>AV.cP e.j)++[.cP H1.length])) (K.length+1)) (K.length+1)=some (.list ((E.reverse).map (λe:En=>AV.cP e.j)++[.cP H1.length])):=cV (by exact NV ‹_› ‹_›);have l3:(ai H2 (.list ((E.reverse).map (λe:En=>AV.cP e.j)++[.cP H1.length])) (K.length+1)).length=H.length+1:=cB.trans l2;generalize ai H2 (.list ((E.reverse).map (λe:En=>AV.cP e.j)++[.cP H1.length])) (K.length+1)=H3 at *;have GZ:=(b3 (by exact uf)).trans Sg;have V6:=(b3 (by exact zb)).trans V7;have f4:=xq (d:=d+1) GZ (by rw[aJ,ie];exact FW ‹_› ‹_›);have st:=w4 (k:=n0.key) (v:=.int (((E.reverse).map λe:En=>AV.str e.n.key).length:Nat)) V6 (by have:=congrArg List.length n2;rw[aJ,aJ,ie] at this;exact N0 ‹_› ‹_› ‹_›)
 refine ua (C0 (v:=.int (((E.reverse).map λe:En=>AV.str e.n.key).length:Nat)) fresh) λp1 p2=>?_;rw[p1,p2] at st;dsimp only at st;have b4:∀{o:AO} {a},a≠K.length+3->ae (ai H3 o (K.length+3)) a=ae H3 a:=λh=>bh (fi h);have V5:∀{o:AO},ae (ai H3 o (K.length+3)) (K.length+3)=some o:=cV (by exact NU ‹_› ‹_›);have l4:∀{o:AO},(ai H3 o (K.length+3)).length=H.length+1:=cB.trans l3;have GY:=λ{o:AO}=>(b4 (o:=o) (by exact B3)).trans GZ;have ap2:=kR (v:=.str n0.key) (GY (o:=.dict (ed+1) (l++[(n0.key,.int (((E.reverse).map λe:En=>AV.str e.n.key).length:Nat))]))) (by rw[aJ,ie];exact B4 ‹_› ‹_›);refine⟨_,H1.length,bM (bH (af rfl) (af rfl) j5)
  (aj (eJ (eM (mk:=.set) (af rfl) (XD D.ri) rfl rfl (aB rfl (af rfl) aE) adj))
  (aj (eJ (eM (mk:=.list) (af rfl) (gG JR) rfl rfl (aB rfl (fb (bO (bL rfl) rfl (aB rfl (fb (dP (af rfl) (af rfl) s1) s2) aE) f3) s3) aE) ap1))
  (aj (pS (bO (bL rfl) rfl (aB rfl (af rfl) aE) f4) (λO=>rfl) (af rfl) (af rfl) st)
  (aj (eJ (eM (mk:=.list) (af rfl) (gG GY) rfl rfl (aB rfl (af rfl) aE) ap2)) aO)))),?_⟩
 ·have kk:∀{a},a≠K.length->a≠K.length+1->a≠K.length+3->∀{o o':AO},ae (ai (ai H3 o (K.length+3)) o' K.length) a=ae H2 a:=by intro a h1 h2 h3 o o';rw[bh (fi h1),b4 h3,b3 h2]
  refine(dE.mk (λa ha=>(kk (by exact BX ‹_›) (by exact FR ‹_›) (by exact FP ‹_›)).trans (WU a ha)) ?_ ?_ ((kk (by exact zb) (by exact B2) (by exact uf)).trans Td) ⟨ed+1,l++[(n0.key,.int (((E.reverse).map λe:En=>AV.str e.n.key).length:Nat))],?_,?_,?_⟩ (λe he=>?_) ?_ (λe he=>?_) ?_ ?_ ?_)
  ·rw[ot (λe:En=>AV.str e.n.key),cV (by rw[l4];exact Ou ‹_›)]
  ·rw[ot (λe:En=>AV.cP e.j),bh (by exact uf),b4 (by exact FT)];exact XT
  ·rw[bh (by exact B3)];exact V5
  ·rw[ew,n2,ot (λe:En=>e.n.key)];rfl
  ·intro p hp;rcases ko.mp hp with hp|hp
   ·exact nI p hp
   ·obtain rfl:=fU.mp hp;exact⟨_,rfl,by rw[aJ,ie];exact hE⟩
  ·rcases bQ.mp he with rfl|he
   ·exact⟨by show K.length+4<=H1.length;exact B0 ‹_› ‹_›,(kk (by show H1.length≠_;exact Oh ‹_› ‹_›) (by show H1.length≠_;exact N7 ‹_› ‹_›) (by show H1.length≠_;exact Oz ‹_› ‹_›)).trans nw⟩
   ·have:=(ni e he).1;exact⟨this,(kk (by exact FQ ‹_›) (by exact FJ ‹_›) (by exact FI ‹_›)).trans (ni e he).2⟩
  ·rw[bE,gN];refine⟨λhm=>?_,D.js⟩;refine aq (bU.mp hm) λe he q=>?_;have:=XS e he;have q:e.j=H1.length:=q;exact jQ _ (q▸this)
  ·rcases bQ.mp he with rfl|he
   ·exact⟨h0,mD _ bA⟩
   ·exact⟨(D.mem e he).1,nT _ (D.mem e he).2⟩
  ·rw[bE,gN];exact⟨IV,D.DK⟩
  ·rw[cB,l4];exact B1 ‹_›
  ·rw[bF];exact sk Y7
end
end
end
section
def oO(k:Ky)(g:List Ad):Option (List Ky):=List.rec (motive:=λO=>Option (List Ky)) none (λp O ih=>match ak p.1 k with|true=>some p.2.2|false=>ih) g
def lY(f:Ky->List Fr->List Ky->Option (Option (List Ky)))(E:List Fr)(seen:List Ky):Option (Option (List Ky)):=match mK E with|none=>some (some seen)|some p=>f p.1 p.2 seen
def iw(g:List Ad)(m:Nat):Ky->List Fr->List Ky->Option (Option (List Ky)):=Nat.rec (motive:=λO=>Ky->List Fr->List Ky->Option (Option (List Ky))) (λO O O=>none) (λO ih k E seen=>match Nat.blt seen.length 1000 with
 |false=>none
 |true=>match aU k seen with
  |true=>match aU k (E.map (·.1)) with|true=>some none|false=>lY ih E seen
  |false=>(oO k g).bind λsu=>lY ih ((k,su)::E) (seen++[k])) m
def jl(g:List Ad)(l:List Ad):List Ky->Option Bool:=List.rec (motive:=λO=>List Ky->Option Bool) (λO=>some false) (λp O ih seen=>match aU p.1 seen with
 |true=>ih seen
 |false=>(iw g 300 p.1 [] seen).bind λr=>match r with|none=>some true|some seen=>ih seen) l
def Nt(K:Hp)(ns:List Nd)(r:Option (List Ky))(fl:Fl)(H':Hp):Prop:=match r with
 |none=>∃v,fl=.ret v/\(gR v=λO=>some true)/\ba K.length K H'
 |some seen=>fl=.next/\dE K ns [] seen H'
section
variable {K:Hp}{ns:List Nd}{seen:List Ky}{dg ep d s:Nat}
def xd{P:bP}{q t:Bool}{U:aC}{H:Hp}{c:Const}{v:AV}{k:Nat}{p:Pos}(h:gR v H=some t):RT P d q (.cst c v k p) U H t U H:=.step (.bind aS (.rd h))
def Df{α:Type}{l:List α}{n:Nat}{x:α}(h:ae l n=some x):x∈l:=by
 induction l generalizing n with
 |nil=>exact aR h
 |cons a r ih=>cases n with
  |zero=>obtain rfl:=sj h;exact bA
  |succ n=>exact bS _ (ih h)
def W0{k:Ky}{su:List Ky}:∀{ns:List Nd},oO k (aX ns)=some su->∃n∈ns,n.key=k/\n.su=su:=by
 intro ns
 induction ns with
 |nil=>intro h;exact aR h
 |cons n ns ih=>
  intro h;have h:(match ak n.key k with|true=>some n.su|false=>oO k (aX ns))=some su:=h;cases e:ak n.key k with
  |true=>rw[e] at h;exact⟨n,bA,gz e,sj h⟩
  |false=>rw[e] at h;exact aq (ih h) λm hm q=>⟨m,bS _ hm,q⟩
def dE.Jw{E:List En}{H:Hp}(D:dE K ns E seen H):ba K.length K H:=ba.mk (aM (eB _ 4) D.len) D.low
def adt(E:List En):(hJ E).map (·.1)=E.map λe=>e.n.key:=by unfold hJ;rw[cG];rfl
def abj(G:c7 K dg ep ns):∀(m:Nat) {E:List En} {seen:List Ky} {H:Hp} {k:Ky} {r:Option (List Ky)},dE K ns E seen H->iw (aX ns) m k (hJ E) seen=some r ->
  ∃fl H' x',RW P (d+1) true (gB mH) (bz mH) (iW mH) (fg s dg K.length (some (.str k))) H fl (fg s dg K.length (some x')) H'/\Nt K ns r fl H':=by
 intro m
 induction m with
 |zero=>intro E seen H k r D h;exact aR h
 |succ m ih=>
  intro E seen H k r D h;have h:(match Nat.blt seen.length 1000 with
   |false=>none
   |true=>match aU k seen with
    |true=>match aU k ((hJ E).map (·.1)) with|true=>some none|false=>lY (iw (aX ns) m) (hJ E) seen
    |false=>(oO k (aX ns)).bind λsu=>lY (iw (aX ns) m) ((k,su)::hJ E) (seen++[k]))=some r:=h
  cases hs:Nat.blt seen.length 1000 with
  |false=>rw[hs] at h;exact aR h
  |true=>
  rw[hs] at h;have hs:=bG.mp hs;have go:∀{E1 zS H1},RS P (d+1) true (bg (bz mH) 0) (fg s dg K.length (some (.str k))) H .next (fg s dg K.length (some (.str k))) H1->dE K ns E1 zS H1->lY (iw (aX ns) m) (hJ E1) zS=some r ->
    ∃fl H' x',RW P (d+1) true (gB mH) (bz mH) (iW mH) (fg s dg K.length (some (.str k))) H fl (fg s dg K.length (some x')) H'/\Nt K ns r fl H':=λ{E1 zS H1} r1 D1 g1=>by
   unfold lY at g1;rcases Q7 (d:=d+1) (s:=s) (dg:=dg) G.ok E1 D1 (x:=.str k) with⟨y,H2,E2,e,r2,D2⟩|⟨H2,e,r2,D2⟩
   ·rw[e] at g1;refine cO (ih D2 g1) λfl H' x' r3 o=>⟨fl,H',x',kD (f:=.next) (xd rfl) (aj r1 (aj (kF r2) aO)) rfl r3,o⟩
   ·rw[e] at g1;obtain rfl:=sj g1;exact⟨.next,H2,_,xc (f:=.brk) (xd rfl) (aj r1 (cK (kF r2) nofun)) rfl,rfl,D2⟩
  cases hm:aU k seen with
  |true=>
   rw[hm] at h;have h:(match aU k ((hJ E).map (·.1)) with|true=>some none|false=>lY (iw (aX ns) m) (hJ E) seen)=some r:=h;rw[adt] at h;cases hk:aU k (E.map λe=>e.n.key) with
   |true=>rw[hk] at h;obtain rfl:=sj h;refine aq (Wq (d:=d) (s:=s) (dg:=dg) D hm hk hs) λv r1 t=>?_;exact⟨.ret v,H,_,xc (f:=.ret v) (xd rfl) (cK r1 nofun) rfl,v,rfl,t,D.Jw⟩
   |false=>rw[hk] at h;exact go (Wr D hm hk) D h
  |false=>rw[hm] at h;refine ub h λsu e h=>?_;refine aq (W0 e) λn hn q=>?_;obtain⟨rfl,rfl⟩:=q;refine dN (Ws (d:=d) (s:=s) G D hn hm hs) λH1 j r1 D1=>?_;exact go r1 D1 h
def vP{H:Hp}{n e i:Nat}{l:List (List Nat×AV)}(h:ae H n=some (.dict e l)):(bJ.dct n i l.length e).next H=some ((ae l i).map λp=>(.str p.1,.dct n (i+1) l.length e)):=by show((cD H n).bind λr=>aI (Nat.beq r.2.length l.length&&Nat.beq r.1 e) (some ((ae r.2 i).map λp=>(AV.str p.1,bJ.dct n (i+1) l.length e))))=_;rw[j9 h];show aI (Nat.beq l.length l.length&&Nat.beq e e) _=_;rw[fT,fT];rfl
def Z9(G:c7 K dg ep ns){b:Bool}:∀(k i:Nat) {seen:List Ky} {H:Hp} {x:Option AV},i+k=ns.length->dE K ns [] seen H->jl (aX ns) ((aX ns).drop i) seen=some b ->
  ∃fl H' x',RF P (d+1) (gC Bg) (.dct dg i (dS ns).length ep) (bz Bg) (fg s dg K.length x) H fl (fg s dg K.length x') H'/\ba K.length K H'/\match b with|true=>∃v,fl=.ret v/\(gR v=λO=>some true)|false=>fl=.next:=by
 intro k
 induction k with
 |zero=>intro i seen H x hk D h;have hd:ae H dg=some (.dict ep (dS ns)):=(D.low _ (bk G.dct)).trans G.dct;rw[pD (by unfold aX;rw[aJ];exact hU ‹_›)] at h;obtain rfl:=sj h;refine⟨.next,H,x,gS ?_,D.Jw,rfl⟩;rw[vP hd,pY (by unfold dS;rw[aJ];exact hU ‹_›)];rfl
 |succ k ih=>
  intro i seen H x hk D h;have hd:ae H dg=some (.dict ep (dS ns)):=(D.low _ (bk G.dct)).trans G.dct;refine ue (je (l:=ns) (n:=i) (by exact pb ‹_›)) λn0 hn=>?_;have iR:(bJ.dct dg i (dS ns).length ep).next H=some (some (.str n0.key,.dct dg (i+1) (dS ns).length ep)):=by rw[vP hd];unfold dS;rw[il,hn];rfl
  have j5:=AS (k:=n0.key) D.ri;rw[j7 (l:=aX ns) (n:=i) (x:=(n0.key,n0.np,n0.su)) (by unfold aX;rw[il,hn];rfl)] at h;have h:(match aU n0.key seen with
   |true=>jl (aX ns) ((aX ns).drop (i+1)) seen
   |false=>(iw (aX ns) 300 n0.key (hJ []) seen).bind λr=>match r with|none=>some true|some seen=>jl (aX ns) ((aX ns).drop (i+1)) seen)=some b:=h
  cases hm:aU n0.key seen with
  |true=>rw[hm] at j5 h;refine cO (ih (i+1) (x:=some (.str n0.key)) (by exact km ‹_›) D h) λfl H' x' r o=>?_;exact⟨fl,H',x',e8 (f:=.cont) iR rfl (cK (bM (bH (af rfl) (af rfl) j5) (cK HM nofun)) nofun) rfl r,o⟩
  |false=>
   rw[hm] at j5 h;refine ub h λr e h=>?_;refine cO (abj (d:=d) (s:=s) G _ D e) λfl H1 x1 r1 o=>?_;cases r with
   |none=>obtain rfl:=sj h;refine gQ o λv e t lw=>?_;subst e;exact⟨.ret v,H1,some x1,Ub (f:=.ret v) (jd iR) rfl (aj (bM (bH (af rfl) (af rfl) j5) aO) (cK (kF r1) nofun)) rfl,lw,v,rfl,t⟩
   |some zS=>refine ua o λe D1=>?_;subst e;refine cO (ih (i+1) (x:=some x1) (by exact km ‹_›) D1 h) λfl H' x' r o=>?_;exact⟨fl,H',x',e8 (f:=.next) iR rfl (aj (bM (bH (af rfl) (af rfl) j5) aO) (aj (kF r1) aO)) rfl r,o⟩
def US{r:AV}{np nf:Int}{b:Bool}(G:c7 K dg ep ns)(hs:ae K s=some (gD dg r np nf))(hf:jl (aX ns) (aX ns) []=some b):∃v H',RC P (d+2) (.glob 42) [.ref s] K v H'/\ba K.length K H'/\gR v=λO=>some b:=by
 have D:dE K ns [] [] (K++[.list [],.list [],.set [],.dict 0 []]):=(dE.mk (λa ha=>uX ha) (dX:ae (K++[AO.list [],.list [],.set [],.dict 0 []]) K.length=some (.list [])) (jG (n:=1):ae (K++[AO.list [],.list [],.set [],.dict 0 []]) (K.length+1)=some (.list [])) (jG (n:=2):ae (K++[AO.list [],.list [],.set [],.dict 0 []]) (K.length+2)=some (.set [])) ⟨0,[],(jG (n:=3):ae (K++[AO.list [],.list [],.set [],.dict 0 []]) (K.length+3)=some (.dict 0 [])),rfl,nofun⟩ nofun mw nofun mw (by rw[bF];exact bf _) (bf _))
 refine mQ (Z9 (d:=d) (s:=s) G ns.length 0 (x:=none) (gA _) D hf) λfl H' x' r lw o=>?_;have hd:ae (K++[AO.list [],.list [],.set [],.dict 0 []]) dg=some (.dict ep (dS ns)):=(D.low _ (bk G.dct)).trans G.dct;have rs:RS P (d+1) true Bg (fg s dg K.length none) (K++[.list [],.list [],.set [],.dict 0 []]) fl (fg s dg K.length x') H':=by refine iN (af rfl) (src:=.dct dg 0 (dS ns).length ep) ?_ r;show(match bx _ dg with|some _=>some (bJ.lst dg 0)|none=>Option.map (λr:Nat×List (List Nat×AV)=>bJ.dct dg 0 r.2.length r.1) (cD _ dg))=_;rw[xH hd,j9 hd];rfl
 have fin:∀{v Bi},RB P (d+1) true (xb Bl.body 5) (fg s dg K.length none) (K++[.list [],.list [],.set [],.dict 0 []]) Bi (fg s dg K.length x') H'->LC Bi=some v->RC P (d+2) (.glob 42) [.ref s] K v H':=λ{v Bi} rr hv=>by
  refine eS (fd:=Bl) (fl:=Bi) (ρ1:=[some (.ref s),none,none,none,none,none,none]) rfl rfl ?_ hv;refine⟨fg s dg K.length x',?_⟩;refine aj (bC (fb (af rfl) (d9 hs rfl)) (λO=>rfl) rfl rfl) ?_;refine aj (bC (e9 aE rfl) (λO=>rfl) rfl rfl) ?_;refine aj (bC (e9 aE rfl) (λO=>rfl) rfl rfl) ?_;refine aj (bC (bO (bL rfl) rfl aE (gj (b:=.set) rfl rfl)) (λO=>rfl) rfl rfl) ?_;refine aj (bC CX (λO=>rfl) rfl rfl) ?_;have eK:((((K++[AO.list []])++[AO.list []])++[AO.set []])++[AO.dict 0 []])=K++[.list [],.list [],.set [],.dict 0 []]:=by rw[eW,eW,eW];rfl
  have l1:(K++[AO.list []]).length=K.length+1:=bF;have l2:((K++[AO.list []])++[AO.list []]).length=K.length+2:=by rw[bF,l1];rfl
  have l3:(((K++[AO.list []])++[AO.list []])++[AO.set []]).length=K.length+3:=by rw[bF,l2];rfl
  rw[eK,l1,l2,l3];exact rr
 cases b with
 |true=>refine aq o λv e t=>?_;subst e;exact⟨v,H',fin (cK rs nofun) rfl,lw,t⟩
 |false=>have o:fl=.next:=o;subst o;exact⟨.none,H',fin (aj rs (cK (fW aS λO=>rfl) nofun)) rfl,lw,rfl⟩
end
end
section
def Sr(H:Hp)(s d rl lo hi:Nat)(ns:List Nd)(bc:List Ky)(np nf:Int):Prop:=(ae H s=some (gD d (.ref rl) np nf))/\(ae H rl=some (cn bc))/\(∃ep,c7 H d ep ns)/\(Bd lo hi ns)/\(lo<=s/\s<hi)/\(lo<=rl/\rl<hi)/\(∀n∈ns,n.sa≠rl)
section
variable {b1 b2 b3 b4 b5 b6 b7 b8 b9 nE}(x:Sr b1 b2 b3 b4 b5 b6 b7 b8 b9 nE)
def Sr.mk:=Dv (Sr b1 b2 b3 b4 b5 b6 b7 b8 b9 nE) rfl
def Sr.self:=x.1
def Sr.jE:=x.2.1
def Sr.gY:=x.2.2.1
def Sr.bd:=x.2.2.2.1
def Sr.bs:=x.2.2.2.2.1
def Sr.br:=x.2.2.2.2.2.1
def Sr.uY:=x.2.2.2.2.2.2
end
def dH(lo hi:Nat)(H H':Hp):Prop:=(H'.length=H.length)/\(∀a,a<lo\/hi<=a->ae H' a=ae H a)
section
variable {b1 b2 b3 b4}(x:dH b1 b2 b3 b4)
def dH.mk:=jI (dH b1 b2 b3 b4) rfl
def dH.len:=x.1
def dH.out:=x.2
end
section
variable {dd s d rl lo hi:Nat}{H:Hp}{ns:List Nd}{bc:List Ky}{np nf:Int}{n:Nd}
def dH.refl:dH lo hi H H:=(dH.mk rfl (λO O=>rfl))
def dH.trans{H1 H2:Hp}(a:dH lo hi H H1)(b:dH lo hi H1 H2):dH lo hi H H2:=(dH.mk (b.len.trans a.len) (λx hx=>(b.out x hx).trans (a.out x hx)))
def dH.upd{o:AO}{a:Nat}(h:lo<=a/\a<hi):dH lo hi H (ai H o a):=(dH.mk cB (λb hb=>bh (hb.elim (λk=>dM (dU k h.1)) λk=>dT (dU h.2 k))))
def Sr.ok(S:Sr H s d rl lo hi ns bc np nf)(hn:n∈ns):iY H n:=ue S.gY λO G=>G.ok n hn
def Sr.xr(S:Sr H s d rl lo hi ns bc np nf)(hn:n∈ns)(v:Int):Sr (ai H (gw {n with np:=v}) n.ia) s d rl lo hi (eZ ns n.key λm=>{m with np:=v}) bc np nf:=by
 refine ue S.gY λep G=>?_;have o:=G.ok n hn;refine(Sr.mk ((bh (zH S.self o.inf)).trans S.self) ((bh (tJ o.inf S.jE)).trans S.jE) ⟨ep,G.Hs hn v⟩ (S.bd.CB (by intro _;rfl) (by intro _;rfl)) S.bs S.br (λm hm=>?_));obtain⟨n',dY,⟨_,rfl⟩|⟨_,rfl⟩⟩:=zP hm
 ·exact S.uY n' dY
 ·exact S.uY m dY
def Sr.Im(S:Sr H s d rl lo hi ns bc np nf)(r:List Ky):Sr (ai H (cn r) rl) s d rl lo hi ns r np nf:=by
 have hs:rl≠s:=λe=>by have:=S.jE;rw[e,S.self] at this;cases this
 refine ue S.gY λep G=>?_;exact(Sr.mk ((bh hs).trans S.self) (cV (bk S.jE)) ⟨ep,G.mono (bh (AK S.jE G.dct)) λm hm=>⟨bh (tJ (G.ok m hm).inf S.jE).symm,bh (S.uY m hm).symm⟩⟩ S.bd S.bs S.br S.uY)
def Sr.Ag(S:Sr H s d rl lo hi ns bc np nf)(oz xJ:Int):Sr (ai H (gD d (.ref rl) oz xJ) s) s d rl lo hi ns bc oz xJ:=by
 have hs:s≠rl:=λe=>by have:=S.jE;rw[<- e,S.self] at this;cases this
 refine ue S.gY λep G=>?_;exact(Sr.mk (cV (bk S.self)) ((bh hs).trans S.jE) ⟨ep,G.mono (bh (vp S.self G.dct)) λm hm=>⟨bh (zH S.self (G.ok m hm).inf).symm,bh (Ct S.self (G.ok m hm).dW).symm⟩⟩ S.bd S.bs S.br S.uY)
def Sr.look(S:Sr H s d rl lo hi ns bc np nf)(hn:n∈ns):lB (.ref d) (.str n.key) H=some (.ref n.ia):=by refine ue S.gY λep G=>?_;exact Cs G.dct (AJ G.keys n hn)
def pO{k:Ky}{f:Nd->Nd}(h:∀m,(f m).key=m.key):(eZ ns k f).map (·.key)=ns.map (·.key):=zQ (·.key) h
def JK{k:Ky}(h:k∈ns.map (·.key)):∃n∈ns,n.key=k:=aq (bU.mp h) λn hn e=>⟨n,hn,e⟩
def UX(S:Sr H s d rl lo hi ns bc np nf):RC P (dd+2) (.glob 40) [.ref s] H (.bool (fZ nf np||!bc.isEmpty)) H:=by
 have c1:∀p1 p2 p3 p4 p5,RE P (dd+1) true (.cmp .Lt (.attr (.var "self" 0 p1) "_nfinished" 17 p2) (.attr (.var "self" 0 p3) "_npassedout" 16 p4) p5) [some (.ref s)] H (.bool (fZ nf np)) [some (.ref s)] H:=λp1 p2 p3 p4 p5=>Ac (fb (af rfl) (d9 S.self rfl)) (fb (af rfl) (d9 S.self rfl)) rfl;refine eS (fd:=LJ) (fl:=.ret (.bool (fZ nf np||!bc.isEmpty))) (ρ1:=[some (.ref s)]) rfl rfl ?_ rfl;refine⟨[some (.ref s)],aj (bM (t:=false) (bH (fb (af rfl) (d9 S.self rfl)) aS rfl) aO) (cK (fW ?_ λO=>rfl) nofun)⟩;cases hb:fZ nf np with
 |true=>rw[hb] at c1;exact CV (c1 ..) rfl
 |false=>rw[hb] at c1;refine Ia (c1 ..) rfl (bO (bL rfl) rfl (aB rfl (fb (af rfl) (d9 S.self rfl)) aE) (gj (b:=.bool) rfl ?_));show((bx H rl).map λl=>(AV.bool (!l.isEmpty),H))=_;rw[dy S.jE];cases bc<;>rfl
def s6(ns:List Nd)(l:List Ky):List Nd:=l.foldl (λns k=>eZ ns k λm=>{m with np:=-1}) ns
def Zx{tup:AV}:∀(l:List Ky) {ns:List Nd} {H:Hp} {x:Option AV},Sr H s d rl lo hi ns bc np nf->(∀k∈l,k∈ns.map (·.key)) ->
  ∃H' x',RF P (dd+1) (gC (bg Bm.body 3)) (.fix (l.map .str)) (bz (bg Bm.body 3)) [some (.ref s),some tup,some (.ref d),x] H .next [some (.ref s),some tup,some (.ref d),x'] H'/\dH lo hi H H'/\Sr H' s d rl lo hi (s6 ns l) bc np nf:=by
 intro l
 induction l with
 |nil=>intro ns H x S _;exact⟨H,x,gS rfl,dH.refl,S⟩
 |cons k l ih=>intro ns H x S hk;refine aq (JK (hk k bA)) λn hn aa=>?_;subst aa;obtain⟨H',x',r,fr,S'⟩:=ih (x:=some (.str n.key)) (S.xr hn (-1)) (λk' oK=>by rw[pO (by intro _;rfl)];exact hk k' (bS _ oK));refine⟨H',x',e8 (f:=.next) rfl rfl (aj (pT (bL rfl) (λO=>rfl) (dP (af rfl) (af rfl) (S.look hn)) (jB (S.ok hn).inf rfl)) aO) rfl r,(dH.upd (S.bd n hn).1).trans fr,S'⟩
def UB(S:Sr H s d rl lo hi ns bc np nf)(hk:∀k∈bc,k∈ns.map (·.key))(hl:bc.length<=az):
  ∃H',RC P (dd+2) (.glob 39) [.ref s] H (.tup (bc.map .str)) H'/\dH lo hi H H'/\Sr H' s d rl lo hi (s6 ns bc) [] (np+bc.length) nf:=by
 refine bB (Zx (dd:=dd) (tup:=.tup (bc.map .str)) bc (x:=none) S hk) λH1 x1 r1 EG S1=>?_;have S2:=S1.Im [];have ft:RC P (dd+1) (.glob 26) [.ref rl] H (.tup (bc.map .str)) H:=gj (b:=.tuple) rfl (by show((bx H rl).map λl=>(AV.tup l,H))=_;rw[dy S.jE];rfl)
 refine⟨_,?_,(EG.trans (dH.upd S.br)).trans (dH.upd S.bs),(S2.Ag (np+bc.length) nf)⟩;refine eS (fd:=Bm) (fl:=.ret (.tup (bc.map .str))) (ρ1:=[some (.ref s),none,none,none]) rfl rfl ?_ rfl;have fl:RC P (dd+1) (.glob 10) [.tup (bc.map .str)] (ai H1 (cn []) rl) (.int bc.length) (ai H1 (cn []) rl):=gj (b:=.len) rfl (by show((some (bc.map AV.str).length).bind λm=>aI (Nat.ble m az) (some (AV.int m,ai H1 (cn []) rl)))=_;rw[aJ];show aI (Nat.ble bc.length az) _=_;rw[eO.mpr hl];rfl)
 refine⟨[some (.ref s),some (.tup (bc.map .str)),some (.ref d),x1],aj (bM (t:=false) (bH (fb (af rfl) (d9 S.self rfl)) aS rfl) aO) ?_⟩;refine aj (bC (bO (bL rfl) rfl (aB rfl (fb (af rfl) (d9 S.self rfl)) aE) ft) (λO=>rfl) rfl rfl) ?_;refine aj (bC (fb (af rfl) (d9 S.self rfl)) (λO=>rfl) rfl rfl) ?_;refine aj (iN (af rfl) rfl r1) ?_;refine aj (eJ (eM (mk:=.list) (v:=.none) (H3:=ai H1 (cn []) rl) (fb (af rfl) (d9 S1.self rfl)) (gG S1.jE) rfl rfl aE (AD S1.jE))) ?_;refine aj (xe (af rfl) (d9 S2.self rfl) (bO (bL rfl) rfl (aB rfl (af rfl) aE) fl) rfl (jB S2.self rfl)) ?_;exact cK (fW (af rfl) λO=>rfl) nofun
def pZ(ns:List Nd)(k:Ky):Int:=match ns.find? λn=>ak n.key k with
 |some n=>n.np
 |none=>0
def jK(q:List Nd×List Ky)(y:Ky):List Nd×List Ky:=(eZ q.1 y λm=>{m with np:=pZ q.1 y-1},match dQ (pZ q.1 y-1) 0 with|true=>q.2++[y]|false=>q.2)
def IJ(hk:(ns.map (·.key)).Nodup)(hn:n∈ns):pZ ns n.key=n.np:=by
 unfold pZ
 induction ns with
 |nil=>cases hn
 |cons m ns ih=>
  rw[bE,gN] at hk;rw[uq];rcases bQ.mp hn with rfl|hn
  ·rw[g6]
  ·rw[nC (λe=>hk.1 (bU.mpr ⟨n,hn,e.symm⟩))];exact ih hk.2 hn
def oE{n i:Nat}{l:List AV}(h:ae H n=some (.list l)):(bJ.lst n i).next H=some ((ae l i).map λv=>(v,.lst n (i+1))):=by show((bx H n).map λl=>(ae l i).map λd=>(d,bJ.lst n (i+1)))=_;rw[dy h];rfl
def Hu{k:Ky}{f:Nd->Nd}{sa:Nat}{su:List Ky}(h1:∀m,(f m).sa=m.sa)(h2:∀m,(f m).su=m.su)(h:∃n∈ns,n.sa=sa/\n.su=su):∃n∈eZ ns k f,n.sa=sa/\n.su=su:=by
 refine gQ h λn hn e1 e2=>?_;clear h;refine⟨match ak n.key k with|true=>f n|false=>n,bU.mpr ⟨n,hn,rfl⟩,?_⟩;cases ak n.key k with
 |true=>exact⟨(h1 n).trans e1,(h2 n).trans e2⟩
 |false=>exact⟨e1,e2⟩
def GS(l:List Ky)(y:Ky):AO.list (l.map .str++[.str y])=cn (l++[y]):=by unfold cn;rw[ew];rfl
def abf{x st:AV}{tup:AV}{sa i0:Nat}{su:List Ky}:∀(k i:Nat) {ns:List Nd} {bc:List Ky} {H:Hp} {u v:Option AV},i+k=su.length->Sr H s d rl lo hi ns bc np nf->(∃n∈ns,n.sa=sa/\n.su=su)->(∀y∈su,y∈ns.map (·.key))->bc.length+k<az ->
  ∃H' u' v',RF P (dd+1) (gC (bg (bz (bg vG.body 2)) 4)) (.lst sa i) (bz (bg (bz (bg vG.body 2)) 4)) [some (.ref s),some tup,some (.ref d),some x,some (.ref i0),some st,u,v] H .next [some (.ref s),some tup,some (.ref d),some x,some (.ref i0),some st,u',v'] H' /\
   dH lo hi H H'/\Sr H' s d rl lo hi ((su.drop i).foldl jK (ns,bc)).1 ((su.drop i).foldl jK (ns,bc)).2 np nf:=by
 intro k
 induction k with
 |zero=>
  intro i ns bc H u v hk S h hy hz;refine gQ h λn hn aa ow=>?_;clear h;subst aa;subst ow;refine⟨H,u,v,gS ?_,dH.refl,?_⟩
  ·rw[oE (S.ok hn).dW,pY (by rw[aJ];exact hU ‹_›)];rfl
  ·rw[pD (by exact hU ‹_›)];exact S
 |succ k ih=>
  intro i ns bc H u v hk S h hy hz;refine ue (je (l:=su) (n:=i) (by exact pb ‹_›)) λy D6=>?_;have iR:(bJ.lst sa i).next H=some (some (.str y,.lst sa (i+1))):=by refine gQ h λn hn aa ow=>?_;clear h;subst aa;subst ow;rw[oE (S.ok hn).dW,il,D6];rfl
  refine aq (JK (hy y (Df D6))) λm hm aa=>?_;subst aa;have hd:=j7 D6;have o:=S.ok hm;have S1:=S.xr hm (m.np-1);refine ue S.gY λep G=>?_;have ed:jK (ns,bc) m.key=(eZ ns m.key λn=>{n with np:=m.np-1},match dQ (m.np-1) 0 with|true=>bc++[m.key]|false=>bc):=by unfold jK;rw[IJ G.keys hm]
  have i1:ae (ai H (gw {m with np:=m.np-1}) m.ia) m.ia=some (gw {m with np:=m.np-1}):=cV (bk o.inf);have h1:=Hu (k:=m.key) (f:=λn=>{n with np:=m.np-1}) (by intro _;rfl) (by intro _;rfl) h;have AW:∀y∈su,y∈(eZ ns m.key λn=>{n with np:=m.np-1}).map (·.key):=λy Yx=>by rw[pO (by intro _;rfl)];exact hy y Yx
  have jy:∀p1 p2 p3 p4,RT P (dd+1) true (.cmp .Eq (.attr (.var "successor_info" 7 p1) "npredecessors" 20 p2) (.cst (.int 0) (.int 0) 0 p3) p4) [some (.ref s),some tup,some (.ref d),some x,some (.ref i0),some st,some (.str m.key),some (.ref m.ia)] (ai H (gw {m with np:=m.np-1}) m.ia) (dQ (m.np-1) 0) [some (.ref s),some tup,some (.ref d),some x,some (.ref i0),some st,some (.str m.key),some (.ref m.ia)] (ai H (gw {m with np:=m.np-1}) m.ia):=λp1 p2 p3 p4=>bH (fb (af rfl) (d9 i1 rfl)) aS rfl
  rw[hd,List.foldl_cons,ed];cases ya:dQ (m.np-1) 0 with
  |true=>rw[ya] at jy;have S2:=S1.Im (bc++[m.key]);obtain⟨H',u',v',r,fr,S'⟩:=ih (i+1) (u:=some (.str m.key)) (v:=some (.ref m.ia)) (by exact km ‹_›) S2 h1 AW (by rw[bF];show bc.length+1+k<_;exact zc ‹_›);have ap:=kR (v:=.str m.key) S1.jE (by rw[aJ];exact ud ‹_›);rw[GS] at ap;exact⟨H',u',v',e8 (f:=.next) iR rfl (aj (bC (dP (af rfl) (af rfl) (S.look hm)) (λO=>rfl) rfl rfl) (aj (xe (af rfl) (d9 o.inf rfl) aS rfl (jB o.inf rfl)) (aj (bM (jy ..) (aj (eJ (eM (mk:=.list) (fb (af rfl) (d9 S1.self rfl)) (gG S1.jE) rfl rfl (aB rfl (af rfl) aE) ap)) aO)) aO))) rfl r,((dH.upd (S.bd m hm).1).trans (dH.upd S.br)).trans fr,S'⟩
  |false=>rw[ya] at jy;obtain⟨H',u',v',r,fr,S'⟩:=ih (i+1) (u:=some (.str m.key)) (v:=some (.ref m.ia)) (by exact km ‹_›) S1 h1 AW (by exact qC ‹_›);exact⟨H',u',v',e8 (f:=.next) iR rfl (aj (bC (dP (af rfl) (af rfl) (S.look hm)) (λO=>rfl) rfl rfl) (aj (xe (af rfl) (d9 o.inf rfl) aS rfl (jB o.inf rfl)) (aj (bM (jy ..) aO) aO))) rfl r,(dH.upd (S.bd m hm).1).trans fr,S'⟩
def qY(ns:List Nd)(k:Ky):List Ky:=match ns.find? λn=>ak n.key k with
 |some n=>n.su
 |none=>[]
def GW(hk:(ns.map (·.key)).Nodup)(hn:n∈ns):qY ns n.key=n.su:=by
 unfold qY
 induction ns with
 |nil=>cases hn
 |cons m ns ih=>
  rw[bE,gN] at hk;rw[uq];rcases bQ.mp hn with rfl|hn
  ·rw[g6]
  ·rw[nC (λe=>hk.1 (bU.mpr ⟨n,hn,e.symm⟩))];exact ih hk.2 hn
def g7(q:List Nd×List Ky)(x:Ky):List Nd×List Ky:=(qY q.1 x).foldl jK (eZ q.1 x λm=>{m with np:=-2},q.2)
def t9(ns:List Nd)(x:Ky):Prop:=(∃n∈ns,n.key=x/\n.np=-1)/\(∀n∈ns,n.key=x->∀y∈n.su,y∈ns.map (·.key))
section
variable {b1 b2}(x:t9 b1 b2)
def t9.mk:=jI (t9 b1 b2) rfl
end
theorem abe{tup:AV}:∀(l:List Ky) {ns:List Nd} {bc:List Ky} {nf:Int} {H:Hp} {v4 v5 v6 v7 v8:Option AV},Sr H s d rl lo hi ns bc np nf ->
  (∀q:List Nd×List Ky,∀pre x post,l=pre++x::post->q=pre.foldl g7 (ns,bc)->t9 q.1 x/\q.2.length+(qY q.1 x).length<az) ->
  ∃H' u4 u5 u6 u7 u8,RF P (dd+1) (gC (bg vG.body 2)) (.fix (l.map .str)) (bz (bg vG.body 2)) [some (.ref s),some tup,some (.ref d),v4,v5,v6,v7,v8] H .next [some (.ref s),some tup,some (.ref d),u4,u5,u6,u7,u8] H' /\
   dH lo hi H H'/\Sr H' s d rl lo hi (l.foldl g7 (ns,bc)).1 (l.foldl g7 (ns,bc)).2 np (nf+l.length):=by
 intro l
 induction l with
 |nil=>intro ns bc nf H v4 v5 v6 v7 v8 S _;exact⟨H,v4,v5,v6,v7,v8,gS rfl,dH.refl,by show Sr H s d rl lo hi ns bc np (nf+(0:Nat));rw[Int.natCast_zero,Int.add_zero];exact S⟩
 |cons x l gI=>
  intro ns bc nf H v4 v5 v6 v7 v8 S hq;obtain⟨⟨⟨n,hn,rfl,YP⟩,D9⟩,hz⟩:=hq (ns,bc) [] _ l rfl rfl;have o:=S.ok hn;refine ue S.gY λep G=>?_;have es:=GW G.keys hn;have AW:∀y∈n.su,y∈(eZ ns n.key λm=>{m with np:=-2}).map (·.key):=λy hy=>by rw[pO (by intro _;rfl)];exact D9 n hn rfl y hy
  have h1:=Hu (k:=n.key) (f:=λm=>{m with np:=-2}) (by intro _;rfl) (by intro _;rfl) ⟨n,hn,rfl,rfl⟩;refine mQ (abf (dd:=dd) (x:=.str n.key) (st:=.int (-1)) (tup:=tup) (i0:=n.ia) n.su.length 0 (u:=v7) (v:=v8) (gA _) (S.xr hn (-2)) h1 AW (by rw[es] at hz;exact hz)) λH2 u2 w2 r2 ZR S2=>?_;rw[qD,<- es] at S2;have S3:=S2.Ag np (nf+1);have ih:=gI (v4:=some (.str n.key)) (v5:=some (.ref n.ia)) (v6:=some (.int (-1))) (v7:=u2) (v8:=w2) S3 λq pre x post e1 e2=>hq q (n.key::pre) x post (by rw[e1];rfl) e2;refine Gy ih λH' u4 u5 u6 u7 u8 r fr S'=>?_;clear ih;have i1:ae (ai H (gw {n with np:=-2}) n.ia) n.ia=some (gw {n with np:=-2}):=cV (bk o.inf);have hd:ae H d=some (.dict ep (dS ns)):=G.dct;have g1:lL .dict 6 (.ref d) [.str n.key] H=some (.ref n.ia,H):=by rw[Li hd,AJ G.keys n hn];rfl
  have l1:ae (ai H (gw {n with np:=-2}) n.ia) n.sa=some (cn n.su):=(bh (tJ o.inf o.dW)).trans o.dW;have sr:eQ (.ref n.sa) (ai H (gw {n with np:=-2}) n.ia)=some (.lst n.sa 0):=by show(match bx _ n.sa with|some _=>some (bJ.lst n.sa 0)|none=>_)=_;rw[dy l1]
  refine⟨H',u4,u5,u6,u7,u8,e8 (f:=.next) rfl rfl (aj (bM (t:=false) (bH (CU (eM (mk:=.dict) (af rfl) (xU hd) rfl rfl (aB rfl (af rfl) aE) g1) rfl) aS rfl) aO)
   (aj (bC (v:=.int (-1)) (fb (af rfl) (d9 o.inf (by show some (AV.int n.np)=_;rw[YP]))) (λO=>rfl) rfl rfl)
   (aj (bM (t:=false) (bH (af rfl) (bL rfl) rfl) aO)
   (aj (pT (bL rfl) (λO=>rfl) (af rfl) (jB o.inf rfl))
   (aj (iN (fb (af rfl) (d9 i1 rfl)) sr r2)
   (aj (xe (af rfl) (d9 S2.self rfl) aS rfl (jB S2.self rfl)) aO)))))) rfl r,(((dH.upd (S.bd n hn).1).trans ZR).trans (dH.upd S.bs)).trans fr,?_⟩
  have e:nf+((l.length+1:Nat):Int)=nf+1+(l.length:Int):=by rw[Int.add_assoc,Int.add_comm 1];rfl
  show Sr H' s d rl lo hi (l.foldl g7 (g7 (ns,bc) n.key)).1 (l.foldl g7 (g7 (ns,bc) n.key)).2 np (nf+((l.length+1:Nat):Int));rw[e];exact S'
def UT{l:List Ky}(S:Sr H s d rl lo hi ns bc np nf)(hl:l.length<az)
  (hq:∀q:List Nd×List Ky,∀pre x post,l=pre++x::post->q=pre.foldl g7 (ns,bc)->t9 q.1 x/\q.2.length+(qY q.1 x).length<az):
  ∃H',RC P (dd+2) (.glob 41) (.ref s::l.map .str) H .none H'/\dH lo hi H H'/\Sr H' s d rl lo hi (l.foldl g7 (ns,bc)).1 (l.foldl g7 (ns,bc)).2 np (nf+l.length):=by
 refine Gy (abe (dd:=dd) (tup:=.tup (l.map .str)) l (v4:=none) (v5:=none) (v6:=none) (v7:=none) (v8:=none) S hq) λH' u4 u5 u6 u7 u8 r fr S'=>?_;refine⟨H',?_,fr,S'⟩;refine eS (fd:=vG) (fl:=.next) (ρ1:=[some (.ref s),some (.tup (l.map .str)),none,none,none,none,none,none]) rfl ?_ ?_ rfl
 ·show aI (Nat.ble 1 (l.map AV.str).length.succ&&Nat.ble (l.map AV.str).length.succ az) _=_;rw[eO.mpr (by exact NM),eO.mpr (by rw[aJ];assumption)]
  rfl
 exact⟨_,aj (bM (t:=false) (bH (fb (af rfl) (d9 S.self rfl)) aS rfl) aO) (aj (bC (fb (af rfl) (d9 S.self rfl)) (λO=>rfl) rfl rfl) (aj (iN (af rfl) rfl r) aO))⟩
end
end
section
section
variable {P:bP}{U ρ1 ρ2:aC}{H H1 H2 H3:Hp}{d k x y:Nat}{a args c:C}{s r bb:S}{p p':Pos}{v:AV}{vs:List AV}{q:Bool}
structure Fv(P:bP)(d:Nat)(f:AV)(args:List AV)(H:Hp)(x:Nat)(H':Hp):Prop where
 run:∀U,bo P (λE=>E.call d f args) U H (.exc x U H')
def TN{n:Str}{np cp:Pos}(hk:ae P.gt k=some (.exc (y+1)))(h:RA P d true args U H vs ρ1 H1)(hl:Nat.ble vs.length 100=true):bo P (λE=>E.s d true (.raise n k np args cp p)) U H (.exc (y+1) ρ1 H1):=by
 refine .step ?_;show bo P (λE=>match ae P.gt k with
  |some (.exc x)=>(match x with
   |0=>M.stuck
   |x+1=>M.bind (gZ (E.e d true) (cs args)) λvs=>match Nat.ble vs.length 100 with|true=>EK (x+1)|false=>M.stuck)
  |_=>M.stuck) U H _
 rw[hk];refine .bind h ?_;rw[hl];exact .const rfl
def TO{t:Bool}(h1:RT P d q c U H t ρ1 H1)(h2:bo P (λE=>cW (E.s d q) (ss (bif t then r else bb))) ρ1 H1 (.exc x ρ2 H2)):bo P (λE=>E.s d q (.iff c r bb p)) U H (.exc x ρ2 H2):=by refine .step (.bind h1 ?_);cases t<;>exact h2
def CZ(h1:RS P d q s U H .next ρ1 H1)(h2:bo P (λE=>cW (E.s d q) (ss r)) ρ1 H1 (.exc x ρ2 H2)):bo P (λE=>cW (E.s d q) (ss (.cons s r))) U H (.exc x ρ2 H2):=.bind h1 h2
def Ur{j:Nat}{fd:FD}(hj:ae P.gt j=some (.fn fd))(hb:kQ fd vs=some ρ1)(h:∃ρ2,bo P (λE=>cW (E.s d true) (ss fd.body)) ρ1 H (.exc x ρ2 H2)):Fv P (d+1) (.glob j) vs H x H2:=by refine⟨λU=>?_⟩;refine ct h λρ2 N h=>.step ⟨N,λn hn=>?_⟩;have h:cW ((ev P n).s d true) (ss fd.body) ρ1 H=_:=h n hn;show(match ae P.gt j with|some g=>oN (ev P n) (d+1) j g vs|none=>M.stuck) U H=_;rw[hj];show(match kQ fd vs with|some ρ'=>qj U (cW ((ev P n).s d true) (ss fd.body) ρ' H)|none=>.stuck)=_;rw[hb];show qj U (cW ((ev P n).s d true) (ss fd.body) ρ1 H)=_;rw[h];rfl
def TM{n:Str}{j m:Nat}{ap:Pos}(h1:RE P d true a U H v ρ1 H1)(hk:kL P v m H1=some (.user j))(h2:RA P d true args ρ1 H1 vs ρ2 H2)(h:Fv P d (.glob j) (v::vs) H2 x H3):
  bo P (λE=>E.s d true (.expr (.eN a n m args ap p) p')) U H (.exc x ρ2 H3):=.step (.Fh (.step (.bind h1 (.bind (.rd hk) (.bind h2 (h.run ρ2))))))
end
section
variable {dd s d lo ep:Nat}{H:Hp}{ns:List Nd}
def fo(ns:List Nd):List Ky:=(ns.filter λn=>dQ n.np 0).map (·.key)
def Gs{n e i:Nat}{l:List (List Nat×AV)}(h:ae H n=some (.dict e l)):(bJ.vals n i l.length e).next H=some ((ae l i).map λp=>(p.2,.vals n (i+1) l.length e)):=by show((cD H n).bind λr=>aI (Nat.beq r.2.length l.length&&Nat.beq r.1 e) (some ((ae r.2 i).map λp=>(p.2,bJ.vals n (i+1) l.length e))))=_;rw[j9 h];show aI (Nat.beq l.length l.length&&Nat.beq e e) _=_;rw[fT,fT];rfl
def Fq{Y:Hp}{l:List AV}{x:AV}(h:l.length<az):tY H.length x (H++.list l::Y)=some (H++.list (l++[x])::Y):=by show((bx (H++.list l::Y) H.length).bind λl'=>aI (Nat.blt l'.length az) (some (ai (H++.list l::Y) (.list (l'++[x])) H.length)))=_;rw[dy dX];show aI (Nat.blt l.length az) (some (ai (H++.list l::Y) (.list (l++[x])) H.length))=_;rw[bG.mpr h,uD];rfl
abbrev pW:C:=jX (bg Bn.body 1)
def Vc(G:c7 H d ep ns)(hz:ns.length<az):∀(k i:Nat) {acc:List Ky} {x:Option AV},i+k=ns.length->acc.length<=i ->
  ∃x',RK P dd (eP pW) (.vals d i (dS ns).length ep) (gJ pW) (eU pW) H.length [some (.ref s),none,x] (H++[cn acc]) [some (.ref s),none,x'] (H++[cn (acc++fo (ns.drop i))]):=by
 intro k
 induction k with
 |zero=>intro i acc x hk hl;refine⟨x,?_⟩;rw[pD (by exact hU ‹_›)];show RK P dd _ _ _ _ _ _ _ _ (H++[cn (acc++[])]);rw[eV];refine xj ?_;rw[Gs (cb G.dct),pY (by unfold dS;rw[aJ];exact hU ‹_›)];rfl
 |succ k ih=>
  intro i acc x hk hl;refine ue (je (l:=ns) (n:=i) (by exact pb ‹_›)) λn hn=>?_;have o:=(G.app [cn acc]).ok n (Df hn);have iR:(bJ.vals d i (dS ns).length ep).next (H++[cn acc])=some (some (.ref n.ia,.vals d (i+1) (dS ns).length ep)):=by rw[Gs (cb G.dct)];unfold dS;rw[il,hn];rfl
  have t:RQ P dd (gJ pW) [some (.ref s),none,some (.ref n.ia)] (H++[cn acc]) (dQ n.np 0) [some (.ref s),none,some (.ref n.ia)] (H++[cn acc]):=oq (bH (fb (af rfl) (d9 o.inf rfl)) aS rfl)
  rw[j7 hn];cases hb:dQ n.np 0 with
  |true=>
   rw[hb] at t;refine ue (ih (i+1) (acc:=acc++[n.key]) (x:=some (.ref n.ia)) (by exact km ‹_›) (by rw[bF];exact sk hl)) λx' r=>?_;have e:fo (n::ns.drop (i+1))=n.key::fo (ns.drop (i+1)):=by unfold fo;rw[sm,hb];rfl
   rw[e];refine⟨x',rz (jd iR) rfl t ⟨_,_,CP (x:=.str n.key) (λO O O=>rfl) (fb (af rfl) (d9 o.inf rfl)) (Fq (by rw[aJ];exact Qy ‹_› hz hl)),?_⟩⟩;rw[GS];rw[eW] at r;exact r
  |false=>
   rw[hb] at t;refine ue (ih (i+1) (acc:=acc) (x:=some (.ref n.ia)) (by exact km ‹_›) (by exact B1 ‹_›)) λx' r=>?_;have e:fo (n::ns.drop (i+1))=fo (ns.drop (i+1)):=by unfold fo;rw[sm,hb];rfl
   rw[e];exact⟨x',rz (jd iR) rfl t r⟩
def Nr(b:Bool)(d s:Nat)(H H':Hp):Prop:=match b with
 |true=>Fv P d (.glob 38) [.ref s] H 35 H'
 |false=>RC P d (.glob 38) [.ref s] H .none H'
def UE{g:List Ad}{b:Bool}(S:fh H s d lo g .none 0 0)(few:g.length<1000)(hf:jl g g []=some b):
  ∃H' ns,Nr b (dd+3) s H H'/\ba lo H H'/\aX ns=g/\(ns.map (·.key)).Nodup/\Sr H' s d H.length lo H'.length ns (fo ns) 0 0:=by
 refine bB S.gY λep ns G aa B=>?_;subst aa;have hl:ns.length<1000:=by unfold aX at few;rwa[aJ] at few
 have hz:(1000:Nat)<=az:=by decide
 refine ue (Vc (dd:=dd+2) (s:=s) G (by exact B4 ‹_› ‹_›) ns.length 0 (acc:=[]) (x:=none) (gA _) (bf _)) λx' r=>?_;rw[qD,List.nil_append] at r;have hs:=S.self;have sl:=bk hs;have G1:=G.app [cn (fo ns)];have oH:ae (H++[cn (fo ns)]) s=some (gD d .none 0 0):=cb hs;have T6:ae (H++[cn (fo ns)]) H.length=some (cn (fo ns)):=dX;have lK:(ai (H++[cn (fo ns)]) (gD d (.ref H.length) 0 0) s).length=H.length+1:=by rw[cB,bF];rfl
 have GK:c7 (ai (H++[cn (fo ns)]) (gD d (.ref H.length) 0 0) s) d ep ns:=G1.mono (bh (vp oH G1.dct)) λm hm=>⟨bh (zH oH (G1.ok m hm).inf).symm,bh (Ct oH (G1.ok m hm).dW).symm⟩;have yc:ae (ai (H++[cn (fo ns)]) (gD d (.ref H.length) 0 0) s) s=some (gD d (.ref H.length) 0 0):=cV (bk oH);have HX:ae (ai (H++[cn (fo ns)]) (gD d (.ref H.length) 0 0) s) H.length=some (cn (fo ns)):=(bh (by exact BX ‹_›)).trans T6;have WT:ba lo H (ai (H++[cn (fo ns)]) (gD d (.ref H.length) 0 0) s):=(ba.app _ (aM S.ng (fF sl))).trans (ba.upd S.ng);have st:=jB (P:=P) (a:=15) (v:=.ref H.length) (fs':=[some (.ref d),some (.ref H.length),some (.int 0),some (.int 0)]) oH rfl;have st:pP P 15 (.ref s) (.ref H.length) (H++[cn (fo ns)])=some (ai (H++[cn (fo ns)]) (gD d (.ref H.length) 0 0) s):=st;generalize ai (H++[cn (fo ns)]) (gD d (.ref H.length) 0 0) s=K at *;refine bB (US (d:=dd) GK yc hf) λv H' rf lw tr=>?_;have sK:=bk yc;have dK:=bk GK.dct;refine⟨H',ns,?_,WT.trans (ba.mk lw.len (λa ha=>lw.low a (by have:=S.ng;exact N4 ‹_› ‹_› ‹_›))),rfl,G.keys,Sr.mk ((lw.low s sK).trans yc) ((lw.low _ (bk HX)).trans HX) ⟨ep,GK.mono (lw.low d dK) λm hm=>⟨lw.low _ (bk (GK.ok m hm).inf),lw.low _ (bk (GK.ok m hm).dW)⟩⟩ ?_ ?_ ?_ ?_⟩
 ·have fv:RE P (dd+2) true (eT pW) [some (.ref s),none,none] H (.vals d) [some (.ref s),none,none] H:=eM (mk:=.dict) (fb (af rfl) (d9 hs rfl)) (xU G.dct) rfl rfl aE (by show((cD H d).bind λr=>xP 7 d r.2 [] H)=_;rw[j9 G.dct];rfl)
  have sv:eQ (.vals d) H=some (.vals d 0 (dS ns).length ep):=by show((cD H d).map λr=>bJ.vals d 0 r.2.length r.1)=_;rw[j9 G.dct];rfl
  have rm:RM P (dd+2) (eU pW) (eP pW) (eT pW) (gJ pW) [some (.ref s),none,none] H (.ref H.length) [some (.ref s),none,none] (H++[cn (fo ns)]):=CO fv sv r;cases b with
  |true=>exact Ur (fd:=Bn) rfl rfl ⟨_,CZ (bM (t:=false) (bH (fb (af rfl) (d9 hs rfl)) aS rfl) aO) (CZ (HN rm (af rfl) st) (CZ (bC (mX (af rfl) (nh yc rfl) aE rf) (λO=>rfl) rfl rfl) (Ae (TO (t:=true) (kE (af rfl) (by rw[tr])) (Ae (TN rfl (aB rfl Ul (aB rfl (af rfl) aE)) rfl))))))⟩
  |false=>exact eS (fd:=Bn) (fl:=.next) (ρ1:=[some (.ref s),none,none]) rfl rfl ⟨_,aj (bM (t:=false) (bH (fb (af rfl) (d9 hs rfl)) aS rfl) aO) (aj (HN rm (af rfl) st) (aj (bC (mX (af rfl) (nh yc rfl) aE rf) (λO=>rfl) rfl rfl) (aj (bM (t:=false) (kE (af rfl) (by rw[tr])) aO) aO)))⟩ rfl
 ·exact B.mono (by have:=lw.len;exact Og ‹_› ‹_›)
 ·exact⟨S.ng,by have:=lw.len;exact FK ‹_› ‹_›⟩
 ·exact⟨aM S.ng (fF sl),by have:=lw.len;exact Of ‹_› ‹_›⟩
 ·intro n hn e;exact NH e (B n hn).2.2
end
end
section
noncomputable def o5(I:Hp->Prop)(tg:C):Hp->bJ->List AV->Hp->Prop
 |H,src,[],H'=>(∀Y,src.nx tg (H++Y)=some (none,H'++Y))/\H'.length=H.length
 |H,src,x::r,H'=>∃src' H1,(∀Y,src.nx tg (H++Y)=some (some (x,src'),H1++Y))/\I H1/\H1.length=H.length/\o5 I tg H1 src' r H'
section
variable {H:Hp}{tg:C}
abbrev Is(H:Hp):Hp->Prop:=λK=>K=H
def Bk:∀l:List AV,o5 (Is H) tg H (.fix l) l H:=by
 intro r
 induction r with
 |nil=>exact⟨λO=>jd rfl,rfl⟩
 |cons x r ih=>exact⟨.fix r,H,λO=>jd rfl,rfl,rfl,ih⟩
variable {n:Nat}{l:List AV}
def Z6(h:ae H n=some (.list l)):∀(k i:Nat),i+k=l.length->o5 (Is H) tg H (.lst n i) (l.drop i) H:=by
 intro k
 induction k with
 |zero=>intro i e;rw[pD (by exact hU ‹_›)];exact⟨λY=>jd (by rw[oE (cb h),pY (by exact hU ‹_›)];rfl),rfl⟩
 |succ k ih=>intro i e;refine ue (je (l:=l) (n:=i) (by exact pb ‹_›)) λx hx=>?_;rw[j7 hx];exact⟨.lst n (i+1),H,λY=>jd (by rw[oE (cb h),hx];rfl),rfl,rfl,ih (i+1) (by exact km ‹_›)⟩
def rS(h:ae H n=some (.list l)):o5 (Is H) tg H (.lst n 0) l H:=by have:=Z6 (tg:=tg) h l.length 0 (gA _);rwa[qD] at this
variable {L:List (List Nat×AV)}
def Z7{ep:Nat}(h:ae H n=some (.dict ep L)):∀(k i:Nat),i+k=L.length->o5 (Is H) tg H (.dct n i L.length ep) ((L.drop i).map λp=>.str p.1) H:=by
 intro k
 induction k with
 |zero=>intro i e;rw[pD (by exact hU ‹_›)];exact⟨λY=>jd (by rw[vP (cb h),pY (by exact hU ‹_›)];rfl),rfl⟩
 |succ k ih=>intro i e;refine ue (je (l:=L) (n:=i) (by exact pb ‹_›)) λx hx=>?_;rw[j7 hx];exact⟨.dct n (i+1) L.length ep,H,λY=>jd (by rw[vP (cb h),hx];rfl),rfl,rfl,ih (i+1) (by exact km ‹_›)⟩
def lC(h:ae H n=some (.list l)):eQ (.ref n) H=some (.lst n 0):=by show(match bx H n with|some _=>some (bJ.lst n 0)|none=>_)=_;rw[dy h]
def Hc{ep:Nat}(h:ae H n=some (.dict ep L)):eQ (.ref n) H=some (.dct n 0 L.length ep):=by show(match bx H n with|some _=>some (bJ.lst n 0)|none=>Option.map (λr:Nat×List (List Nat×AV)=>bJ.dct n 0 r.2.length r.1) (cD H n))=_;rw[xH h,j9 h];rfl
end
def Fw(n:Nat)(K K':Hp):Prop:=∀a o,n<a->ae K a=some o->ae K' a=some o
noncomputable def BO(R:AV->AV->Hp->Prop):List AV->List AV->Hp->Prop
 |[],vs,_=>vs=[]
 |x::l,vs,K=>∃v r,vs=v::r/\R x v K/\BO R l r K
def Vk{K K':Hp}{a b:List AV}{Y Y':Hp}(h:K'.length=K.length):Fw K.length (K++.list a::Y) (K'++.list b::(Y++Y')):=by intro x o hx e;obtain⟨m,rfl⟩:∃m,x=K.length+(m+1):=Nat.exists_eq_add_of_lt hx;rw[jG] at e;rw[<- h,jG];exact cb (l:=Y) e
section
variable {d:Nat}{H Hz:Hp}{tg ifs elt it:C}{e:Option AV->aC}{t:AV->Bool}{f:AV->AV}{I:Hp->Prop}{R:AV->AV->Hp->Prop}
theorem T7(hg:xI elt)(hR:∀x v K K',R x v K->Fw H.length K K'->R x v K'):∀(l:List AV) {src:bJ} {H1:Hp} {acc:List AV} {Y:Hp} {o:Option AV},o5 I tg H1 src l Hz->H1.length=H.length ->
  (∀x∈l,∀o K,jq tg x (e o) K=.ok () (e (some x)) K) ->
  (∀x∈l,∀K,I K->K.length=H.length->∀Y,∃Y',RQ P d ifs (e (some x)) (K++Y) (t x) (e (some x)) (K++(Y++Y'))) ->
  (∀x∈l,t x=true->∀K,I K->K.length=H.length->∀a Y,∃v Y',RE P d true elt (e (some x)) (K++a::Y) v (e (some x)) (K++a::(Y++Y'))/\R x v (K++a::(Y++Y')))->acc.length+l.length<az ->
  ∃o' Y' vs,RK P d tg src ifs elt H.length (e o) (H1++.list acc::Y) (e o') (Hz++.list (acc++vs)::(Y++Y'))/\BO R (l.filter t) vs (Hz++.list (acc++vs)::(Y++Y'))/\Hz.length=H.length:=by
 intro l
 induction l with
 |nil=>intro src H1 acc Y o F hl hb ht he hz;exact⟨o,[],[],by rw[eV,eV];exact HY (F.1 _),rfl,F.2.trans hl⟩
 |cons x l ih=>
  intro src H1 acc Y o F hl hb ht he hz;rw[i6] at hz;refine nZ F λsrc' H2 hn i2 l2 F'=>?_;clear F;have l2:=l2.trans hl;have ih:=λ(acc:List AV) (Y:Hp) (hz:acc.length+l.length<az)=>ih (acc:=acc) (Y:=Y) (o:=some x) F' l2 (λy hy=>hb y (bS _ hy)) (λy hy=>ht y (bS _ hy)) (λy hy=>he y (bS _ hy)) hz;refine ue (ht x bA H2 i2 l2 (.list acc::Y)) λY1 tx=>?_;cases hx:t x with
  |false=>rw[hx] at tx;refine iJ (ih acc (Y++Y1) (by exact qC ‹_›)) λo' Y' vs r=>?_;refine⟨o',Y1++Y',vs,?_⟩;rw[sm,hx,<- eW];exact⟨rz (hn _) (hb x bA ..) tx r.1,r.2⟩
  |true=>
   rw[hx] at tx;refine dN (he x bA hx H2 i2 l2 (.list acc) (Y++Y1)) λv Y2 r1 rv=>?_;refine iJ (ih (acc++[v]) (Y++Y1++Y2) (by rw[bF];show acc.length+1+_<_;exact zc ‹_›)) λo' Y' vs r=>?_;have eY:Y++(Y1++Y2++Y')=Y++Y1++Y2++Y':=by simp only[eW]
   have ev:acc++[v]++vs=acc++v::vs:=by rw[eW];rfl
   refine⟨o',Y1++Y2++Y',v::vs,?_⟩;rw[eY,sm,hx];rw[ev] at r;refine⟨rz (hn _) (hb x bA ..) tx ⟨_,_,CP hg r1 (by rw[<- l2];exact Fq (by exact ud ‹_›):tY H.length v (H2++.list acc::(Y++Y1++Y2))=some (H2++.list (acc++[v])::(Y++Y1++Y2))),r.1⟩,⟨v,vs,rfl,hR x v _ _ rv ?_,r.2.1⟩,r.2.2⟩;rw[<- l2];exact Vk (r.2.2.trans l2.symm)
def T5(hg:xI elt)(hR:∀x v K K',R x v K->Fw H.length K K'->R x v K'){U:aC}{H0:Hp}{x:AV}{src:bJ}{l:List AV}(h1:RE P d true it U H0 x U H)(hs:eQ x H=some src)(F:o5 I tg H src l Hz)(hc:jn (slots tg elt) U=e none)(hb:∀x∈l,∀o K,jq tg x (e o) K=.ok () (e (some x)) K)
  (ht:∀x∈l,∀K,I K->K.length=H.length->∀Y,∃Y',RQ P d ifs (e (some x)) (K++Y) (t x) (e (some x)) (K++(Y++Y')))
  (he:∀x∈l,t x=true->∀K,I K->K.length=H.length->∀a Y,∃v Y',RE P d true elt (e (some x)) (K++a::Y) v (e (some x)) (K++a::(Y++Y'))/\R x v (K++a::(Y++Y'))) (hz:l.length<az):
  ∃Y vs,RM P d elt tg it ifs U H0 (.ref H.length) U (Hz++.list vs::Y)/\BO R (l.filter t) vs (Hz++.list vs::Y)/\Hz.length=H.length:=by
 refine iJ (T7 hg hR l (acc:=[]) (Y:=[]) (o:=none) F rfl hb ht he (by show 0+_<_;exact Oj ‹_›)) λo' Y' vs r=>?_;rw[<- hc] at r;exact⟨Y',vs,CO h1 hs r.1,r.2⟩
theorem Ui:∀{l vs:List AV} {K:Hp},BO (λx v O=>v=f x) l vs K->vs=l.map f:=by
 intro l
 induction l with
 |nil=>intro vs K h;exact h
 |cons x l ih=>intro vs K h;exact bB h λv r e1 e2 e3=>by rw[e1,e2,ih e3];rfl
def uS(hg:xI elt){U:aC}{H0:Hp}{x:AV}{src:bJ}{l:List AV}(h1:RE P d true it U H0 x U H)(hs:eQ x H=some src)(F:o5 I tg H src l Hz)(hc:jn (slots tg elt) U=e none)(hb:∀x∈l,∀o K,jq tg x (e o) K=.ok () (e (some x)) K)
  (ht:∀x∈l,∀K,I K->K.length=H.length->∀Y,∃Y',RQ P d ifs (e (some x)) (K++Y) (t x) (e (some x)) (K++(Y++Y')))
  (he:∀x∈l,t x=true->∀K,I K->K.length=H.length->∀Y,∃Y',RE P d true elt (e (some x)) (K++Y) (f x) (e (some x)) (K++(Y++Y'))) (hz:l.length<az):
  ∃Y,RM P d elt tg it ifs U H0 (.ref H.length) U (Hz++.list ((l.filter t).map f)::Y)/\Hz.length=H.length:=by
 refine ct (T5 (R:=λx v O=>v=f x) hg (λO O O O h O=>h) h1 hs F hc hb ht (λx hx ht K i hl a Y=>ue (he x hx ht K i hl (a::Y)) λY' r=>⟨f x,Y',r,rfl⟩) hz) λY vs r=>?_;exact⟨Y,by rw[<- Ui r.2.1];exact⟨r.1,r.2.2⟩⟩
end
def Z5{α:Type}:∀l:List α,l.filter (λO=>true)=l:=by
 intro l
 induction l with
 |nil=>exact rfl
 |cons x l ih=>exact congrArg (x::·) (ih)
section
variable {d:Nat}{H:Hp}
def XM:∀l:List Ky,rI (l.map .str)=some l.flatten:=by
 intro l
 induction l with
 |nil=>exact rfl
 |cons x l ih=>show((AV.str x).de.bind λa=>(rI (l.map .str)).map (a++·))=_;rw[ih];rfl
def JQ{n:Nat}{l:List Ky}(h:ae H n=some (.list (l.map .str)))(hz:l.flatten.length<=az):lL .str 5 (.str []) [.ref n] H=some (.str l.flatten,H):=by show(((cH H (.ref n)).bind λl=>(rI l).bind λx=>aI (Nat.ble x.length az) (some (AV.str x,H))))=_;show((bx H n).bind λl=>(rI l).bind λx=>aI (Nat.ble x.length az) (some (AV.str x,H)))=_;rw[dy h];show((rI (l.map .str)).bind λx=>aI (Nat.ble x.length az) (some (AV.str x,H)))=_;rw[XM];show aI (Nat.ble l.flatten.length az) _=_;rw[eO.mpr hz];rfl
def Bh(l:List Nat):(l.map λc=>[c]).flatten=l:=by
 induction l with
 |nil=>rfl
 |cons c l ih=>rw[bE,List.flatten_cons,ih];rfl
noncomputable def cM(l:List Nat):List AV:=l.map λn:Nat=>.int n
def jC(l:List Nat):AV:=.lst (cM l)
def adx:∀n:Nat,n<16->j6 (n:Int) [0,1,2,3,4,5,6,7,8,9,10,11,12,13,14,15]=some n:=by decide
noncomputable def vX(c:C):C:=match c with
 |.eN _ _ _ args _ _=>(match args with|.cons a _=>a|_=>.nil)
 |.call _ args _=>(match args with|.cons a _=>a|_=>.nil)
 |_=>.nil
def sY{tg elt it:C}{e:Option AV->aC}{f:AV->AV}(hg:xI elt){U:aC}{H0:Hp}{x:AV}{src:bJ}{l:List AV}(h1:RE P d true it U H0 x U H)(hs:eQ x H=some src)(F:o5 (Is H) tg H src l H)(hc:jn (slots tg elt) U=e none)(hb:∀x∈l,∀o K,jq tg x (e o) K=.ok () (e (some x)) K)
  (he:∀x∈l,∀Y,∃Y',RE P d true elt (e (some x)) (H++Y) (f x) (e (some x)) (H++(Y++Y'))) (hz:l.length<az):∃Y,RM P d elt tg it .nil U H0 (.ref H.length) U (H++.list (l.map f)::Y):=by
 refine ue (uS (t:=λO=>true) (ifs:=.nil) hg h1 hs F hc hb (λO O K i O Y=>⟨[],by rw[eV];exact xf⟩) (λx hx O K i O=>by cases i;exact he x hx) hz) λY r=>?_;rw[Z5] at r;exact⟨Y,r.1⟩
def Uu{row:List Nat}(EC:∀c∈row,c<16)(hz:row.length<az):∃Y,RC P (d+1) (.glob 4) [.cE row] H (.str row) (H++Y):=by
 obtain⟨Y,r⟩:=sY (d:=d) (H:=H) (tg:=eP (vX (jX (bg f4.body 0)))) (elt:=eU (vX (jX (bg f4.body 0)))) (it:=eT (vX (jX (bg f4.body 0)))) (U:=[some (.cE row),none]) (e:=λo=>[some (.cE row),o]) (f:=λv=>match v with|.int i=>.str [i.toNat-65]|v=>v) (λO O O=>rfl) (af rfl) rfl (Bk (row.map λd=>.int ((65+d:Nat):Int))) rfl (λO O O O=>rfl)
  (λx hx Y=>by refine aq (bU.mp hx) λc hc aa=>?_;subst aa;refine⟨[],?_⟩;rw[eV];refine bO (bL rfl) rfl (aB rfl (af rfl) aE) (gj (b:=.chr) rfl ?_);have:=EC c hc;show aI (Nat.ble 65 (65+c)&&Nat.blt (65+c) 81) (some (AV.str [65+c-65],H++Y))=_;rw[eO.mpr (by exact za),bG.mpr (by exact NA ‹_›)];rfl) (by rw[aJ];exact hz)
 have e:(row.map λd=>AV.int ((65+d:Nat):Int)).map (λv=>match v with|.int i=>AV.str [i.toNat-65]|v=>v)=(row.map λc=>[c]).map AV.str:=by rw[cG,cG];refine iI λc O=>?_;show AV.str [65+c-65]=AV.str [c];rw[Nat.add_sub_cancel_left]
 rw[e] at r;refine⟨.list ((row.map λc=>[c]).map .str)::Y,eS (fd:=f4) (fl:=.ret (.str row)) (ρ1:=[some (.cE row),none]) rfl rfl ⟨_,cK (fW (eM (mk:=.str) aS rfl rfl rfl (aB rfl (uT r) aE) ?_) λO=>rfl) nofun⟩ rfl⟩;have:=JQ (H:=H++.list ((row.map λc=>[c]).map .str)::Y) dX (by rw[Bh];exact fF hz);rwa[Bh] at this
noncomputable def cA(l:List Nat):Nat:=l.foldl (λn c=>16*n+c) 0
def Ck(l:List Nat)(c:Nat):cA (l++[c])=16*cA l+c:=by unfold cA;rw[List.foldl_append];rfl
def QY:∀(l:List Nat) (n:Nat),(∀c∈l,c<16)->l.foldl (λn c=>16*n+c) n<(n+1)*16^l.length:=by
 intro l
 induction l with
 |nil=>intro n _;show n<(n+1)*1;exact FX
 |cons c l ih=>intro n h;have h2:=h c bA;show l.foldl _ (16*n+c)<(n+1)*16^(l.length+1);exact dU (ih (16*n+c) λx hx=>h x (bS _ hx)) (aM (Nat.mul_le_mul_right _ (by exact FU ‹_›):(16*n+c+1)*16^l.length<=(16*(n+1))*16^l.length) (aW (by rw[Nat.pow_succ,Nat.mul_comm (16^l.length) 16,<- Nat.mul_assoc,Nat.mul_comm (n+1) 16]:(n+1)*16^(l.length+1)=(16*(n+1))*16^l.length).symm))
def QX(l:List Nat)(h:∀c∈l,c<16):cA l<16^l.length:=by have:=QY l 0 h;rwa[gA,Nat.one_mul] at this
def SH{α:Type}:∀l:List α,l=[]\/∃m c,l=m++[c]:=by
 intro l
 induction l with
 |nil=>exact .inl rfl
 |cons x l ih=>
  rcases ih with rfl|⟨m,c,rfl⟩
  ·exact .inr ⟨[],x,rfl⟩
  ·exact .inr ⟨x::m,c,rfl⟩
def SK{l:List Nat}(h:∀c∈l,c<16)(hl:l.length<=40):fK (cA l:Nat)=true:=by refine bG.mpr (dU (show(cA l:Int).natAbs<16^l.length from QX l h) ?_);exact aM (Nat.pow_le_pow_right (by decide) hl) (by decide)
def Gv:∀{c:Nat} {l:List Nat},1<=c->1<=cA (c::l):=λ{c l} h=>by
 have:∀(l:List Nat) (n:Nat),1<=n->1<=l.foldl (λn c=>16*n+c) n:=λl=>by
  induction l with
  |nil=>exact λn h=>h
  |cons x l ih=>exact λn h=>ih _ (show 1<=16*n+x by exact Ow ‹_›)
 exact this l _ (show 1<=16*0+c by exact Ox ‹_›)
def adw:∀c:Nat,c<16->(List.take (c+1) [0,1,2,3,4,5,6,7,8,9,10,11,12,13,14,15]).drop c=[c]:=by decide
def ac2(c:Nat)(h:c<16):kC (.cE [0,1,2,3,4,5,6,7,8,9,10,11,12,13,14,15]) (.int c) (.int ((c+1:Nat):Int)) []=some (.cE [c]):=by
 have z:(16:Nat)<=az:=by decide
 show((aI (Nat.ble c az) (some (some (c:Int)))).bind λa=>(aI (Nat.ble (c+1) az) (some (some ((c+1:Nat):Int)))).map λb=>AV.cE (dA a b [0,1,2,3,4,5,6,7,8,9,10,11,12,13,14,15]))=_;rw[eO.mpr (aM (fF h) z),eO.mpr (aM h z)];exact congrArg (λl=>some (AV.cE l)) (adw c h)
noncomputable abbrev Nj:AV:=.cE [0,1,2,3,4,5,6,7,8,9,10,11,12,13,14,15]
def ac1:∀(n:Nat) {l post:List Nat} {u:Option AV},l.length=n->(∀c∈l,c<16)->n+post.length<=40->(∀c r,l=c::r->1<=c) ->
  ∃u',RW P d true (gB (bg f3.body 3)) (bz (bg f3.body 3)) (iW (bg f3.body 3)) [some (.int (cA l:Nat)),some (.cE post),some Nj,u] H .next [some (.int (0:Nat)),some (.cE (l++post)),some Nj,u'] H:=by
 intro n
 induction n with
 |zero=>intro l post u hn _ _ _;cases List.eq_nil_of_length_eq_zero hn;exact⟨u,mU (kE (af rfl) rfl) aO⟩
 |succ n ih=>
  intro l post u hn h hl h1;rcases SH l with rfl|⟨m,c,rfl⟩
  ·cases hn
  have hc:c<16:=h c (mD _ bA);have pos:1<=cA (m++[c]):=by
   cases m with
   |nil=>exact Gv (h1 c [] rfl)
   |cons x m=>exact Gv (h1 x (m++[c]) rfl)
  refine ue (ih (l:=m) (post:=c::post) (u:=some (.int c)) (by rw[bF] at hn;exact Nat.succ.inj hn:m.length=n) (λx hx=>h x (nT _ hx)) (by rw[i6];exact NY ‹_›) (λx r e=>h1 x (r++[c]) (by rw[e];rfl))) λu' r=>?_;have tr:gR (.int (cA (m++[c]):Nat)) H=some true:=by
   show some (!(Nat.beq (cA (m++[c])) 0))=_;have:Nat.beq (cA (m++[c])) 0=false:=by
    cases hb:Nat.beq (cA (m++[c])) 0 with
    |true=>exact absurd (bW hb) (dM pos)
    |false=>rfl
   rw[this];rfl
  have dm:RC P d (.glob 18) [.int (cA (m++[c]):Nat),.int 16] H (.tup [.int (cA m:Nat),.int (c:Nat)]) H:=gj (b:=.divmod) rfl (by
   have e1:((cA (m++[c]):Nat):Int).fdiv 16=(cA m:Nat):=by rw[Ck,Int.fdiv_eq_ediv_of_nonneg _ (by decide)];exact congrArg Int.ofNat (show(16*cA m+c)/16=cA m by rw[Nat.mul_add_div (by decide),Nat.div_eq_of_lt hc,Nat.add_zero])
   have e2:((cA (m++[c]):Nat):Int).fmod 16=(c:Nat):=by rw[Ck,Int.fmod_eq_emod_of_nonneg _ (by decide)];exact congrArg Int.ofNat (show(16*cA m+c)%16=c by rw[Nat.mul_add_mod,Nat.mod_eq_of_lt hc])
   show aI (!ji 16 0&&fK 16) (some (AV.tup [.int (((cA (m++[c]):Nat):Int).fdiv 16),.int (((cA (m++[c]):Nat):Int).fmod 16)],H))=_;rw[e1,e2];rfl)
  have ad:iz .Add (.cE [c]) (.cE post) H=some (.cE (c::post)):=by show aI (Nat.ble (1+post.length) az) (some (AV.cE (c::post)))=_;rw[eO.mpr (by exact NT ‹_› (by decide))];rfl
  refine⟨u',?_⟩;rw[eW];exact kD (f:=.next) (kE (af rfl) tr) (aj (uQ (bO (bL rfl) rfl (aB rfl (af rfl) (aB rfl aS aE)) dm) (λO=>rfl) rfl) (aj (bC (du (jc (af rfl) (iO (af rfl) λO=>rfl) (iO (du (af rfl) aS (kT (k:=((c+1:Nat):Int)) rfl)) λO=>rfl) (ac2 c hc)) (af rfl) ad) (λO=>rfl) rfl rfl) aO)) rfl r
def UO{row:List Nat}(h:∀c∈row,c<16)(hl:row.length<=40)(h1:∀c r,row=c::r->1<=c):RC P (d+1) (.glob 3) [.int (-(cA row:Nat))] H (.cE row) H:=by
 refine ue (ac1 (d:=d) (H:=H) row.length (l:=row) (post:=[]) (u:=none) rfl h hl h1) λu' r=>?_;rw[eV] at r;have ab:RC P d (.glob 15) [.int (-(cA row:Nat))] H (.int (cA row:Nat)) H:=gj (b:=.abs) rfl (by
  have:(match fZ (-(cA row:Nat)) 0 with|true=>-(-(cA row:Nat):Int)|false=>-(cA row:Nat))=(cA row:Int):=by
   cases cA row with
   |zero=>rfl
   |succ n=>rfl
  show some (AV.int (match fZ (-(cA row:Nat)) 0 with|true=>-(-(cA row:Nat):Int)|false=>-(cA row:Nat)),H)=_;rw[this])
 exact eS (fd:=f3) (fl:=.ret (.cE row)) (ρ1:=[some (.int (-(cA row:Nat))),none,none,none]) rfl rfl ⟨_,aj (bC aS (λO=>rfl) rfl rfl) (aj (bC aS (λO=>rfl) rfl rfl) (aj (bC (bO (bL rfl) rfl (aB rfl (bO (bL rfl) rfl (aB rfl (af rfl) aE) ab) aE) (gj (b:=.int) rfl rfl:RC P d (.glob 17) [.int (cA row:Nat)] H (.int (cA row:Nat)) H)) (λO=>rfl) rfl rfl) (aj (kF r) (cK (fW (af rfl) λO=>rfl) nofun))))⟩ rfl
end
end
variable {α:Type}
noncomputable def cJ{β:Type}(f:α->β)(l:List α):List β:=List.rec (motive:=λO=>List β) [] (λx O ih=>f x::ih) l
noncomputable def d8(p:α->Bool)(l:List α):List α:=List.rec (motive:=λO=>List α) [] (λx O ih=>match p x with|true=>x::ih|false=>ih) l
noncomputable def bI{β:Type}(f:β->α->β)(l:List α):β->β:=List.rec (motive:=λO=>β->β) (λb=>b) (λx O ih b=>ih (f b x)) l
noncomputable def bj(l m:List α):List α:=List.rec (motive:=λO=>List α) m (λx O ih=>x::ih) l
noncomputable def dq(l:List α):List α->List α:=List.rec (motive:=λO=>List α->List α) (λm=>m) (λx O ih m=>ih (x::m)) l
noncomputable def kc(p:α->Bool)(l:List α):Bool:=List.rec (motive:=λO=>Bool) false (λx O ih=>match p x with|true=>true|false=>ih) l
noncomputable def iA(p:α->Bool)(l:List α):Bool:=List.rec (motive:=λO=>Bool) true (λx O ih=>match p x with|true=>ih|false=>false) l
abbrev bT:=Ky×Nat×Ky×Bool
noncomputable def fc(a:Ky):Bool:=match a with|[]=>true|_::_=>false
noncomputable def bw(o:Ky)(a:Ky):Ky->Nat->bT:=List.rec (motive:=λO=>Ky->Nat->bT) (λb g=>(o,g,b,true)) (λx a ih b g=>match b with|[]=>(o,g,x::a,true)|y::b=>match Nat.beq x y with|true=>ih b (g+1)|false=>(o,g,[],false)) a
noncomputable def gF(x:aT)(r:List aT):aT:=List.rec (motive:=λO=>aT->aT) (λx=>x) (λy O ih x=>ih y) r x
noncomputable def gf(x:aT)(r:List aT):List aT:=List.rec (motive:=λO=>aT->List aT) (λx=>[]) (λy O ih x=>x::ih y) r x
def ck(b:Nat)(l:bT)(h:List aT):List aT:=match l.2.2.2 with|true=>oJ (((b+l.2.1:Nat):Int),l.2.2.1) h|false=>h
def di(k:Ky)(l:List (Ky×Nat)):Bool:=List.rec (motive:=λO=>Bool) false (λp O ih=>match ak p.1 k with|true=>true|false=>ih) l
def jh(k:Ky)(l:List (Ky×Nat)):Nat:=List.rec (motive:=λO=>Nat) 0 (λp O ih=>match ak p.1 k with|true=>p.2|false=>ih) l
abbrev fS:=List (Ky×Nat)×List bT×List Nat
def fB(r:Ky)(n:Nat)(ws:List Ky):List aT->List bT->List aT×List bT:=List.rec (motive:=λO=>List aT->List bT->List aT×List bT) (λh L=>(h,L)) (λw O ih h L=>match bw r r w 0 with|l=>ih (ck n l h) (l::L)) ws
def xA(h:List aT):Option (aT×List aT):=match h with|[]=>none|x::r=>some (gx (gf x r) (gF x r))
def iL(ws:List Ky)(m:Nat):List aT->fS->Option fS:=Nat.rec (motive:=λO=>List aT->fS->Option fS) (λO O=>none) (λO ih h F=>match xA h with
 |none=>some F
 |some y=>match y.1.1 with
  |.negSucc _=>none
  |.ofNat n=>match fc y.1.2 with
   |true=>ih y.2 (F.1,F.2.1,n::F.2.2)
   |false=>match di y.1.2 F.1 with
    |true=>ih y.2 F
    |false=>match Nat.blt y.1.2.length 40 with
     |false=>none
     |true=>match fB y.1.2 n ws y.2 F.2.1 with
      |q=>ih q.1 ((y.1.2,n)::F.1,q.2,F.2.2)) m
def zG(a b c:Ky):List bT:=[bw [] b c 0,bw [] a c 0,bw [] a b 0]
def pQ(a b c:Ky):Option fS:=iL [a,b,c] 100 (ck 0 (bw [] b c 0) (ck 0 (bw [] a c 0) (ck 0 (bw [] a b 0) []))) ([([],0)],zG a b c,[])
def gX(k:Ky)(g:List Ad):Bool:=List.rec (motive:=λO=>Bool) false (λp O ih=>match ak p.1 k with|true=>true|false=>ih) g
def jJ(g:List Ad)(k:Ky):List Ad:=match gX k g with|true=>g|false=>bj g [(k,0,[])]
def xF(g:List Ad)(k:Ky)(f:Int->Int):List Ad:=cJ (λt=>match ak t.1 k with|true=>(t.1,f t.2.1,t.2.2)|false=>t) g
def gE(g:List Ad)(k:Ky)(f:Int->Int):List Ad:=List.rec (motive:=λO=>List Ad) [] (λt r ih=>match ak t.1 k with|true=>(t.1,f t.2.1,t.2.2)::r|false=>t::ih) g
def uL(g:List Ad)(k x:Ky):List Ad:=cJ (λt=>match ak t.1 k with|true=>(t.1,t.2.1,bj t.2.2 [x])|false=>t) g
def qt(g:List Ad)(l:bT):List Ad:=match fc l.2.2.1 with|true=>g|false=>uL (jJ (xF (jJ g l.2.2.1) l.2.2.1 λn=>n+1) l.1) l.1 l.2.2.1
def ny(R:List (Ky×Nat))(L:List bT):List Ad:=bI qt L (bI (λg p=>jJ g p.1) R [])
def lN(l:List Nat):Nat:=bI (λa b=>match Nat.blt a b with|true=>b|false=>a) l 0
def gc(bq:List (Ky×Nat))(l:bT):Nat:=jh l.1 bq+l.2.1
def kM(x:Ky)(l:bT):Bool:=match ak l.2.2.1 x with|true=>!fc l.2.2.1|false=>false
def rH(L:List bT)(bq:List (Ky×Nat))(x:Ky):List (Ky×Nat):=(x,lN (cJ (gc bq) (d8 (kM x) L)))::bq
def lF(g:List Ad):List Ky:=cJ (·.1) (d8 (λt=>dQ t.2.1 0) g)
def fJ(g:List Ad)(k:Ky):List Ky:=List.rec (motive:=λO=>List Ky) [] (λp O ih=>match ak p.1 k with|true=>p.2.2|false=>ih) g
def gT(g:List Ad)(k:Ky):Int:=List.rec (motive:=λO=>Int) 0 (λp O ih=>match ak p.1 k with|true=>p.2.1|false=>ih) g
def kO(q:List Ad×List Ky)(y:Ky):List Ad×List Ky:=match gT q.1 y-1 with
 |i=>(gE q.1 y λO=>i,match dQ i 0 with|true=>bj q.2 [y]|false=>q.2)
def j8(l:List Ky):List Ad×List Ky->Option (List Ad×List Ky):=List.rec (motive:=λO=>List Ad×List Ky->Option (List Ad×List Ky)) (λq=>some q) (λx O ih q=>match fJ q.1 x with
 |su=>match dQ (gT q.1 x) (-1)&&(iA (λy=>gX y q.1) su&&Nat.blt (q.2.length+su.length) 1000) with
  |true=>ih (bI kO su (gE q.1 x λO=>-2,q.2))
  |false=>none) l
def lG(g:List Ad)(l:List Ky):List Ad:=bI (λg k=>gE g k λO=>-1) l g
def lP(L:List bT)(m:Nat):List Ad->List Ky->List (Ky×Nat)->List Ky->Option (List Ky×List (Ky×Nat)):=Nat.rec (motive:=λO=>List Ad->List Ky->List (Ky×Nat)->List Ky->Option (List Ky×List (Ky×Nat))) (λO O O O=>none) (λO ih g bc bq told=>match bc with
 |[]=>some (told,bq)
 |x::r=>match iA (λy=>gX y g) (x::r)&&Nat.blt (told.length+(x::r).length) 900 with
  |false=>none
  |true=>(j8 (x::r) (lG g (x::r),[])).bind λq=>ih q.1 q.2 (bI (rH L) (x::r) bq) (bj told (x::r))) m
def kG(R:List (Ky×Nat))(L:List bT):Option (Bool×List Ky×Nat):=match ny R L with
 |g=>match Nat.blt g.length 1000 with
  |false=>none
  |true=>(jl g g []).bind λring=>(lP L 100 g (lF g) [] []).bind λq=>match Nat.blt q.1.length 64 with
   |false=>none
   |true=>some (ring,cC bu q.1,lN (cJ (gc q.2) L))
def gh(L:List bT)(left:List Ky):List Ky:=d8 (λr=>!(kc (λl=>match kM r l with|true=>aU l.1 left|false=>false) L)) left
def iu(L:List bT)(m:Nat):List Ky->List Ky->Option (List Ky):=Nat.rec (motive:=λO=>List Ky->List Ky->Option (List Ky)) (λO O=>none) (λO ih left free=>match gh L left with
 |[]=>match Nat.blt free.length 64 with|false=>none|true=>some (cC bu free)
 |x::r=>ih (d8 (λy=>!aU y (x::r)) left) (bj free (x::r))) m
abbrev Pr:=Ky×Ky
def g5(a b:Pr):Bool:=match ak a.1 b.1 with|true=>ak a.2 b.2|false=>false
def cZ(a b:Ky):Pr:=match bu b a with|true=>(b,a)|false=>(a,b)
def ip(p:Pr)(l:List Pr):Bool:=List.rec (motive:=λO=>Bool) false (λq O ih=>match g5 q p with|true=>true|false=>ih) l
def lH(a b:Ky)(made:List Pr):List Pr:=match a with
 |[]=>made
 |x::a=>match b with
  |[]=>made
  |y::b=>match Nat.beq x y with
   |false=>made
   |true=>match ip (cZ a b) made with|true=>made|false=>bj made [cZ a b]
noncomputable def jF(ws:List Ky)(a:Ky):List Ky:=match a with|[]=>ws|_::_=>[a]
def dw(a b:Pr):Bool:=match ak a.1 b.1 with|true=>bu a.2 b.2|false=>bu a.1 b.1
def fz(ws:List Ky)(ps:List Pr):List Pr:=bI (λmade p=>bI (λmade a=>bI (λmade b=>lH a b made) (jF ws p.2) made) (jF ws p.1) made) ps []
def oP(l:List Pr):List Pr->Bool:=List.rec (motive:=λO=>List Pr->Bool) (λm=>match m with|[]=>true|_::_=>false) (λa O ih m=>match m with|[]=>false|b::m=>match g5 a b with|true=>ih m|false=>false) l
def lM(p:List Pr)(l:List (List Pr)):Bool:=List.rec (motive:=λO=>Bool) false (λq O ih=>match oP q p with|true=>true|false=>ih) l
def fX(n:Nat)(q:List (Ky×Nat)×List Nat)(p:Pr):List (Ky×Nat)×List Nat:=match p.1 with
 |[]=>match p.2 with
  |[]=>(q.1,bj q.2 [n])
  |_::_=>match di p.2 q.1 with|true=>q|false=>(bj q.1 [(p.2,n)],q.2)
 |_::_=>q
def jo(p:Pr):Bool:=match p.1 with|[]=>fc p.2|_::_=>false
abbrev r8:=List (Ky×Nat)×List Nat×Bool×Nat
def j0(ws:List Ky)(m:Nat):List Pr->List (List Pr)->List (Ky×Nat)->List Nat->Nat->Nat->Option r8:=Nat.rec (motive:=λO=>List Pr->List (List Pr)->List (Ky×Nat)->List Nat->Nat->Nat->Option r8) (λO O O O O O=>none) (λO ih ps seen R D t deep=>match ps with
  |[]=>some (R,D,false,deep)
  |p::ps=>match lM (p::ps) seen with
   |true=>some (R,D,true,deep)
   |false=>match fz ws (p::ps) with|md=>match Nat.blt md.length 64 with|false=>none|true=>match cC dw md with|made=>match bI (fX (t+1)) made (R,D) with
     |q=>ih (d8 (λp=>!jo p) made) (bj seen [p::ps]) q.1 q.2 (t+1) (match made with|[]=>deep|_::_=>t+1)) m
def zC(a b:List (Ky×Nat)):Bool:=!(kc (λp=>match di p.1 b with|true=>!(Nat.beq (jh p.1 b) p.2)|false=>true) a)
def nB(a b:List (Ky×Nat)):Bool:=match Nat.beq a.length b.length with|true=>zC a b|false=>false
def oQ(l:List Ky):List Ky->Bool:=List.rec (motive:=λO=>List Ky->Bool) (λm=>match m with|[]=>true|_::_=>false) (λa O ih m=>match m with|[]=>false|b::m=>match ak a b with|true=>ih m|false=>false) l
noncomputable def gW(D:List Nat):List Nat:=D.take 1
def kK(a b c:Ky):Bool:=match pQ a b c with
 |none=>false
 |some F=>match dq F.1 [] with|R=>match dq F.2.1 [] with|L=>match kG R L with
  |none=>false
  |some o=>match j0 [a,b,c] 100 [(a,b),(a,c),(b,c)] [] [([],0)] [] 0 0 with
   |none=>false
   |some S=>match iu L 100 (cJ (·.1) R) [] with
    |none=>false
    |some fr=>nB F.1 S.1&&(ak (gW (dq F.2.2 [])) (gW S.2.1)&&(vK o.1 S.2.2.1&&(oQ o.2.1 fr&&(o.1||Nat.beq o.2.2 S.2.2.2))))
section
variable {α:Type}
def mZ{β:Type}(f:α->β):∀l:List α,cJ f l=l.map f:=by
 intro l
 induction l with
 |nil=>rfl
 |cons x l ih=>exact congrArg (f x::·) ih
def nz(p:α->Bool):∀l:List α,d8 p l=l.filter p:=by
 intro l
 induction l with
 |nil=>rfl
 |cons x l ih=>show(match p x with|true=>x::d8 p l|false=>d8 p l)=_;rw[sm,ih];cases p x<;>rfl
def Lz{β:Type}(f:β->α->β):∀(l:List α) (b:β),bI f l b=l.foldl f b:=by
 intro l
 induction l with
 |nil=>intro b;rfl
 |cons x l ih=>intro b;exact ih (f b x)
def fP(m:List α):∀l:List α,bj l m=l++m:=by
 intro l
 induction l with
 |nil=>rfl
 |cons x l ih=>exact congrArg (x::·) ih
def Ug:∀l m:List α,dq l m=l.reverse++m:=by
 intro l
 induction l with
 |nil=>intro m;rfl
 |cons x l ih=>intro m;rw[List.reverse_cons,eW];exact ih (x::m)
def xl(l:List α):dq l []=l.reverse:=by rw[Ug,eV]
def Fs(p:α->Bool):∀l:List α,kc p l=l.any p:=by
 intro l
 induction l with
 |nil=>rfl
 |cons x l ih=>show(match p x with|true=>true|false=>kc p l)=(p x||l.any p);rw[ih];cases p x<;>rfl
def yS(p:α->Bool):∀l:List α,iA p l=l.all p:=by
 intro l
 induction l with
 |nil=>rfl
 |cons x l ih=>show(match p x with|true=>iA p l|false=>false)=(p x&&l.all p);rw[ih];cases p x<;>rfl
def Na{p:α->Bool}{l:List α}(h:iA p l=true):∀x∈l,p x=true:=by rw[yS] at h;exact jw.mp h
section
variable {d:Nat}{H:Hp}{a b:Ky}
def HO{P:bP}{q:Bool}{U ρ1:aC}{H1:Hp}{n:Str}{op:Operator}{k:Nat}{p p':Pos}{e:C}{x y v:AV}(h0:ae U k=some (some x))(h1:RE P d q e U H y ρ1 H1)(h:tX op x y=some v)(hk:Nat.blt k ρ1.length=true):RS P d q (.aug op (.var n k p) e p') U H .next (ai ρ1 (some v) k) H1:=.step (.bind (.Gp h0) (.bind h1 (.bind (.rd (f:=λO=>tX op x y) h) (.bind (.setM hk) .ret))))
def Xc(h:a.length<=az):tW .len (.str a) H=some (.int a.length,H):=by show((some a.length).bind λk=>aI (Nat.ble k az) (some (AV.int k,H)))=_;show aI (Nat.ble a.length az) _=_;rw[eO.mpr h];rfl
def Ih(h:a.length<=az):RC P d (.glob 10) [.str a] H (.int a.length) H:=gj (b:=.len) rfl (Xc h)
def Hl{n:Nat}(h:n<=az):kC (.str a) .none (.int n) H=some (.str (a.take n)):=by show((kP .none).bind λlo=>(kP (.int n)).map λb=>AV.str (dA lo b a))=_;show((aI (Nat.ble n az) (some (some (n:Int)))).map λb=>AV.str (dA none b a))=_;rw[eO.mpr h];rfl
def Cz{n:Nat}(h:n<=az):kC (.str a) (.int n) .none H=some (.str (a.drop n)):=by show((kP (.int n)).bind λlo=>(kP .none).map λb=>AV.str (dA lo b a))=_;show((aI (Nat.ble n az) (some (some (n:Int)))).bind λlo=>some (AV.str (dA lo none a)))=_;rw[eO.mpr h];rfl
def nA:fO .Eq (.str a) (.str b) H=some (ak a b):=rfl
def Dp:fO .NotEq (.str a) (.str b) H=some (!ak a b):=rfl
def uK{n:Nat}{c:Nat}(h:ae a n=some c):lB (.str a) (.int n) H=some (.str [c]):=by show(j6 (n:Int) a).map (λc=>AV.str [c])=_;show(ae a n).map (λc=>AV.str [c])=_;rw[h];rfl
def EO{x y:Nat}:ak [x] [y]=Nat.beq x y:=by show(match Nat.beq x y with|true=>true|false=>false)=_;cases Nat.beq x y<;>rfl
noncomputable def fC(l:bT):AV:=.tup [.str l.1,.int l.2.1,.str l.2.2.1,.bool l.2.2.2]
def Xq{o:Ky}:∀{a b:Ky} {g:Nat},ak (a.take b.length) b=true->bw o a b g=(o,g+b.length,a.drop b.length,true):=by
 intro a
 induction a with
 |nil=>
  intro b g h;cases b with
  |nil=>rfl
  |cons y b=>exact nomatch h
 |cons x a ih=>
  intro b g h;cases b with
  |nil=>rfl
  |cons y b=>
   have h:(match Nat.beq x y with|true=>ak (a.take b.length) b|false=>false)=true:=h;show(match Nat.beq x y with|true=>bw o a b (g+1)|false=>(o,g,[],false))=_;cases e:Nat.beq x y with
   |false=>rw[e] at h;exact nomatch h
   |true=>rw[e] at h;show bw o a b (g+1)=_;rw[ih h,ux g 1];rfl
def Xp{o:Ky}:∀{a b:Ky} {g:Nat},ak (a.take b.length) b=false->ak (b.take a.length) a=true->bw o a b g=(o,g+a.length,b.drop a.length,true):=by
 intro a
 induction a with
 |nil=>intro b g _ h;rfl
 |cons x a ih=>
  intro b g h1 h;cases b with
  |nil=>exact nomatch h
  |cons y b=>
   have h1:(match Nat.beq x y with|true=>ak (a.take b.length) b|false=>false)=false:=h1;have h:(match Nat.beq y x with|true=>ak (b.take a.length) a|false=>false)=true:=h;show(match Nat.beq x y with|true=>bw o a b (g+1)|false=>(o,g,[],false))=_;cases e:Nat.beq y x with
   |false=>rw[e] at h;exact nomatch h
   |true=>have e':=bW e;subst e';rw[fT] at h1 h⊢;show bw o a b (g+1)=_;rw[ih h1 h,ux g 1];rfl
def Xo{o:Ky}{a0 b0:Ky}{R:Nat->Prop}(step:∀g x y,ae a0 g=some x->ae b0 g=some y->Nat.beq x y=true->R (g+1)->R g)(last:∀g x y,ae a0 g=some x->ae b0 g=some y->Nat.beq x y=false->bw o a0 b0 0=(o,g,[],false)->R g):
  ∀{a b:Ky} {g:Nat},a=a0.drop g->b=b0.drop g->bw o a0 b0 0=bw o a b g->ak (a.take b.length) b=false->ak (b.take a.length) a=false->R g:=by
 intro a
 induction a with
 |nil=>intro b g _ _ _ h1 h;exact nomatch h
 |cons x a ih=>
  intro b g ea eb el h1 h;cases b with
  |nil=>exact nomatch h1
  |cons y b=>
   have na:ae a0 g=some x:=by
    cases e:ae a0 g with
    |none=>rw[EU e] at ea;exact nomatch ea
    |some z=>rw[j7 e] at ea;rw[(nQ ea).1]
   have nb:ae b0 g=some y:=by
    cases e:ae b0 g with
    |none=>rw[EU e] at eb;exact nomatch eb
    |some z=>rw[j7 e] at eb;rw[(nQ eb).1]
   rw[j7 na] at ea;rw[j7 nb] at eb;have h1:(match Nat.beq x y with|true=>ak (a.take b.length) b|false=>false)=false:=h1;have h:(match Nat.beq y x with|true=>ak (b.take a.length) a|false=>false)=false:=h;have el:bw o a0 b0 0=(match Nat.beq x y with|true=>bw o a b (g+1)|false=>(o,g,[],false)):=el;cases e:Nat.beq x y with
   |false=>rw[e] at el;exact last g x y na nb e el
   |true=>have e':=bW e;subst e';rw[fT] at h1 h el;exact step g x x na nb (fT x) (ih (nQ ea).2 (nQ eb).2 el h1 h)
abbrev tA:S:=bg f6.body 3
def Ii(ha:a.length<=az)(hb:b.length<=az):RC P (d+1) (.glob 6) [.str a,.str b] H (fC (bw a a b 0)) H:=by
 have la:=Ih (d:=d) (H:=H) ha;have lb:=Ih (d:=d) (H:=H) hb;have t1:∀p1 p2 p3 p4 p5 p6 p7 p8,RT P d true (.cmp .Eq (.fL (.var "rest" 0 p1) .nil (.call (.glob "len" 10 p2) (.cons (.var "word" 1 p3) .nil) p4) p5 p6) (.var "word" 1 p7) p8) [some (.str a),some (.str b),none] H (ak (a.take b.length) b) [some (.str a),some (.str b),none] H:=λp1 p2 p3 p4 p5 p6 p7 p8=>bH (jc (af rfl) jD (iO (bO (bL rfl) rfl (aB rfl (af rfl) aE) lb) λO=>rfl) (Hl hb)) (af rfl) nA
 have t2:∀p1 p2 p3 p4 p5 p6 p7 p8,RT P d true (.cmp .Eq (.fL (.var "word" 1 p1) .nil (.call (.glob "len" 10 p2) (.cons (.var "rest" 0 p3) .nil) p4) p5 p6) (.var "rest" 0 p7) p8) [some (.str a),some (.str b),none] H (ak (b.take a.length) a) [some (.str a),some (.str b),none] H:=λp1 p2 p3 p4 p5 p6 p7 p8=>bH (jc (af rfl) jD (iO (bO (bL rfl) rfl (aB rfl (af rfl) aE) la) λO=>rfl) (Hl ha)) (af rfl) nA
 refine eS (fd:=f6) (fl:=.ret (fC (bw a a b 0))) (ρ1:=[some (.str a),some (.str b),none]) rfl rfl ?_ rfl;cases h1:ak (a.take b.length) b with
 |true=>rw[h1] at t1;rw[Xq h1,gA];exact⟨_,cK (bM (t1 ..) (cK (fW (ou (aB rfl (af rfl) (aB rfl (bO (bL rfl) rfl (aB rfl (af rfl) aE) lb) (aB rfl (jc (af rfl) (iO (bO (bL rfl) rfl (aB rfl (af rfl) aE) lb) λO=>rfl) jD (Cz hb)) (aB rfl aS aE))))) λO=>rfl) nofun)) nofun⟩
 |false=>
  rw[h1] at t1;cases h2:ak (b.take a.length) a with
  |true=>rw[h2] at t2;rw[Xp h1 h2,gA];exact⟨_,aj (bM (t1 ..) aO) (cK (bM (t2 ..) (cK (fW (ou (aB rfl (af rfl) (aB rfl (bO (bL rfl) rfl (aB rfl (af rfl) aE) la) (aB rfl (jc (af rfl) (iO (bO (bL rfl) rfl (aB rfl (af rfl) aE) la) λO=>rfl) jD (Cz ha)) (aB rfl aS aE))))) λO=>rfl) nofun)) nofun)⟩
  |false=>
   rw[h2] at t2;have lp:∃g,bw a a b 0=(a,g,[],false)/\RW P d true (gB tA) (bz tA) (iW tA) [some (.str a),some (.str b),some (.int (0:Nat))] H .next [some (.str a),some (.str b),some (.int (g:Nat))] H:=by
    refine Xo (o:=a) (a0:=a) (b0:=b) (R:=λg0=>∃g,bw a a b 0=(a,g,[],false)/\RW P d true (gB tA) (bz tA) (iW tA) [some (.str a),some (.str b),some (.int (g0:Nat))] H .next [some (.str a),some (.str b),some (.int (g:Nat))] H) (λg x y na nb e r=>?_) (λg x y na nb e el=>?_) (g:=0) rfl rfl rfl h1 h2
    ·have tt:RT P d true (gB tA) [some (.str a),some (.str b),some (.int (g:Nat))] H true [some (.str a),some (.str b),some (.int (g:Nat))] H:=bH (dP (af rfl) (af rfl) (uK na)) (dP (af rfl) (af rfl) (uK nb)) (by rw[nA,EO,e]);refine aq r λg' r1 r2=>⟨g',r1,kD (f:=.next) tt (aj (HO rfl aS rfl rfl) aO) rfl r2⟩
    ·exact⟨g,el,mU (bH (dP (af rfl) (af rfl) (uK na)) (dP (af rfl) (af rfl) (uK nb)) (by rw[nA,EO,e])) aO⟩
   refine aq lp λg el r=>?_;rw[el];exact⟨_,aj (bM (t1 ..) aO) (aj (bM (t2 ..) aO) (aj (bC aS (λO=>rfl) rfl rfl) (aj (kF r) (cK (fW (ou (aB rfl (af rfl) (aB rfl (af rfl) (aB rfl aS (aB rfl aS aE))))) λO=>rfl) nofun))))⟩
end
end
section
theorem HD{x:aT}:∀(n:Nat) {l:List aT} {p:Nat},(iM x n l p).length=l.length:=by
 intro n
 induction n with
 |zero=>intro l p;exact cB
 |succ n ih=>
  intro l p;cases p with
  |zero=>exact cB
  |succ p=>
   show(match ae l (p/2) with
    |none=>ai l x (p+1)
    |some y=>match fY x y with
     |true=>iM x n (ai l y (p+1)) (p/2)
     |false=>ai l x (p+1)).length=_
   cases ae l (p/2) with
   |none=>exact cB
   |some y=>
    show(match fY x y with
     |true=>iM x n (ai l y (p+1)) (p/2)
     |false=>ai l x (p+1)).length=_
    cases fY x y with
    |true=>exact ih.trans cB
    |false=>exact cB
def R2:∀(n:Nat) {l:List aT} {p:Nat},(gp n l p).1.length=l.length:=by
 intro n
 induction n with
 |zero=>intro l p;rfl
 |succ n ih=>
  intro l p;rw[GR];cases Nat.blt (2*p+1) l.length with
  |false=>rfl
  |true=>cases ae l (gi l (2*p+1)) with
   |none=>rfl
   |some y=>exact ih.trans cB
def YH{x:aT}{l:List aT}:(oJ x l).length=l.length+1:=by unfold oJ;rw[HD,bF];rfl
def YL{x:aT}{l:List aT}:(gx l x).2.length=l.length:=by
 cases l with
 |nil=>rfl
 |cons y r=>show(og x (x::r)).length=_;unfold og;rw[HD,cB,R2];rfl
def Ka:∀(r:List aT) (x:aT),x::r=gf x r++[gF x r]:=by
 intro r
 induction r with
 |nil=>intro x;rfl
 |cons y r ih=>intro x;exact congrArg (x::·) (ih y)
def Wo(k:Ky)(l:List Ky):aU k l.reverse=aU k l:=by rw[pg,mY,mY,wu]
noncomputable def eG(R:List (Ky×Nat)):List (List Nat×AV):=(R.reverse).map λp=>(p.1,.int p.2)
def KX(k:Ky):∀R:List (Ky×Nat),di k R=aU k (R.map (·.1)):=by
 intro R
 induction R with
 |nil=>rfl
 |cons p R ih=>show(match ak p.1 k with|true=>true|false=>di k R)=(match ak p.1 k with|true=>true|false=>aU k (R.map (·.1)));rw[ih]
def Us(R:List (Ky×Nat)):(eG R).map (·.1)=(R.map (·.1)).reverse:=by unfold eG;rw[cG,<- List.map_reverse];rfl
def Er(k:Ky)(R:List (Ky×Nat)):c5 k (eG R)=di k R:=by rw[yk,KX,Us,Wo]
def JF{o:Ky}:∀{a b:Ky} {g:Nat},(bw o a b g).1=o:=by
 intro a
 induction a with
 |nil=>intro b g;rfl
 |cons x a ih=>
  intro b g;cases b with
  |nil=>rfl
  |cons y b=>
   show(match Nat.beq x y with|true=>bw o a b (g+1)|false=>(o,g,[],false)).1=_;cases Nat.beq x y with
   |true=>exact ih
   |false=>rfl
def Xl{o o':Ky}:∀{a b:Ky} {g:Nat},(bw o a b g).2=(bw o' a b g).2:=by
 intro a
 induction a with
 |nil=>intro b g;rfl
 |cons x a ih=>
  intro b g;cases b with
  |nil=>rfl
  |cons y b=>
   show(match Nat.beq x y with|true=>bw o a b (g+1)|false=>(o,g,[],false)).2=(match Nat.beq x y with|true=>bw o' a b (g+1)|false=>(o',g,[],false)).2;cases Nat.beq x y with
   |true=>exact ih
   |false=>rfl
def Se(K0:Hp)(h:List aT)(F:fS)(H:Hp):Prop:=ba K0.length K0 H/\K0.length+4<=H.length/\ae H K0.length=some (dz h)/\ae H (K0.length+1)=some (.list ((F.2.1.reverse).map fC))/\(∃ep,ae H (K0.length+2)=some (.dict ep (eG F.1)))/\ae H (K0.length+3)=some (.list ((F.2.2.reverse).map λn:Nat=>.int n))
section
variable {K0 H:Hp}{h:List aT}{F:fS}
def qa{a i j:Nat}(h:i≠j):a+i≠a+j:=λe=>h (Nat.add_left_cancel e)
def oA{a j:Nat}(h:0≠j):a≠a+j:=qa (a:=a) (i:=0) h
def Se.heap{h':List aT}(S:Se K0 h F H):Se K0 h' F (ai H (dz h') K0.length):=by obtain⟨l,n,a,b,⟨ep,c⟩,e⟩:=S;exact⟨l.trans (ba.upd (bf _)),by rw[cB];exact n,cV (bk a),(bh (oA (by decide))).trans b,⟨ep,(bh (oA (by decide))).trans c⟩,(bh (oA (by decide))).trans e⟩
def Se.JE{L:List bT}(S:Se K0 h F H):Se K0 h (F.1,L,F.2.2) (ai H (.list ((L.reverse).map fC)) (K0.length+1)):=by obtain⟨l,n,a,b,⟨ep,c⟩,e⟩:=S;exact⟨l.trans (ba.upd (eB ..)),by rw[cB];exact n,(bh (oA (by decide)).symm).trans a,cV (bk b),⟨ep,(bh (qa (by decide))).trans c⟩,(bh (qa (by decide))).trans e⟩
def Se.Ut{R:List (Ky×Nat)}{ep:Nat}(S:Se K0 h F H):Se K0 h (R,F.2) (ai H (.dict ep (eG R)) (K0.length+2)):=by obtain⟨l,n,a,b,⟨ep',c⟩,e⟩:=S;exact⟨l.trans (ba.upd (eB ..)),by rw[cB];exact n,(bh (oA (by decide)).symm).trans a,(bh (qa (by decide))).trans b,⟨ep,cV (bk c)⟩,(bh (qa (by decide))).trans e⟩
def Se.dbl{D:List Nat}(S:Se K0 h F H):Se K0 h (F.1,F.2.1,D) (ai H (.list ((D.reverse).map λn:Nat=>.int n)) (K0.length+3)):=by obtain⟨l,n,a,b,⟨ep,c⟩,e⟩:=S;exact⟨l.trans (ba.upd (eB ..)),by rw[cB];exact n,(bh (oA (by decide)).symm).trans a,(bh (qa (by decide))).trans b,⟨ep,(bh (qa (by decide))).trans c⟩,cV (bk e)⟩
end
noncomputable def kz(h:List aT)(F:fS):Nat:=h.length+(F.1.length+(F.2.1.length+F.2.2.length))
structure Tl where
 k:Option AV
 j:Option AV
 r:Option AV
 g:Option AV
 n:Option AV
 f:Option AV
 l:Option AV
 w:Option AV
 y:Option AV
noncomputable def dO(aw n:Nat)(t:Tl):aC:=[some (.ref aw),some (.ref n),some (.ref (n+1)),some (.ref (n+2)),some (.ref (n+3)),t.k,t.j,t.r,t.g,t.n,t.f,t.l,t.w,t.y]
abbrev CC:S:=bg f7.body 4
abbrev pR:S:=bg (bz CC) 0
abbrev w7:S:=bg f7.body 5
section
variable {d aw:Nat}{K0 H:Hp}{h:List aT}{F:fS}{ws:List Ky}
def HI{P:bP}{q t:Bool}{U ρ1:aC}{H1:Hp}{a b:C}{p:Pos}{v:AV}(h1:RE P d q (.sub a b p) U H v ρ1 H1)(h:gR v H1=some t):RT P d q (.sub a b p) U H t ρ1 H1:=.step (.bind h1 (.rd h))
def HB{b:Nat}{x:AV}{l:bT}(hz:h.length<az)(S:Se K0 h F H)(hf:l.2.2.2=true)(ex:x=cm (((b+l.2.1:Nat):Int),l.2.2.1)):RC P (d+2) (.glob 20) [.ref K0.length,x] H .none (ai H (dz (ck b l h)) K0.length)/\Se K0 (ck b l h) F (ai H (dz (ck b l h)) K0.length):=by
 refine⟨?_,S.heap⟩;rw[ex];have e:ck b l h=oJ (((b+l.2.1:Nat):Int),l.2.2.1) h:=by unfold ck;rw[hf]
 rw[e];exact UD S.2.2.1 hz
def xw{b:Nat}{l:bT}:(ck b l h).length<=h.length+1:=by
 unfold ck;cases l.2.2.2 with
 |true=>exact aW YH
 |false=>exact i4 _
def zZ{α β:Type}(f:α->β)(x:α)(l:List α):(l.reverse).map f++[f x]=((x::l).reverse).map f:=by rw[List.reverse_cons,ew];rfl
def Tf{j k:Nat}{a b:Ky}{t:Tl}(hw:ae K0 aw=some (.list (ws.map .str)))(hz:kz h F<4000)(ha:ae ws j=some a)(hb:ae ws k=some b)(la:a.length<=az)(lb:b.length<=az)(ek:t.k=some (.int (k:Nat)))(ej:t.j=some (.int (j:Nat)))(S:Se K0 h F H):
  ∃H' t',RB P (d+3) true (bz pR) (dO aw K0.length t) H .next (dO aw K0.length t') H'/\Se K0 (ck 0 (bw [] a b 0) h) (F.1,bw [] a b 0::F.2.1,F.2.2) H'/\t'.k=t.k:=by
 have nj:=(S.1.low aw (bk hw)).trans hw;have rl:=Ii (d:=d+2) (H:=H) la lb;have e1:∀{i:Nat} {c:Ky},ae ws i=some c->lB (.ref aw) (.int i) H=some (.str c):=λ{i c} h=>sS nj (show ae (ws.map AV.str) i=_ by rw[il,h];rfl);have eo:=JF (o:=a) (a:=a) (b:=b) (g:=0);have es:=Xl (o:=[]) (o':=a) (a:=a) (b:=b) (g:=0);have e0:=JF (o:=[]) (a:=a) (b:=b) (g:=0);generalize bw a a b 0=q at *;generalize bw [] a b 0=q0 at *;obtain⟨o,g,n,f⟩:=q;obtain⟨o0,s0⟩:=q0;obtain rfl:o0=[]:=e0;obtain rfl:s0=(g,n,f):=es;obtain rfl:o=a:=eo;have z:(4000:Nat)<=az:=by decide
 have hh:h.length<az:=dU (cU (eB _ _) hz) z;have hL:F.2.1.length<az:=dU (cU (aM (eB _ _) (aM (i5 _ _) (i5 _ _))) hz) z;have ap:=kR (v:=fC ([],g,n,f)) S.2.2.2.1 (by rw[aJ,ie];exact hL);rw[zZ] at ap;have S1:=S.JE (L:=([],g,n,f)::F.2.1)
 let t1:Tl:={t with r:=some (.str o),g:=some (.int (g:Nat)),n:=some (.str n),f:=some (.bool f)}
 have s1:∀p1 p2 p3 p4 p5 p6 p7 p8 p9 uV Am Al Ak Ip,RS P (d+3) true (.asg (.cons (.tup (.cons (.var "rest" 7 p1) (.cons (.var "gain" 8 p2) (.cons (.var "new" 9 p3) (.cons (.var "fits" 10 p4) .nil)))) 0 p5) .nil) (.call (.glob "_law_lay" 6 p6) (.cons (.sub (.var "words" 0 p7) (.var "j" 6 p8) p9) (.cons (.sub (.var "words" 0 uV) (.var "k" 5 Am) Al) .nil)) Ak) Ip) (dO aw K0.length t) H .next (dO aw K0.length t1) H:=λp1 p2 p3 p4 p5 p6 p7 p8 p9 uV Am Al Ak Ip=>uQ (bO (bL rfl) rfl (aB rfl (dP (af rfl) (af (show some t.j=_ by rw[ej])) (e1 ha)) (aB rfl (dP (af rfl) (af (show some t.k=_ by rw[ek])) (e1 hb)) aE)) rl) (λO=>rfl) rfl
 cases f with
 |false=>refine⟨_,t1,aj (s1 ..) (aj (eJ (eM (mk:=.list) (af rfl) (gG S.2.2.2.1) rfl rfl (aB rfl (ou (aB rfl aS (aB rfl (af rfl) (aB rfl (af rfl) (aB rfl (af rfl) aE))))) aE) ap)) (aj (bM (t:=false) (kE (af rfl) rfl) aO) aO)),S1,rfl⟩
 |true=>refine ua (HB (d:=d+1) (b:=0) (l:=([],g,n,true)) hh S1 rfl (show cm ((g:Nat),n)=_ by rw[gA])) λr2 S2=>?_;refine⟨_,t1,aj (s1 ..) (aj (eJ (eM (mk:=.list) (af rfl) (gG S.2.2.2.1) rfl rfl (aB rfl (ou (aB rfl aS (aB rfl (af rfl) (aB rfl (af rfl) (aB rfl (af rfl) aE))))) aE) ap)) (aj (bM (t:=true) (kE (af rfl) rfl) (aj (eJ (bO (bL rfl) rfl (aB rfl (af rfl) (aB rfl (ou (aB rfl (af rfl) (aB rfl (af rfl) aE))) aE)) r2)) aO)) aO)),S2,rfl⟩
end
end
section
abbrev Th:S:=bg (iW (bg (bz w7) 1)) 0
abbrev HC:S:=bg (bz Th) 1
section
variable {d aw:Nat}{K0 H:Hp}{h:List aT}{F:fS}{ws:List Ky}
def Te{r:Ky}{n:Nat}{R:List (Ky×Nat)}{D:List Nat}(hw:ae K0 aw=some (.list (ws.map .str)))(lw:∀w∈ws,w.length<=az)(lr:r.length<=az):∀(k i:Nat) {h:List aT} {L:List bT} {H:Hp} {t:Tl},i+k=ws.length->kz h (R,L,D)+2*k<4000->t.r=some (.str r)->t.l=some (.int n)->Se K0 h (R,L,D) H ->
  ∃H' t',RF P (d+3) (gC HC) (.lst aw i) (bz HC) (dO aw K0.length t) H .next (dO aw K0.length t') H'/\Se K0 (fB r n (ws.drop i) h L).1 (R,(fB r n (ws.drop i) h L).2,D) H':=by
 intro k
 induction k with
 |zero=>intro i h L H t hk hz er el S;have nj:=(S.1.low aw (bk hw)).trans hw;rw[pD (by exact hU ‹_›)];refine⟨H,t,gS ?_,S⟩;rw[oE nj,pY (by rw[aJ];exact hU ‹_›)];rfl
 |succ k ih=>
  intro i h L H t hk hz er el S;have nj:=(S.1.low aw (bk hw)).trans hw;refine ue (je (l:=ws) (n:=i) (by exact pb ‹_›)) λw hx=>?_;have iR:(bJ.lst aw i).next H=some (some (.str w,.lst aw (i+1))):=by rw[oE nj,il,hx];rfl
  have rl:=Ii (d:=d+2) (H:=H) lr (lw w (Df hx));rw[j7 hx];show ∃H' t',_/\Se K0 (fB r n (ws.drop (i+1)) (ck n (bw r r w 0) h) (bw r r w 0::L)).1 (R,(fB r n (ws.drop (i+1)) (ck n (bw r r w 0) h) (bw r r w 0::L)).2,D) H';have z:(4000:Nat)<=az:=by decide
  have ya:kz h (R,L,D)<4000:=cU (eB _ _) hz;have hh:h.length<az:=dU (cU (eB _ _) ya) z;have hL:L.length<az:=dU (cU (aM (eB _ D.length) (aM (i5 _ R.length) (i5 _ h.length))) ya) z;generalize bw r r w 0=q at *;have ap:=kR (v:=fC q) S.2.2.2.1 (by rw[aJ,ie];exact hL);rw[zZ] at ap;have S1:=S.JE (L:=q::L);have Kk:∀{h'},h'.length<=h.length+1->kz h' (R,q::L,D)+2*k<4000:=λ{h'} e=>by have e1:kz h' (R,q::L,D)=h'.length+(R.length+(L.length+1+D.length)):=rfl;have e2:kz h (R,L,D)=h.length+(R.length+(L.length+D.length)):=rfl;exact Pl e2 e1 e hz
  have ih:=λ{h':List aT} {H':Hp} (e:h'.length<=h.length+1) (S':Se K0 h' (R,q::L,D) H')=>ih (i+1) (t:={t with w:=some (.str w),y:=some (fC q)}) (by exact km ‹_›) (Kk e) er el S';have s1:∀p1 p2 p3 p4 p5 p6,RS P (d+3) true (.asg (.cons (.var "lay" 13 p1) .nil) (.call (.glob "_law_lay" 6 p2) (.cons (.var "rest" 7 p3) (.cons (.var "word" 12 p4) .nil)) p5) p6) (dO aw K0.length {t with w:=some (.str w)}) H .next (dO aw K0.length {t with w:=some (.str w),y:=some (fC q)}) H:=λp1 p2 p3 p4 p5 p6=>bC (bO (bL rfl) rfl (aB rfl (af (show some t.r=_ by rw[er])) (aB rfl (af rfl) aE)) rl) (λO=>rfl) rfl rfl
  obtain⟨o,g,m,f⟩:=q;cases f with
  |false=>refine dN (ih (i4 _) S1) λH' t' r2 S'=>⟨H',t',?_,S'⟩;exact e8 (f:=.next) iR rfl (aj (s1 ..) (aj (eJ (eM (mk:=.list) (af rfl) (gG S.2.2.2.1) rfl rfl (aB rfl (af rfl) aE) ap)) (aj (bM (t:=false) (HI (dP (af rfl) aS rfl) rfl) aO) aO))) rfl r2
  |true=>refine ua (HB (d:=d+1) (b:=n) (l:=(o,g,m,true)) hh S1 rfl rfl) λr1 S2=>?_;refine dN (ih xw S2) λH' t' r2 S'=>⟨H',t',?_,S'⟩;exact e8 (f:=.next) iR rfl (aj (s1 ..) (aj (eJ (eM (mk:=.list) (af rfl) (gG S.2.2.2.1) rfl rfl (aB rfl (af rfl) aE) ap)) (aj (bM (t:=true) (HI (dP (af rfl) aS rfl) rfl) (aj (eJ (bO (bL rfl) rfl (aB rfl (af rfl) (aB rfl (ou (aB rfl (du (af (show some t.l=_ by rw[el])) (dP (af rfl) aS rfl) (kT (i:=(n:Nat)) (j:=(g:Nat)) (k:=((n+g:Nat):Int)) rfl)) (aB rfl (dP (af rfl) aS rfl) aE))) aE)) r1)) aO)) aO))) rfl r2
def QI{r:Ky}{n:Nat}:∀(ws:List Ky) {h:List aT} {L:List bT},(fB r n ws h L).1.length<=h.length+ws.length/\(fB r n ws h L).2.length=L.length+ws.length:=by
 intro ws
 induction ws with
 |nil=>intro h L;exact⟨bf _,rfl⟩
 |cons w ws ih=>intro h L;have:=ih (h:=ck n (bw r r w 0) h) (L:=bw r r w 0::L);have p:=xw (b:=n) (h:=h) (l:=bw r r w 0);show(fB r n ws (ck n (bw r r w 0) h) (bw r r w 0::L)).1.length<=h.length+(ws.length+1)/\(fB r n ws (ck n (bw r r w 0) h) (bw r r w 0::L)).2.length=L.length+(ws.length+1);have e:(bw r r w 0::L).length=L.length+1:=rfl;exact Pk e p this
def Tg(hw:ae K0 aw=some (.list (ws.map .str)))(lw:∀w∈ws,w.length<=az)(l3:ws.length=3):∀(m:Nat) {h:List aT} {F R:fS} {H:Hp} {t:Tl},iL ws m h F=some R->kz h F+8*m<3000->Se K0 h F H ->
  ∃H' t',RW P (d+3) true (gB w7) (bz w7) (iW w7) (dO aw K0.length t) H .next (dO aw K0.length t') H'/\Se K0 [] R H'/\kz [] R<3000:=by
 intro m
 induction m with
 |zero=>intro h F R H t e;exact aR e
 |succ m ih=>
  intro h F R H t e hz S;cases h with
  |nil=>obtain rfl:=sj e;exact⟨H,t,mU (kE (af rfl) (wK S.2.2.1)) aO,S,cU (eB ..) hz⟩
  |cons x0 h0=>
   have e:(match(gx (gf x0 h0) (gF x0 h0)).1.1 with
    |.negSucc _=>none
    |.ofNat n=>match fc (gx (gf x0 h0) (gF x0 h0)).1.2 with
     |true=>iL ws m (gx (gf x0 h0) (gF x0 h0)).2 (F.1,F.2.1,n::F.2.2)
     |false=>match di (gx (gf x0 h0) (gF x0 h0)).1.2 F.1 with
      |true=>iL ws m (gx (gf x0 h0) (gF x0 h0)).2 F
      |false=>match Nat.blt (gx (gf x0 h0) (gF x0 h0)).1.2.length 40 with
       |false=>none
       |true=>iL ws m (fB (gx (gf x0 h0) (gF x0 h0)).1.2 n ws (gx (gf x0 h0) (gF x0 h0)).2 F.2.1).1 (((gx (gf x0 h0) (gF x0 h0)).1.2,n)::F.1,(fB (gx (gf x0 h0) (gF x0 h0)).1.2 n ws (gx (gf x0 h0) (gF x0 h0)).2 F.2.1).2,F.2.2))=some R:=e
   have hp:=S.2.2.1;rw[Ka] at hp;have hl:(gf x0 h0).length=h0.length:=by have:=congrArg List.length (Ka h0 x0);rw[bF] at this;exact(Nat.succ.inj this).symm
   have ez:kz (x0::h0) F=h0.length+1+(F.1.length+(F.2.1.length+F.2.2.length)):=rfl;have rp:=UG (d:=d) hp (by rw[hl];exact aM (by exact Pj ez hz:h0.length<=3000) (by decide));have pl:=YL (x:=gF x0 h0) (l:=gf x0 h0);have S1:=S.heap (h':=(gx (gf x0 h0) (gF x0 h0)).2);have tr:RT P (d+3) true (gB w7) (dO aw K0.length t) H true (dO aw K0.length t) H:=kE (af rfl) (wK S.2.2.1);generalize gx (gf x0 h0) (gF x0 h0)=q at *;obtain⟨⟨n,r⟩,h⟩:=q;cases n with
   |negSucc n=>exact aR e
   |ofNat n=>
   let t1:Tl:={t with l:=some (.int (n:Nat)),r:=some (.str r)}
   have s1:∀p1 p2 p3 p4 p5 p6 p7,RS P (d+3) true (.asg (.cons (.tup (.cons (.var "length" 11 p1) (.cons (.var "rest" 7 p2) .nil)) 0 p3) .nil) (.call (.glob "heappop" 21 p4) (.cons (.var "heap" 1 p5) .nil) p6) p7) (dO aw K0.length t) H .next (dO aw K0.length t1) (ai H (dz h) K0.length):=λp1 p2 p3 p4 p5 p6 p7=>uQ (bO (bL rfl) rfl (aB rfl (af rfl) aE) rp) (λO=>rfl) rfl
   have te:∀p1 p2 p3,RT P (d+3) true (.cmp .Eq (.var "rest" 7 p1) (.cst (.str "") (.str []) 0 p2) p3) (dO aw K0.length t1) (ai H (dz h) K0.length) (ak r []) (dO aw K0.length t1) (ai H (dz h) K0.length):=λp1 p2 p3=>bH (af rfl) aS nA;have e:(match fc r with
     |true=>iL ws m h (F.1,F.2.1,n::F.2.2)
     |false=>match di r F.1 with
      |true=>iL ws m h F
      |false=>match Nat.blt r.length 40 with
       |false=>none
       |true=>iL ws m (fB r n ws h F.2.1).1 ((r,n)::F.1,(fB r n ws h F.2.1).2,F.2.2))=some R:=e
   have pl:h.length=(gf x0 h0).length:=pl;cases r with
   |nil=>have ap:=kR (v:=.int (n:Nat)) S1.2.2.2.2.2 (by rw[aJ,ie];exact dU (by exact Pg ez hz:F.2.2.length<3000) (by decide));rw[zZ (λn:Nat=>AV.int n)] at ap;refine dN (ih (t:=t1) e (by show h.length+(F.1.length+(F.2.1.length+(F.2.2.length+1)))+8*m<3000;exact Pf ‹_› ez hl hz) S1.dbl) λH' t' r2 S'=>⟨H',t',?_,S'⟩;exact kD (f:=.next) tr (aj (s1 ..) (aj (bM (t:=true) (te ..) (aj (eJ (eM (mk:=.list) (af rfl) (gG S1.2.2.2.2.2) rfl rfl (aB rfl (af rfl) aE) ap)) aO)) aO)) rfl r2
   |cons c r=>
    have e:(match di (c::r) F.1 with
      |true=>iL ws m h F
      |false=>match Nat.blt (c::r).length 40 with
       |false=>none
       |true=>iL ws m (fB (c::r) n ws h F.2.1).1 ((c::r,n)::F.1,(fB (c::r) n ws h F.2.1).2,F.2.2))=some R:=e
    refine ue S1.2.2.2.2.1 λep hd=>?_;have ti:∀p1 p2 p3,RT P (d+3) true (.cmp .NotIn (.var "rest" 7 p1) (.var "reached" 3 p2) p3) (dO aw K0.length t1) (ai H (dz h) K0.length) (!di (c::r) F.1) (dO aw K0.length t1) (ai H (dz h) K0.length):=λp1 p2 p3=>bH (af rfl) (af rfl) (by have:=AU (k:=c::r) hd;rw[Er] at this;show(gU _ _ _).map (!·)=_;rw[show gU (.str (c::r)) (.ref (K0.length+2)) (ai H (dz h) K0.length)=_ from this];rfl)
    cases hr:di (c::r) F.1 with
    |true=>rw[hr] at e ti;refine dN (ih (t:=t1) e (by show h.length+(F.1.length+(F.2.1.length+F.2.2.length))+8*m<3000;exact Pe ‹_› ez hl hz) S1) λH' t' r2 S'=>⟨H',t',?_,S'⟩;exact kD (f:=.next) tr (aj (s1 ..) (aj (bM (t:=false) (te ..) (aj (bM (t:=false) (ti ..) aO) aO)) aO)) rfl r2
    |false=>
     rw[hr] at e ti;cases hb:Nat.blt (c::r).length 40 with
     |false=>rw[hb] at e;exact aR e
     |true=>
     rw[hb] at e;have lr:(c::r).length<=az:=aM (fF (bG.mp hb)) (by decide);have lR:(eG F.1).length<az:=by unfold eG;rw[aJ,ie];exact dU (by exact Pd ez hz:F.1.length<3000) (by decide)
     have st:=w4 (k:=c::r) (v:=.int (n:Nat)) hd lR;have nk:(c::r)∉(eG F.1).map (·.1):=λhm=>by have:=(mY _ _).mpr hm;rw[<- yk,Er,hr] at this;exact nomatch this
     have EP:eH (c::r) (.int (n:Nat)) (eG F.1)=eG ((c::r,n)::F.1):=by rw[(C0 nk).1];exact zZ (λp:Ky×Nat=>(p.1,AV.int p.2)) (c::r,n) F.1
     rw[EP,Er,hr] at st;have S2:=S1.Ut (R:=(c::r,n)::F.1) (ep:=ep+1);have YA:=(S2.1.low aw (bk hw)).trans hw;refine dN (Te (d:=d) (r:=c::r) (n:=n) (t:=t1) hw lw lr ws.length 0 (gA _) (by show h.length+(F.1.length+1+(F.2.1.length+F.2.2.length))+2*ws.length<4000;exact Pc ‹_› ez hl hz l3) rfl rfl S2) λH3 t3 r3 S3=>?_;rw[qD] at S3;have wl:=QI (r:=c::r) (n:=n) ws (h:=h) (L:=F.2.1);refine dN (ih (t:=t3) e (by show(fB (c::r) n ws h F.2.1).1.length+(F.1.length+1+((fB (c::r) n ws h F.2.1).2.length+F.2.2.length))+8*m<3000;exact Pb wl ‹_› ez hl hz l3) S3) λH' t' r2 S'=>⟨H',t',?_,S'⟩;exact kD (f:=.next) tr (aj (s1 ..) (aj (bM (t:=false) (te ..) (aj (bM (t:=true) (ti ..) (aj (pS (af rfl) (λO=>rfl) (af rfl) (af rfl) st) (aj (iN (af rfl) (lC YA) r3) aO))) aO)) aO)) rfl r2
end
end
section
section
variable {d aw:Nat}{K0 H:Hp}{a b c:Ky}
def xp{k:Nat}(h:k<=az):RC P d (.glob 11) [.int k] H (.dF 0 k 1) H:=gj (b:=.range) rfl (by
 show aI (oy 0 k 1) (some (AV.dF 0 k 1,H))=_;have:oy 0 k 1=true:=by show(Nat.ble 0 az&&Nat.ble k az&&true&&Nat.ble 1 az)=true;rw[eO.mpr h];rfl
 rw[this];rfl)
def Uz{R:fS}(hw:ae K0 aw=some (.list ([a,b,c].map .str)))(lw:∀w∈[a,b,c],w.length<=az)(e:pQ a b c=some R):
  ∃H',RC P (d+4) (.glob 7) [.ref aw] K0 (.tup [.ref (K0.length+2),.ref (K0.length+1),.lst (((R.2.2.reverse).map λn:Nat=>AV.int n).take 1)]) H'/\Se K0 [] R H'/\kz [] R<3000:=by
 have la:=lw a bA;have lb:=lw b (bS _ bA);have lc:=lw c (bS _ (bS _ bA));have S0:Se K0 [] ([([],0)],[],[]) (K0++[.list [],.list [],.dict 1 [([],.int 0)],.list []]):=⟨ba.app _ (bf _),by rw[bF];exact bf _,dX,jG (n:=1),⟨1,jG (n:=2)⟩,jG (n:=3)⟩
 let t0:Tl:=⟨none,none,none,none,none,none,none,none,none⟩
 have turn:∀{k j:Nat} {x y:Ky} {l:List AV} {h:List aT} {F F':fS} {H:Hp} {t:Tl} (Q:Hp->Tl->Prop),ae [a,b,c] j=some x->ae [a,b,c] k=some y->x.length<=az->y.length<=az->kz h F<4000->t.k=some (.int (k:Nat))->Se K0 h F H->(F.1,bw [] x y 0::F.2.1,F.2.2)=F' ->
   (∀{H1 t1},Se K0 (ck 0 (bw [] x y 0) h) F' H1->t1.k=some (.int (k:Nat))->∃H' t',RF P (d+3) (gC pR) (.fix l) (bz pR) (dO aw K0.length t1) H1 .next (dO aw K0.length t') H'/\Q H' t') ->
   ∃H' t',RF P (d+3) (gC pR) (.fix (.int (j:Nat)::l)) (bz pR) (dO aw K0.length t) H .next (dO aw K0.length t') H'/\Q H' t':=λ{k j x y l h F F' H t} Q hx hy lx ly hz ek S eF r=>by
  refine bB (Tf (d:=d) (t:={t with j:=some (.int (j:Nat))}) hw hz hx hy lx ly ek rfl S) λH1 t1 r1 S1 ek1=>?_;rw[eF] at S1;refine dN (r S1 (ek1.trans ek)) λH' t' r2 q=>⟨H',t',e8 (f:=.next) rfl rfl r1 rfl r2,q⟩
 have dF:∀{k:Nat} {H:Hp} {t:Tl} {l:List AV} {H' t'} p1 p2 p3 p4,k<=3->t.k=some (.int (k:Nat))->eQ (.dF 0 k 1) H=some (.fix l)->RF P (d+3) (gC pR) (.fix l) (bz pR) (dO aw K0.length t) H .next (dO aw K0.length t') H'->RS P (d+3) true (.loop (gC pR) (.call (.glob "range" 11 p1) (.cons (.var "k" 5 p2) .nil) p3) (bz pR) p4) (dO aw K0.length t) H .next (dO aw K0.length t') H':=λ{k H t l H' t'} p1 p2 p3 p4 hk ek es r=>iN (bO (bL rfl) rfl (aB rfl (af (show some t.k=_ by rw[ek])) aE) (xp (aM hk (by decide)))) es r
 let l1:=bw [] a b 0
 let l2:=bw [] a c 0
 let l3:=bw [] b c 0
 have z0:∀{n:Nat},n<=3->∀h:List aT,h.length<=3->∀L:List bT,L.length=n->kz h ([([],0)],L,[])<4000:=λ{n} hn h hh L hL=>by show h.length+(1+(L.length+0))<4000;exact P8 hL hh hn
 have p0:(ck 0 l1 []).length<=1:=xw;have p1:(ck 0 l2 (ck 0 l1 [])).length<=2:=aM xw (sk p0);have p2:(ck 0 l3 (ck 0 l2 (ck 0 l1 []))).length<=3:=aM xw (sk p1);obtain⟨H1,t1,r1,S1,_⟩:=turn (k:=1) (j:=0) (l:=[]) (t:={t0 with k:=some (.int (1:Nat))}) (λH' t'=>Se K0 (ck 0 l1 []) ([([],0)],[l1],[]) H'/\t'.k=some (.int (1:Nat))) rfl rfl la lb (z0 (by decide:0<=3) [] (by decide) [] rfl) rfl S0 rfl λ{H1 t1} S ek=>⟨H1,t1,gS rfl,S,ek⟩;obtain⟨H2,t2,r2,S2,_⟩:=turn (k:=2) (j:=0) (l:=[.int (1:Nat)]) (t:={t1 with k:=some (.int (2:Nat))}) (λH' t'=>Se K0 (ck 0 l3 (ck 0 l2 (ck 0 l1 []))) ([([],0)],[l3,l2,l1],[]) H'/\t'.k=some (.int (2:Nat))) rfl rfl la lc (z0 (by decide:1<=3) _ (aM p0 (by decide)) [l1] rfl) rfl S1 rfl λ{H1 t1} S ek=>turn (k:=2) (j:=1) (l:=[]) (t:=t1) _ rfl rfl lb lc (z0 (by decide:2<=3) _ (aM p1 (by decide)) [l2,l1] rfl) ek S rfl λ{H1 t1} S ek=>⟨H1,t1,gS rfl,S,ek⟩
 have rK:RF P (d+3) (gC CC) (.fix [.int (0:Nat),.int (1:Nat),.int (2:Nat)]) (bz CC) (dO aw K0.length t0) (K0++[.list [],.list [],.dict 1 [([],.int 0)],.list []]) .next (dO aw K0.length t2) H2:=
  e8 (f:=.next) rfl (ρ1:=dO aw K0.length {t0 with k:=some (.int (0:Nat))}) rfl (aj (dF (k:=0) (t:={t0 with k:=some (.int (0:Nat))}) (l:=[]) _ _ _ _ (by decide) rfl rfl (gS rfl)) aO) rfl
   (e8 (f:=.next) rfl (ρ1:=dO aw K0.length {t0 with k:=some (.int (1:Nat))}) rfl (aj (dF (k:=1) (t:={t0 with k:=some (.int (1:Nat))}) (l:=[.int (0:Nat)]) _ _ _ _ (by decide) rfl rfl r1) aO) rfl
    (e8 (f:=.next) rfl (ρ1:=dO aw K0.length {t1 with k:=some (.int (2:Nat))}) rfl (aj (dF (k:=2) (t:={t1 with k:=some (.int (2:Nat))}) (l:=[.int (0:Nat),.int (1:Nat)]) _ _ _ _ (by decide) rfl rfl r2) aO) rfl (gS rfl)))
 refine dN (Tg (d:=d) hw lw rfl 100 (t:=t2) e (by show kz (ck 0 l3 (ck 0 l2 (ck 0 l1 []))) ([([],0)],[l3,l2,l1],[])+800<3000;show(ck 0 l3 (ck 0 l2 (ck 0 l1 []))).length+(1+(3+0))+800<3000;exact P7 p2) S2) λH' t' rW S'=>⟨H',?_,S'⟩;refine eS (fd:=f7) (fl:=.ret (.tup [.ref (K0.length+2),.ref (K0.length+1),.lst (((R.2.2.reverse).map λn:Nat=>AV.int n).take 1)])) (ρ1:=[some (.ref aw),none,none,none,none,none,none,none,none,none,none,none,none,none]) rfl rfl ?_ rfl;refine⟨dO aw K0.length t',?_⟩;refine aj (bC (e9 aE rfl) (λO=>rfl) rfl rfl) ?_;refine aj (bC (e9 aE rfl) (λO=>rfl) rfl rfl) ?_;refine aj (bC (Ic aS aS) (λO=>rfl) rfl rfl) ?_;refine aj (bC (e9 aE rfl) (λO=>rfl) rfl rfl) ?_;have eK:((((K0++[AO.list []])++[AO.list []])++[AO.dict 1 [([],.int 0)]])++[AO.list []])=K0++[.list [],.list [],.dict 1 [([],.int 0)],.list []]:=by rw[eW,eW,eW];rfl
 have e1:(K0++[AO.list []]).length=K0.length+1:=bF;have e2:((K0++[AO.list []])++[AO.list []]).length=K0.length+2:=by rw[bF,e1];rfl
 have e3:(((K0++[AO.list []])++[AO.list []])++[AO.dict 1 [([],.int 0)]]).length=K0.length+3:=by rw[bF,e2];rfl
 rw[eK,e1,e2,e3];have YB:ae (K0++[.list [],.list [],.dict 1 [([],.int 0)],.list []]) aw=some (.list ([a,b,c].map .str)):=cb hw;have ln:=xq (d:=d+3) YB (by decide:3<=az);have sl:kC (.ref (K0.length+3)) .none (.int 1) H'=some (.lst (((R.2.2.reverse).map λn:Nat=>AV.int n).take 1)):=by show((bx H' (K0.length+3)).bind λl=>some (AV.lst (l.take 1)))=_;rw[dy S'.1.2.2.2.2.2];rfl
 exact aj (iN (bO (bL rfl) rfl (aB rfl (bO (bL rfl) rfl (aB rfl (af rfl) aE) ln) aE) (xp (k:=3) (by decide))) rfl rK) (aj (kF rW) (cK (fW (ou (aB rfl (af rfl) (aB rfl (af rfl) (aB rfl (jc (af rfl) jD (iO aS λO=>rfl) sl) aE)))) λO=>rfl) nofun))
end
end
section
def KZ(k:Ky):∀g:List Ad,gX k g=rM k g:=by
 intro g
 induction g with
 |nil=>rfl
 |cons t g ih=>show(match ak t.1 k with|true=>true|false=>gX k g)=(ak t.1 k||rM k g);rw[ih];cases ak t.1 k<;>rfl
def DL(g:List Ad)(k:Ky):jJ g k=iB g k:=by
 unfold jJ iB;rw[KZ,fP]
 try (cases rM k g<;>rfl)
def VM(g:List Ad)(k:Ky)(f:Int->Int):xF g k f=ke g k f:=mZ _ _
def Sa(g:List Ad)(k x:Ky):uL g k x=qu g k x:=by
 unfold uL qu;rw[mZ];refine iI λt O=>?_;rw[fP]
 try (cases ak t.1 k<;>rfl)
def adk(g:List Ad)(l:bT):qt g l=match fc l.2.2.1 with|true=>g|false=>yT g l.2.2.1 [l.1]:=by unfold qt;rw[Sa,DL,VM,DL];rfl
section
variable {ns:List Nd}
def adp:lF (aX ns)=fo ns:=by unfold lF fo aX;rw[mZ,nz,sG,cG];rfl
def Ft:(aX ns).map (·.1)=ns.map (·.key):=by unfold aX;rw[cG];rfl
def Dh{k:Ky}{f:Int->Int}:∀{g:List Ad},(g.map (·.1)).Nodup->gE g k f=ke g k f:=by
 intro g
 induction g with
 |nil=>intro h;rfl
 |cons t g ih=>
  intro h;obtain⟨h1,h2⟩:=gN.mp h;show(match ak t.1 k with|true=>(t.1,f t.2.1,t.2.2)::g|false=>t::gE g k f)=(match ak t.1 k with|true=>(t.1,f t.2.1,t.2.2)|false=>t)::ke g k f;rw[ih h2];cases e:ak t.1 k with
  |false=>rfl
  |true=>
   refine congrArg (_::·) (sC g).symm |>.trans (congrArg (_::·) (iI λu hu=>?_));cases e3:ak u.1 k with
   |false=>rfl
   |true=>exact absurd (bU.mpr ⟨u,hu,(gz e3).trans (gz e).symm⟩) h1
def adq:∀(l:List Ky) {ns:List Nd},(ns.map (·.key)).Nodup->aX (s6 ns l)=lG (aX ns) l:=by
 intro l
 induction l with
 |nil=>intro ns h;rfl
 |cons k l ih=>intro ns h;show aX (s6 (eZ ns k λm=>{m with np:=-1}) l)=lG (gE (aX ns) k λO=>-1) l;rw[ih (by rw[pO (by intro _;rfl)];exact h),BM,Dh (by rw[Ft];exact h)]
def Nh(k:Ky):pZ ns k=gT (aX ns) k:=by
 unfold pZ
 induction ns with
 |nil=>rfl
 |cons n ns ih=>
  show _=(match ak n.key k with|true=>n.np|false=>gT (aX ns) k);rw[uq];cases ak n.key k with
  |true=>rfl
  |false=>exact ih
def Ng(k:Ky):qY ns k=fJ (aX ns) k:=by
 unfold qY
 induction ns with
 |nil=>rfl
 |cons n ns ih=>
  show _=(match ak n.key k with|true=>n.su|false=>fJ (aX ns) k);rw[uq];cases ak n.key k with
  |true=>rfl
  |false=>exact ih
def adv:∀(l:List Ky) (q:List Nd×List Ky),(q.1.map (·.key)).Nodup->(aX (l.foldl jK q).1,(l.foldl jK q).2)=bI kO l (aX q.1,q.2):=by
 intro l
 induction l with
 |nil=>intro q h;rfl
 |cons y l ih=>
  intro q h;show(aX (l.foldl jK (jK q y)).1,(l.foldl jK (jK q y)).2)=bI kO l (kO (aX q.1,q.2) y);rw[ih _ (by show((eZ q.1 y _).map (·.key)).Nodup;rw[pO (by intro _;rfl)];exact h)];have:(aX (jK q y).1,(jK q y).2)=kO (aX q.1,q.2) y:=by show(aX (eZ q.1 y λm=>{m with np:=pZ q.1 y-1}),match dQ (pZ q.1 y-1) 0 with|true=>q.2++[y]|false=>q.2)=(gE (aX q.1) y λO=>gT (aX q.1) y-1,match dQ (gT (aX q.1) y-1) 0 with|true=>bj q.2 [y]|false=>q.2);rw[BM,Nh,Dh (by rw[Ft];exact h),fP]
  rw[this]
def Jb{y:Ky}(h:gX y (aX ns)=true):y∈ns.map (·.key):=by rw[KZ] at h;exact aq (Eu.mp h) λn hn e=>bU.mpr ⟨n,hn,e⟩
def abp:∀(l:List Ky) (q:List Nd×List Ky),((l.foldl jK q).1).map (·.key)=q.1.map (·.key):=by
 intro l
 induction l with
 |nil=>intro q;rfl
 |cons y l ih=>intro q;exact(ih (jK q y)).trans (pO (by intro _;rfl))
def Md(q:List Nd×List Ky)(x:Ky):(g7 q x).1.map (·.key)=q.1.map (·.key):=(abp _ _).trans (pO (by intro _;rfl))
def aaC{i j:Int}(h:dQ i j=true):i=j:=by
 cases i with
 |ofNat m=>cases j with
  |ofNat n=>have h:Nat.beq n m=true:=h;rw[bW h]
  |negSucc n=>exact nomatch h
 |negSucc m=>cases j with
  |ofNat n=>exact nomatch h
  |negSucc n=>have h:Nat.beq m n=true:=h;rw[bW h]
def adu:∀(l:List Ky) {q:List Nd×List Ky} {R:List Ad×List Ky},(q.1.map (·.key)).Nodup->j8 l (aX q.1,q.2)=some R ->
  (∀r:List Nd×List Ky,∀pre x post,l=pre++x::post->r=pre.foldl g7 q->t9 r.1 x/\r.2.length+(qY r.1 x).length<az)/\(aX (l.foldl g7 q).1,(l.foldl g7 q).2)=R:=by
 intro l
 induction l with
 |nil=>intro q R hn e;refine⟨λr pre x post h=>?_,sj e⟩;cases pre<;>cases h
 |cons x l ih=>
  intro q R hn e;have e:(match dQ (gT (aX q.1) x) (-1)&&(iA (λy=>gX y (aX q.1)) (fJ (aX q.1) x)&&Nat.blt (q.2.length+(fJ (aX q.1) x).length) 1000) with
   |true=>j8 l (bI kO (fJ (aX q.1) x) (gE (aX q.1) x λO=>-2,q.2))
   |false=>none)=some R:=e
  cases hb:dQ (gT (aX q.1) x) (-1)&&(iA (λy=>gX y (aX q.1)) (fJ (aX q.1) x)&&Nat.blt (q.2.length+(fJ (aX q.1) x).length) 1000) with
  |false=>rw[hb] at e;exact aR e
  |true=>
  rw[hb] at e;have ed:bI kO (fJ (aX q.1) x) (gE (aX q.1) x λO=>-2,q.2)=(aX (g7 q x).1,(g7 q x).2):=by unfold g7;rw[adv _ _ (by rw[pO (by intro _;rfl)];exact hn),BM,Ng,Dh (by rw[Ft];exact hn)]
  rw[ed] at e;have dY:((g7 q x).1.map (·.key)).Nodup:=by rw[Md];exact hn
  refine ua (ih dY e) λi1 i2=>?_;refine⟨λr pre z post h er=>?_,i2⟩;refine Q0 hb λb1 b2 b3=>?_;cases pre with
  |nil=>
   obtain⟨rfl,rfl⟩:=nQ h;have er:q=r:=er.symm;subst er;have b1:=aaC b1;have b3:=bG.mp b3;rw[<- Ng] at b2 b3;rw[<- Nh] at b1;have hx:∃n∈q.1,n.key=x:=by
    cases hf:q.1.find? λn=>ak n.key x with
    |none=>unfold pZ at b1;rw[hf] at b1;cases b1
    |some n=>exact⟨n,List.mem_of_find?_eq_some hf,gz (List.find?_some (p:=λn:Nd=>ak n.key x) hf)⟩
   refine aq hx λn hm aa=>?_;subst aa;rw[IJ hn hm] at b1;refine⟨t9.mk ⟨n,hm,rfl,b1⟩ (λm Eb em y hy=>?_),nP b3 (by decide)⟩;obtain rfl:=tv hn m Eb n hm em;rw[GW hn hm] at b2;exact Jb (Na b2 y hy)
  |cons p pre=>obtain⟨e1,e2⟩:=nQ h;subst e1;exact i1 r pre z post e2 er
end
end
section
variable {g:List Ad}
def cT.mono{m n:Nat}(h:cT g n)(hm:m<=n):cT g m:=cT.mk (cU (mA hm _) h.len) λt ht=>cU (mA hm _) (h.dW t ht)
def adA(g:List Ad)(k:Ky):yT g k []=jJ g k:=by
 rw[DL];show ke (iB g k) k (λn=>n+0)=iB g k;unfold ke;have:(λt:Ad=>match ak t.1 k with|true=>(t.1,t.2.1+0,t.2.2)|false=>t)=λt=>t:=by
  funext t
  cases ak t.1 k with
  |true=>show(t.1,t.2.1+0,t.2.2)=t;rw[Int.add_zero]
  |false=>rfl
 exact(congrArg (λf=>(iB g k).map f) this).trans (sC _)
def cT.ado{k:Ky}{m:Nat}(h:cT g (m+1)):cT (yT g k []) m:=(h.key (k:=k)).chg (k:=k) (f:=(·+(([]:List Ky).length:Int)))
def cT.adn{k x:Ky}{m:Nat}(h:cT g (m+3)):cT (yT g k [x]) m:=(((h.key (k:=k)).chg (k:=k) (f:=(·+(([x]:List Ky).length:Int)))).key (k:=x)).su
def tH(x:Ky):ak x []=fc x:=by cases x<;>rfl
structure Ot where
 r:Option AV
 o:Option AV
 g:Option AV
 n:Option AV
 f:Option AV
 q:Option AV
 l:Option AV
 t:Option AV
 y:Option AV
noncomputable def fA(ar al s:Nat)(t:Ot):aC:=[some (.ref ar),some (.ref al),some (.ref s),t.r,t.o,t.g,t.n,t.f,t.q,t.l,t.t,t.y,none,none,none,none,none,none,none,none]
abbrev Iv:S:=bg f8.body 1
abbrev Iu:S:=bg f8.body 2
abbrev Vx:S:=bg f8.body 4
section
variable {dd ar al s d ep:Nat}{K0 H:Hp}
def Vs{R:List (Ky×Nat)}(hr:ae K0 ar=some (.dict ep (eG R))):∀(k i m:Nat) {g:List Ad} {H:Hp} {t:Ot},i+k=R.length->fh H s d K0.length g .none 0 0->ba K0.length K0 H->cT g (k+m) ->
  ∃H' t',RF P (dd+4) (gC Iv) (.dct ar i (eG R).length ep) (bz Iv) (fA ar al s t) H .next (fA ar al s t') H'/\ba K0.length K0 H'/\fh H' s d K0.length (bI (λg p=>jJ g p.1) ((R.reverse).drop i) g) .none 0 0/\cT (bI (λg p=>jJ g p.1) ((R.reverse).drop i) g) m:=by
 intro k
 induction k with
 |zero=>intro i m g H t hk S lw F;have Ea:=(lw.low ar (bk hr)).trans hr;rw[pD (by rw[ie];exact hU ‹_›)];refine⟨H,t,gS ?_,lw,S,F.mono (i5 ..)⟩;rw[vP Ea,pY (by unfold eG;rw[aJ,ie];exact hU ‹_›)];rfl
 |succ k ih=>
  intro i m g H t hk S lw F;have Ea:=(lw.low ar (bk hr)).trans hr;refine ue (je (l:=R.reverse) (n:=i) (by rw[ie];exact pb ‹_›)) λp hp=>?_;have iR:(bJ.dct ar i (eG R).length ep).next H=some (some (.str p.1,.dct ar (i+1) (eG R).length ep)):=by rw[vP Ea];unfold eG;rw[il,hp];rfl
  have F0:cT g (k+m+1):=by rw[ux] at F;exact F
  refine gQ (Ik (dd:=dd) (k:=p.1) (ps:=[]) S (F0.mono (i5 1 _))) λH1 r1 j4 S1=>?_;have F1:=F0.ado (k:=p.1);rw[adA] at S1 F1;rw[j7 hp];refine nZ (ih (i+1) m (t:={t with r:=some (.str p.1)}) (by exact km ‹_›) S1 (lw.trans j4) F1) λH' t' r2 jg S2 F2=>?_;exact⟨H',t',e8 (f:=.next) iR rfl (aj (eJ (mX (af rfl) (nh S.self rfl) (aB rfl (af rfl) aE) r1)) aO) rfl r2,jg,S2,F2⟩
def Vr{L:List bT}(hl:ae K0 al=some (.list (L.map fC))):∀(k i m:Nat) {g:List Ad} {H:Hp} {t:Ot},i+k=L.length->fh H s d K0.length g .none 0 0->ba K0.length K0 H->cT g (3*k+m) ->
  ∃H' t',RF P (dd+4) (gC Iu) (.lst al i) (bz Iu) (fA ar al s t) H .next (fA ar al s t') H'/\ba K0.length K0 H'/\fh H' s d K0.length (bI qt (L.drop i) g) .none 0 0:=by
 intro k
 induction k with
 |zero=>intro i m g H t hk S lw F;have yh:=(lw.low al (bk hl)).trans hl;rw[pD (by exact hU ‹_›)];refine⟨H,t,gS ?_,lw,S⟩;rw[oE yh,pY (by rw[aJ];exact hU ‹_›)];rfl
 |succ k ih=>
  intro i m g H t hk S lw F;have yh:=(lw.low al (bk hl)).trans hl;refine ue (je (l:=L) (n:=i) (by exact pb ‹_›)) λl hp=>?_;have iR:(bJ.lst al i).next H=some (some (fC l,.lst al (i+1))):=by rw[oE yh,il,hp];rfl
  rw[j7 hp];show ∃H' t',_/\_/\fh H' s d K0.length (bI qt (L.drop (i+1)) (qt g l)) .none 0 0
  let t1:Ot:={t with o:=some (.str l.1),g:=some (.int l.2.1),n:=some (.str l.2.2.1),f:=some (.bool l.2.2.2)}
  have tt:∀p1 p2 p3,RT P (dd+4) true (.cmp .NotEq (.var "new" 6 p1) (.cst (.str "") (.str []) 0 p2) p3) (fA ar al s t1) H (!fc l.2.2.1) (fA ar al s t1) H:=λp1 p2 p3=>bH (af rfl) aS (by rw[Dp,tH]);have F0:cT g (3*k+m+3):=by rw[Nat.mul_succ,ux] at F;exact F
  rw[adk];cases hn:fc l.2.2.1 with
  |true=>rw[hn] at tt;refine bB (ih (i+1) m (t:=t1) (by exact km ‹_›) S lw (F0.mono (eB ..))) λH' t' r2 jg S2=>?_;exact⟨H',t',e8 (f:=.next) iR rfl (aj (bM (t:=false) (tt ..) aO) aO) rfl r2,jg,S2⟩
  |false=>rw[hn] at tt;refine gQ (Ik (dd:=dd) (k:=l.2.2.1) (ps:=[l.1]) S (F0.mono (i5 3 _))) λH1 r1 j4 S1=>?_;refine bB (ih (i+1) m (t:=t1) (by exact km ‹_›) S1 (lw.trans j4) F0.adn) λH' t' r2 jg S2=>?_;exact⟨H',t',e8 (f:=.next) iR rfl (aj (bM (t:=true) (tt ..) (aj (eJ (mX (af rfl) (nh S.self rfl) (aB rfl (af rfl) (aB rfl (af rfl) aE)) r1)) aO)) aO) rfl r2,jg,S2⟩
def Vo{b:Bool}{H':Hp}{t:Ot}(eq:t.q=some (.bool false))(hk:kL P (.ref s) 10 H=some (.user 38))(h:Nr b (dd+3) s H H'):RS P (dd+3) true Vx (fA ar al s t) H .next (fA ar al s {t with q:=some (.bool b)}) H':=by
 cases b with
 |true=>exact HL (Ae (TM (af rfl) hk aE h)) rfl (aj (bC aS (λO=>rfl) rfl rfl) aO)
 |false=>
  have:{t with q:=some (.bool false)}=t:=by rw[<- eq]
  rw[this];exact HK (aj (eJ (mX (af rfl) hk aE h)) aO)
end
end
section
section
variable {P:bP}{d:Nat}{q:Bool}{U ρ1:aC}{H H1:Hp}
def HJ{o args:C}{n:Str}{m:Nat}{ap p:Pos}{v:AV}{t:Bool}(h1:RE P d q (.eN o n m args ap p) U H v ρ1 H1)(h:gR v H1=some t):RT P d q (.eN o n m args ap p) U H t ρ1 H1:=.step (.bind h1 (.rd h))
def U0{a l:C}{p:Pos}{v:AV}{vs:List AV}(h1:RE P d q a U H v ρ1 H1)(h:rh H1 v=some vs):RA P d q (.cons (.star a p) l) U H vs ρ1 H1:=.bind h1 (.rd h)
end
def Sr.same{H H':Hp}{s d rl lo hi:Nat}{ns:List Nd}{bc:List Ky}{np nf:Int}(S:Sr H s d rl lo hi ns bc np nf)(hd:d<hi)(h:∀a,a<hi->ae H' a=ae H a):Sr H' s d rl lo hi ns bc np nf:=Sr.mk ((h s S.bs.2).trans S.self) ((h rl S.br.2).trans S.jE) (ue S.gY λep G=>⟨ep,G.mono (h d hd) λn hn=>⟨h _ (S.bd n hn).1.2,h _ (S.bd n hn).2.2⟩⟩) S.bd S.bs S.br S.uY
noncomputable def gb(v:AV):bT:=match v with
 |.tup l=>(match l with
  |a::l=>(match l with
   |b::l=>(match l with
    |c::l=>(match l with
     |e::_=>((a.de).getD [],((b.int?).getD 0).toNat,(c.de).getD [],(e.bool?).getD false)
     |[]=>([],0,[],false))
    |[]=>([],0,[],false))
   |[]=>([],0,[],false))
  |[]=>([],0,[],false))
 |_=>([],0,[],false)
noncomputable def bR(l:List Nat):List AV:=l.map λn:Nat=>.int n
def X9:∀l:List Nat,lS (bR l)=some (l.map λn:Nat=>(n:Int)):=by
 intro l
 induction l with
 |nil=>rfl
 |cons n l ih=>show((some (n:Int)).bind λi=>(lS (bR l)).map (i::·))=_;rw[ih];rfl
def Wu:∀(l:List Nat) (b:Nat),oB (l.map λn:Nat=>(n:Int)) b=((bI (λa b=>match Nat.blt a b with|true=>b|false=>a) l b:Nat):Int):=by
 intro l
 induction l with
 |nil=>intro b;rfl
 |cons n l ih=>
  intro b;show oB (l.map λn:Nat=>(n:Int)) (match Nat.blt b n with|true=>(n:Int)|false=>(b:Int))=((bI (λa b=>match Nat.blt a b with|true=>b|false=>a) l (match Nat.blt b n with|true=>n|false=>b):Nat):Int);cases Nat.blt b n with
  |true=>exact ih n
  |false=>exact ih b
def Jf{H:Hp}(l:List Nat):tW .max (.lst (.int 0::bR l)) H=some (.int (lN l:Nat),H):=by show((lS (bR ([0]++l))).bind λns=>match ns with|[]=>none|y::ys=>some (AV.int (oB ys y),H))=_;rw[X9];show some (AV.int (oB (l.map λn:Nat=>(n:Int)) ((0:Nat):Int)),H)=_;rw[Wu];rfl
def t6(D:List (List Nat×AV))(bq:List (Ky×Nat)):Prop:=∀k,(cy k D).getD (.int 0)=.int (jh k bq:Nat)
def WX{k x:Ky}{v:AV}:∀D:List (List Nat×AV),cy k (eH x v D)=match ak x k with|true=>some v|false=>cy k D:=by
 intro D
 induction D with
 |nil=>rfl
 |cons p D ih=>
  show cy k (match ak p.1 x with|true=>(p.1,v)::D|false=>p::eH x v D)=_;cases e:ak p.1 x with
  |true=>rw[gz e];show(match ak x k with|true=>some v|false=>cy k D)=(match ak x k with|true=>some v|false=>(match ak p.1 k with|true=>some p.2|false=>cy k D));rw[gz e];cases ak x k<;>rfl
  |false=>
   show(match ak p.1 k with|true=>some p.2|false=>cy k (eH x v D))=(match ak x k with|true=>some v|false=>(match ak p.1 k with|true=>some p.2|false=>cy k D));rw[ih];cases e1:ak p.1 k with
   |true=>
    have:ak x k=false:=nC λq=>by rw[gz e1,q,g6] at e;exact nomatch e
    rw[this]
   |false=>rfl
def U8{x:Ky}{v:AV}:∀D:List (List Nat×AV),(eH x v D).length<=D.length+1:=by
 intro D
 induction D with
 |nil=>exact bf _
 |cons p D ih=>
  show(match ak p.1 x with|true=>(p.1,v)::D|false=>p::eH x v D).length<=_;cases ak p.1 x with
  |true=>exact i4 _
  |false=>exact sk ih
def t6.put{D:List (List Nat×AV)}{bq:List (Ky×Nat)}(h:t6 D bq)(x:Ky)(n:Nat):t6 (eH x (.int n) D) ((x,n)::bq):=λk=>by
 rw[WX];show _=AV.int ((match ak x k with|true=>n|false=>jh k bq:Nat):Int);cases ak x k with
 |true=>rfl
 |false=>exact h k
abbrev Ao:S:=bg f8.body 7
abbrev C9:S:=bg (bz Ao) 1
abbrev Vw:C:=match bg (bz C9) 1 with|.asg _ e _=>vX e|_=>.nil
abbrev rD:C:=match Vw with|.bin _ _ c _=>c|_=>.nil
abbrev Vv:C:=match bg f8.body 8 with|.ret (.tup (.cons _ (.cons _ (.cons e _))) _ _) _=>vX e|_=>.nil
abbrev s7:C:=match Vv with|.bin _ _ c _=>c|_=>.nil
section
variable {dd ar al s hi ep:Nat}{K H:Hp}{L:List bT}{bq:List (Ky×Nat)}{D:List (List Nat×AV)}
def Lh{k:Ky}(h:ae H hi=some (.dict ep D))(lt:t6 D bq):lL .dict 6 (.ref hi) [.str k,.int 0] H=some (.int (jh k bq:Nat),H):=by show((cD H hi).bind λr=>xP 6 hi r.2 [.str k,.int 0] H)=_;rw[j9 h];show some ((cy k D).getD (.int 0),H)=_;rw[lt k]
def Vu{x:Ky}{t:Ot}(hl:ae H al=some (.list (L.map fC)))(hz:L.length<az)(hh:ae H hi=some (.dict ep D))(lt:t6 D bq)(er:t.r=some (.str x))(ey:t.l=some (.ref hi)):
  ∃Y,RM P dd (eU rD) (eP rD) (eT rD) (gJ rD) (fA ar al s t) H (.ref H.length) (fA ar al s t) (H++.list (bR (cJ (gc bq) (d8 (kM x) L)))::Y):=by
 have q:=uS (d:=dd) (H:=H) (Hz:=H) (tg:=eP rD) (elt:=eU rD) (it:=eT rD) (ifs:=gJ rD) (I:=Is H) (e:=λo=>match o with
   |none=>fA ar al s t
   |some v=>[some (.ref ar),some (.ref al),some (.ref s),t.r,t.o,t.g,t.n,t.f,t.q,t.l,t.t,t.y,some (.str (gb v).1),some (.int (gb v).2.1),some (.str (gb v).2.2.1),some (.bool (gb v).2.2.2),none,none,none,none])
  (t:=λv=>kM x (gb v)) (f:=λv=>.int (gc bq (gb v):Nat)) (λO O O=>rfl) (U:=fA ar al s t) (H0:=H) (af rfl) (lC hl) (rS hl) rfl (λv hv o K=>?_) (λv hv K hK hn Y=>?_) (λv hv ht K hK hn Y=>?_) (by rw[aJ];exact hz)
 ·refine ue q λY q=>⟨Y,?_⟩;have e:(((L.map fC).filter λv=>kM x (gb v)).map λv=>AV.int (gc bq (gb v):Nat))=bR (cJ (gc bq) (d8 (kM x) L)):=by rw[mZ,nz];unfold bR;rw[sG,cG,cG];rfl
  rw[e] at q;exact q.1
 ·refine aq (bU.mp hv) λl tM e=>?_;subst e;cases o<;>rfl
 ·refine aq (bU.mp hv) λl tM e=>?_;subst e;refine⟨[],?_⟩;rw[eV];have t1:∀p1 p2 p3,RT P dd true (.cmp .Eq (.var "new" 14 p1) (.var "rest" 3 p2) p3) [some (.ref ar),some (.ref al),some (.ref s),t.r,t.o,t.g,t.n,t.f,t.q,t.l,t.t,t.y,some (.str l.1),some (.int l.2.1),some (.str l.2.2.1),some (.bool l.2.2.2),none,none,none,none] (K++Y) (ak l.2.2.1 x) [some (.ref ar),some (.ref al),some (.ref s),t.r,t.o,t.g,t.n,t.f,t.q,t.l,t.t,t.y,some (.str l.1),some (.int l.2.1),some (.str l.2.2.1),some (.bool l.2.2.2),none,none,none,none] (K++Y):=λp1 p2 p3=>bH (af rfl) (af (show some t.r=_ by rw[er])) nA;have t2:∀p1 p2 p3,RT P dd true (.cmp .NotEq (.var "new" 14 p1) (.cst (.str "") (.str []) 0 p2) p3) [some (.ref ar),some (.ref al),some (.ref s),t.r,t.o,t.g,t.n,t.f,t.q,t.l,t.t,t.y,some (.str l.1),some (.int l.2.1),some (.str l.2.2.1),some (.bool l.2.2.2),none,none,none,none] (K++Y) (!fc l.2.2.1) [some (.ref ar),some (.ref al),some (.ref s),t.r,t.o,t.g,t.n,t.f,t.q,t.l,t.t,t.y,some (.str l.1),some (.int l.2.1),some (.str l.2.2.1),some (.bool l.2.2.2),none,none,none,none] (K++Y):=λp1 p2 p3=>bH (af rfl) aS (by rw[Dp,tH]);show RQ P dd _ _ _ (match ak l.2.2.1 x with|true=>!fc l.2.2.1|false=>false) _ _;cases e:ak l.2.2.1 x with
  |true=>rw[e] at t1;exact oq (mV (t1 ..) (t2 ..))
  |false=>rw[e] at t1;exact oq (uP (t1 ..))
 ·refine aq (bU.mp hv) λl tM e=>?_;subst e;cases hK;refine⟨[],?_⟩;rw[eV];exact du (eM (mk:=.dict) (af (show some t.l=_ by rw[ey])) (xU (cb hh)) rfl rfl (aB rfl (af rfl) (aB rfl aS aE)) (Lh (cb hh) lt)) (af rfl) (kT (k:=((gc bq l:Nat):Int)) rfl)
end
end
section
def Ko(K0:Hp)(s d rl hi:Nat)(ns:List Nd)(bc:List Ky)(np nf:Int)(bq:List (Ky×Nat))(told:List Ky)(H:Hp):Prop:=(∀a,a<K0.length->ae H a=ae K0 a)/\Sr H s d rl K0.length hi ns bc np nf/\(∃ep D,ae H hi=some (.dict ep D)/\t6 D bq/\D.length<=told.length)/\ae H (hi+1)=some (.list (told.map .str))/\hi+2<=H.length
def WR(i:Int):fZ i i=false:=by
 cases i with
 |ofNat n=>show Nat.blt n n=false;cases h:Nat.blt n n with
  |false=>rfl
  |true=>exact absurd (bG.mp h) (jQ n)
 |negSucc n=>show Nat.blt n n=false;cases h:Nat.blt n n with
  |false=>rfl
  |true=>exact absurd (bG.mp h) (jQ n)
section
variable {dd ar al s d rl hi:Nat}{K0 H:Hp}{L:List bT}{ns:List Nd}{bc:List Ky}{np nf:Int}{bq:List (Ky×Nat)}{told:List Ky}
def Ko.Lp{H':Hp}{th:List Nd}{Ie:List Ky}{oz xJ:Int}(hl:K0.length<=hi)(k:Ko K0 s d rl hi ns bc np nf bq told H)(f:dH K0.length hi H H')(S:Sr H' s d rl K0.length hi th Ie oz xJ):Ko K0 s d rl hi th Ie oz xJ bq told H':=by obtain⟨a,b,⟨ep,D,c1,c2⟩,e,g⟩:=k;exact⟨λx hx=>(f.out x (.inl hx)).trans (a x hx),S,⟨ep,D,(f.out hi (.inr (bf _))).trans c1,c2⟩,(f.out _ (.inr (i4 _))).trans e,by rw[f.len];exact g⟩
def Vp(hl:ae K0 al=some (.list (L.map fC)))(hz:L.length<4000)(hd:d<hi)(lo:K0.length<=hi):∀(l:List Ky) {bq:List (Ky×Nat)} {told:List Ky} {H:Hp} {t:Ot},Ko K0 s d rl hi ns bc np nf bq told H->told.length+l.length<900->t.l=some (.ref hi)->t.t=some (.ref (hi+1)) ->
  ∃H' t',RF P dd (gC C9) (.fix (l.map .str)) (bz C9) (fA ar al s t) H .next (fA ar al s t') H'/\Ko K0 s d rl hi ns bc np nf (bI (rH L) l bq) (told++l) H'/\t'.l=t.l/\t'.t=t.t/\t'.q=t.q/\t'.y=t.y:=by
 intro l
 induction l with
 |nil=>intro bq told H t k hn el et;rw[eV];exact⟨H,t,gS rfl,k,rfl,rfl,rfl,rfl⟩
 |cons x l ih=>
  intro bq told H t k hn el et;rw[i6] at hn;obtain⟨a,b,⟨ep,D,c1,c2,c3⟩,e,g⟩:=k;have z:(4000:Nat)<=az:=by decide
  have ap:=kR (v:=.str x) e (by rw[aJ];exact dU (by exact Pa hn:told.length<4000) z);have e0:told.map AV.str++[.str x]=(told++[x]).map .str:=by rw[ew];rfl
  rw[e0] at ap;have ne1:hi+1≠hi:=Nat.succ_ne_self hi;have b1:∀{a},a≠hi+1->ae (ai H (.list ((told++[x]).map .str)) (hi+1)) a=ae H a:=λh=>bh (fi h);have a1:∀y,y<hi->ae (ai H (.list ((told++[x]).map .str)) (hi+1)) y=ae H y:=λy hy=>b1 (dT (Nat.lt_succ_of_lt hy));have MO:=(b1 ne1.symm).trans c1;have e1:ae (ai H (.list ((told++[x]).map .str)) (hi+1)) (hi+1)=some (.list ((told++[x]).map .str)):=cV (bk e);have g1:(ai H (.list ((told++[x]).map .str)) (hi+1)).length=H.length:=cB;have kl:=gG (P:=P) (m:=0) e;generalize ai H (.list ((told++[x]).map .str)) (hi+1)=H1 at *;have yh:ae H1 al=some (.list (L.map fC)):=((a1 al (dU (bk hl) lo)).trans (a al (bk hl))).trans hl;refine ue (Vu (dd:=dd) (ar:=ar) (s:=s) (t:={t with r:=some (.str x)}) yh (dU hz z) MO c2 rfl el) λY rc=>?_
  let ls:=cJ (gc bq) (d8 (kM x) L)
  have DF:ls.length<=L.length:=by show(cJ _ _).length<=_;rw[mZ,nz,aJ];exact zh ..
  have n2:ae (H1++.list (bR ls)::Y) H1.length=some (.list (bR ls)):=dX;have ad:iz .Add (.lst [.int 0]) (.ref H1.length) (H1++.list (bR ls)::Y)=some (.lst (.int 0::bR ls)):=by
   show((bx (H1++.list (bR ls)::Y) H1.length).bind λb=>aI (Nat.ble (1+b.length) az) (some (AV.lst ([.int 0]++b))))=_;rw[dy n2];show aI (Nat.ble (1+(bR ls).length) az) _=_;have:1+(bR ls).length<=az:=by unfold bR;rw[aJ];exact aM (by exact O9 DF hz:1+ls.length<=4000) z
   rw[eO.mpr this];rfl
  have MN:=cb (m:=.list (bR ls)::Y) MO;have st:=w4 (k:=x) (v:=.int (lN ls:Nat)) MN (dU (by exact O8 c3 hn:D.length<4000) z);have k':Ko K0 s d rl hi ns bc np nf (rH L bq x) (told++[x]) (ai (H1++.list (bR ls)::Y) (.dict (match c5 x D with|true=>ep|false=>ep+1) (eH x (.int (lN ls:Nat)) D)) hi):=by
   have q:∀y,y<hi->ae (ai (H1++.list (bR ls)::Y) (.dict (match c5 x D with|true=>ep|false=>ep+1) (eH x (.int (lN ls:Nat)) D)) hi) y=ae H y:=λy hy=>by rw[bh (dM hy),uX (by rw[g1];exact O7 hy g),a1 y hy]
   refine⟨λy hy=>(q y (dU hy lo)).trans (a y hy),b.same hd q,⟨_,_,cV (bk MN),c2.put x (lN ls),by rw[bF];exact aM (U8 D) (sk c3)⟩,(bh ne1.symm).trans (cb e1),by rw[cB,bF,g1];exact O6 g⟩
  obtain⟨H',t',r,JP,f1,f2,f3,f4⟩:=ih (t:={t with r:=some (.str x)}) k' (by rw[bF];show told.length+1+l.length<900;exact O5 hn) el et;rw[eW] at JP;refine⟨H',t',e8 (f:=.next) rfl rfl (aj (eJ (eM (mk:=.list) (af (show some t.t=_ by rw[et])) kl rfl rfl (aB rfl (af rfl) aE) ap)) (aj (pS (bO (bL rfl) rfl (aB rfl (du (e9 (bb:=false) (aB rfl aS aE) rfl) (uT rc) ad) aE) (gj (b:=.max) rfl (Jf ls))) (λO=>rfl) (af (by show some t.l=_;rw[el])) (af rfl) st) aO)) rfl r,JP,f1,f2,f3,f4⟩
def Iq:∀(l:List Ky) (ns:List Nd),(s6 ns l).map (·.key)=ns.map (·.key):=by
 intro l
 induction l with
 |nil=>intro ns;rfl
 |cons x l ih=>intro ns;exact(ih _).trans (pO (by intro _;rfl))
def abd:∀(l:List Ky) (q:List Nd×List Ky),(l.foldl g7 q).1.map (·.key)=q.1.map (·.key):=by
 intro l
 induction l with
 |nil=>intro q;rfl
 |cons x l ih=>intro q;exact(ih _).trans (Md q x)
def Vq(hl:ae K0 al=some (.list (L.map fC)))(hz:L.length<4000)(hd:d<hi)(lo:K0.length<=hi){R:List Ky×List (Ky×Nat)}:∀(m:Nat) {ns:List Nd} {bc:List Ky} {np:Int} {bq:List (Ky×Nat)} {told:List Ky} {H:Hp} {t:Ot},lP L m (aX ns) bc bq told=some R->(ns.map (·.key)).Nodup->Ko K0 s d rl hi ns bc np np bq told H->t.l=some (.ref hi)->t.t=some (.ref (hi+1)) ->
  ∃H' t' th oz,RW P (dd+2) true (gB Ao) (bz Ao) (iW Ao) (fA ar al s t) H .next (fA ar al s t') H'/\Ko K0 s d rl hi th [] oz oz R.2 R.1 H'/\t'.l=t.l/\t'.t=t.t/\t'.q=t.q:=by
 intro m
 induction m with
 |zero=>intro ns bc np bq told H t e;exact aR e
 |succ m ih=>
  intro ns bc np bq told H t e hn k el et;have ra:=UX (dd:=dd) k.2.1;rw[WR] at ra;cases bc with
  |nil=>obtain rfl:=sj e;exact⟨H,t,ns,np,mU (HJ (t:=false) (mX (af rfl) (nh k.2.1.self rfl) aE ra) rfl) aO,k,rfl,rfl,rfl⟩
  |cons x r=>
   have e:(match iA (λy=>gX y (aX ns)) (x::r)&&Nat.blt (told.length+(x::r).length) 900 with
    |false=>none
    |true=>(j8 (x::r) (lG (aX ns) (x::r),[])).bind λq=>lP L m q.1 q.2 (bI (rH L) (x::r) bq) (bj told (x::r)))=some R:=e
   cases hb:iA (λy=>gX y (aX ns)) (x::r)&&Nat.blt (told.length+(x::r).length) 900 with
   |false=>rw[hb] at e;exact aR e
   |true=>
   rw[hb] at e;refine us hb λh1 h2=>?_;have h2:=bG.mp h2;refine ub e λq e1 e2=>?_;have zz:(x::r).length<az:=dU (by exact O4 h2:(x::r).length<900) (by decide);refine gQ (UB (dd:=dd) k.2.1 (λy hy=>Jb (Na h1 y hy)) (fF zz)) λH1 r1 EG S1=>?_;have k1:=k.Lp lo EG S1;obtain⟨H2,t2,r2,k2,f1,f2,f3,f4⟩:=Vp (dd:=dd+2) (ar:=ar) hl hz hd lo (x::r) (t:={t with y:=some (.tup ((x::r).map .str))}) k1 h2 el et;rw[<- adq _ hn] at e1;refine ua (adu (x::r) (q:=(s6 ns (x::r),[])) (by rw[Iq];exact hn) e1) λd1 d2=>?_;refine gQ (UT (dd:=dd) k2.2.1 zz d1) λH3 r3 ZQ S3=>?_;have k3:=k2.Lp lo ZQ S3;rw[<- d2,fP] at e2;have en:np+((x::r).length:Nat)=np+((x::r).length:Nat):=rfl;obtain⟨H',t',th,oz,r4,k4,g1,g2,g3⟩:=ih (t:=t2) e2 (by rw[abd];show((s6 ns (x::r)).map (·.key)).Nodup;rw[Iq];exact hn) k3 (f1.trans el) (f2.trans et);refine⟨H',t',th,oz,kD (f:=.next) (HJ (t:=true) (mX (af rfl) (nh k.2.1.self rfl) aE ra) rfl) (aj (bC (mX (af rfl) (nh k.2.1.self rfl) aE r1) (λO=>rfl) rfl rfl) (aj (iN (af rfl) rfl r2) (aj (eJ (mX (af rfl) (nh k2.2.1.self rfl) (U0 (af (show some t2.y=_ by rw[f4])) rfl) r3)) aO))) rfl r4,k4,g1.trans f1,g2.trans f2,g3.trans f3⟩
end
end
section
def Rk:∀l:List Ky,lq (l.map .str)=some l:=by
 intro l
 induction l with
 |nil=>rfl
 |cons x l ih=>show((some x).bind λi=>(lq (l.map .str)).map (i::·))=_;rw[ih];rfl
def Hg{n:Nat}{l:List Ky}{H:Hp}(h:ae H n=some (.list (l.map .str)))(hz:l.length<64):tW .sorted (.ref n) H=some (.lst ((cC bu l).map .str),H):=by
 show((bx H n).bind λl=>aI (Nat.blt l.length 64) ((jA l).map λr=>(AV.lst r,H)))=_;rw[dy h];show aI (Nat.blt (l.map AV.str).length 64) ((jA (l.map .str)).map λr=>(AV.lst r,H))=_;rw[aJ,bG.mpr hz];show(jA (l.map .str)).map (λr=>(AV.lst r,H))=_;have:jA (l.map .str)=some ((cC bu l).map .str):=by
  cases l with
  |nil=>rfl
  |cons x l=>
   show(match lq ((x::l).map .str) with
    |some ts=>some ((cC bu ts).map AV.str)
    |none=>(pI ((x::l).map .str)).bind λts=>n9 ts ((x::l).map .str))=_
   rw[Rk]
 rw[this];rfl
section
variable {dd ar al s hi ep:Nat}{K0 H:Hp}{L:List bT}{bq:List (Ky×Nat)}{D:List (List Nat×AV)}
def Vt{t:Ot}(hl:ae H al=some (.list (L.map fC)))(hz:L.length<az)(hh:ae H hi=some (.dict ep D))(lt:t6 D bq)(ey:t.l=some (.ref hi)):
  ∃Y,RM P dd (eU s7) (eP s7) (eT s7) (gJ s7) (fA ar al s t) H (.ref H.length) (fA ar al s t) (H++.list (bR (cJ (gc bq) L))::Y):=by
 have q:=sY (d:=dd) (H:=H) (tg:=eP s7) (elt:=eU s7) (it:=eT s7) (e:=λo=>match o with
   |none=>fA ar al s t
   |some v=>[some (.ref ar),some (.ref al),some (.ref s),t.r,t.o,t.g,t.n,t.f,t.q,t.l,t.t,t.y,none,none,none,none,some (.str (gb v).1),some (.int (gb v).2.1),some (.str (gb v).2.2.1),some (.bool (gb v).2.2.2)])
  (f:=λv=>.int (gc bq (gb v):Nat)) (λO O O=>rfl) (U:=fA ar al s t) (H0:=H) (af rfl) (lC hl) (rS hl) rfl (λv hv o K=>?_) (λv hv Y=>?_) (by rw[aJ];exact hz)
 ·refine ue q λY q=>⟨Y,?_⟩;have e:((L.map fC).map λv=>AV.int (gc bq (gb v):Nat))=bR (cJ (gc bq) L):=by rw[mZ];unfold bR;rw[cG,cG];rfl
  rw[e] at q;exact q
 ·refine aq (bU.mp hv) λl tM e=>?_;subst e;cases o<;>rfl
 ·refine aq (bU.mp hv) λl tM e=>?_;subst e;refine⟨[],?_⟩;rw[eV];exact du (eM (mk:=.dict) (af (by show some t.l=_;rw[ey])) (xU (cb hh)) rfl rfl (aB rfl (af rfl) (aB rfl aS aE)) (Lh (cb hh) lt)) (af rfl) (kT (k:=((gc bq l:Nat):Int)) rfl)
def UH{R:List (Ky×Nat)}{o:Bool×List Ky×Nat}(hr:ae K0 ar=some (.dict ep (eG R)))(hl:ae K0 al=some (.list (L.map fC)))(zR:R.length<4000)(zL:L.length<4000)(e:kG R.reverse L=some o):
  ∃H',RC P (dd+5) (.glob 8) [.ref ar,.ref al] K0 (.tup [.bool o.1,.lst (o.2.1.map .str),.int (o.2.2:Nat)]) H'/\ba K0.length K0 H':=by
 unfold kG at e;generalize hg:ny R.reverse L=g at *;have e:(match Nat.blt g.length 1000 with
  |false=>none
  |true=>(jl g g []).bind λring=>(lP L 100 g (lF g) [] []).bind λq=>match Nat.blt q.1.length 64 with
   |false=>none
   |true=>some (ring,cC bu q.1,lN (cJ (gc q.2) L)))=some o:=e
 cases hb:Nat.blt g.length 1000 with
 |false=>rw[hb] at e;exact aR e
 |true=>
 rw[hb] at e;refine ub e λring e1 e=>?_;refine ub e λq e2 e=>?_;cases yj:Nat.blt q.1.length 64 with
 |false=>rw[yj] at e;exact aR e
 |true=>
 rw[yj] at e;obtain rfl:=sj e;obtain⟨told,bq⟩:=q;have yj:=bG.mp yj
 let t0:Ot:=⟨none,none,none,none,none,none,none,none,none⟩
 have F0:cT [] (R.length+(3*L.length+0)):=cT.mk (dU (by show 0+_<20000;exact O3 zL zR) (by decide)) nofun;have S0:=Sn (H:=K0);have Jk:ba K0.length K0 (K0++[gD (K0.length+1) .none 0 0,.dict 0 []]):=ba.app _ (bf _);obtain⟨H1,t1,r1,j4,S1,F1⟩:=Vs (dd:=dd) (al:=al) (t:=t0) hr R.length 0 (3*L.length+0) (gA _) S0 Jk F0;rw[qD] at S1 F1;obtain⟨H2,t2,r2,jg,S2⟩:=Vr (dd:=dd) (ar:=ar) (t:=t1) hl L.length 0 0 (gA _) S1 j4 F1;rw[qD] at S2;have S2:fh H2 K0.length (K0.length+1) K0.length g .none 0 0:=by rw[<- hg];exact S2
 obtain⟨H3,ns,pr,xS,en,hn,S3⟩:=UE (dd:=dd+1) S2 (bG.mp hb) e1;have rt:=Vo (dd:=dd+1) (ar:=ar) (al:=al) (t:={t2 with q:=some (.bool false)}) rfl (nh S2.self rfl) pr;have lo:K0.length<=H3.length:=aM jg.len xS.len;have hd:K0.length+1<H3.length:=dU S2.vO xS.len;have k:Ko K0 K0.length (K0.length+1) H2.length H3.length ns (fo ns) 0 0 [] [] (H3++[.dict 0 [],.list []]):=by have q:∀a,a<H3.length->ae (H3++[AO.dict 0 [],.list []]) a=ae H3 a:=λa ha=>uX ha;exact⟨λa ha=>(q a (dU ha lo)).trans ((jg.trans xS).low a ha),S3.same hd q,⟨0,[],dX,λO=>rfl,bf _⟩,jG (n:=1),by rw[bF];exact bf _⟩
 rw[<- en,adp] at e2;obtain⟨H4,t4,ns4,np4,r4,k4,f1,f2,f3⟩:=Vq (dd:=dd+2) (ar:=ar) (t:={t2 with q:=some (.bool ring),l:=some (.ref H3.length),t:=some (.ref (H3.length+1))}) hl zL hd lo 100 e2 hn k rfl rfl;obtain⟨a4,b4,⟨ep4,D4,c4,d4,_⟩,g4,h4⟩:=k4;have YS:ae H4 al=some (.list (L.map fC)):=(a4 al (bk hl)).trans hl;refine ue (Vt (dd:=dd+4) (ar:=ar) (s:=K0.length) YS (dU zL (by decide)) c4 d4 f1) λY rc=>?_
 let ls:=cJ (gc bq) L
 have DF:ls.length=L.length:=by show(cJ _ _).length=_;rw[mZ,aJ]
 have n2:ae (H4++.list (bR ls)::Y) H4.length=some (.list (bR ls)):=dX;have ad:iz .Add (.lst [.int 0]) (.ref H4.length) (H4++.list (bR ls)::Y)=some (.lst (.int 0::bR ls)):=by
  show((bx (H4++.list (bR ls)::Y) H4.length).bind λb=>aI (Nat.ble (1+b.length) az) (some (AV.lst ([.int 0]++b))))=_;rw[dy n2];show aI (Nat.ble (1+(bR ls).length) az) _=_;have:1+(bR ls).length<=az:=by unfold bR;rw[aJ];exact aM (by exact O2 DF zL:1+ls.length<=4000) (by decide)
  rw[eO.mpr this];rfl
 refine⟨H4++.list (bR ls)::Y,?_,ba.mk (by rw[bF];exact O1 h4 lo) λa ha=>(uX (by exact O0 ha h4 lo)).trans (a4 a ha)⟩;refine eS (fd:=f8) (fl:=.ret (.tup [.bool ring,.lst ((cC bu told).map .str),.int (lN ls:Nat)])) (ρ1:=[some (.ref ar),some (.ref al),none,none,none,none,none,none,none,none,none,none,none,none,none,none,none,none,none,none]) rfl rfl ?_ rfl;refine⟨fA ar al K0.length t4,?_⟩;refine aj (bC (bO (bL rfl) rfl aE (UK (dd:=dd+2))) (λO=>rfl) rfl rfl) ?_;refine aj (iN (af rfl) (Hc (Jk.low ar (bk hr) |>.trans hr)) r1) ?_;refine aj (iN (af rfl) (lC ((j4.low al (bk hl)).trans hl)) r2) ?_;refine aj (bC aS (λO=>rfl) rfl (ρ2:=fA ar al K0.length {t2 with q:=some (.bool false)}) rfl) ?_;refine aj rt ?_;refine aj (bC CX (λO=>rfl) rfl (ρ2:=fA ar al K0.length {t2 with q:=some (.bool ring),l:=some (.ref H3.length)}) rfl) ?_;refine aj (bC (e9 (bb:=true) aE rfl) (λO=>rfl) rfl (ρ2:=fA ar al K0.length {t2 with q:=some (.bool ring),l:=some (.ref H3.length),t:=some (.ref (H3.length+1))}) (by rw[bF];rfl)) ?_;rw[eW];refine aj (kF r4) ?_;exact cK (fW (ou (aB rfl (af (by show some t4.q=_;rw[f3])) (aB rfl (bO (bL rfl) rfl (aB rfl (af (by show some t4.t=_;rw[f2])) aE) (gj (b:=.sorted) rfl (Hg g4 yj))) (aB rfl (bO (bL rfl) rfl (aB rfl (du (e9 (bb:=false) (aB rfl aS aE) rfl) (uT rc) ad) aE) (gj (b:=.max) rfl (Jf ls))) aE)))) λO=>rfl) nofun
end
end
section
section
variable {P:bP}{d:Nat}{U ρ1 ρ2:aC}{H H1 H2:Hp}{a r:C}{p:Pos}{t:Bool}
def CI(h:RT P d true a U H true ρ1 H1)(h2:RQ P d r ρ1 H1 t ρ2 H2):RQ P d (.cons a r) U H t ρ2 H2:=.bind h h2
def HP(h:RT P d true a U H false ρ1 H1):RQ P d (.cons a r) U H false ρ1 H1:=.bind h .ret
def CG(h:RQ P d r U H t ρ1 H1):RT P d true (.fw true r p) U H t ρ1 H1:=.step h
end
section
variable {H:Hp}{n:Nat}{l:List Ky}
def L8(k:Nat)(x:Ky):aV H k (.str x)=.str x:=by cases k<;>rfl
def yE(k:Nat)(l:List Ky):(l.map AV.str).map (aV H k)=l.map .str:=by rw[cG];exact iI λx O=>L8 k x
def xC(k:Nat)(l:List Ky):dh (l.map .str) k=true:=by
 induction l with
 |nil=>simp only[k7,dh]
 |cons x l ih=>simp only[bE,dh,cw,ih]
def Ys(x:Ky)(l:List Ky):gH (.str x) (l.map .str)=some (aU x l):=by
 induction l with
 |nil=>rfl
 |cons y l ih=>
  show((c6 (.str y) (.str x)).bind λb=>(gH (.str x) (l.map .str)).map λc=>b||c)=some (match ak y x with|true=>true|false=>aU x l);rw[ih];have:c6 (.str y) (.str x)=some (ak y x):=by simp only[c6,AV.de,Option.map]
  rw[this];cases ak y x<;>rfl
def Kb{x:Ky}(h:ae H n=some (.list (l.map .str))):gU (.str x) (.ref n) H=some (aU x l):=by
 unfold gU;show(match bx H n with|some l=>aI (cw (aV H 3 (.str x)) 3&&dh (l.map (aV H 3)) 3) (gH (aV H 3 (.str x)) (l.map (aV H 3)))|none=>_)=_;rw[dy h];show aI (cw (aV H 3 (.str x)) 3&&dh ((l.map AV.str).map (aV H 3)) 3) (gH (aV H 3 (.str x)) ((l.map AV.str).map (aV H 3)))=_;rw[yE,L8,xC,Ys];have:cw (.str x) 3=true:=by simp only[cw]
 rw[this];rfl
def LS(h:ae H n=some (.list (l.map .str))):fO .Eq (.ref n) (.lst []) H=some l.isEmpty:=by
 show gL (.ref n) (.lst []) H=_;have e1:qn H (.ref n)=none:=by show(cD H n).map _=none;unfold cD;rw[h];rfl
 unfold gL;rw[e1];show iV (aV H 3 (.ref n)) (aV H 3 (.lst []))=_;have e2:aV H 3 (.ref n)=.lst (l.map .str):=by show(match cH H (.ref n) with|some l=>AV.lst (l.map (aV H 2))|none=>.ref n)=_;rw[show cH H (.ref n)=_ from dy h];exact congrArg AV.lst (yE 2 l)
 have e3:aV H 3 (.lst [])=.lst []:=rfl;rw[e2,e3];unfold iV;have e4:cw (.lst (l.map .str)) 3=true:=by simp only[cw];exact xC 2 l
 have e5:cw (.lst []) 3=true:=by simp only[cw,dh]
 rw[e4,e5];show c6 (.lst (l.map .str)) (.lst [])=_;cases l with
 |nil=>simp only[c6,k7,AV.nc,Option.bind,fu,List.isEmpty]
 |cons x l=>simp only[c6,bE,AV.nc,Option.bind,fu,List.isEmpty]
end
abbrev yv:S:=bg f9.body 2
abbrev qh:C:=jX (bg (bz yv) 0)
abbrev rQ:C:=match gJ qh with|.cons (.cmp _ a _ _) _=>a|_=>.nil
abbrev rP:C:=jX (bg (bz yv) 3)
abbrev Be:C:=jX (bg f9.body 0)
noncomputable def fq(ar al:Nat)(x2 x3 x4 x5 x6 x7 x8 x9 x10 x11:Option AV):aC:=[some (.ref ar),some (.ref al),x2,x3,x4,x5,x6,x7,x8,x9,x10,x11]
def lZ(left:List Ky)(r:Ky)(l:bT):Bool:=match kM r l with|true=>aU l.1 left|false=>false
section
variable {d ar al aL:Nat}{H:Hp}{L:List bT}{left:List Ky}{x3 x4:Option AV}
def ada(p:bT->Bool):∀L:List bT,(!(kc p L))=((L.filter p).map (·.1)).isEmpty:=by
 intro L
 induction L with
 |nil=>rfl
 |cons l L ih=>
  show(!(match p l with|true=>true|false=>kc p L))=_;rw[sm];cases p l with
  |true=>rfl
  |false=>exact ih
def ZM{x:Ky}(hl:ae H al=some (.list (L.map fC)))(hz:L.length<az)(hL:ae H aL=some (.list (left.map .str))):
  ∃Y,RM P d (eU rQ) (eP rQ) (eT rQ) (gJ rQ) (fq ar al (some (.ref aL)) x3 x4 none (some (.str x)) none none none none none) H (.ref H.length) (fq ar al (some (.ref aL)) x3 x4 none (some (.str x)) none none none none none) (H++.list (((L.filter (lZ left x)).map (·.1)).map .str)::Y):=by
 have q:=uS (d:=d) (H:=H) (Hz:=H) (tg:=eP rQ) (elt:=eU rQ) (it:=eT rQ) (ifs:=gJ rQ) (I:=Is H) (e:=λo=>match o with
   |none=>fq ar al (some (.ref aL)) x3 x4 none (some (.str x)) none none none none none
   |some v=>fq ar al (some (.ref aL)) x3 x4 none (some (.str x)) (some (.str (gb v).1)) (some (.int (gb v).2.1)) (some (.str (gb v).2.2.1)) (some (.bool (gb v).2.2.2)) none)
  (t:=λv=>lZ left x (gb v)) (f:=λv=>.str (gb v).1) (λO O O=>rfl) (U:=fq ar al (some (.ref aL)) x3 x4 none (some (.str x)) none none none none none) (H0:=H) (af rfl) (lC hl) (rS hl) rfl (λv hv o K=>?_) (λv hv K hK hn Y=>?_) (λv hv ht K hK hn Y=>?_) (by rw[aJ];exact hz)
 ·refine ue q λY q=>⟨Y,?_⟩;have e:(((L.map fC).filter λv=>lZ left x (gb v)).map λv=>AV.str (gb v).1)=((L.filter (lZ left x)).map (·.1)).map .str:=by rw[sG,cG,cG];rfl
  rw[e] at q;exact q.1
 ·refine aq (bU.mp hv) λl tM e=>?_;subst e;cases o<;>rfl
 ·refine aq (bU.mp hv) λl tM e=>?_;subst e;cases hK;refine⟨[],?_⟩;rw[eV];have t1:∀p1 p2 p3,RT P d true (.cmp .Eq (.var "new" 9 p1) (.var "rest" 6 p2) p3) (fq ar al (some (.ref aL)) x3 x4 none (some (.str x)) (some (.str l.1)) (some (.int l.2.1)) (some (.str l.2.2.1)) (some (.bool l.2.2.2)) none) (H++Y) (ak l.2.2.1 x) (fq ar al (some (.ref aL)) x3 x4 none (some (.str x)) (some (.str l.1)) (some (.int l.2.1)) (some (.str l.2.2.1)) (some (.bool l.2.2.2)) none) (H++Y):=λp1 p2 p3=>bH (af rfl) (af rfl) nA;have t2:∀p1 p2 p3,RT P d true (.cmp .NotEq (.var "new" 9 p1) (.cst (.str "") (.str []) 0 p2) p3) (fq ar al (some (.ref aL)) x3 x4 none (some (.str x)) (some (.str l.1)) (some (.int l.2.1)) (some (.str l.2.2.1)) (some (.bool l.2.2.2)) none) (H++Y) (!fc l.2.2.1) (fq ar al (some (.ref aL)) x3 x4 none (some (.str x)) (some (.str l.1)) (some (.int l.2.1)) (some (.str l.2.2.1)) (some (.bool l.2.2.2)) none) (H++Y):=λp1 p2 p3=>bH (af rfl) aS (by rw[Dp,tH]);have t3:∀p1 p2 p3,RT P d true (.cmp .In (.var "old" 7 p1) (.var "left" 2 p2) p3) (fq ar al (some (.ref aL)) x3 x4 none (some (.str x)) (some (.str l.1)) (some (.int l.2.1)) (some (.str l.2.2.1)) (some (.bool l.2.2.2)) none) (H++Y) (aU l.1 left) (fq ar al (some (.ref aL)) x3 x4 none (some (.str x)) (some (.str l.1)) (some (.int l.2.1)) (some (.str l.2.2.1)) (some (.bool l.2.2.2)) none) (H++Y):=λp1 p2 p3=>bH (af rfl) (af rfl) (Kb (cb hL));show RQ P d _ _ _ (match(match ak l.2.2.1 x with|true=>!fc l.2.2.1|false=>false) with|true=>aU l.1 left|false=>false) _ _;cases e:ak l.2.2.1 x with
  |false=>rw[e] at t1;exact oq (CG (HP (t1 ..)))
  |true=>
   rw[e] at t1;cases e2:fc l.2.2.1 with
   |true=>rw[e2] at t2;exact oq (CG (CI (t1 ..) (HP (t2 ..))))
   |false=>rw[e2] at t2;exact oq (CG (CI (t1 ..) (CI (t2 ..) (oq (t3 ..)))))
 ·refine aq (bU.mp hv) λl tM e=>?_;subst e;refine⟨[],?_⟩;rw[eV];exact af rfl
def ZN(hl:ae H al=some (.list (L.map fC)))(hz:L.length<az)(hL:ae H aL=some (.list (left.map .str)))(lz:left.length<az):
  ∃Y,RM P d (eU qh) (eP qh) (eT qh) (gJ qh) (fq ar al (some (.ref aL)) x3 x4 none none none none none none none) H (.ref H.length) (fq ar al (some (.ref aL)) x3 x4 none none none none none none none) (H++.list ((gh L left).map .str)::Y):=by
 have q:=uS (d:=d) (H:=H) (Hz:=H) (tg:=eP qh) (elt:=eU qh) (it:=eT qh) (ifs:=gJ qh) (I:=Is H) (e:=λo=>fq ar al (some (.ref aL)) x3 x4 none o none none none none none)
  (t:=λv=>!(kc (lZ left ((v.de).getD [])) L)) (f:=λv=>v) (λO O O=>rfl) (U:=fq ar al (some (.ref aL)) x3 x4 none none none none none none none) (H0:=H) (af rfl) (lC hL) (rS hL) rfl (λv hv o K=>rfl) (λv hv K hK hn Y=>?_) (λv hv ht K hK hn Y=>⟨[],by rw[eV];exact af rfl⟩) (by rw[aJ];exact lz)
 ·refine ue q λY q=>⟨Y,?_⟩;have e:(((left.map AV.str).filter λv=>!(kc (lZ left ((v.de).getD [])) L)).map λv=>v)=(gh L left).map .str:=by unfold gh;rw[nz,sG,cG];rfl
  rw[e] at q;exact q.1
 ·refine aq (bU.mp hv) λx hx e=>?_;subst e;cases hK;refine ue (ZM (d:=d) (ar:=ar) (x3:=x3) (x4:=x4) (x:=x) (cb (m:=Y) hl) hz (cb (m:=Y) hL)) λY2 r=>?_;refine⟨.list (((L.filter (lZ left x)).map (·.1)).map .str)::Y2,?_⟩;have eA:H++(Y++.list (((L.filter (lZ left x)).map (·.1)).map .str)::Y2)=H++Y++.list (((L.filter (lZ left x)).map (·.1)).map .str)::Y2:=by rw[eW]
  rw[eA];have ee:(!(kc (lZ left x) L))=((L.filter (lZ left x)).map (·.1)).isEmpty:=by exact ada _ L
  show RQ P d _ _ _ (!(kc (lZ left x) L)) _ _;rw[ee];exact oq (bH (uT r) (e9 (bb:=false) aE rfl) (LS dX))
end
end
section
section
variable {d ar al aL aG:Nat}{K0 H:Hp}{L:List bT}{left yq:List Ky}{x3:Option AV}
def ZL(hL:ae H aL=some (.list (left.map .str)))(lz:left.length<az)(hG:ae H aG=some (.list (yq.map .str))):
  ∃Y,RM P d (eU rP) (eP rP) (eT rP) (gJ rP) (fq ar al (some (.ref aL)) x3 (some (.ref aG)) none none none none none none none) H (.ref H.length) (fq ar al (some (.ref aL)) x3 (some (.ref aG)) none none none none none none none) (H++.list ((d8 (λy=>!aU y yq) left).map .str)::Y):=by
 have q:=uS (d:=d) (H:=H) (Hz:=H) (tg:=eP rP) (elt:=eU rP) (it:=eT rP) (ifs:=gJ rP) (I:=Is H) (e:=λo=>fq ar al (some (.ref aL)) x3 (some (.ref aG)) none none none none none none o)
  (t:=λv=>!aU ((v.de).getD []) yq) (f:=λv=>v) (λO O O=>rfl) (U:=fq ar al (some (.ref aL)) x3 (some (.ref aG)) none none none none none none none) (H0:=H) (af rfl) (lC hL) (rS hL) rfl (λv hv o K=>rfl) (λv hv K hK hn Y=>?_) (λv hv ht K hK hn Y=>⟨[],by rw[eV];exact af rfl⟩) (by rw[aJ];exact lz)
 ·refine ue q λY q=>⟨Y,?_⟩;have e:(((left.map AV.str).filter λv=>!aU ((v.de).getD []) yq).map λv=>v)=(d8 (λy=>!aU y yq) left).map .str:=by rw[nz,sG,cG];rfl
  rw[e] at q;exact q.1
 ·refine aq (bU.mp hv) λx hx e=>?_;subst e;cases hK;refine⟨[],?_⟩;rw[eV];refine oq (bH (af rfl) (af rfl) ?_);show(gU (.str x) (.ref aG) (H++Y)).map (!·)=_;rw[Kb (cb hG)];rfl
def aag{n m:Nat}{l k:List AV}(h:ae H n=some (.list l))(hk:ae H m=some (.list k))(hz:l.length+k.length<=az):lL .list 3 (.ref n) [.ref m] H=some (.none,ai H (.list (l++k)) n):=by rw[AD h];show((bx H m).bind λys=>aI (Nat.ble (l.length+ys.length) az) (some (AV.none,ai H (.list (l++ys)) n)))=_;rw[dy hk];show aI (Nat.ble (l.length+k.length) az) _=_;rw[eO.mpr hz];rfl
def ZK{aF:Nat}(hl:ae K0 al=some (.list (L.map fC)))(hz:L.length<4000){R:List Ky}(hf:K0.length<=aF):∀(m:Nat) {left free:List Ky} {H:Hp} {aL:Nat} {x4:Option AV},iu L m left free=some R->ba K0.length K0 H->ae H aL=some (.list (left.map .str))->ae H aF=some (.list (free.map .str))->left.length<4000->free.length+4000*m<=800000->aL≠aF ->
  ∃H' BN uA,RW P d true (gB yv) (bz yv) (iW yv) (fq ar al (some (.ref aL)) (some (.ref aF)) x4 none none none none none none none) H (.ret (.lst (R.map .str))) (fq ar al (some (.ref BN)) (some (.ref aF)) uA none none none none none none none) H'/\ba K0.length K0 H':=by
 intro m
 induction m with
 |zero=>intro left free H aL x4 e;exact aR e
 |succ m ih=>
  intro left free H aL x4 e lw h1 h2 z1 z2 nq;have zz:(800000:Nat)<=az:=by decide
  have e:(match gh L left with
   |[]=>match Nat.blt free.length 64 with|false=>none|true=>some (cC bu free)
   |x::r=>iu L m (d8 (λy=>!aU y (x::r)) left) (bj free (x::r)))=some R:=e
  refine ue (ZN (d:=d) (ar:=ar) (x3:=some (.ref aF)) (x4:=x4) ((lw.low al (bk hl)).trans hl) (dU hz (by decide)) h1 (dU z1 (by decide))) λY rg=>?_;have gl:(gh L left).length<=left.length:=by unfold gh;rw[nz];exact zh ..
  have n1:ae (H++.list ((gh L left).map .str)::Y) H.length=some (.list ((gh L left).map .str)):=dX;have EE:=cb (m:=.list ((gh L left).map .str)::Y) h1;have vD:=cb (m:=.list ((gh L left).map .str)::Y) h2;have j4:=lw.trans (ba.app (.list ((gh L left).map .str)::Y) lw.len);have ir:=bk h2;have adU:=bk h1;have jy:∀p1 p2 p3,RT P d true (.cmp .Eq (.var "goes" 4 p1) (.list .nil false p2) p3) (fq ar al (some (.ref aL)) (some (.ref aF)) (some (.ref H.length)) none none none none none none none) (H++.list ((gh L left).map .str)::Y) (gh L left).isEmpty (fq ar al (some (.ref aL)) (some (.ref aF)) (some (.ref H.length)) none none none none none none none) (H++.list ((gh L left).map .str)::Y):=λp1 p2 p3=>bH (af rfl) (e9 (bb:=false) aE rfl) (LS n1);have hH:(H++.list ((gh L left).map .str)::Y).length=H.length+(Y.length+1):=bF;generalize H++.list ((gh L left).map .str)::Y=H1 at *;generalize gh L left=G at *;cases G with
  |nil=>
   have e:(match Nat.blt free.length 64 with|false=>none|true=>some (cC bu free))=some R:=e;cases hb:Nat.blt free.length 64 with
   |false=>rw[hb] at e;exact aR e
   |true=>
   rw[hb] at e;obtain rfl:=sj e;exact⟨H1,aL,_,xc (f:=.ret (.lst ((cC bu free).map .str))) (xd rfl) (aj (rn rg rfl rfl) (cK (bM (t:=true) (jy ..) (cK (fW (bO (bL rfl) rfl (aB rfl (af rfl) aE) (gj (b:=.sorted) rfl (Hg vD (bG.mp hb)))) λO=>rfl) nofun)) nofun)) rfl,j4⟩
  |cons x r=>
   have e:iu L m (d8 (λy=>!aU y (x::r)) left) (bj free (x::r))=some R:=e;have ex:=aag vD n1 (by rw[aJ,aJ];exact OZ gl zz z2 z1);have e0:free.map AV.str++(x::r).map .str=(bj free (x::r)).map .str:=by rw[fP,ew]
   rw[e0] at ex;have b1:∀{a},a≠aF->ae (ai H1 (.list ((bj free (x::r)).map .str)) aF) a=ae H1 a:=λh=>bh (fi h);have Zr:ae (ai H1 (.list ((bj free (x::r)).map .str)) aF) aF=some (.list ((bj free (x::r)).map .str)):=cV (bk vD);have Zt:=(b1 nq).trans EE;have V9:=(b1 (dM ir)).trans n1;have jg:=j4.trans (ba.upd (o:=.list ((bj free (x::r)).map .str)) hf);have kk:=gG (P:=P) (m:=3) vD;have K6:(ai H1 (.list ((bj free (x::r)).map .str)) aF).length=H1.length:=cB;generalize ai H1 (.list ((bj free (x::r)).map .str)) aF=H2 at *;refine ue (ZL (d:=d) (ar:=ar) (al:=al) (x3:=some (.ref aF)) Zt (dU z1 (by decide)) V9) λY2 rl=>?_;have n3:ae (H2++.list ((d8 (λy=>!aU y (x::r)) left).map .str)::Y2) H2.length=some (.list ((d8 (λy=>!aU y (x::r)) left).map .str)):=dX;obtain⟨H',BN,uA,r3,xS⟩:=ih (x4:=some (.ref H.length)) e (jg.trans (ba.app _ jg.len)) n3 (cb Zr) (by rw[nz];exact cU (zh ..) z1) (by rw[fP,bF];exact OY gl z2 z1) (by exact OX K6 hH ir);exact⟨H',BN,uA,kD (f:=.next) (xd rfl) (aj (rn rg rfl rfl) (aj (bM (t:=false) (jy ..) aO) (aj (eJ (eM (mk:=.list) (af rfl) kk rfl rfl (aB rfl (af rfl) aE) ex)) (aj (rn rl rfl rfl) aO)))) rfl r3,xS⟩
def UR{ep:Nat}{R:List (Ky×Nat)}{T:List Ky}(hr:ae K0 ar=some (.dict ep (eG R)))(hl:ae K0 al=some (.list (L.map fC)))(zR:R.length<4000)(zL:L.length<4000)(e:iu L 100 (cJ (·.1) R.reverse) []=some T):
  ∃H',RC P (d+1) (.glob 9) [.ref ar,.ref al] K0 (.lst (T.map .str)) H'/\ba K0.length K0 H':=by
 have ff:=Z7 (tg:=eP Be) hr (eG R).length 0 (gA _);rw[qD] at ff;have zl:(eG R).length=R.length:=by unfold eG;rw[aJ,ie]
 have q:=sY (d:=d) (H:=K0) (tg:=eP Be) (elt:=eU Be) (it:=eT Be) (e:=λo=>fq ar al none none none o none none none none none none) (f:=λv=>v) (λO O O=>rfl) (U:=fq ar al none none none none none none none none none none) (H0:=K0) (af rfl) (Hc hr) ff rfl (λO O O O=>rfl) (λx hx Y=>⟨[],by rw[eV];exact af rfl⟩) (by rw[aJ,zl];exact dU zR (by decide));refine ue q λY q=>?_;have ek:(((eG R).map λp=>AV.str p.1).map λv=>v)=(cJ (·.1) R.reverse).map .str:=by unfold eG;rw[mZ,cG,cG,cG];rfl
 rw[ek] at q;have hlen:(K0++.list ((cJ (·.1) R.reverse).map .str)::Y).length=K0.length+(Y.length+1):=bF;have n1:ae (K0++.list ((cJ (·.1) R.reverse).map .str)::Y) K0.length=some (.list ((cJ (·.1) R.reverse).map .str)):=dX;have j4:=ba.app (.list ((cJ (·.1) R.reverse).map .str)::Y) (bf K0.length);generalize K0++.list ((cJ (·.1) R.reverse).map .str)::Y=H1 at *;obtain⟨H',BN,uA,r,lw⟩:=ZK (d:=d) (ar:=ar) (aF:=H1.length) hl zL j4.len 100 (H:=H1++[.list []]) (x4:=none) e (j4.trans (ba.app _ j4.len)) (cb n1) dX (by rw[mZ,aJ,ie];exact zR) (by decide) (by exact OW hlen);refine⟨H',eS (fd:=f9) (fl:=.ret (.lst (T.map .str))) (ρ1:=[some (.ref ar),some (.ref al),none,none,none,none,none,none,none,none,none,none]) rfl rfl ?_ rfl,lw⟩;exact⟨_,aj (rn q rfl rfl) (aj (bC (e9 (bb:=true) aE rfl) (λO=>rfl) rfl rfl) (cK (kF r) nofun))⟩
end
end
end
section
open PySem.W PyProof.Rows
section
def cF{α:Type}(aY:Nat->Nat->Bool)(n:Nat)(t:KasT α)(Q:α->Prop):Prop:=∃a,l9 aY n t=some a/\Q a
section
variable {α β:Type}{aY:Nat->Nat->Bool}{n:Nat}{Q:α->Prop}
def cF.ret{a:α}(h:Q a):cF aY n (.ret a) Q:=⟨a,rfl,h⟩
def cF.ask{i j:Nat}{k:Bool->KasT α}(hi:i<n)(hj:j<n)(h:cF aY n (k (aY i j)) Q):cF aY n (.ask i j k) Q:=by obtain⟨a,e,q⟩:=h;refine⟨a,?_,q⟩;show(match Nat.blt i n&&Nat.blt j n with|true=>l9 aY n (k (aY i j))|false=>none)=some a;rw[bG.mpr hi,bG.mpr hj];exact e
def acW{f:α->KasT β}:∀(t:KasT α),l9 aY n (t.bind f)=(l9 aY n t).bind λa=>l9 aY n (f a):=by
 intro t
 induction t with
 |ret a=>rfl
 |ask i j k ih=>
  show(match Nat.blt i n&&Nat.blt j n with|true=>l9 aY n ((k (aY i j)).bind f)|false=>none)=(match Nat.blt i n&&Nat.blt j n with|true=>l9 aY n (k (aY i j))|false=>none).bind λa=>l9 aY n (f a);cases Nat.blt i n&&Nat.blt j n with
  |true=>exact ih (aY i j)
  |false=>rfl
def cF.bind{t:KasT β}{f:β->KasT α}(h:cF aY n t λb=>cF aY n (f b) Q):cF aY n (t.bind f) Q:=by obtain⟨b,e,a,e2,q⟩:=h;exact⟨a,by rw[acW,e];exact e2,q⟩
end
structure r9(aY:Nat->Nat->Bool)(n:Nat):Prop where
 M6:∀i j,i<n->j<n->aY i j=true->aY j i=false
 qV:∀i j k,i<n->j<n->k<n->aY i j=true->aY j k=true->aY i k=true
 sQ:∀i j,i<n->j<n->i≠j->aY i j=false->aY j i=true
def Pm(n:Nat)(p:Array Nat):Prop:=p.toList.Perm (List.range n)
def Up(aY:Nat->Nat->Bool)(p:Array Nat)(k:Nat):Prop:=∀i j,i<j->j<k->aY (p.getD i 0) (p.getD j 0)=true
def Dn(aY:Nat->Nat->Bool)(p:Array Nat)(k:Nat):Prop:=∀i j,i<j->j<k->aY (p.getD j 0) (p.getD i 0)=true
section
variable {aY:Nat->Nat->Bool}{n:Nat}{p:Array Nat}
def Pm.size(h:Pm n p):p.size=n:=by have:=h.length_eq;rw[List.length_range] at this;rwa[pz] at this
variable {k:Nat}
def yt(h:k<p.size):p.getD k 0=p.toList[k]'(by rw[pz];exact h):=by rw[B7,Array.getElem?_eq_getElem h];exact(Array.getElem_toList h).symm
def Pm.lt(h:Pm n p)(hk:k<n):p.getD k 0<n:=by rw[yt (by rw[h.size];exact hk)];exact List.mem_range.mp (h.mem_iff.mp (List.getElem_mem _))
def Pm.ne(h:Pm n p){i j:Nat}(hi:i<n)(hj:j<n)(hn:i≠j):p.getD i 0≠p.getD j 0:=by rw[yt (by rw[h.size];exact hi),yt (by rw[h.size];exact hj)];have nd:p.toList.Nodup:=h.nodup_iff.mpr List.nodup_range;intro e;exact hn ((List.getElem_inj nd).mp e)
def Q6(O:r9 aY n)(P:Pm n p)(hk:k<n)(h1:1<=k)(fN:Up aY p k)(h:aY (p.getD (k-1) 0) (p.getD k 0)=true):Up aY p (k+1):=by
 intro i j bY hj;rcases sF j k with q|q
 ·exact fN i j bY q
 ·have ej:j=k:=by exact Ge q hj
  subst ej;rcases sF i (j-1) with r|r
  ·exact O.qV _ _ _ (P.lt (by exact Gd hk bY)) (P.lt (by exact PW hk)) (P.lt hk) (fN i (j-1) r (by exact F5 bY)) h
  ·have:i=j-1:=by exact F4 r bY
   rw[this];exact h
def M7(O:r9 aY n)(P:Pm n p):∀(f m:Nat),1<=m->m+f=n->Up aY p m->cF aY n (kas_asc p f m) λr=>m<=r/\r<=n/\Up aY p r/\(r≠n->aY (p.getD r 0) (p.getD (r-1) 0)=true):=by
 intro f
 induction f with
 |zero=>intro m h1 hm fN;exact cF.ret ⟨bf _,aW hm,fN,λh=>absurd hm h⟩
 |succ f ih=>
  intro m h1 hm fN;have lW:m<n:=by exact Ca hm
  refine cF.ask (P.lt lW) (P.lt (by exact qP hm)) ?_;cases hc:aY (p.getD m 0) (p.getD (m-1) 0) with
  |true=>exact cF.ret ⟨bf _,fF lW,fN,λ_=>hc⟩
  |false=>obtain⟨r,e,q1,q2,q3,q4⟩:=ih (m+1) (wx h1) (by exact B9 hm) (Q6 O P lW h1 fN (O.sQ _ _ (P.lt lW) (P.lt (by exact qP hm)) (P.ne lW (by exact qP hm) (by exact OS h1)) hc));exact⟨r,e,by exact OL q1,q2,q3,q4⟩
def abl(O:r9 aY n)(P:Pm n p):∀(f m:Nat),2<=m->m+f=n->Dn aY p m->cF aY n (kas_desc f p m 0) λr=>r.1=p/\r.2.2=0/\2<=r.2.1/\r.2.1<=n/\Dn aY p r.2.1:=by
 intro f
 induction f with
 |zero=>intro m h1 hm D;exact cF.ret ⟨rfl,rfl,h1,aW hm,D⟩
 |succ f ih=>
  intro m h1 hm D;have lW:m<n:=by exact Ca hm
  refine cF.ask (P.lt lW) (P.lt (by exact qP hm)) ?_;cases hc:aY (p.getD m 0) (p.getD (m-1) 0) with
  |true=>
   show cF aY n (kas_desc f p (m+1) 0) _;refine ih (m+1) (wx h1) (by exact B9 hm) λi j bY hj=>?_;rcases sF j m with q|q
   ·exact D i j bY q
   ·have ej:j=m:=by exact Ge q hj
    subst ej;rcases sF i (j-1) with r|r
    ·exact O.qV _ _ _ (P.lt lW) (P.lt (by exact qP hm)) (P.lt (by exact Qs hm bY)) hc (D i (j-1) r (by exact F5 bY))
    ·have:i=j-1:=by exact F4 r bY
     rw[this];exact hc
  |false=>refine cF.ask (P.lt (by exact qP hm)) (P.lt lW) ?_;rw[O.sQ _ _ (P.lt lW) (P.lt (by exact qP hm)) (P.ne lW (by exact qP hm) (by exact Qo h1)) hc];exact cF.ret ⟨rfl,rfl,h1,fF lW,D⟩
def Pm.of{q:Array Nat}(P:Pm n p)(h:q.Perm p):Pm n q:=(Array.perm_iff_toList_perm.mp h).trans P
def Bc{q:Array Nat}{i j:Nat}(h:q[i]?=p[j]?):q.getD i 0=p.getD j 0:=by rw[B7,B7,h]
def Ue(P:Pm n p){m:Nat}(hm:m<=n)(D:Dn aY p m):Up aY (kas_rev p 0 m) m:=by
 have e:∀k,k<m->(kas_rev p 0 m).getD k 0=p.getD (m-1-k) 0:=λk hk=>by have h:=getElem?_mirror_all (xs:=p) (i:=0) (j:=m) (by rw[P.size];exact hm) k;rw[if_pos ⟨jP _,hk⟩,gA] at h;exact Bc h
 intro i j bY hj;rw[e i (by exact Gd hj bY),e j hj];exact D _ _ (by exact Qd hj bY) (by exact P5 hj)
def abw(O:r9 aY n)(P:Pm n p)(h2:2<=n):cF aY n (kas_count n p) λr=>Pm n r.2/\1<=r.1/\r.1<=n/\Up aY r.2 r.1:=by
 refine cF.bind ?_;obtain⟨r,e,q1,q2,q3,q4⟩:=M7 O P (n-1) 1 (bf _) (by exact P4 h2) λi j bY hj=>by exact(P2 hj bY).elim
 refine⟨r,e,?_⟩;show cF aY n (if(r==n)=true then .ret (r,p) else if r>1 then .ask (p.getD 0 0) (p.getD (r-1) 0) λc=>if c=true then .ret (r,p) else kas_descPart r n (kas_rev p 0 r) else kas_descPart r n p) _;by_cases hr:r=n
 ·rw[if_pos (by rw[hr];exact beq_self_eq_true n)];exact cF.ret ⟨P,q1,q2,q3⟩
 ·rw[if_neg (by rw[beq_iff_eq];exact hr)];by_cases h1:r>1
  ·rw[if_pos h1];refine cF.ask (P.lt (by exact P1 h2)) (P.lt (by exact PZ q2 h2)) ?_;rw[q3 0 (r-1) (by exact PY h1) (by exact PX q1)];exact cF.ret ⟨P,q1,q2,q3⟩
  ·rw[if_neg h1];have r1:r=1:=by exact PV h1 q1
   subst r1;have d2:=q4 hr;unfold kas_descPart;refine cF.bind ?_;obtain⟨t,e,t1,t2,t3,t4,t5⟩:=abl O P (n-(1+1)) 2 (bf _) (by exact PU h2) λi j bY hj=>by
    have:i=0:=by exact PT hj bY
    have:j=1:=by exact PS hj bY
    subst i j;exact d2
   refine⟨t,e,?_⟩;obtain⟨tp,tm,tq⟩:=t;obtain rfl:tp=p:=t1;obtain rfl:tq=0:=t2;show cF aY n (if 0>0 then kas_tail3 tm n (kas_rev tp (tm-(0+1)) tm) else kas_tail3 tm n tp) _;rw[if_neg (jQ 0)];unfold kas_tail3;refine cF.bind ?_;have P':Pm n (kas_rev tp 0 tm):=P.of (mirror_perm _ _ _ _);obtain⟨r',e',w1,w2,w3,_⟩:=M7 O P' (n-tm) tm (by exact aM (by decide) t3) (by have:tm<=n:=t4;exact F6 t4) (Ue P t4 t5);exact⟨r',e',cF.ret ⟨P',aM (aM (by decide) t3) w1,w2,w3⟩⟩
def Vg(P:Pm n p)(O:r9 aY n)(hk:k<n)(fN:Up aY p k):∀(f l r:Nat),l<=r->r<=k->r<=l+f->(∀i,i<l->aY (p.getD i 0) (p.getD k 0)=true)->(∀i,r<=i->i<k->aY (p.getD k 0) (p.getD i 0)=true)->cF aY n (kas_place p k f l r) λl=>l<=k/\(∀i,i<l->aY (p.getD i 0) (p.getD k 0)=true)/\(∀i,l<=i->i<k->aY (p.getD k 0) (p.getD i 0)=true):=by
 intro f
 induction f with
 |zero=>
  intro l r h1 h2 h3 a b;have:l=r:=by exact PR h3 h1
  subst this;exact cF.ret ⟨h2,a,b⟩
 |succ f ih=>
  intro l r h1 h2 h3 a b;show cF aY n (if l≥r then .ret l else .ask (p.getD k 0) (p.getD ((l+r)/2) 0) λc=>if c=true then kas_place p k f l ((l+r)/2) else kas_place p k f ((l+r)/2+1) r) _;by_cases h:l≥r
  ·rw[if_pos h];have:l=r:=by exact PQ h h1
   subst this;exact cF.ret ⟨h2,a,b⟩
  ·rw[if_neg h];refine cF.ask (P.lt hk) (P.lt (by exact wB h2 h1 hk)) ?_;cases hc:aY (p.getD k 0) (p.getD ((l+r)/2) 0) with
   |true=>
    show cF aY n (kas_place p k f l ((l+r)/2)) _;refine ih l ((l+r)/2) (by exact PO h1) (by exact PN h2 h1) (by exact PM h3) a λi hi A2=>?_;rcases sF ((l+r)/2) i with q|q
    ·exact O.qV _ _ _ (P.lt hk) (P.lt (by exact wB h2 h1 hk)) (P.lt (by exact PL A2 hk)) hc (fN _ _ q A2)
    ·have:i=(l+r)/2:=by exact PK q hi
     rw[this];exact hc
   |false=>
    show cF aY n (kas_place p k f ((l+r)/2+1) r) _;have oM:=O.sQ _ _ (P.lt hk) (P.lt (by exact wB h2 h1 hk)) (P.ne hk (by exact wB h2 h1 hk) (by exact PJ h h2)) hc;refine ih ((l+r)/2+1) r (by exact PI h) h2 (by exact PH h3) (λi hi=>?_) b;rcases sF i ((l+r)/2) with q|q
    ·exact O.qV _ _ _ (P.lt (by exact PG hi h2 h1 hk)) (P.lt (by exact wB h2 h1 hk)) (P.lt hk) (fN _ _ q (by exact PF h h2)) oM
    ·have:i=(l+r)/2:=by exact PE q hi
     rw[this];exact oM
def acx(O:r9 aY n):∀(f k:Nat) {p:Array Nat},Pm n p->Up aY p k->k+f=n->cF aY n (kas_bin f p k) λq=>Pm n q/\Up aY q n:=by
 intro f
 induction f with
 |zero=>intro k p P fN h;have:k=n:=h;subst this;exact cF.ret ⟨P,fN⟩
 |succ f ih=>
  intro k p P fN h;have hk:k<n:=by exact Ca h
  refine cF.bind ?_;obtain⟨l,e,l1,l2,l3⟩:=Vg P O hk fN k 0 k (jP _) (bf _) (by exact PC) (λi hi=>absurd hi (Nat.not_lt_zero i)) λi hi A2=>by exact(PB A2 hi).elim
  refine⟨l,e,?_⟩;have g:∀j,(bubble p k (k-l)).getD j 0=if j=l then p.getD k 0 else if l<j/\j<=k then p.getD (j-1) 0 else p.getD j 0:=λj=>by
   have h:=getElem?_bubble (xs:=p) (src:=k) (by rw[P.size];exact hk) (k-l) (nU _ _) j;have el:k-(k-l)=l:=by exact PA l1
   rw[el] at h;by_cases h1:j=l
   ·rw[if_pos h1] at h⊢;exact Bc h
   ·rw[if_neg h1] at h⊢;by_cases h2:l<j/\j<=k
    ·rw[if_pos h2] at h⊢;exact Bc h
    ·rw[if_neg h2] at h⊢;exact Bc h
  refine ih (k+1) (P.of (bubble_perm _ _ _)) (λi j bY hj=>?_) (by exact B9 h);rw[g i,g j];by_cases j1:j=l
  ·rw[if_pos j1,if_neg (by exact Pz j1 bY),if_neg (by exact Py j1 bY)];exact l2 i (by exact Px j1 bY)
  ·rw[if_neg j1];by_cases j2:l<j/\j<=k
   ·rw[if_pos j2];by_cases i1:i=l
    ·rw[if_pos i1];exact l3 (j-1) (by exact Pw j2) (by exact Cb hj bY)
    ·rw[if_neg i1];by_cases i2:l<i/\i<=k
     ·rw[if_pos i2];exact fN _ _ (by exact Pu i1 j2 bY) (by exact Cb hj bY)
     ·rw[if_neg i2];exact fN _ _ (by exact Pt i2 i1 j2 bY) (by exact Cb hj bY)
   ·rw[if_neg j2,if_neg (by exact Pq j2 hj bY),if_neg (by exact Pp j2 hj bY)];exact fN i j bY (by exact Po j2 j1 hj l1)
def Ru(O:r9 aY n)(h2:2<=n):cF aY n (kas_sort n) λq=>Pm n q/\Up aY q n:=by
 have P0:Pm n (List.toArray (List.range n)):=by unfold Pm;exact List.Perm.refl _
 refine cF.bind ?_;obtain⟨r,e,P,r1,r2,fN⟩:=abw O P0 h2;refine⟨r,e,?_⟩;show cF aY n (if r.1<n then kas_bin (n-max r.1 1) r.2 (max r.1 1) else .ret r.2) _;by_cases h:r.1<n
 ·rw[if_pos h];have em:max r.1 1=r.1:=Nat.max_eq_left r1;rw[em];exact acx O _ _ P fN (by exact F6 r2)
 ·rw[if_neg h];have:r.1=n:=by exact Pn h r2
  rw[this] at fN;exact cF.ret ⟨P,fN⟩
end
section
variable {α:Type}{lt:α->α->Bool}
def J7(x:α):∀l:List α,(jj lt x l).Perm (x::l):=by
 intro l
 induction l with
 |nil=>exact List.Perm.refl _
 |cons y l ih=>
  show(match lt y x with|true=>y::jj lt x l|false=>x::y::l).Perm _;cases lt y x with
  |true=>exact(ih.cons y).trans (List.Perm.swap x y l)
  |false=>exact List.Perm.refl _
def G9:∀l:List α,(cC lt l).Perm l:=by
 intro l
 induction l with
 |nil=>exact List.Perm.refl _
 |cons x l ih=>exact(J7 x _).trans (ih.cons x)
def Yi(qV:∀a b c,lt a b=true->lt b c=true->lt a c=true)(sQ:∀a b,a≠b->lt a b=false->lt b a=true)(x:α):∀{l:List α},l.Pairwise (λa b=>lt a b=true)->x∉l->(jj lt x l).Pairwise λa b=>lt a b=true:=by
 intro l
 induction l with
 |nil=>intro _ _;exact List.pairwise_singleton _ _
 |cons y l ih=>
  intro h hx;obtain⟨h1,h2⟩:=mz.mp h;rw[bQ,not_or] at hx;show(match lt y x with|true=>y::jj lt x l|false=>x::y::l).Pairwise _;cases e:lt y x with
  |true=>
   refine mz.mpr ⟨λz hz=>?_,ih h2 hx.2⟩;rcases bQ.mp ((J7 x l).mem_iff.mp hz) with rfl|hz
   ·exact e
   ·exact h1 z hz
  |false=>
   have xy:=sQ y x (fi hx.1) e;refine mz.mpr ⟨λz hz=>?_,h⟩;rcases bQ.mp hz with rfl|hz
   ·exact xy
   ·exact qV _ _ _ xy (h1 z hz)
def Sm(qV:∀a b c,lt a b=true->lt b c=true->lt a c=true)(sQ:∀a b,a≠b->lt a b=false->lt b a=true):∀{l:List α},l.Nodup->(cC lt l).Pairwise λa b=>lt a b=true:=by
 intro l
 induction l with
 |nil=>intro _;exact .nil
 |cons x l ih=>intro h;obtain⟨h1,h2⟩:=gN.mp h;exact Yi qV sQ x (ih h2) λhm=>h1 ((G9 l).mem_iff.mp hm)
def Q5(M6:∀a b,lt a b=true->lt b a=false):∀{l m:List α},l.Perm m->l.Pairwise (λa b=>lt a b=true)->m.Pairwise (λa b=>lt a b=true)->l=m:=by
 intro l
 induction l with
 |nil=>intro m p _ _;exact p.nil_eq
 |cons a l ih=>
  intro m p h1 h2;cases m with
  |nil=>exact absurd p.symm.nil_eq nofun
  |cons b m=>
   obtain⟨a1,a2⟩:=mz.mp h1;obtain⟨b1,b2⟩:=mz.mp h2;have e:a=b:=by
    rcases bQ.mp (p.mem_iff.mp bA) with e|e
    ·exact e
    ·rcases bQ.mp (p.symm.mem_iff.mp bA) with e2|e2
     ·exact e2.symm
     ·have:=M6 _ _ (a1 b e2);rw[b1 a e] at this;exact nomatch this
   subst e;rw[ih (List.Perm.cons_inv p) a2 b2]
end
def Vj{α:Type}{l:List α}{x0:α}:∀{is:List Nat},(∀i∈is,i<l.length)->rB l is=some (is.map λi=>l.getD i x0):=by
 intro is
 induction is with
 |nil=>intro _;rfl
 |cons i is ih=>
  intro h;show((ae l i).bind λx=>(rB l is).map (x::·))=_;have hi:=h i bA;have:ae l i=some (l.getD i x0):=by
   clear h ih
   induction l generalizing i with
   |nil=>exact absurd hi (Nat.not_lt_zero _)
   |cons y l ih=>cases i with
    |zero=>rfl
    |succ i=>exact ih i (zi hi)
  rw[this,ih λj hj=>h j (bS _ hj)];rfl
end
end
section
def vW{x y:Nat}(h:x≠y):Nat.beq x y=false:=by
 cases e:Nat.beq x y with
 |true=>exact absurd (bW e) h
 |false=>rfl
def DB(x y:Nat)(a b:Ky):bu (x::a) (y::b)=match Nat.beq x y with|true=>bu a b|false=>Nat.blt x y:=rfl
def AF:∀{a b:Ky},bu a b=true->bu b a=false:=by
 intro a
 induction a with
 |nil=>
  intro b h;cases b with
  |nil=>rfl
  |cons y b=>rfl
 |cons x a ih=>
  intro b h;cases b with
  |nil=>exact nomatch h
  |cons y b=>
   rw[DB] at h⊢;cases e:Nat.beq x y with
   |true=>rw[e] at h;have e:=bW e;subst e;rw[fT];exact ih h
   |false=>
    rw[e] at h;have h:=bG.mp h;rw[vW (dM h)];cases e2:Nat.blt y x with
    |false=>rfl
    |true=>exact absurd (nP h (bG.mp e2)) (jQ _)
def DA:∀{a b:Ky},bu a b=false->bu b a=false->a=b:=by
 intro a
 induction a with
 |nil=>
  intro b h h2;cases b with
  |nil=>rfl
  |cons y b=>exact nomatch h
 |cons x a ih=>
  intro b h h2;cases b with
  |nil=>exact nomatch h2
  |cons y b=>
   rw[DB] at h h2;rcases Nat.lt_trichotomy x y with q|q|q
   ·rw[vW (dT q)] at h;rw[bG.mpr q] at h;exact nomatch h
   ·subst q;rw[fT] at h h2;rw[ih h h2]
   ·rw[vW (dT q)] at h2;rw[bG.mpr q] at h2;exact nomatch h2
def Jq:∀{a b c:Ky},bu a b=true->bu b c=true->bu a c=true:=by
 intro a
 induction a with
 |nil=>
  intro b c h h2;cases c with
  |nil=>cases b with
   |nil=>exact nomatch h
   |cons y b=>exact nomatch h2
  |cons z c=>rfl
 |cons x a ih=>
  intro b c h h2;cases b with
  |nil=>exact nomatch h
  |cons y b=>
   cases c with
   |nil=>exact nomatch h2
   |cons z c=>
    rw[DB] at h h2⊢;cases e:Nat.beq x y with
    |true=>
     rw[e] at h;have e:=bW e;subst e;cases e2:Nat.beq x z with
     |true=>rw[e2] at h2;exact ih h h2
     |false=>rw[e2] at h2;exact h2
    |false=>
     rw[e] at h;have h:=bG.mp h;cases e2:Nat.beq y z with
     |true=>have e2:=bW e2;subst e2;rw[vW (dT h)];exact bG.mpr h
     |false=>rw[e2] at h2;have h2:=nP h (bG.mp h2);rw[vW (dT h2)];exact bG.mpr h2
def Jr(a:Ky):bu a a=false:=by
 cases h:bu a a with
 |false=>rfl
 |true=>rw[AF h] at h;exact nomatch h
noncomputable def aN(p:Pr):AV:=.lst [.str p.1,.str p.2]
def Jo{a b:Pr}(h:dw a b=true):dw b a=false:=by
 unfold dw at h⊢;cases e:ak a.1 b.1 with
 |true=>rw[e] at h;rw[gz e,g6];exact AF h
 |false=>rw[e] at h;rw[nC λq=>by rw[q,g6] at e;exact nomatch e];exact AF h
def Jn{a b:Pr}(hn:a≠b)(h:dw a b=false):dw b a=true:=by
 cases h2:dw b a with
 |true=>rfl
 |false=>
  refine absurd ?_ hn;unfold dw at h h2;cases e:ak a.1 b.1 with
  |true=>rw[e] at h;rw[gz e,g6] at h2;exact Prod.ext (gz e) (DA h h2)
  |false=>rw[e] at h;rw[nC λq=>by rw[q,g6] at e;exact nomatch e] at h2;rw[DA h h2,g6] at e;exact nomatch e
def Jm{a b c:Pr}(h:dw a b=true)(h2:dw b c=true):dw a c=true:=by
 unfold dw at h h2⊢;cases e:ak a.1 b.1 with
 |true=>
  rw[e] at h;rw[gz e];cases e2:ak b.1 c.1 with
  |true=>rw[e2] at h2;exact Jq h h2
  |false=>rw[e2] at h2;exact h2
 |false=>
  rw[e] at h;cases e2:ak b.1 c.1 with
  |true=>rw[e2] at h2;rw[<- gz e2,e];exact h
  |false=>rw[e2] at h2;have t:=Jq h h2;rw[nC λq=>by rw[q,Jr] at t;exact nomatch t];exact t
noncomputable def iK(p:Pr):List Ky:=[p.1,p.2]
def WN(p q:Pr):kI (iK p) (iK q)=dw p q:=by
 show(match ak p.1 q.1 with|true=>(match ak p.2 q.2 with|true=>false|false=>bu p.2 q.2)|false=>bu p.1 q.1)=(match ak p.1 q.1 with|true=>bu p.2 q.2|false=>bu p.1 q.1);cases ak p.1 q.1 with
 |false=>rfl
 |true=>
  show(match ak p.2 q.2 with|true=>false|false=>bu p.2 q.2)=bu p.2 q.2;cases e:ak p.2 q.2 with
  |false=>rfl
  |true=>rw[gz e,Jr]
def Rh:∀l:List Pr,pI (l.map aN)=some (l.map iK):=by
 intro l
 induction l with
 |nil=>rfl
 |cons p l ih=>show((some [AV.str p.1,.str p.2]).bind λl'=>(lq l').bind λt=>(pI (l.map aN)).map (t::·))=_;rw[ih];rfl
def Sy{l:List Pr}(hn:l.Nodup)(hz:l.length<64):jA (l.map aN)=some ((cC dw l).map aN):=by
 cases l with
 |nil=>rfl
 |cons p l=>
 cases l with
 |nil=>rfl
 |cons q l=>
 generalize hL:p::q::l=L at hn;have h2:2<=L.length:=by rw[<- hL];exact i5 2 _
 have e0:jA (L.map aN)=n9 (L.map iK) (L.map aN):=by rw[<- hL];show((pI ((p::q::l).map aN)).bind λts=>n9 ts ((p::q::l).map aN))=_;rw[Rh];rfl
 rw[e0];have en:(L.map iK).length=L.length:=aJ ..;have ea:(λi j=>kI ((L.map iK).getD i []) ((L.map iK).getD j []))=λi j=>kI ((L.map iK).getD i []) ((L.map iK).getD j []):=rfl;have gt:∀i,i<L.length->(L.map iK).getD i []=iK (L.getD i ([],[])):=λi hi=>by rw[k8,k8,qF,pF hi];rfl
 have an:∀i j,i<L.length->j<L.length->kI ((L.map iK).getD i []) ((L.map iK).getD j [])=dw (L.getD i ([],[])) (L.getD j ([],[])):=λi j hi hj=>by rw[gt i hi,gt j hj,WN]
 have ne:∀i j,i<L.length->j<L.length->i≠j->L.getD i ([],[])≠L.getD j ([],[]):=λi j hi hj bY e=>by rw[k8,k8,pF hi,pF hj] at e;exact bY ((List.getElem_inj hn).mp e)
 have O:r9 (λi j=>kI ((L.map iK).getD i []) ((L.map iK).getD j [])) L.length:=⟨λi j hi hj h=>by rw[an i j hi hj] at h;rw[an j i hj hi];exact Jo h,λi j k hi hj hk h h2=>by rw[an i j hi hj] at h;rw[an j k hj hk] at h2;rw[an i k hi hk];exact Jm h h2,λi j hi hj bY h=>by rw[an i j hi hj] at h;rw[an j i hj hi];exact Jn (ne i j hi hj bY) h⟩;obtain⟨a,e1,P,fN⟩:=Ru O h2;have pk:rB (L.map aN) a.toList=some ((a.toList.map λi=>L.getD i ([],[])).map aN):=by have hl:∀i∈a.toList,i<L.length:=λi hi=>List.mem_range.mp (P.mem_iff.mp hi);rw[Vj (x0:=aN ([],[])) λi hi=>by rw[aJ];exact hl i hi,cG];refine congrArg some (iI λi hi=>?_);rw[k8,qF,pF (hl i hi)];show aN _=aN (L.getD i ([],[]));rw[k8,pF (hl i hi)];rfl
 have pm:(a.toList.map λi=>L.getD i ([],[])).Perm L:=by refine(List.Perm.map _ P).trans (List.Perm.of_eq ?_);refine List.ext_getElem (by rw[aJ,List.length_range]) λi h1 h2=>?_;rw[List.getElem_map,List.getElem_range,k8,pF h2];rfl
 have up:(a.toList.map λi=>L.getD i ([],[])).Pairwise λa b=>dw a b=true:=by
  rw[List.pairwise_map];refine List.pairwise_iff_getElem.mpr λi j hi hj bY=>?_;have sz:=P.size;have A4:i<a.size:=by rw[<- pz];exact hi
  have KI:j<a.size:=by rw[<- pz];exact hj
  have:=fN i j bY (by rw[<- sz];exact KI);rw[yt A4,yt KI] at this;exact(an _ _ (List.mem_range.mp (P.mem_iff.mp (List.getElem_mem _))) (List.mem_range.mp (P.mem_iff.mp (List.getElem_mem _)))).symm.trans this
 have fin:(a.toList.map λi=>L.getD i ([],[]))=cC dw L:=Q5 (lt:=dw) (λa b h=>Jo h) (pm.trans (G9 L).symm) up (Sm (lt:=dw) (λa b c h h2=>Jm h h2) (λa b h h2=>Jn h h2) hn);unfold n9;rw[en];have bl:Nat.blt L.length 2=false:=by
  cases h:Nat.blt L.length 2 with
  |false=>rfl
  |true=>exact absurd (bG.mp h) (hZ.mpr h2)
 rw[bl];show((l9 (λi j=>kI ((L.map iK).getD i []) ((L.map iK).getD j [])) L.length (PySem.W.kas_sort L.length)).bind λp=>aI (Nat.beq p.size L.length) (rB (L.map aN) p.toList))=_;rw[e1];show aI (Nat.beq a.size L.length) (rB (L.map aN) a.toList)=_;rw[P.size,fT,pk,fin];rfl
section
section
variable {H:Hp}{n:Nat}{l:List Pr}
def Bv(k:Nat)(p:Pr):aV H k (aN p)=aN p:=by
 cases k with
 |zero=>rfl
 |succ k=>exact congrArg AV.lst (yE k [p.1,p.2])
def L9(k:Nat)(l:List Pr):(l.map aN).map (aV H k)=l.map aN:=by rw[cG];exact iI λx O=>Bv k x
def Ap(k:Nat)(p:Pr):cw (aN p) (k+1)=true:=by unfold aN;simp only[cw];exact xC k [p.1,p.2]
def IB(k:Nat)(l:List Pr):dh (l.map aN) (k+1)=true:=by
 induction l with
 |nil=>simp only[k7,dh]
 |cons x l ih=>simp only[bE,dh,Ap,ih]
def EN(p q:Pr):c6 (aN p) (aN q)=some (g5 p q):=by
 unfold aN g5;simp only[c6,AV.nc,AV.de,Option.bind,Option.map,fu];cases ak p.1 q.1 with
 |true=>cases ak p.2 q.2<;>rfl
 |false=>rfl
def Yq(p:Pr)(l:List Pr):gH (aN p) (l.map aN)=some (ip p l):=by
 induction l with
 |nil=>rfl
 |cons q l ih=>show((c6 (aN q) (aN p)).bind λb=>(gH (aN p) (l.map aN)).map λc=>b||c)=some (match g5 q p with|true=>true|false=>ip p l);rw[ih,EN];cases g5 q p<;>rfl
def Yp{p:Pr}(h:ae H n=some (.list (l.map aN))):gU (aN p) (.ref n) H=some (ip p l):=by unfold gU;show(match bx H n with|some l=>aI (cw (aV H 3 (aN p)) 3&&dh (l.map (aV H 3)) 3) (gH (aV H 3 (aN p)) (l.map (aV H 3)))|none=>_)=_;rw[dy h];show aI (cw (aV H 3 (aN p)) 3&&dh ((l.map aN).map (aV H 3)) 3) (gH (aV H 3 (aN p)) ((l.map aN).map (aV H 3)))=_;rw[L9,Bv,IB,Ap,Yq];rfl
end
def aaz(p:Pr):g5 p p=true:=by unfold g5;rw[g6];exact g6 _
def Wm{p:Pr}:∀{l:List Pr},ip p l=false->p∉l:=by
 intro l
 induction l with
 |nil=>intro _ h;exact nomatch h
 |cons q l ih=>
  intro h hm;have h:(match g5 q p with|true=>true|false=>ip p l)=false:=h;cases e:g5 q p with
  |true=>rw[e] at h;exact nomatch h
  |false=>
   rw[e] at h;rcases bQ.mp hm with rfl|hm
   ·rw[aaz] at e;exact nomatch e
   ·exact ih h hm
def Vz{a b:Ky}{made:List Pr}(h:made.Nodup):(lH a b made).Nodup:=by
 cases a with
 |nil=>exact h
 |cons x a=>cases b with
  |nil=>exact h
  |cons y b=>
   show(match Nat.beq x y with
    |false=>made
    |true=>match ip (cZ a b) made with|true=>made|false=>bj made [cZ a b]).Nodup
   cases Nat.beq x y with
   |false=>exact h
   |true=>
    cases e:ip (cZ a b) made with
    |true=>exact h
    |false=>show(bj made [cZ a b]).Nodup;rw[fP];refine sq.mpr ⟨h,by simp,λx hx y hy q=>?_⟩;rw[fU.mp hy] at q;rw[q] at hx;exact Wm e hx
abbrev CN:S:=bg yB.body 1
abbrev CM:S:=bg (bz CN) 0
abbrev zY:S:=bg (bz CM) 0
noncomputable def jb(ap aw am:Nat)(x3 x4 x5 x6 x7:Option AV):aC:=[some (.ref ap),some (.ref aw),some (.ref am),x3,x4,x5,x6,x7]
section
variable {d ap aw:Nat}{K0 H:Hp}{ws:List Ky}{ps:List Pr}
def Ja(a b:Ky):(match bu b a with|true=>b|false=>a)=(cZ a b).1/\(match bu a b with|true=>b|false=>a)=(cZ a b).2:=by
 unfold cZ;cases e:bu b a with
 |true=>rw[AF e];exact⟨rfl,rfl⟩
 |false=>
  cases e2:bu a b with
  |true=>exact⟨rfl,rfl⟩
  |false=>rw[DA e e2];exact⟨rfl,rfl⟩
def Mo(K0:Hp)(made:List Pr)(H:Hp):Prop:=ba K0.length K0 H/\ae H K0.length=some (.list (made.map aN))
def T2{a b:Ky}{made:List Pr}{x3 x4 x7:Option AV}(ha:a≠[])(hb:b≠[])(hz:made.length<az)(M:Mo K0 made H):
  ∃H' nV,RB P (d+1) true (bz zY) (jb ap aw K0.length x3 x4 (some (.str a)) (some (.str b)) x7) H .next (jb ap aw K0.length x3 x4 (some (.str a)) (some (.str b)) nV) H'/\Mo K0 (lH a b made) H'/\(lH a b made).length<=made.length+1:=by
 cases a with
 |nil=>exact absurd rfl ha
 |cons x a=>cases b with
  |nil=>exact absurd rfl hb
  |cons y b=>
   have c1:RC P (d+1) (.glob 16) [.str a,.str b] H (.str (cZ a b).1) H:=gj (b:=.min) rfl (by show some (AV.str (match bu b a with|true=>b|false=>a),H)=_;rw[(Ja a b).1])
   have c2:RC P (d+1) (.glob 33) [.str a,.str b] H (.str (cZ a b).2) H:=gj (b:=.max) rfl (by show some (AV.str (match bu a b with|true=>b|false=>a),H)=_;rw[(Ja a b).2])
   have sl:∀(k:Nat) (r:Ky),kC (.str (k::r)) (.int 1) .none H=some (.str r):=λk r=>Cz (n:=1) (by decide);have s1:RS P (d+1) true (bg (bz zY) 0) (jb ap aw K0.length x3 x4 (some (.str (x::a))) (some (.str (y::b))) x7) H .next (jb ap aw K0.length x3 x4 (some (.str (x::a))) (some (.str (y::b))) (some (aN (cZ a b)))) H:=bC (e9 (bb:=false) (aB rfl (bO (bL rfl) rfl (aB rfl (jc (af rfl) (iO aS λO=>rfl) jD (sl x a)) (aB rfl (jc (af rfl) (iO aS λO=>rfl) jD (sl y b)) aE)) c1) (aB rfl (bO (bL rfl) rfl (aB rfl (jc (af rfl) (iO aS λO=>rfl) jD (sl x a)) (aB rfl (jc (af rfl) (iO aS λO=>rfl) jD (sl y b)) aE)) c2) aE)) rfl) (λO=>rfl) rfl rfl
   have t1:∀p1 p2 p3 p4 p5 p6 p7,RT P (d+1) true (.cmp .Eq (.sub (.var "one" 5 p1) (.cst (.int 0) (.int 0) 0 p2) p3) (.sub (.var "two" 6 p4) (.cst (.int 0) (.int 0) 0 p5) p6) p7) (jb ap aw K0.length x3 x4 (some (.str (x::a))) (some (.str (y::b))) (some (aN (cZ a b)))) H (Nat.beq x y) (jb ap aw K0.length x3 x4 (some (.str (x::a))) (some (.str (y::b))) (some (aN (cZ a b)))) H:=λp1 p2 p3 p4 p5 p6 p7=>bH (dP (af rfl) aS (uK (n:=0) rfl)) (dP (af rfl) aS (uK (n:=0) rfl)) (by rw[nA,EO])
   have t2:∀p1 p2 p3,RT P (d+1) true (.cmp .NotIn (.var "pair" 7 p1) (.var "made" 2 p2) p3) (jb ap aw K0.length x3 x4 (some (.str (x::a))) (some (.str (y::b))) (some (aN (cZ a b)))) H (!ip (cZ a b) made) (jb ap aw K0.length x3 x4 (some (.str (x::a))) (some (.str (y::b))) (some (aN (cZ a b)))) H:=λp1 p2 p3=>bH (af rfl) (af rfl) (by show(gU (aN (cZ a b)) (.ref K0.length) H).map (!·)=_;rw[Yp M.2];rfl)
   show ∃H' nV,_/\Mo K0 (match Nat.beq x y with
    |false=>made
    |true=>match ip (cZ a b) made with|true=>made|false=>bj made [cZ a b]) H'/\(match Nat.beq x y with
    |false=>made
    |true=>match ip (cZ a b) made with|true=>made|false=>bj made [cZ a b]).length<=made.length+1
   cases e:Nat.beq x y with
   |false=>rw[e] at t1;exact⟨H,_,aj s1 (aj (bM (t:=false) (uP (t1 ..)) aO) aO),M,i4 _⟩
   |true=>
    rw[e] at t1;cases e2:ip (cZ a b) made with
    |true=>rw[e2] at t2;exact⟨H,_,aj s1 (aj (bM (t:=false) (mV (t1 ..) (t2 ..)) aO) aO),M,i4 _⟩
    |false=>
     rw[e2] at t2;have oS:=kR (v:=aN (cZ a b)) M.2 (by rw[aJ];exact hz);have e0:made.map aN++[aN (cZ a b)]=(bj made [cZ a b]).map aN:=by rw[fP,ew];rfl
     rw[e0] at oS;exact⟨_,_,aj s1 (aj (bM (t:=true) (mV (t1 ..) (t2 ..)) (aj (eJ (eM (mk:=.list) (af rfl) (gG M.2) rfl rfl (aB rfl (af rfl) aE) oS)) aO)) aO),⟨M.1.trans (ba.upd (bf _)),cV (bk M.2)⟩,by show(bj made [cZ a b]).length<=_;rw[fP,bF];exact bf _⟩
end
end
section
def o4(Q:Hp->Prop):bJ->List AV->Prop
 |src,[]=>∀H,Q H->src.next H=some none
 |src,x::r=>∃src',(∀H,Q H->src.next H=some (some (x,src')))/\o4 Q src' r
def Lg(Q:Hp->Prop):∀l:List AV,o4 Q (.fix l) l:=by
 intro l
 induction l with
 |nil=>exact λH O=>rfl
 |cons x l ih=>exact⟨.fix l,λH O=>rfl,ih⟩
def ZC{Q:Hp->Prop}{n:Nat}{l:List AV}(h:∀H,Q H->ae H n=some (.list l)):∀(k i:Nat),i+k=l.length->o4 Q (.lst n i) (l.drop i):=by
 intro k
 induction k with
 |zero=>intro i e;rw[pD (by exact hU ‹_›)];exact λH q=>by rw[oE (h H q),pY (by exact hU ‹_›)];rfl
 |succ k ih=>intro i e;refine ue (je (l:=l) (n:=i) (by exact pb ‹_›)) λx hx=>?_;rw[j7 hx];exact⟨.lst n (i+1),λH q=>by rw[oE (h H q),hx];rfl,ih (i+1) (by exact km ‹_›)⟩
def EF{Q:Hp->Prop}{n:Nat}{l:List AV}(h:∀H,Q H->ae H n=some (.list l)):o4 Q (.lst n 0) l:=by have:=ZC h l.length 0 (gA _);rwa[qD] at this
section
variable {d ap aw:Nat}{K0 H:Hp}{ws:List Ky}{ps:List Pr}
variable {a:Ky}
def TY{x3 x4:Option AV}(ha:a≠[]):∀(l:List Ky) {src:bJ} {made:List Pr} {H:Hp} {x6 x7:Option AV},o4 (ba K0.length K0) src (l.map .str)->(∀b∈l,b≠[])->made.length+l.length<az->Mo K0 made H ->
  ∃H' wC nV,RF P (d+1) (gC zY) src (bz zY) (jb ap aw K0.length x3 x4 (some (.str a)) x6 x7) H .next (jb ap aw K0.length x3 x4 (some (.str a)) wC nV) H'/\Mo K0 (bI (λmade b=>lH a b made) l made) H'/\(bI (λmade b=>lH a b made) l made).length<=made.length+l.length:=by
 intro l
 induction l with
 |nil=>intro src made H x6 x7 g hb hz M;exact⟨H,x6,x7,gS (g H M.1),M,bf _⟩
 |cons b l ih=>intro src made H x6 x7 g hb hz M;rw[i6] at hz;obtain⟨src',g1,g2⟩:=g;obtain⟨H1,y7,r1,M1,l1⟩:=T2 (d:=d) (ap:=ap) (aw:=aw) (x3:=x3) (x4:=x4) (x7:=x7) ha (hb b bA) (cU (eB ..) hz) M;obtain⟨H',QE,QD,r2,M2,l2⟩:=ih (x6:=some (.str b)) (x7:=y7) g2 (λc hc=>hb c (bS _ hc)) (cU (ze l1 _) (by exact OV hz)) M1;exact⟨H',QE,QD,e8 (f:=.next) (g1 H M.1) rfl r1 rfl r2,M2,aM l2 (by rw[i6];exact OU l1)⟩
def Iw(hw:∀w∈ws,w≠[]):∀b∈jF ws a,b≠[]:=by
 cases a with
 |nil=>exact hw
 |cons x a=>intro b hb;rw[fU.mp hb];exact nofun
def Iz(h3:ws.length=3):(jF ws a).length<=3:=by
 cases a with
 |nil=>exact aW h3
 |cons x a=>exact(by decide:1<=3)
def HU{k:Nat}{nm:Str}{U:aC}(hw:ae K0 aw=some (.list (ws.map .str)))(M:ba K0.length K0 H)(h1:ae U k=some (some (.str a)))(h2:ae U 1=some (some (.ref aw))):
  ∃v src,(∀p1 p2 p3 p4 p5 p6 p7,RE P d true (.oF (.cmp .Eq (.var nm k p1) (.cst (.str "") (.str []) 0 p2) p3) (.var "words" 1 p4) (.list (.cons (.var nm k p5) .nil) false p6) p7) U H v U H)/\eQ v H=some src/\o4 (ba K0.length K0) src ((jF ws a).map .str):=by
 have t1:∀p1 p2 p3,RT P d true (.cmp .Eq (.var nm k p1) (.cst (.str "") (.str []) 0 p2) p3) U H (fc a) U H:=λp1 p2 p3=>bH (af h1) aS (by rw[nA,tH]);cases a with
 |nil=>exact⟨.ref aw,.lst aw 0,λp1 p2 p3 p4 p5 p6 p7=>Ib (t:=true) (t1 ..) (af h2),lC ((M.low aw (bk hw)).trans hw),EF λH' q=>(q.low aw (bk hw)).trans hw⟩
 |cons x a=>exact⟨.lst [.str (x::a)],.fix [.str (x::a)],λp1 p2 p3 p4 p5 p6 p7=>Ib (t:=false) (t1 ..) (e9 (bb:=false) (aB rfl (af h1) aE) rfl),rfl,Lg _ _⟩
def T1{p:Pr}(hw:ae K0 aw=some (.list (ws.map .str)))(h3:ws.length=3)(hn:∀w∈ws,w≠[]):∀(l:List Ky) {src:bJ} {made:List Pr} {H:Hp} {x5 x6 x7:Option AV},o4 (ba K0.length K0) src (l.map .str)->(∀b∈l,b≠[])->made.length+3*l.length<az->Mo K0 made H ->
  ∃H' wD wC nV,RF P (d+1) (gC CM) src (bz CM) (jb ap aw K0.length (some (.str p.1)) (some (.str p.2)) x5 x6 x7) H .next (jb ap aw K0.length (some (.str p.1)) (some (.str p.2)) wD wC nV) H'/\Mo K0 (bI (λmade a=>bI (λmade b=>lH a b made) (jF ws p.2) made) l made) H'/\(bI (λmade a=>bI (λmade b=>lH a b made) (jF ws p.2) made) l made).length<=made.length+3*l.length:=by
 intro l
 induction l with
 |nil=>intro src made H x5 x6 x7 g hb hz M;exact⟨H,x5,x6,x7,gS (g H M.1),M,bf _⟩
 |cons a l ih=>intro src made H x5 x6 x7 g hb hz M;rw[i6,Nat.mul_succ] at hz;obtain⟨src',g1,g2⟩:=g;have ol:=Iz (a:=p.2) h3;obtain⟨v,s2,r0,e0,gg⟩:=HU (d:=d+1) (a:=p.2) (k:=4) (nm:="right") (U:=jb ap aw K0.length (some (.str p.1)) (some (.str p.2)) (some (.str a)) x6 x7) hw M.1 rfl rfl;obtain⟨H1,y6,y7,r1,M1,l1⟩:=TY (d:=d) (ap:=ap) (aw:=aw) (x3:=some (.str p.1)) (x4:=some (.str p.2)) (hb a bA) (jF ws p.2) (x6:=x6) (x7:=x7) gg (Iw hn) (by exact OT ol hz) M;obtain⟨H',z5,z6,z7,r2,M2,l2⟩:=ih (x5:=some (.str a)) (x6:=y6) (x7:=y7) g2 (λc hc=>hb c (bS _ hc)) (by exact OQ l1 ol hz) M1;exact⟨H',z5,z6,z7,e8 (f:=.next) (g1 H M.1) rfl (aj (iN (r0 ..) e0 r1) aO) rfl r2,M2,aM l2 (by rw[i6];exact OP l1 ol)⟩
def TZ(hw:ae K0 aw=some (.list (ws.map .str)))(h3:ws.length=3)(hn:∀w∈ws,w≠[]):∀(l:List Pr) {src:bJ} {made:List Pr} {H:Hp} {x3 x4 x5 x6 x7:Option AV},o4 (ba K0.length K0) src (l.map aN)->made.length+9*l.length<az->Mo K0 made H ->
  ∃H' QF uA wD wC nV,RF P (d+1) (gC CN) src (bz CN) (jb ap aw K0.length x3 x4 x5 x6 x7) H .next (jb ap aw K0.length QF uA wD wC nV) H'/\Mo K0 (bI (λmade p=>bI (λmade a=>bI (λmade b=>lH a b made) (jF ws p.2) made) (jF ws p.1) made) l made) H':=by
 intro l
 induction l with
 |nil=>intro src made H x3 x4 x5 x6 x7 g hz M;exact⟨H,x3,x4,x5,x6,x7,gS (g H M.1),M⟩
 |cons p l ih=>intro src made H x3 x4 x5 x6 x7 g hz M;rw[i6,Nat.mul_succ] at hz;obtain⟨src',g1,g2⟩:=g;have ol:=Iz (a:=p.1) h3;obtain⟨v,s2,r0,e0,gg⟩:=HU (d:=d+1) (a:=p.1) (k:=3) (nm:="left") (U:=jb ap aw K0.length (some (.str p.1)) (some (.str p.2)) x5 x6 x7) hw M.1 rfl rfl;obtain⟨H1,y5,y6,y7,r1,M1,l1⟩:=T1 (d:=d) (ap:=ap) (aw:=aw) (p:=p) hw h3 hn (jF ws p.1) (x5:=x5) (x6:=x6) (x7:=x7) gg (Iw hn) (by exact OO ol hz) M;obtain⟨H',z3,z4,z5,z6,z7,r2,M2⟩:=ih (x3:=some (.str p.1)) (x4:=some (.str p.2)) (x5:=y5) (x6:=y6) (x7:=y7) g2 (by exact ON l1 ol hz) M1;exact⟨H',z3,z4,z5,z6,z7,e8 (f:=.next) (g1 H M.1) rfl (aj (iN (r0 ..) e0 r1) aO) rfl r2,M2⟩
def EH{α:Type}{f:List Pr->α->List Pr}(h:∀m x,m.Nodup->(f m x).Nodup):∀(l:List α) {m:List Pr},m.Nodup->(bI f l m).Nodup:=by
 intro l
 induction l with
 |nil=>intro m hm;exact hm
 |cons x l ih=>intro m hm;exact ih (h m x hm)
def Uj:(fz ws ps).Nodup:=EH (λm p hm=>EH (λm a hm=>EH (λm b hm=>Vz hm) _ hm) _ hm) ps mw
def UC(hp:ae K0 ap=some (.list (ps.map aN)))(hw:ae K0 aw=some (.list (ws.map .str)))(h3:ws.length=3)(hn:∀w∈ws,w≠[])(hz:ps.length<1000)(kN:(fz ws ps).length<64):
  ∃H',RC P (d+2) (.glob 12) [.ref ap,.ref aw] K0 (.lst ((cC dw (fz ws ps)).map aN)) H'/\ba K0.length K0 H':=by
 have lw:ba K0.length K0 (K0++[.list []]):=ba.app _ (bf _);obtain⟨H',y3,y4,y5,y6,y7,r,M⟩:=TZ (d:=d) (ap:=ap) hw h3 hn ps (x3:=none) (x4:=none) (x5:=none) (x6:=none) (x7:=none) (made:=[]) (H:=K0++[.list []]) (EF λH q=>(q.low ap (bk hp)).trans hp) (dU (by show 0+9*ps.length<9001;exact OM hz) (by decide)) ⟨lw,dX⟩;refine⟨H',eS (fd:=yB) (fl:=.ret (.lst ((cC dw (fz ws ps)).map aN))) (ρ1:=[some (.ref ap),some (.ref aw),none,none,none,none,none,none]) rfl rfl ⟨_,aj (bC (e9 (bb:=true) aE rfl) (λO=>rfl) rfl rfl) (aj (iN (af rfl) (lC (cb hp)) r) (cK (fW (bO (bL rfl) rfl (aB rfl (af rfl) aE) (gj (b:=.sorted) rfl ?_)) λO=>rfl) nofun))⟩ rfl,M.1⟩;show((bx H' K0.length).bind λl=>aI (Nat.blt l.length 64) ((jA l).map λr=>(AV.lst r,H')))=_;rw[dy M.2];show aI (Nat.blt ((fz ws ps).map aN).length 64) ((jA ((fz ws ps).map aN)).map λr=>(AV.lst r,H'))=_;rw[aJ,bG.mpr kN,Sy Uj kN];rfl
end
end
section
def fD(N:Nat)(H H':Hp):Prop:=H.length<=H'.length/\∀n o,n≠N->n≠N+1->n≠N+2->ae H n=some o->ae H' n=some o
section
variable {N:Nat}{H H1 H2:Hp}
def fD.refl:fD N H H:=⟨bf _,λ_ _ _ _ _ h=>h⟩
def fD.trans(a:fD N H H1)(b:fD N H1 H2):fD N H H2:=⟨aM a.1 b.1,λn o h1 h2 h3 h=>b.2 n o h1 h2 h3 (a.2 n o h1 h2 h3 h)⟩
def fD.app(Y:Hp):fD N H (H++Y):=⟨by rw[bF];exact eB ..,λn o _ _ _ h=>cb h⟩
def fD.low(l:ba H.length H H1):fD N H H1:=⟨l.len,λn o _ _ _ h=>(l.low n (bk h)).trans h⟩
def fD.upd{n:Nat}{o:AO}(h:n=N\/n=N+1\/n=N+2):fD N H (ai H o n):=⟨by rw[cB];exact bf _,λm o' h1 h2 h3 e=>(bh (by rcases h with rfl|rfl|rfl<;>exact λq=>by first|exact h1 q.symm|exact h2 q.symm|exact h3 q.symm)).trans e⟩
end
def yY(N n:Nat):Prop:=n≠N/\n≠N+1/\n≠N+2
def oV(N:Nat)(H:Hp):List AV->List (List Pr)->Prop
 |[],ss=>ss=[]
 |v::vs,ss=>∃n s r,v=.ref n/\yY N n/\ae H n=some (.list (s.map aN))/\ss=s::r/\oV N H vs r
def oV.G6{N:Nat}{H H1:Hp}(st:fD N H H1):∀{vs:List AV} {ss:List (List Pr)},oV N H vs ss->oV N H1 vs ss:=by
 intro vs
 induction vs with
 |nil=>intro ss h;exact h
 |cons v vs ih=>intro ss h;obtain⟨n,s,r,e1,a,e2,e3,e4⟩:=h;exact⟨n,s,r,e1,a,st.2 n _ a.1 a.2.1 a.2.2 e2,e3,ih e4⟩
def oV.snoc{N n:Nat}{H:Hp}{s:List Pr}(a:yY N n)(h:ae H n=some (.list (s.map aN))):∀{vs:List AV} {ss:List (List Pr)},oV N H vs ss->oV N H (vs++[.ref n]) (bj ss [s]):=by
 intro vs
 induction vs with
 |nil=>intro ss e;rw[show ss=[] from e];exact⟨n,s,[],rfl,a,h,rfl,rfl⟩
 |cons v vs ih=>intro ss e;obtain⟨m,t,r,e1,a1,e2,e3,e4⟩:=e;subst e3;exact⟨m,t,bj r [s],e1,a1,e2,rfl,ih e4⟩
section
variable {N ap:Nat}{H:Hp}{ps:List Pr}
def Bu{n:Nat}(h:ae H n=some (.list (ps.map aN))):aV H 3 (.ref n)=.lst (ps.map aN):=by show(match cH H (.ref n) with|some l=>AV.lst (l.map (aV H 2))|none=>.ref n)=_;rw[show cH H (.ref n)=_ from dy h];exact congrArg AV.lst (L9 2 ps)
def Dc(ps:List Pr):cw (.lst (ps.map aN)) 3=true:=by simp only[cw];exact IB 1 ps
def aav:∀l m:List Pr,fu (l.map aN) (m.map aN)=some (oP l m):=by
 intro l
 induction l with
 |nil=>intro m;cases m<;>simp only[k7,bE,fu]<;>rfl
 |cons a l ih=>
  intro m;cases m with
  |nil=>simp only[k7,bE,fu];rfl
  |cons b m=>simp only[bE,fu,EN,Option.bind];show(match g5 a b with|true=>fu (l.map aN) (m.map aN)|false=>some false)=some (match g5 a b with|true=>oP l m|false=>false);rw[ih m];cases g5 a b<;>rfl
def Kc:∀{vs:List AV} {ss:List (List Pr)},oV N H vs ss->dh (vs.map (aV H 3)) 3=true/\gH (.lst (ps.map aN)) (vs.map (aV H 3))=some (lM ps ss):=by
 intro vs
 induction vs with
 |nil=>intro ss h;rw[show ss=[] from h];exact⟨by simp only[k7,dh],rfl⟩
 |cons v vs ih=>
  intro ss h;obtain⟨n,s,r,e1,a,e2,e3,e4⟩:=h;subst e1 e3;obtain⟨i1,i2⟩:=ih e4;refine⟨by simp only[bE,dh,Bu e2,Dc,i1],?_⟩;rw[bE,Bu e2];show((c6 (.lst (s.map aN)) (.lst (ps.map aN))).bind λb=>(gH (.lst (ps.map aN)) (vs.map (aV H 3))).map λc=>b||c)=some (match oP s ps with|true=>true|false=>lM ps r);rw[i2];have:c6 (.lst (s.map aN)) (.lst (ps.map aN))=some (oP s ps):=by simp only[c6,AV.nc,Option.bind];exact aav s ps
  rw[this];cases oP s ps<;>rfl
def Yn{vs:List AV}{ss:List (List Pr)}(hp:ae H ap=some (.list (ps.map aN)))(hs:ae H N=some (.list vs))(h:oV N H vs ss):gU (.ref ap) (.ref N) H=some (lM ps ss):=by unfold gU;show(match bx H N with|some l=>aI (cw (aV H 3 (.ref ap)) 3&&dh (l.map (aV H 3)) 3) (gH (aV H 3 (.ref ap)) (l.map (aV H 3)))|none=>_)=_;rw[dy hs];show aI (cw (aV H 3 (.ref ap)) 3&&dh (vs.map (aV H 3)) 3) (gH (aV H 3 (.ref ap)) (vs.map (aV H 3)))=_;rw[Bu hp,Dc,(Kc (ps:=ps) h).1,(Kc h).2];rfl
def aar(h:ae H ap=some (.list (ps.map aN))):gL (.ref ap) (.lst []) H=some ps.isEmpty:=by
 have e1:qn H (.ref ap)=none:=by show(cD H ap).map _=none;unfold cD;rw[h];rfl
 unfold gL;rw[e1];show iV (aV H 3 (.ref ap)) (aV H 3 (.lst []))=_;have e3:aV H 3 (.lst [])=.lst []:=rfl;rw[Bu h,e3];unfold iV;have e5:cw (.lst []) 3=true:=by simp only[cw,dh]
 rw[Dc,e5];show c6 (.lst (ps.map aN)) (.lst [])=_;cases ps with
 |nil=>simp only[c6,k7,AV.nc,Option.bind,fu,List.isEmpty]
 |cons x l=>simp only[c6,bE,AV.nc,Option.bind,fu,List.isEmpty]
def I5(h:ae H ap=some (.list (ps.map aN))):fO .NotEq (.ref ap) (.lst []) H=some !ps.isEmpty:=by show(gL (.ref ap) (.lst []) H).map (!·)=_;rw[aar h];rfl
def V2(p:Pr):fO .NotEq (aN p) (.lst [.str [],.str []]) H=some !jo p:=by
 show(gL (aN p) (aN ([],[])) H).map (!·)=_;have:gL (aN p) (aN ([],[])) H=some (g5 p ([],[])):=by show iV (aV H 3 (aN p)) (aV H 3 (aN ([],[])))=_;rw[Bv,Bv];unfold iV;rw[Ap,Ap];exact EN p ([],[])
 rw[this];have:g5 p ([],[])=jo p:=by
  obtain⟨a,b⟩:=p;cases a with
  |nil=>exact tH b
  |cons x a=>rfl
 rw[this];rfl
end
noncomputable def dR(R:List (Ky×Nat)):List (List Nat×AV):=R.map λp=>(p.1,.int p.2)
def Es(k:Ky)(R:List (Ky×Nat)):c5 k (dR R)=di k R:=by rw[yk,KX];unfold dR;rw[cG];rfl
noncomputable def Bx(t deep:Nat)(l:List Pr):Nat:=match l with|[]=>deep|_::_=>t
def abo(t:Nat)(l:List Pr):Bx t t l=t:=by cases l<;>rfl
def Sd(N:Nat)(vs:List AV)(R:List (Ky×Nat))(D:List Nat)(H:Hp):Prop:=ae H N=some (.list vs)/\(∃ep,ae H (N+1)=some (.dict ep (dR R)))/\ae H (N+2)=some (.list (bR D))
abbrev wZ:S:=bg vH.body 6
abbrev CA:S:=bg (bz wZ) 3
abbrev qZ:C:=jX (bg (bz wZ) 4)
noncomputable def gq(aw:Nat)(x1:Option AV)(N:Nat)(x5 x6 x7 x8 x9 x12:Option AV):aC:=[some (.ref aw),x1,some (.ref N),some (.ref (N+1)),some (.ref (N+2)),x5,x6,x7,x8,x9,none,none,x12]
section
variable {d aw N:Nat}{H:Hp}{vs:List AV}
def SU{x1 x7:Option AV}{t:Nat}:∀(l:List Pr) {R:List (Ky×Nat)} {D:List Nat} {H:Hp} {deep:Nat} {x8 x9:Option AV},Sd N vs R D H->R.length+l.length<100000->D.length+l.length<100000 ->
  ∃H' zm zk,RF P d (gC CA) (.fix (l.map aN)) (bz CA) (gq aw x1 N (some (.int (t:Nat))) (some (.int (deep:Nat))) x7 x8 x9 none) H .next (gq aw x1 N (some (.int (t:Nat))) (some (.int (Bx t deep l:Nat))) x7 zm zk none) H'/\Sd N vs (bI (fX t) l (R,D)).1 (bI (fX t) l (R,D)).2 H'/\fD N H H'/\H'.length=H.length:=by
 intro l
 induction l with
 |nil=>intro R D H deep x8 x9 S zR zD;exact⟨H,x8,x9,gS rfl,S,fD.refl,rfl⟩
 |cons p l ih=>
  intro R D H deep x8 x9 S zR zD;rw[i6] at zR zD;obtain⟨s1,⟨ep,s2⟩,s3⟩:=S;have hz:(100000:Nat)<=az:=by decide
  have ih:=λ{R:List (Ky×Nat)} {D:List Nat} {H:Hp} (S:Sd N vs R D H) (h1:R.length+l.length<100000) (h2:D.length+l.length<100000)=>ih (deep:=t) (x8:=some (.str p.1)) (x9:=some (.str p.2)) S h1 h2;rw[abo] at ih;obtain⟨a,b⟩:=p;have ta:∀p1 p2 p3,RT P d true (.cmp .Eq (.var "one" 8 p1) (.cst (.str "") (.str []) 0 p2) p3) (gq aw x1 N (some (.int (t:Nat))) (some (.int (t:Nat))) x7 (some (.str a)) (some (.str b)) none) H (fc a) (gq aw x1 N (some (.int (t:Nat))) (some (.int (t:Nat))) x7 (some (.str a)) (some (.str b)) none) H:=λp1 p2 p3=>bH (af rfl) aS (by rw[nA,tH]);have tb:∀p1 p2 p3,RT P d true (.cmp .Eq (.var "two" 9 p1) (.cst (.str "") (.str []) 0 p2) p3) (gq aw x1 N (some (.int (t:Nat))) (some (.int (t:Nat))) x7 (some (.str a)) (some (.str b)) none) H (fc b) (gq aw x1 N (some (.int (t:Nat))) (some (.int (t:Nat))) x7 (some (.str a)) (some (.str b)) none) H:=λp1 p2 p3=>bH (af rfl) aS (by rw[nA,tH]);have tc:∀p1 p2 p3,RT P d true (.cmp .NotIn (.var "two" 9 p1) (.var "least" 3 p2) p3) (gq aw x1 N (some (.int (t:Nat))) (some (.int (t:Nat))) x7 (some (.str a)) (some (.str b)) none) H (!di b R) (gq aw x1 N (some (.int (t:Nat))) (some (.int (t:Nat))) x7 (some (.str a)) (some (.str b)) none) H:=λp1 p2 p3=>bH (af rfl) (af rfl) (by have:=AU (k:=b) s2;rw[Es] at this;show(gU _ _ _).map (!·)=_;rw[show gU (.str b) (.ref (N+1)) H=_ from this];rfl)
  have s0:RS P d true (bg (bz CA) 0) (gq aw x1 N (some (.int (t:Nat))) (some (.int (deep:Nat))) x7 (some (.str a)) (some (.str b)) none) H .next (gq aw x1 N (some (.int (t:Nat))) (some (.int (t:Nat))) x7 (some (.str a)) (some (.str b)) none) H:=bC (af rfl) (λO=>rfl) rfl rfl;cases a with
  |cons x a=>obtain⟨H',y8,y9,r,S',st,hh⟩:=ih ⟨s1,⟨ep,s2⟩,s3⟩ (by exact uz zR) (by exact uz zD);exact⟨H',y8,y9,e8 (f:=.next) rfl rfl (aj s0 (aj (bM (t:=false) (uP (ta ..)) (aj (bM (t:=false) (uP (ta ..)) aO) aO)) aO)) rfl r,S',st,hh⟩
  |nil=>
   cases b with
   |nil=>
    have BL:=kR (v:=.int (t:Nat)) s3 (by unfold bR;rw[aJ];exact F3 hz zD);have e0:bR D++[.int (t:Nat)]=bR (bj D [t]):=by unfold bR;rw[fP,ew];rfl
    rw[e0] at BL;obtain⟨H',y8,y9,r,S',st,hh⟩:=ih (R:=R) (D:=bj D [t]) (H:=ai H (.list (bR (bj D [t]))) (N+2)) ⟨(bh (oA (by decide)).symm).trans s1,⟨ep,(bh (qa (by decide))).trans s2⟩,cV (bk s3)⟩ (by exact uz zR) (by rw[fP,bF];show D.length+1+l.length<_;exact FZ zD);exact⟨H',y8,y9,e8 (f:=.next) rfl rfl (aj s0 (aj (bM (t:=true) (mV (ta ..) (tb ..)) (aj (eJ (eM (mk:=.list) (af rfl) (gG s3) rfl rfl (aB rfl (af rfl) aE) BL)) aO)) aO)) rfl r,S',(fD.upd (.inr (.inr rfl))).trans st,hh.trans cB⟩
   |cons y b=>
    show ∃H' zm zk,_/\Sd N vs (bI (fX t) l (match di (y::b) R with|true=>(R,D)|false=>(bj R [(y::b,t)],D))).1 (bI (fX t) l (match di (y::b) R with|true=>(R,D)|false=>(bj R [(y::b,t)],D))).2 H'/\_;cases hr:di (y::b) R with
    |true=>rw[hr] at tc;obtain⟨H',y8,y9,r,S',st,hh⟩:=ih ⟨s1,⟨ep,s2⟩,s3⟩ (by exact uz zR) (by exact uz zD);exact⟨H',y8,y9,e8 (f:=.next) rfl rfl (aj s0 (aj (bM (t:=false) (mV (ta ..) (tb ..)) (aj (bM (t:=false) (mV (ta ..) (tc ..)) aO) aO)) aO)) rfl r,S',st,hh⟩
    |false=>
     rw[hr] at tc;have st:=w4 (k:=y::b) (v:=.int (t:Nat)) s2 (by unfold dR;rw[aJ];exact F3 hz zR);have nk:(y::b)∉(dR R).map (·.1):=λhm=>by have:=(mY _ _).mpr hm;rw[<- yk,Es,hr] at this;exact nomatch this
     have e0:eH (y::b) (.int (t:Nat)) (dR R)=dR (bj R [(y::b,t)]):=by rw[(C0 nk).1];unfold dR;rw[fP,ew];rfl
     rw[e0,Es,hr] at st;obtain⟨H',y8,y9,r,S',pM,hh⟩:=ih (R:=bj R [(y::b,t)]) (D:=D) (H:=ai H (.dict (ep+1) (dR (bj R [(y::b,t)]))) (N+1)) ⟨(bh (oA (by decide)).symm).trans s1,⟨ep+1,cV (bk s2)⟩,(bh (qa (by decide))).trans s3⟩ (by rw[fP,bF];show R.length+1+l.length<_;exact FZ zR) (by exact uz zD);exact⟨H',y8,y9,e8 (f:=.next) rfl rfl (aj s0 (aj (bM (t:=false) (mV (ta ..) (tb ..)) (aj (bM (t:=true) (mV (ta ..) (tc ..)) (aj (pS (af rfl) (λO=>rfl) (af rfl) (af rfl) st) aO)) aO)) aO)) rfl r,S',(fD.upd (.inr (.inl rfl))).trans pM,hh.trans cB⟩
end
end
section
def Yk{α:Type}(lt:α->α->Bool)(x:α):∀l:List α,(jj lt x l).length=l.length+1:=by
 intro l
 induction l with
 |nil=>rfl
 |cons y l ih=>
  show(match lt y x with|true=>y::jj lt x l|false=>x::y::l).length=_;cases lt y x with
  |true=>exact congrArg (·+1) ih
  |false=>rfl
def So{α:Type}(lt:α->α->Bool):∀l:List α,(cC lt l).length=l.length:=by
 intro l
 induction l with
 |nil=>rfl
 |cons x l ih=>exact(Yk lt x _).trans (congrArg (·+1) ih)
def VO{t:Nat}:∀(l:List Pr) {R:List (Ky×Nat)} {D:List Nat},(bI (fX t) l (R,D)).1.length<=R.length+l.length/\(bI (fX t) l (R,D)).2.length<=D.length+l.length:=by
 intro l
 induction l with
 |nil=>intro R D;exact⟨bf _,bf _⟩
 |cons p l ih=>
  intro R D;show(bI (fX t) l (fX t (R,D) p)).1.length<=_/\(bI (fX t) l (fX t (R,D) p)).2.length<=_;rw[i6];obtain⟨a,b⟩:=p;cases a with
  |cons x a=>have:=ih (R:=R) (D:=D);exact⟨by exact aM this.1 (by exact uy),by exact aM this.2 (by exact uy)⟩
  |nil=>cases b with
   |nil=>have:=ih (R:=R) (D:=bj D [t]);rw[fP,bF] at this;have e:([t]:List Nat).length=1:=rfl;rw[e] at this;rw[<- fP] at this;exact⟨by exact aM this.1 (by exact uy),by exact aM this.2 (by exact B8)⟩
   |cons y b=>
    show(bI (fX t) l (match di (y::b) R with|true=>(R,D)|false=>(bj R [(y::b,t)],D))).1.length<=_/\(bI (fX t) l (match di (y::b) R with|true=>(R,D)|false=>(bj R [(y::b,t)],D))).2.length<=_;cases di (y::b) R with
    |true=>have:=ih (R:=R) (D:=D);exact⟨by exact aM this.1 (by exact uy),by exact aM this.2 (by exact uy)⟩
    |false=>
     have:=ih (R:=bj R [(y::b,t)]) (D:=D);have e:(bj R [(y::b,t)]).length=R.length+1:=by rw[fP,bF];rfl
     rw[e] at this;exact⟨by exact aM this.1 (by exact B8),by exact aM this.2 (by exact uy)⟩
section
variable {d aw N:Nat}{K1:Hp}{ws:List Ky}
def SW{x1 x5 x6 x8 x9:Option AV}{H:Hp}{made:List Pr}(hz:made.length<az):
  ∃Y,RM P d (eU qZ) (eP qZ) (eT qZ) (gJ qZ) (gq aw x1 N x5 x6 (some (.lst (made.map aN))) x8 x9 none) H (.ref H.length) (gq aw x1 N x5 x6 (some (.lst (made.map aN))) x8 x9 none) (H++.list ((d8 (λp=>!jo p) made).map aN)::Y):=by
 have q:=uS (d:=d) (H:=H) (Hz:=H) (tg:=eP qZ) (elt:=eU qZ) (it:=eT qZ) (ifs:=gJ qZ) (I:=Is H) (e:=λo=>gq aw x1 N x5 x6 (some (.lst (made.map aN))) x8 x9 o)
  (t:=λv=>match v with|.lst l=>!jo (((l.headD .none).de).getD [],((l.tail.headD .none).de).getD [])|_=>false) (f:=λv=>v) (λO O O=>rfl) (U:=gq aw x1 N x5 x6 (some (.lst (made.map aN))) x8 x9 none) (H0:=H) (af rfl) (src:=.fix (made.map aN)) rfl (Bk _) rfl (λv hv o K=>rfl) (λv hv K hK hn Y=>?_) (λv hv ht K hK hn Y=>⟨[],by rw[eV];exact af rfl⟩) (by rw[aJ];exact hz)
 ·refine ue q λY q=>⟨Y,?_⟩;have e:(((made.map aN).filter λv=>match v with|.lst l=>!jo (((l.headD .none).de).getD [],((l.tail.headD .none).de).getD [])|_=>false).map λv=>v)=(d8 (λp=>!jo p) made).map aN:=by rw[nz,sG,cG];rfl
  rw[e] at q;exact q.1
 ·refine aq (bU.mp hv) λp hp e=>?_;subst e;refine⟨[],?_⟩;rw[eV];exact oq (bH (af rfl) (e9 (bb:=false) (aB rfl aS (aB rfl aS aE)) rfl) (V2 p))
def SV(hw:ae K1 aw=some (.list (ws.map .str)))(aA:yY N aw)(h3:ws.length=3)(hn:∀w∈ws,w≠[]){S:r8}:∀(m:Nat) {ps:List Pr} {SE:List (List Pr)} {R:List (Ky×Nat)} {D:List Nat} {t deep:Nat} {H:Hp} {ap:Nat} {vs:List AV} {x7 x8 x9:Option AV},
  j0 ws m ps SE R D t deep=some S->fD N K1 H->yY N ap->ae H ap=some (.list (ps.map aN))->oV N H vs SE->Sd N vs R D H->ps.length<1000->R.length+64*m<50000->D.length+64*m<50000->vs.length+m<50000 ->
  ∃(H':Hp) (oS:Nat) (xx:List Pr) (jV:List AV) (wD nV zm zk:Option AV),RW P (d+2) true (gB wZ) (bz wZ) (iW wZ) (gq aw (some (.ref ap)) N (some (.int (t:Nat))) (some (.int (deep:Nat))) x7 x8 x9 none) H .next (gq aw (some (.ref oS)) N wD (some (.int (S.2.2.2:Nat))) nV zm zk none) H'/\ae H' oS=some (.list (xx.map aN))/\(!xx.isEmpty)=S.2.2.1/\Sd N jV S.1 S.2.1 H'/\fD N K1 H':=by
 intro m
 induction m with
 |zero=>intro ps SE R D t deep H ap vs x7 x8 x9 e;exact aR e
 |succ m ih=>
  intro ps SE R D t deep H ap vs x7 x8 x9 e st aP hp so sd zp zR zD zv;have t1:∀p1 p2 p3,RT P (d+2) true (.cmp .NotEq (.var "pairs" 1 p1) (.list .nil false p2) p3) (gq aw (some (.ref ap)) N (some (.int (t:Nat))) (some (.int (deep:Nat))) x7 x8 x9 none) H (!ps.isEmpty) (gq aw (some (.ref ap)) N (some (.int (t:Nat))) (some (.int (deep:Nat))) x7 x8 x9 none) H:=λp1 p2 p3=>bH (af rfl) (e9 (bb:=false) aE rfl) (I5 hp);have t2:∀p1 p2 p3,RT P (d+2) true (.cmp .NotIn (.var "pairs" 1 p1) (.var "seen" 2 p2) p3) (gq aw (some (.ref ap)) N (some (.int (t:Nat))) (some (.int (deep:Nat))) x7 x8 x9 none) H (!lM ps SE) (gq aw (some (.ref ap)) N (some (.int (t:Nat))) (some (.int (deep:Nat))) x7 x8 x9 none) H:=λp1 p2 p3=>bH (af rfl) (af rfl) (by show(gU (.ref ap) (.ref N) H).map (!·)=_;rw[Yn hp sd.1 so];rfl)
  cases ps with
  |nil=>obtain rfl:=sj e;exact⟨H,ap,[],vs,_,x7,x8,x9,mU (uP (t1 ..)) aO,hp,rfl,sd,st⟩
  |cons p ps=>
   have e:(match lM (p::ps) SE with
    |true=>some (R,D,true,deep)
    |false=>match Nat.blt (fz ws (p::ps)).length 64 with
     |false=>none
     |true=>j0 ws m (d8 (λp=>!jo p) (cC dw (fz ws (p::ps)))) (bj SE [p::ps]) (bI (fX (t+1)) (cC dw (fz ws (p::ps))) (R,D)).1 (bI (fX (t+1)) (cC dw (fz ws (p::ps))) (R,D)).2 (t+1) (Bx (t+1) deep (cC dw (fz ws (p::ps)))))=some S:=e
   cases hm:lM (p::ps) SE with
   |true=>rw[hm] at e t2;obtain rfl:=sj e;exact⟨H,ap,p::ps,vs,_,x7,x8,x9,mU (mV (t1 ..) (t2 ..)) aO,hp,rfl,sd,st⟩
   |false=>
   rw[hm] at e t2;cases hb:Nat.blt (fz ws (p::ps)).length 64 with
   |false=>rw[hb] at e;exact aR e
   |true=>
   rw[hb] at e;have hb:=bG.mp hb;have iq:(50000:Nat)<=az:=by decide
   have BL:=kR (v:=.ref ap) sd.1 (by exact OK iq zv);have u1:fD N H (ai H (.list (vs++[.ref ap])) N):=fD.upd (.inl rfl);have w8:Sd N (vs++[.ref ap]) R D (ai H (.list (vs++[.ref ap])) N):=⟨cV (bk sd.1),ue sd.2.1 λep h=>⟨ep,(bh (oA (by decide))).trans h⟩,(bh (oA (by decide))).trans sd.2.2⟩;have Kw:=u1.2 ap _ aP.1 aP.2.1 aP.2.2 hp;have SG:=(so.G6 u1).snoc aP Kw;have kk:=gG (P:=P) (m:=0) sd.1;generalize ai H (.list (vs++[.ref ap])) N=H1 at *;have nj:=(st.trans u1).2 aw _ aA.1 aA.2.1 aA.2.2 hw;obtain⟨H2,r2,jg⟩:=UC (d:=d) Kw nj h3 hn zp hb;have u2:=fD.low (N:=N) jg;have Tn:Sd N (vs++[.ref ap]) R D H2:=⟨(jg.low _ (bk w8.1)).trans w8.1,ue w8.2.1 λep h=>⟨ep,(jg.low _ (bk h)).trans h⟩,(jg.low _ (bk w8.2.2)).trans w8.2.2⟩;have ml:(cC dw (fz ws (p::ps))).length<64:=by rw[So];exact hb
   generalize cC dw (fz ws (p::ps))=made at *;obtain⟨H3,y8,y9,r3,zT,u3,hl3⟩:=SU (d:=d+2) (aw:=aw) (x1:=some (.ref ap)) (x7:=some (.lst (made.map aN))) (t:=t+1) made (deep:=deep) (x8:=x8) (x9:=x9) Tn (by exact FY ml zR) (by exact FY ml zD);have nl:=VO (t:=t+1) made (R:=R) (D:=D);refine ue (SW (d:=d+2) (aw:=aw) (N:=N) (x1:=some (.ref ap)) (x5:=some (.int (t+1:Nat))) (x6:=some (.int (Bx (t+1) deep made:Nat))) (x8:=y8) (x9:=y9) (H:=H3) (by exact OJ ml iq:made.length<az)) λY r4=>?_;have n4:ae (H3++.list ((d8 (λp=>!jo p) made).map aN)::Y) H3.length=some (.list ((d8 (λp=>!jo p) made).map aN)):=dX;have u4:=fD.app (N:=N) (H:=H3) (.list ((d8 (λp=>!jo p) made).map aN)::Y);have Tj:Sd N (vs++[.ref ap]) (bI (fX (t+1)) made (R,D)).1 (bI (fX (t+1)) made (R,D)).2 (H3++.list ((d8 (λp=>!jo p) made).map aN)::Y):=⟨cb zT.1,ue zT.2.1 λep h=>⟨ep,cb h⟩,cb zT.2.2⟩;have fl:(d8 (λp=>!jo p) made).length<=made.length:=by rw[nz];exact zh ..
   have hN:=bk zT.2.2;obtain⟨H',oS,xx,jV,z5,z7,z8,z9,r5,q1,q2,q3,q4⟩:=ih (x7:=some (.lst (made.map aN))) (x8:=y8) (x9:=y9) e (((st.trans u1).trans u2).trans (u3.trans u4)) (⟨by exact OI hN,by exact OH hN,by exact OG hN⟩:yY N H3.length) n4 (SG.G6 (u2.trans (u3.trans u4))) Tj (by exact OF fl ml) (by exact OE nl ml zR) (by exact OD nl ml zD) (by rw[bF];show vs.length+1+m<50000;exact OC zv);refine⟨H',oS,xx,jV,z5,z7,z8,z9,kD (f:=.next) (mV (t1 ..) (t2 ..)) (aj (eJ (eM (mk:=.list) (af rfl) kk rfl rfl (aB rfl (af rfl) aE) BL)) (aj (bC (bO (bL rfl) rfl (aB rfl (af rfl) (aB rfl (af rfl) aE)) r2) (λO=>rfl) rfl rfl) (aj (HO rfl aS rfl rfl) (aj (iN (af rfl) rfl r3) (aj (rn r4 rfl rfl) aO))))) rfl r5,q1,q2,q3,q4⟩
end
end
section
abbrev pN:C:=jX (bg vH.body 0)
abbrev Ho:C:=match eU pN with|.gen t _ _=>t|_=>.nil
abbrev Hq:C:=match eU pN with|.gen _ _ e=>e|_=>.nil
noncomputable def lD(aw:Nat)(k j:Option AV):aC:=[some (.ref aw),none,none,none,none,none,none,none,none,none,k,j,none]
section
variable {d aw:Nat}{K0:Hp}{a b c:Ky}
def Cv{k j:Nat}{x y:Ky}{acc:List Pr}{l:List AV}{oj:Option AV}{ρ':aC}{H':Hp}(hw:ae K0 aw=some (.list ([a,b,c].map .str)))(hx:ae [a,b,c] j=some x)(hy:ae [a,b,c] k=some y)(hz:acc.length<10)(r:RK P d Ho (.fix l) .nil Hq K0.length (lD aw (some (.int k)) (some (.int j))) (K0++[.list ((acc++[(x,y)]).map aN)]) ρ' H'):
  RK P d Ho (.fix (.int j::l)) .nil Hq K0.length (lD aw (some (.int k)) oj) (K0++[.list (acc.map aN)]) ρ' H':=by
 have nj:=cb (m:=[.list (acc.map aN)]) hw;have e1:∀{i:Nat} {z:Ky},ae [a,b,c] i=some z->lB (.ref aw) (.int i) (K0++[.list (acc.map aN)])=some (.str z):=λ{i z} h=>sS nj (show ae ([a,b,c].map AV.str) i=_ by rw[il,h];rfl);have ac:=Fq (H:=K0) (Y:=[]) (l:=acc.map aN) (x:=aN (x,y)) (by rw[aJ];exact dU hz (by decide));have e0:acc.map aN++[aN (x,y)]=(acc++[(x,y)]).map aN:=by rw[ew];rfl
 rw[e0] at ac;exact rz (v:=.int j) (jd rfl) rfl xf ⟨_,_,CP (λO O O=>rfl) (e9 (bb:=false) (aB rfl (dP (af rfl) (af rfl) (e1 hx)) (aB rfl (dP (af rfl) (af rfl) (e1 hy)) aE)) rfl) ac,r⟩
def Uy{S:r8}(hw:ae K0 aw=some (.list ([a,b,c].map .str)))(hn:∀w∈[a,b,c],w≠[])(e:j0 [a,b,c] 100 [(a,b),(a,c),(b,c)] [] [([],0)] [] 0 0=some S):
  ∃H' r ep,RC P (d+3) (.glob 13) [.ref aw] K0 (.tup [.ref r,.lst ((bR S.2.1).take 1),.bool S.2.2.1,.int (S.2.2.2:Nat)]) H'/\ba K0.length K0 H'/\ae H' r=some (.dict ep (dR S.1)):=by
 have dF:∀{k:Nat} {j:Option AV} {H:Hp} p1 p2 p3,k<=3->RE P (d+2) true (.call (.glob "range" 11 p1) (.cons (.var "k" 10 p2) .nil) p3) (lD aw (some (.int k)) j) H (.dF 0 k 1) (lD aw (some (.int k)) j) H:=λ{k j H} p1 p2 p3 hk=>bO (bL rfl) rfl (aB rfl (af rfl) aE) (xp (aM hk (by decide)));have rk:RK P (d+2) (eP pN) (.fix [.int (0:Nat),.int (1:Nat),.int (2:Nat)]) (gJ pN) (eU pN) K0.length (lD aw none none) (K0++[.list []]) (lD aw (some (.int (2:Nat))) (some (.int (1:Nat)))) (K0++[.list ([(a,b),(a,c),(b,c)].map aN)]):=
  rz (v:=.int (0:Nat)) (jd rfl) (ρ1:=lD aw (some (.int (0:Nat))) none) rfl xf ⟨_,_,CQ (dF (k:=0) _ _ _ (by decide)) (src:=.fix []) rfl (xj rfl),
   rz (v:=.int (1:Nat)) (jd rfl) (ρ1:=lD aw (some (.int (1:Nat))) none) rfl xf ⟨_,_,CQ (dF (k:=1) _ _ _ (by decide)) (src:=.fix [.int (0:Nat)]) rfl (Cv (acc:=[]) hw rfl rfl (by decide) (xj rfl)),
   rz (v:=.int (2:Nat)) (jd rfl) (ρ1:=lD aw (some (.int (2:Nat))) (some (.int (0:Nat)))) rfl xf ⟨_,_,CQ (dF (k:=2) _ _ _ (by decide)) (src:=.fix [.int (0:Nat),.int (1:Nat)]) rfl (Cv (acc:=[(a,b)]) hw rfl rfl (by decide:1<10) (Cv (acc:=[(a,b),(a,c)]) hw rfl rfl (by decide:2<10) (xj rfl))),
   xj rfl⟩⟩⟩
 have ln:=xq (d:=d+2) hw (by decide:3<=az);have rm:RM P (d+2) (eU pN) (eP pN) (eT pN) (gJ pN) (lD aw none none) K0 (.ref K0.length) (lD aw none none) (K0++[.list ([(a,b),(a,c),(b,c)].map aN)]):=CO (bO (bL rfl) rfl (aB rfl (bO (bL rfl) rfl (aB rfl (af rfl) aE) ln) aE) (xp (k:=3) (by decide))) rfl rk
 have n0:ae (K0++[.list ([(a,b),(a,c),(b,c)].map aN)]) K0.length=some (.list ([(a,b),(a,c),(b,c)].map aN)):=dX;have nj:=cb (m:=[.list ([(a,b),(a,c),(b,c)].map aN)]) hw;have lK:(K0++[AO.list ([(a,b),(a,c),(b,c)].map aN)]).length=K0.length+1:=bF;have WI:=ba.app [.list ([(a,b),(a,c),(b,c)].map aN)] (bf K0.length);generalize K0++[AO.list ([(a,b),(a,c),(b,c)].map aN)]=K1 at *;have yb:=bk hw;obtain⟨H',oS,xx,jV,z5,z7,z8,z9,r,q1,q2,q3,q4⟩:=SV (d:=d) (N:=K1.length) (K1:=K1) (x7:=none) (x8:=none) (x9:=none) (H:=K1++[.list [],.dict 1 [([],.int 0)],.list []]) (ap:=K0.length) (vs:=[]) nj ⟨by exact Gb yb lK,by exact Ga yb lK,by exact F9 yb lK⟩ rfl hn 100 e (fD.app _) ⟨by exact Qr lK,by exact Qq lK,by exact Qp lK⟩ (cb n0) rfl ⟨dX,⟨1,jG (n:=1)⟩,jG (n:=2)⟩ (by show 3<1000;decide) (by show 1+6400<50000;decide) (by show 0+6400<50000;decide) (by show 0+100<50000;decide);obtain⟨s1,⟨ep,s2⟩,s3⟩:=q3;have sl:kC (.ref (K1.length+2)) .none (.int 1) H'=some (.lst ((bR S.2.1).take 1)):=by show((bx H' (K1.length+2)).bind λl=>some (AV.lst (l.take 1)))=_;rw[dy s3];rfl
 have lw:ba K0.length K0 H':=ba.mk (by have:=q4.1;exact Qn this lK) λx hx=>by
  have AX:=WI.low x hx;cases h:ae K0 x with
  |none=>exact absurd hx (hZ.mpr (by
    rcases sF x K0.length with q|q
    ·exact ue (je q) λy hy=>by rw[hy] at h;exact nomatch h
    ·exact q))
  |some o=>rw[h] at AX;exact q4.2 x o (by exact Gb hx lK) (by exact Ga hx lK) (by exact F9 hx lK) AX
 refine⟨H',K1.length+1,ep,eS (fd:=vH) (fl:=.ret (.tup [.ref (K1.length+1),.lst ((bR S.2.1).take 1),.bool S.2.2.1,.int (S.2.2.2:Nat)])) (ρ1:=lD aw none none) rfl rfl ⟨gq aw (some (.ref oS)) K1.length z5 (some (.int (S.2.2.2:Nat))) z7 z8 z9 none,?_⟩ rfl,lw,s2⟩;refine aj (rn rm rfl rfl) ?_;refine aj (bC (e9 (bb:=true) aE rfl) (λO=>rfl) rfl rfl) ?_;refine aj (bC (Ic aS aS) (λO=>rfl) rfl rfl) ?_;refine aj (bC (e9 (bb:=true) aE rfl) (λO=>rfl) rfl rfl) ?_;have eK:((K1++[AO.list []])++[AO.dict 1 [([],.int 0)]])++[AO.list []]=K1++[.list [],.dict 1 [([],.int 0)],.list []]:=by rw[eW,eW];rfl
 have e1:(K1++[AO.list []]).length=K1.length+1:=bF;have e2:((K1++[AO.list []])++[AO.dict 1 [([],.int 0)]]).length=K1.length+2:=by rw[bF,e1];rfl
 rw[eK,e1,e2];refine aj (bC aS (λO=>rfl) rfl rfl) (aj (bC aS (λO=>rfl) rfl rfl) ?_);refine aj (kF r) (cK (fW (ou (aB rfl (af rfl) (aB rfl (jc (af rfl) jD (iO aS λO=>rfl) sl) (aB rfl (Ac (af rfl) (e9 (bb:=false) aE rfl) ?_) (aB rfl (af rfl) aE))))) λO=>rfl) nofun);show(fO .NotEq (.ref oS) (.lst []) H').map AV.bool=_;rw[I5 q1,q2];rfl
end
end
section
def Z1:∀a b:Nat,((a:Nat):Int).fmod (b:Nat)=((a%b:Nat):Int):=by
 intro n0
 induction n0 with
 |zero=>intro b;rw[Nat.zero_mod];rfl
 |succ n0 ih=>intro _;rfl
section
variable {d:Nat}{H:Hp}
variable {b:Nat}
def EY{a:Nat}(h0:ji (b:Nat) 0=false)(hs:fK (b:Nat)=true):iz .FloorDiv (.int (a:Nat)) (.int (b:Nat)) H=some (.int ((a/b:Nat):Int)):=by show(aI (!ji (b:Nat) 0&&fK (b:Nat)) (some ((a:Int).fdiv (b:Nat)))).map AV.int=_;rw[h0,hs,LF];rfl
def xM{a:Nat}(h0:ji (b:Nat) 0=false):iz .Mod (.int (a:Nat)) (.int (b:Nat)) H=some (.int ((a%b:Nat):Int)):=by show(aI (!ji (b:Nat) 0) (some ((a:Int).fmod (b:Nat)))).map AV.int=_;rw[h0,Z1];rfl
variable {k:Nat}
def Ve(hk:k<=1000000)(hb:Nat.blt b (2^64)=true):iz .Pow (.int (b:Nat)) (.int (k:Nat)) H=some (.int ((b^k:Nat):Int)):=by show(aI (Nat.ble k 1000000&&Nat.blt b (2^64)) (some (((b:Nat):Int)^k))).map AV.int=_;rw[eO.mpr hk,hb,Int.natCast_pow];rfl
def ads(i:Int):tW .abs (.int i) H=some (.int (i.natAbs:Nat),H):=by
 cases i with
 |ofNat n=>rfl
 |negSucc n=>rfl
def CY(i:Int):RC P d (.glob 15) [.int i] H (.int (i.natAbs:Nat)) H:=gj (b:=.abs) rfl (ads i)
def X6{n:Nat}(h:0<n):ji (n:Nat) 0=false:=by
 cases n with
 |zero=>cases h
 |succ n=>rfl
def Vd(hb:b<=16)(hk:k<=40):fK ((b^k:Nat):Int)=true:=by refine bG.mpr (cU (show b^k<=16^40 from ?_) (by decide));exact aM (Nat.pow_le_pow_left hb k) (Nat.pow_le_pow_right (by decide) hk)
variable {l:List AV}
def SN(hk:k<=az):kC (.lst l) .none (.int (k:Nat)) H=some (.lst (l.take k)):=by show(((some none).bind λa=>(aI (Nat.ble k az) (some (some (k:Int)))).map λb=>AV.lst (dA a b l)))=_;rw[eO.mpr hk];rfl
def Hk(hk:k<=az):kC (.lst l) (.int (k:Nat)) .none H=some (.lst (l.drop k)):=by show((aI (Nat.ble k az) (some (some (k:Int)))).bind λa=>(some none).map λb=>AV.lst (dA a b l))=_;rw[eO.mpr hk];rfl
def Xa(hw:l.length<=az):RC P d (.glob 10) [.lst l] H (.int (l.length:Nat)) H:=gj (b:=.len) rfl (by show((some l.length).bind λn=>aI (Nat.ble n az) (some (AV.int n,H)))=_;show aI (Nat.ble l.length az) _=_;rw[eO.mpr hw];rfl)
def Nb{m:List AV}(hz:l.length+m.length<=az):iz .Add (.lst l) (.lst m) H=some (.lst (l++m)):=by show aI (Nat.ble (l.length+m.length) az) _=_;rw[eO.mpr hz];rfl
def adh{n:Nat}{m:List AV}(h:ae H n=some (.list l))(hz:l.length+m.length<=az):iz .Add (.ref n) (.lst m) H=some (.lst (l++m)):=by show((bx H n).bind λa=>aI (Nat.ble (a.length+m.length) az) (some (AV.lst (a++m))))=_;rw[dy h];show aI (Nat.ble (l.length+m.length) az) _=_;rw[eO.mpr hz];rfl
def UY(a b:Nat):pV (a:Nat) (b:Nat) 1=b-a:=by
 show(match Nat.blt a b with|true=>(((b:Nat)-(a:Nat)-1:Int)/1+1).toNat|false=>0)=_;cases h:Nat.blt a b with
 |false=>
  have:¬ a<b:=λq=>by rw[bG.mpr q] at h;cases h
  exact(Nat.sub_eq_zero_of_le (Nat.le_of_not_lt this)).symm
 |true=>rw[Int.ediv_one];show((b:Int)-a-1+1).toNat=_;rw[Int.sub_add_cancel];exact Int.toNat_sub b a
def UZ:∀n a:Nat,Af 1 n (a:Nat)=bR (List.range' a n):=by
 intro n
 induction n with
 |zero=>intro a;rfl
 |succ n ih=>intro a;exact congrArg (AV.int a::·) (ih (a+1))
def Su(b:Nat):eQ (.dF (0:Nat) (b:Nat) 1) H=some (.fix (bR (List.range' 0 b))):=by show some (bJ.fix (Af 1 (pV (0:Nat) b 1) (0:Nat)))=_;rw[UY,UZ];rfl
end
def jM(a:Nat)(H:Hp)(v:AV)(r:List Nat):Prop:=v=jC r\/∃n,v=.ref n/\n≠a/\ae H n=some (.list (cM r))
noncomputable def iX(a:Nat)(H:Hp):List AV->List (List Nat)->Prop
 |[],rs=>rs=[]
 |v::vs,rs=>∃r t,rs=r::t/\jM a H v r/\iX a H vs t
def jM.mono{a:Nat}{H H':Hp}{v:AV}{r:List Nat}(h:∀n o,n≠a->ae H n=some o->ae H' n=some o)(k:jM a H v r):jM a H' v r:=by
 rcases k with e|⟨n,e,q,k⟩
 ·exact .inl e
 ·exact .inr ⟨n,e,q,h n _ q k⟩
def iX.mono{a:Nat}{H H':Hp}(h:∀n o,n≠a->ae H n=some o->ae H' n=some o):∀{vs:List AV} {rs:List (List Nat)},iX a H vs rs->iX a H' vs rs:=by
 intro vs
 induction vs with
 |nil=>intro rs k;exact k
 |cons v vs ih=>intro rs k;obtain⟨r,t,e,k1,k2⟩:=k;exact⟨r,t,e,k1.mono h,ih k2⟩
def iX.snoc{a:Nat}{H:Hp}{v:AV}{r:List Nat}(k:jM a H v r):∀{vs:List AV} {rs:List (List Nat)},iX a H vs rs->iX a H (vs++[v]) (rs++[r]):=by
 intro vs
 induction vs with
 |nil=>intro rs e;rw[show rs=[] from e];exact⟨r,[],rfl,k,rfl⟩
 |cons w vs ih=>intro rs e;obtain⟨r1,t,e,k1,k2⟩:=e;subst e;exact⟨r1,t++[r],rfl,k1,ih k2⟩
section
variable {a:Nat}{H:Hp}
def EV(k:Nat)(l:List Nat):(cM l).map (aV H k)=cM l:=by unfold cM;rw[cG];exact iI λx O=>by cases k<;>rfl
variable {r:List Nat}
def jM.EW{v:AV}(k:jM a H v r):aV H 3 v=jC r:=by
 rcases k with e|⟨n,e,q,k⟩
 ·rw[e];exact congrArg AV.lst (EV 2 r)
 ·rw[e];show(match cH H (.ref n) with|some l=>AV.lst (l.map (Mine.aV H 2))|none=>.ref n)=_;rw[show cH H (.ref n)=_ from dy k];exact congrArg AV.lst (EV 2 r)
def jM.lst{v:AV}(k:jM a H v r):cH H v=some (cM r):=by
 rcases k with e|⟨n,e,q,k⟩
 ·rw[e];rfl
 ·rw[e];exact dy k
def IC(k:Nat)(l:List Nat):dh (cM l) k=true:=by
 unfold cM
 induction l with
 |nil=>simp only[k7,dh]
 |cons x l ih=>simp only[bE,dh,cw,ih]
def IA(k:Nat)(l:List Nat):cw (jC l) (k+1)=true:=by unfold jC;simp only[cw];exact IC k l
def LV:∀l m:List Nat,fu (cM l) (cM m)=some (ak l m):=by
 intro l
 induction l with
 |nil=>intro m;cases m<;>simp only[cM,k7,bE,fu]<;>try rfl
 |cons x l ih=>
  intro m;cases m with
  |nil=>simp only[cM,k7,bE,fu];try rfl
  |cons y m=>
   have e:fu (cM (x::l)) (cM (y::m))=(c6 (.int x) (.int y)).bind λb=>match b with|true=>fu (cM l) (cM m)|false=>some false:=by simp only[cM,bE,fu];try rfl
   have e2:c6 (.int (x:Nat)) (.int (y:Nat))=some (Nat.beq y x):=by simp only[c6,AV.int?,Option.map];try rfl
   rw[e,e2,ih m];show(match Nat.beq y x with|true=>some (ak l m)|false=>some false)=some (match Nat.beq x y with|true=>ak l m|false=>false);cases h:Nat.beq y x with
   |true=>rw[bW h,fT]
   |false=>rw[vW λq=>by rw[q,fT] at h;exact nomatch h]
def aap(r s:List Nat):c6 (jC r) (jC s)=some (ak r s):=by unfold jC;simp only[c6,AV.nc,Option.bind];exact LV r s
def Kd:∀{vs:List AV} {rs:List (List Nat)},iX a H vs rs->dh (vs.map (aV H 3)) 3=true/\gH (jC r) (vs.map (aV H 3))=some (aU r rs):=by
 intro vs
 induction vs with
 |nil=>intro rs k;rw[show rs=[] from k];exact⟨by simp only[k7,dh],rfl⟩
 |cons v vs ih=>intro rs k;obtain⟨s,t,e,k1,k2⟩:=k;subst e;obtain⟨i1,i2⟩:=ih k2;refine⟨by simp only[bE,dh,k1.EW,IA,i1],?_⟩;rw[bE,k1.EW];show((c6 (jC s) (jC r)).bind λb=>(gH (jC r) (vs.map (aV H 3))).map λc=>b||c)=some (match ak s r with|true=>true|false=>aU r t);rw[i2,aap];cases ak s r<;>rfl
def Yo{v:AV}{vs:List AV}{rs:List (List Nat)}(hv:jM a H v r)(hs:ae H a=some (.list vs))(k:iX a H vs rs):gU v (.ref a) H=some (aU r rs):=by unfold gU;show(match bx H a with|some l=>aI (cw (aV H 3 v) 3&&dh (l.map (aV H 3)) 3) (gH (aV H 3 v) (l.map (aV H 3)))|none=>_)=_;rw[dy hs];show aI (cw (aV H 3 v) 3&&dh (vs.map (aV H 3)) 3) (gH (aV H 3 v) (vs.map (aV H 3)))=_;rw[hv.EW,IA,(Kd (r:=r) k).1,(Kd k).2];rfl
end
end
section
noncomputable def sg(lV W n:Nat):Nat:=match n with|0=>lV|_+1=>W
def bZ(lV W n:Nat):Ky:=(List.range' 0 (1+n%4)).map λk=>sg lV W (n/4/2^k%2)
def cq(W:Nat)(rs:List Ky)(m:Nat):Ky->Option Ky:=Nat.rec (motive:=λO=>Ky->Option Ky) (λO=>none) (λO ih r=>match aU r rs with|true=>ih (bj r [W])|false=>some r) m
def uR(lV W:Nat)(xs:List Nat):List Ky->Option (List Ky):=List.rec (motive:=λO=>List Ky->Option (List Ky)) (λrs=>some rs) (λn O ih rs=>(cq W rs 4 (bZ lV W n)).bind λr=>ih (bj rs [r])) xs
abbrev zW:S:=bg f1.body 4
abbrev sX:C:=jX (bg (bz zW) 0)
abbrev zV:S:=bg (bz zW) 1
noncomputable abbrev oo(S D F:AV)(lV W a:Nat)(x r k:Option AV):aC:=[some S,some D,some F,some (.lst [.int lV,.int W]),some (.ref a),x,r,k]
section
variable {d a lV W:Nat}{S D F:AV}{H:Hp}
def SY{n:Nat}(h:n<2):j6 (n:Int) [AV.int lV,.int W]=some (.int (sg lV W n:Nat)):=by
 rcases n with _|_|n
 ·rfl
 ·rfl
 ·exact absurd h (hZ.mpr (i5 2 n))
def TH{xi:Int}{r:Option AV}:∃Y,RM P d (eU sX) (eP sX) (eT sX) (gJ sX) (oo S D F lV W a (some (.int xi)) r none) H (.ref H.length) (oo S D F lV W a (some (.int xi)) r none) (H++.list (cM (bZ lV W xi.natAbs))::Y):=by
 have l3:1+xi.natAbs%4<=5:=mA (fF (k9 _ (by decide))) 1;have q:=sY (d:=d) (H:=H) (tg:=eP sX) (elt:=eU sX) (it:=eT sX) (e:=λo=>oo S D F lV W a (some (.int xi)) r o) (f:=λv=>match v with|.int i=>.int (sg lV W (xi.natAbs/4/2^i.toNat%2):Nat)|v=>v) (λO O O=>rfl) (U:=oo S D F lV W a (some (.int xi)) r none) (H0:=H)
  (bO (bL rfl) rfl (aB rfl (du aS (du (bO (bL rfl) rfl (aB rfl (af rfl) aE) (CY xi)) aS (xM (b:=4) rfl)) (kT (k:=((1+xi.natAbs%4:Nat):Int)) rfl)) aE) (xp (aM l3 (by decide)))) (Su _) (Bk _) rfl (λO O O O=>rfl) (λv hv Y=>?_) (by unfold bR;rw[aJ,List.length_range'];exact cU l3 (by decide))
 ·have e:(bR (List.range' 0 (1+xi.natAbs%4))).map (λv=>match v with|.int i=>AV.int (sg lV W (xi.natAbs/4/2^i.toNat%2):Nat)|v=>v)=cM (bZ lV W xi.natAbs):=by unfold bR cM bZ;rw[cG,cG];rfl
  rw[e] at q;exact q
 ·unfold bR at hv;refine aq (bU.mp hv) λk hk e=>?_;subst e;have KH:k<=40:=by have:=List.mem_range'.mp hk;obtain⟨i,hi,e⟩:=this;exact Qm e hi
  refine⟨[],?_⟩;rw[eV];exact dP (af rfl) (du (du (du (bO (bL rfl) rfl (aB rfl (af rfl) aE) (CY xi)) aS (EY (b:=4) rfl rfl)) (du aS (af rfl) (Ve (b:=2) (aM KH (by decide)) rfl)) (EY (X6 (Nat.pow_pos (by decide))) (Vd (by decide) KH))) aS (xM (b:=2) rfl)) (SY (k9 _ (by decide)))
def TF{vs:List AV}{rs:List Ky}{x k:Option AV}{r:Ky}(hs:ae H a=some (.list vs))(k0:iX a H vs rs):∀(m:Nat) {r0:Ky} {v:AV},cq W rs m r0=some r->jM a H v r0->r0.length+m<=100 ->
  ∃v',RW P d true (gB zV) (bz zV) (iW zV) (oo S D F lV W a x (some v) k) H .next (oo S D F lV W a x (some v') k) H/\jM a H v' r:=by
 intro m
 induction m with
 |zero=>intro r0 v e;exact aR e
 |succ m ih=>
  intro r0 v e kv hl;have e:(match aU r0 rs with|true=>cq W rs m (bj r0 [W])|false=>some r0)=some r:=e;have t:RT P d true (gB zV) (oo S D F lV W a x (some v) k) H (aU r0 rs) (oo S D F lV W a x (some v) k) H:=bH (af rfl) (af rfl) (Yo kv hs k0);cases hm:aU r0 rs with
  |false=>rw[hm] at e t;obtain rfl:=sj e;exact⟨v,mU t aO,kv⟩
  |true=>
   rw[hm] at e t;have ad:iz .Add v (.lst [.int W]) H=some (jC (bj r0 [W])):=by
    have hz:(cM r0).length+1<=az:=by unfold cM;rw[aJ];exact aM (by exact Ql hl:r0.length+1<=101) (by decide)
    have e0:jC (bj r0 [W])=.lst (cM r0++[.int W]):=by unfold jC cM;rw[fP,ew];rfl
    rw[e0];rcases kv with q|⟨n,q,_,q2⟩
    ·rw[q];exact Nb hz
    ·rw[q];exact adh q2 hz
   obtain⟨v',r1,k1⟩:=ih (v:=jC (bj r0 [W])) e (.inl rfl) (by rw[fP,bF];show r0.length+1+m<=100;exact Qk hl);exact⟨v',kD (f:=.next) t (aj (bC (du (af rfl) (e9 (bb:=false) (aB rfl (dP (af rfl) aS rfl) aE) rfl) ad) (λO=>rfl) rfl rfl) aO) rfl r1,k1⟩
def TG:∀(xs:List Int) {vs:List AV} {rs R:List Ky} {H:Hp} {x r:Option AV},uR lV W (xs.map (·.natAbs)) rs=some R->ae H a=some (.list vs)->iX a H vs rs->vs.length+xs.length<1000 ->
  ∃H' jV x' r',RF P d (gC zW) (.fix (xs.map .int)) (bz zW) (oo S D F lV W a x r none) H .next (oo S D F lV W a x' r' none) H'/\ae H' a=some (.list jV)/\iX a H' jV R/\H.length<=H'.length/\(∀n o,n≠a->ae H n=some o->ae H' n=some o):=by
 intro xs
 induction xs with
 |nil=>intro vs rs R H x r e hs k hz;obtain rfl:=sj e;exact⟨H,vs,x,r,gS rfl,hs,k,bf _,λ_ _ _ h=>h⟩
 |cons xi xs ih=>
  intro vs rs R H x r e hs k hz;rw[i6] at hz;have e:((cq W rs 4 (bZ lV W xi.natAbs)).bind λr=>uR lV W (xs.map (·.natAbs)) (bj rs [r]))=some R:=e;refine ub e λrow e1 e2=>?_;refine ue (TH (d:=d) (S:=S) (D:=D) (F:=F) (lV:=lV) (W:=W) (a:=a) (H:=H) (xi:=xi) (r:=r)) λY rc=>?_;have n1:ae (H++.list (cM (bZ lV W xi.natAbs))::Y) H.length=some (.list (cM (bZ lV W xi.natAbs))):=dX;have ha:=bk hs;have oH:=cb (m:=.list (cM (bZ lV W xi.natAbs))::Y) hs;have ms:∀n o,n≠a->ae H n=some o->ae (H++.list (cM (bZ lV W xi.natAbs))::Y) n=some o:=λn o _ h=>cb h;have hl:H.length<=(H++.list (cM (bZ lV W xi.natAbs))::Y).length:=by rw[bF];exact eB ..
  have k1:=k.mono ms;have kr:jM a (H++.list (cM (bZ lV W xi.natAbs))::Y) (.ref H.length) (bZ lV W xi.natAbs):=.inr ⟨H.length,rfl,dM ha,n1⟩;generalize H++.list (cM (bZ lV W xi.natAbs))::Y=H1 at *;have bl:(bZ lV W xi.natAbs).length+4<=100:=by unfold bZ;rw[aJ,List.length_range'];have:=k9 xi.natAbs (by decide:0<4);exact Qj
  obtain⟨v,r2,k2⟩:=TF (d:=d) (S:=S) (D:=D) (F:=F) (lV:=lV) (x:=some (.int xi)) (k:=none) oH k1 4 e1 kr bl;have ap:=kR (v:=v) oH (by exact dU (by exact Qi hz:vs.length<1000) (by decide));have m2:∀n o,n≠a->ae H1 n=some o->ae (ai H1 (.list (vs++[v])) a) n=some o:=λn o q h=>(bh (fi q)).trans h;have e0:rs++[row]=bj rs [row]:=(fP _ _).symm;have k3:=(k1.snoc k2).mono m2;rw[e0] at k3;obtain⟨H',jV,x',r',r3,b1,b2,b3,b4⟩:=ih (x:=some (.int xi)) (r:=some v) e2 (cV (bk oH)) k3 (by rw[bF];show vs.length+1+xs.length<1000;exact Qh hz);refine⟨H',jV,x',r',e8 (f:=.next) rfl rfl (aj (rn rc rfl rfl) (aj (kF r2) (aj (eJ (eM (mk:=.list) (af rfl) (gG oH) rfl rfl (aB rfl (af rfl) aE) ap)) aO))) rfl r3,b1,b2,aM hl (by rw[cB] at b3;exact b3),λn o q h=>b4 n o q (m2 n o q (ms n o q h))⟩
def ZS:∀l:List Int,∃a b c e,l.take 4++[0,0,9,6].drop (l.take 4).length=[a,b,c,e]
 |[]=>⟨_,_,_,_,rfl⟩
 |[a]=>⟨_,_,_,_,rfl⟩
 |[a,b]=>⟨_,_,_,_,rfl⟩
 |[a,b,c]=>⟨_,_,_,_,rfl⟩
 |a::b::c::e::l=>⟨_,_,_,_,rfl⟩
def rq(f b c e:Nat):Option (List Ky):=uR (1+f%15) (1+(f+1+f/15%14)%15) [b,c,e] []
def UA(s:List Int)(G:∀f b c e,∃R,rq f b c e=some R):∃H' vs f b c e R,RC P (d+1) (.glob 1) [.lst (s.map .int)] H (.ref H.length) H'/\ba H.length H H'/\ae H' H.length=some (.list vs)/\iX H.length H' vs R/\rq f b c e=some R:=by
 obtain⟨x,y,z,u,h4⟩:=ZS s;have lt:(s.take 4).length<=4:=by rw[uw];exact Nat.min_le_left _ _
 have l4:(s.take 4).length<=az:=aM lt (by decide);have s0:∀H:Hp,kC (.lst (s.map .int)) .none (.int 4) H=some (.lst ((s.take 4).map .int)):=λH=>by rw[List.map_take];exact SN (k:=4) (by decide)
 have dr:RE P d true (jX (bg f1.body 0)) [some (.lst (s.map .int)),none,none,none,none,none,none,none] H (.lst [.int x,.int y,.int z,.int u]) [some (.lst (s.map .int)),none,none,none,none,none,none,none] H:=by have ln:=Xa (d:=d) (H:=H) (l:=(s.take 4).map .int) (by rw[aJ];exact l4);rw[aJ] at ln;refine du (jc (af rfl) jD (iO aS λO=>rfl) (s0 _)) (jc (e9 (bb:=false) (aB rfl aS (aB rfl aS (aB rfl aS (aB rfl aS aE)))) rfl) (iO (bO (bL rfl) rfl (aB rfl (jc (af rfl) jD (iO aS λO=>rfl) (s0 _)) aE) ln) λO=>rfl) jD (Hk l4)) ?_;have:=Nb (H:=H) (l:=(s.take 4).map .int) (m:=([0,0,9,6].drop (s.take 4).length).map .int) (by rw[aJ,aJ,qE];show _+(4-_)<=_;exact aM (aW (Nat.add_sub_of_le lt)) (by decide));rw[<- ew,h4] at this;rw[List.map_drop] at this;exact this
 obtain⟨R,hR⟩:=G x.natAbs y.natAbs z.natAbs u.natAbs;have f1E:∀H:Hp,iz .Add (.int 1) (.int ((x.natAbs%15:Nat):Int)) H=some (.int ((1+x.natAbs%15:Nat):Int)):=λH=>kT rfl;have S5:RE P d true (jX (bg f1.body 2)) [some (.lst (s.map .int)),some (.lst [.int x,.int y,.int z,.int u]),some (.int (x.natAbs:Nat)),none,none,none,none,none] H (.lst [.int (1+x.natAbs%15:Nat),.int (1+(x.natAbs+1+x.natAbs/15%14)%15:Nat)]) [some (.lst (s.map .int)),some (.lst [.int x,.int y,.int z,.int u]),some (.int (x.natAbs:Nat)),none,none,none,none,none] H:=e9 (bb:=false) (aB rfl (du aS (du (af rfl) aS (xM (b:=15) rfl)) (f1E _)) (aB rfl (du aS (du (du (du (af rfl) aS (kT (k:=((x.natAbs+1:Nat):Int)) rfl)) (du (du (af rfl) aS (EY (b:=15) rfl rfl)) aS (xM (b:=14) rfl)) (kT (k:=((x.natAbs+1+x.natAbs/15%14:Nat):Int)) rfl)) aS (xM (b:=15) rfl)) (kT (k:=((1+(x.natAbs+1+x.natAbs/15%14)%15:Nat):Int)) rfl)) aE)) rfl
 obtain⟨H',jV,x',r',r1,b1,b2,b3,b4⟩:=TG (d:=d) (a:=H.length) (S:=.lst (s.map .int)) (D:=.lst [.int x,.int y,.int z,.int u]) (F:=.int (x.natAbs:Nat)) [y,z,u] (vs:=[]) (H:=H++[.list []]) (x:=none) (r:=none) hR dX rfl (show 0+3<1000 by decide);refine⟨H',jV,x.natAbs,y.natAbs,z.natAbs,u.natAbs,R,?_,ba.mk (by rw[bF] at b3;exact nR b3) λn hn=>?_,b1,b2,hR⟩
 ·exact eS (fd:=f1) (fl:=.ret (.ref H.length)) (ρ1:=[some (.lst (s.map .int)),none,none,none,none,none,none,none]) rfl rfl ⟨_,aj (bC dr (λO=>rfl) rfl rfl)
   (aj (bC (bO (bL rfl) rfl (aB rfl (dP (af rfl) aS rfl) aE) (CY x)) (λO=>rfl) rfl rfl)
   (aj (bC S5 (λO=>rfl) rfl rfl)
   (aj (bC (e9 (bb:=true) aE rfl) (λO=>rfl) rfl rfl)
   (aj (iN (jc (af rfl) (iO aS λO=>rfl) jD (Hk (k:=1) (by decide))) rfl r1)
   (cK (fW (af rfl) λO=>rfl) nofun)))))⟩ rfl
 ·refine ue (je hn) λo ho=>?_;rw[ho];exact b4 n o (dT hn) (cb ho)
end
end
section
section
variable {d:Nat}{H:Hp}{v:AV}{row:List Nat}
variable {l:List AV}
def Jt(h:cH H v=some l):v=.lst l\/∃n,v=.ref n/\ae H n=some (.list l):=by
 cases v with
 |lst k=>obtain rfl:=sj h;exact .inl rfl
 |ref n=>
  refine .inr ⟨n,rfl,?_⟩;have h:(ae H n).bind (λo=>match o with|.list l=>some l|_=>none)=some l:=h;refine ub h λo e1 e2=>?_;cases o with
  |list k=>rw[e1,sj e2]
  |_=>exact aR e2
 |_=>exact aR h
def Hd{tg:C}(h:cH H v=some l):∃src,eQ v H=some src/\o5 (Is H) tg H src l H/\o4 (λK=>K=H) src l:=by
 rcases Jt h with e|⟨n,e,hn⟩
 ·rw[e];exact⟨_,rfl,Bk _,Lg _ _⟩
 ·rw[e];exact⟨_,lC hn,rS hn,EF λK q=>by rw[q];exact hn⟩
def Ju(h:cH H v=some l)(Y:Hp):cH (H++Y) v=some l:=by
 rcases Jt h with e|⟨n,e,hn⟩
 ·rw[e];rfl
 ·rw[e];exact dy (cb hn)
abbrev AL:C:=vX (jX (bg f5.body 0))
def UL(hv:cH H v=some (cM row))(EC:∀c∈row,c<16)(hz:row.length<az):∃Y,RC P (d+1) (.glob 5) [v] H (.str row) (H++Y):=by
 obtain⟨src,hs,F,_⟩:=Hd (tg:=eP AL) hv;obtain⟨Y,r⟩:=sY (d:=d) (H:=H) (tg:=eP AL) (elt:=eU AL) (it:=eT AL) (U:=[some v,none]) (e:=λo=>[some v,o]) (f:=λv=>match v with|.int i=>.str [i.toNat]|v=>v) (λO O O=>rfl) (af rfl) hs F rfl (λO O O O=>rfl)
  (λx hx Y=>by refine aq (bU.mp hx) λc hc aa=>?_;subst aa;refine⟨[],?_⟩;rw[eV];refine dP aS (af rfl) ?_;show(j6 (c:Int) [0,1,2,3,4,5,6,7,8,9,10,11,12,13,14,15]).map (λc=>AV.str [c])=_;rw[adx c (EC c hc)];rfl) (by unfold cM;rw[aJ];exact hz)
 have e:(cM row).map (λv=>match v with|.int i=>AV.str [i.toNat]|v=>v)=(row.map λc=>[c]).map AV.str:=by unfold cM;rw[cG,cG];rfl
 rw[e] at r;refine⟨.list ((row.map λc=>[c]).map .str)::Y,eS (fd:=f5) (fl:=.ret (.str row)) (ρ1:=[some v,none]) rfl rfl ⟨_,cK (fW (eM (mk:=.str) aS rfl rfl rfl (aB rfl (uT r) aE) ?_) λO=>rfl) nofun⟩ rfl⟩;have:=JQ (H:=H++.list ((row.map λc=>[c]).map .str)::Y) dX (by rw[Bh];exact fF hz);rwa[Bh] at this
def VJ:∀(l pre:List Nat) {src:bJ} {u:Option AV},o4 (λK=>K=H) src (cM l)->(∀c∈pre++l,c<16)->(pre++l).length<=40 ->
  ∃u',RF P d (gC (bg f2.body 1)) src (bz (bg f2.body 1)) [some v,some (.int (cA pre:Nat)),u] H .next [some v,some (.int (cA (pre++l):Nat)),u'] H:=by
 intro l
 induction l with
 |nil=>intro pre src u g _ _;exact⟨u,by rw[eV];exact gS (g H rfl)⟩
 |cons c l ih=>
  intro pre src u g h hl;have e:pre++c::l=(pre++[c])++l:=by rw[eW];rfl
  obtain⟨src',g1,g2⟩:=g;refine ue (ih (pre++[c]) (u:=some (.int c)) g2 (by rw[<- e];exact h) (by rw[<- e];exact hl)) λu' r=>?_;rw[<- e] at r;refine⟨u',e8 (f:=.next) (g1 H rfl) rfl (aj (bC (du (du aS (af rfl) (Dr (by decide) (SK (l:=pre) (λx hx=>h x (nT _ hx)) (by rw[bF] at hl;exact NO ‹_›)) rfl)) (af rfl) (kT (k:=(cA (pre++[c]):Nat)) ?_)) (λO=>rfl) rfl rfl) aO) rfl r⟩;rw[Ck];show(16:Int)*(cA pre:Nat)+(c:Nat)=_
  rfl
def UJ(hv:cH H v=some (cM row))(h:∀c∈row,c<16)(hl:row.length<=40):RC P (d+1) (.glob 2) [v] H (.int (cA row:Nat)) H:=by obtain⟨src,hs,_,g⟩:=Hd (tg:=.nil) hv;refine ue (VJ (d:=d) (v:=v) row [] (u:=none) g h hl) λu' r=>?_;exact eS (fd:=f2) (fl:=.ret (.int (cA row:Nat))) (ρ1:=[some v,none,none]) rfl rfl ⟨_,aj (bC aS (λO=>rfl) rfl rfl) (aj (iN (af rfl) hs r) (cK (fW (af rfl) λO=>rfl) nofun))⟩ rfl
end
def aak{W:Nat}{rs:List Ky}{Q:Nat->Prop}(hW:Q W):∀(m:Nat) {r0 r:Ky},cq W rs m r0=some r->(∀c∈r0,Q c)->(∀c∈r,Q c)/\r0.length<=r.length/\r.length<=r0.length+m:=by
 intro m
 induction m with
 |zero=>intro r0 r e;exact aR e
 |succ m ih=>
  intro r0 r e h;have e:(match aU r0 rs with|true=>cq W rs m (bj r0 [W])|false=>some r0)=some r:=e;cases hm:aU r0 rs with
  |false=>rw[hm] at e;obtain rfl:=sj e;exact⟨h,bf _,eB _ _⟩
  |true=>
   rw[hm] at e;have e:cq W rs m (bj r0 [W])=some r:=e;rw[fP] at e;obtain⟨a,b,c⟩:=ih e λc hc=>by
    rcases ko.mp hc with hc|hc
    ·exact h c hc
    ·rw[fU.mp hc];exact hW
   rw[bF] at b c;exact⟨a,aM (eB _ _) b,aM c (by show r0.length+1+m<=r0.length+(m+1);exact B8)⟩
def Wd(r:Ky):Prop:=(∀c∈r,1<=c/\c<16)/\1<=r.length/\r.length<=10
def TU{lV W:Nat}(hV:1<=lV/\lV<16)(hW:1<=W/\W<16):∀(xs:List Nat) {rs R:List Ky},uR lV W xs rs=some R->(∀r∈rs,Wd r)->(∀r∈R,Wd r)/\R.length=rs.length+xs.length:=by
 intro xs
 induction xs with
 |nil=>intro rs R e h;obtain rfl:=sj e;exact⟨h,rfl⟩
 |cons n xs ih=>
  intro rs R e h;have e:((cq W rs 4 (bZ lV W n)).bind λr=>uR lV W xs (bj rs [r]))=some R:=e;refine ub e λr e1 e2=>?_;have bl:(bZ lV W n).length=1+n%4:=by unfold bZ;rw[aJ,List.length_range']
  have:=k9 n (by decide:0<4);obtain⟨a,b,c⟩:=aak (Q:=λc=>1<=c/\c<16) hW 4 e1 λc hc=>by
   unfold bZ at hc;refine aq (bU.mp hc) λk _ e=>?_;rw[<- e];unfold sg;cases n/4/2^k%2 with
   |zero=>exact hV
   |succ _=>exact hW
  rw[fP] at e2;obtain⟨i1,i2⟩:=ih e2 λs hs=>by
   rcases ko.mp hs with hs|hs
   ·exact h s hs
   ·rw[fU.mp hs];exact⟨a,by exact Qg b bl,by exact Qf c bl⟩
  refine⟨i1,?_⟩;rw[i2,bF];show rs.length+1+xs.length=rs.length+(xs.length+1);exact Qe
def TV{f b c e:Nat}{R:List Ky}(h:rq f b c e=some R):(∀r∈R,Wd r)/\R.length=3:=by have:=k9 f (by decide:0<15);have:=k9 (f+1+f/15%14) (by decide:0<15);exact TU ⟨by exact Qc,by exact Qb⟩ ⟨by exact Qa,by exact P9⟩ [b,c,e] h nofun
end
section
abbrev tC:C:=jX (bg f0.body 1)
abbrev WJ:S:=bg f0.body 2
abbrev tB:C:=match WJ with|.iff (.cmp _ _ c _) _ _ _=>c|_=>.nil
noncomputable abbrev oD(x0 x1 x2 x3 x4 x5 x6 x7 x8 x9 x10 x11 x12 QH QG:Option AV):aC:=[x0,x1,x2,x3,x4,x5,x6,x7,x8,x9,x10,x11,x12,QH,QG]
def xg(H:Hp)(v:AV):Ky:=((cH H v).getD []).map λx=>((x.int?).getD 0).toNat
def CL{a:Nat}{H:Hp}{v:AV}{r:Ky}(k:jM a H v r):xg H v=r:=by unfold xg;rw[k.lst];show(cM r).map _=r;unfold cM;rw[cG];exact sC r
def HQ{a:Nat}{H:Hp}:∀{vs:List AV} {R:List Ky},iX a H vs R->vs.map (λv=>AV.str (xg H v))=R.map .str:=by
 intro vs
 induction vs with
 |nil=>intro R k;rw[show R=[] from k];rfl
 |cons v vs ih=>intro R k;obtain⟨r,t,e,k1,k2⟩:=k;subst e;rw[bE,CL k1,ih k2];rfl
def HR{a:Nat}{H:Hp}:∀{vs:List AV} {R:List Ky},iX a H vs R->(∀v∈vs,∃r∈R,jM a H v r)/\vs.length=R.length:=by
 intro vs
 induction vs with
 |nil=>intro R k;rw[show R=[] from k];exact⟨nofun,rfl⟩
 |cons v vs ih=>
  intro R k;obtain⟨r,t,e,k1,k2⟩:=k;subst e;obtain⟨i1,i2⟩:=ih k2;refine⟨λw hw=>?_,congrArg (·+1) i2⟩;rcases bQ.mp hw with rfl|hw
  ·exact⟨r,bA,k1⟩
  ·exact aq (i1 w hw) λr' a b=>⟨r',bS _ a,b⟩
section
variable {d a:Nat}{H:Hp}{vs:List AV}{R:List Ky}{x0 x2 x3 x4 x5 x6 x7 x8 x9 x10 x11 x12:Option AV}
def WG(hs:ae H a=some (.list vs))(k:iX a H vs R)(hR:∀r∈R,Wd r)(h3:R.length=3):
  ∃Y,RM P (d+1) (eU tC) (eP tC) (eT tC) (gJ tC) (oD x0 (some (.ref a)) x2 x3 x4 x5 x6 x7 x8 x9 x10 x11 x12 none none) H (.ref H.length) (oD x0 (some (.ref a)) x2 x3 x4 x5 x6 x7 x8 x9 x10 x11 x12 none none) (H++.list (R.map .str)::Y):=by
 obtain⟨m1,m2⟩:=HR k;have q:=sY (d:=d+1) (H:=H) (tg:=eP tC) (elt:=eU tC) (it:=eT tC) (e:=λo=>oD x0 (some (.ref a)) x2 x3 x4 x5 x6 x7 x8 x9 x10 x11 x12 o none) (f:=λv=>.str (xg H v)) (λO O O=>rfl) (U:=oD x0 (some (.ref a)) x2 x3 x4 x5 x6 x7 x8 x9 x10 x11 x12 none none) (H0:=H) (af rfl) (lC hs) (rS hs) rfl (λO O O O=>rfl) (λv hv Y=>?_) (by rw[m2,h3];decide)
 ·rw[HQ k] at q;exact q
 ·obtain⟨r,hr,kr⟩:=m1 v hv;obtain⟨w1,w2,w3⟩:=hR r hr;have DJ:∀c∈r,c<16:=λc hc=>(w1 c hc).2;have JI:r.length<=40:=aM w3 (by decide);have n1:=UJ (d:=d) (Ju kr.lst Y) DJ JI;have n2:=UO (d:=d) (H:=H++Y) DJ JI λc t e=>(w1 c (by rw[e];exact bA)).1;obtain⟨Y2,n3⟩:=Uu (d:=d) (H:=H++Y) DJ (cU w3 (by decide));rw[CL kr];rw[eW] at n3;exact⟨Y2,bO (bL rfl) rfl (aB rfl (bO (bL rfl) rfl (aB rfl (CW (bO (bL rfl) rfl (aB rfl (af rfl) aE) n1) rfl) aE) n2) aE) n3⟩
def WH(hs:ae H a=some (.list vs))(k:iX a H vs R)(hR:∀r∈R,Wd r)(h3:R.length=3):
  ∃Y,RM P (d+1) (eU tB) (eP tB) (eT tB) (gJ tB) (oD x0 (some (.ref a)) x2 x3 x4 x5 x6 x7 x8 x9 x10 x11 x12 none none) H (.ref H.length) (oD x0 (some (.ref a)) x2 x3 x4 x5 x6 x7 x8 x9 x10 x11 x12 none none) (H++.list (R.map .str)::Y):=by
 obtain⟨m1,m2⟩:=HR k;have q:=sY (d:=d+1) (H:=H) (tg:=eP tB) (elt:=eU tB) (it:=eT tB) (e:=λo=>oD x0 (some (.ref a)) x2 x3 x4 x5 x6 x7 x8 x9 x10 x11 x12 none o) (f:=λv=>.str (xg H v)) (λO O O=>rfl) (U:=oD x0 (some (.ref a)) x2 x3 x4 x5 x6 x7 x8 x9 x10 x11 x12 none none) (H0:=H) (af rfl) (lC hs) (rS hs) rfl (λO O O O=>rfl) (λv hv Y=>?_) (by rw[m2,h3];decide)
 ·rw[HQ k] at q;exact q
 ·obtain⟨r,hr,kr⟩:=m1 v hv;obtain⟨w1,w2,w3⟩:=hR r hr;obtain⟨Y2,n3⟩:=UL (d:=d) (Ju kr.lst Y) (λc hc=>(w1 c hc).2) (cU w3 (by decide));rw[CL kr];rw[eW] at n3;exact⟨Y2,bO (bL rfl) rfl (aB rfl (af rfl) aE) n3⟩
end
section
variable {H:Hp}
def LW:∀l:List Ky,fu (l.map .str) (l.map .str)=some true:=by
 intro l
 induction l with
 |nil=>simp only[k7,fu]
 |cons x l ih=>simp only[bE,fu,c6,AV.de,Option.map,Option.bind,g6];exact ih
def aau:∀l:List Nat,fu (bR l) (bR l)=some true:=by intro l;have:=LV l l;rw[g6] at this;exact this
def V1{n m:Nat}{l:List Ky}(h1:ae H n=some (.list (l.map .str)))(h2:ae H m=some (.list (l.map .str))):fO .NotEq (.ref n) (.ref m) H=some false:=by
 have e1:qn H (.ref n)=none:=by show(cD H n).map _=none;unfold cD;rw[h1];rfl
 have dr:∀{n},ae H n=some (.list (l.map .str))->aV H 3 (.ref n)=.lst (l.map .str):=λ{n} h=>by show(match cH H (.ref n) with|some l=>AV.lst (l.map (aV H 2))|none=>.ref n)=_;rw[show cH H (.ref n)=_ from dy h];exact congrArg AV.lst (yE 2 l)
 show(gL (.ref n) (.ref m) H).map (!·)=_;unfold gL;rw[e1];show(iV (aV H 3 (.ref n)) (aV H 3 (.ref m))).map (!·)=_;rw[dr h1,dr h2];unfold iV;have e4:cw (.lst (l.map .str)) 3=true:=by simp only[cw];exact xC 2 l
 rw[e4];show(c6 (.lst (l.map .str)) (.lst (l.map .str))).map (!·)=_;simp only[c6,AV.nc,Option.bind,LW];rfl
def LU{l:List AV}(h1:l.map (aV H 2)=l)(h2:dh l 2=true)(h3:fu l l=some true):gL (.lst l) (.lst l) H=some true:=by
 show iV (aV H 3 (.lst l)) (aV H 3 (.lst l))=_;have e:aV H 3 (.lst l)=.lst l:=congrArg AV.lst h1;rw[e];unfold iV;have e4:cw (.lst l) 3=true:=by simp only[cw];exact h2
 rw[e4];show c6 (.lst l) (.lst l)=_;simp only[c6,AV.nc,Option.bind,h3]
def aat(b:Bool):gL (.bool b) (.bool b) H=some true:=by
 show iV (.bool b) (.bool b)=_;unfold iV;have e4:cw (.bool b) 3=true:=by simp only[cw]
 rw[e4];show c6 (.bool b) (.bool b)=_;simp only[c6,AV.bool?,Option.map];cases b<;>rfl
def aas(n:Nat):fO .Eq (.int n) (.int n) H=some true:=by
 show iV (.int n) (.int n)=_;unfold iV;have e4:cw (.int n) 3=true:=by simp only[cw]
 rw[e4];show c6 (.int n) (.int n)=_;simp only[c6,AV.int?,Option.map];show some (Nat.beq n n)=_;rw[fT]
def W2(k:Ky):∀{R:List (Ky×Nat)},di k R=true->cy k (dR R)=some (.int (jh k R:Nat)):=by
 intro R
 induction R with
 |nil=>intro h;exact nomatch h
 |cons p R ih=>
  intro h;have h:(match ak p.1 k with|true=>true|false=>di k R)=true:=h;show(match ak p.1 k with|true=>some (AV.int p.2)|false=>cy k (dR R))=some (.int ((match ak p.1 k with|true=>p.2|false=>jh k R:Nat):Int));cases e:ak p.1 k with
  |true=>rfl
  |false=>rw[e] at h;exact ih h
variable {b:List (Ky×Nat)}
def R6:∀l:List (Ky×Nat),(∀p∈l,di p.1 b=true/\jh p.1 b=p.2)->sT (l.map λp:Ky×Nat=>(p.1,AV.int p.2)) (dR b)=some true:=by
 intro l
 induction l with
 |nil=>intro _;rfl
 |cons p l ih=>
  intro h;obtain⟨h1,h2⟩:=h p bA;show(match cy p.1 (dR b) with
   |some v=>((AV.int p.2).int?).bind λi=>(v.int?).bind λj=>(sT (l.map λp:Ky×Nat=>(p.1,AV.int p.2)) (dR b)).map λc=>dQ i j&&c
   |none=>some false)=_
  rw[W2 p.1 h1,h2];show(sT (l.map λp:Ky×Nat=>(p.1,AV.int p.2)) (dR b)).map (λc=>Nat.beq p.2 p.2&&c)=_;rw[fT,ih λq hq=>h q (bS _ hq)];rfl
variable {a:List (Ky×Nat)}
def aaw(h:nB a b=true):yD (eG a) (dR b)=some true:=by
 have h:(match Nat.beq a.length b.length with|true=>zC a b|false=>false)=true:=h;cases e:Nat.beq a.length b.length with
 |false=>rw[e] at h;exact nomatch h
 |true=>
  rw[e] at h;have hl:Nat.beq (eG a).length (dR b).length=true:=by unfold eG dR;rw[aJ,ie,aJ];exact e
  unfold yD;rw[hl];refine R6 a.reverse λp hp=>?_;have hp:=wu.mp hp;have h:(!(kc (λp=>match di p.1 b with|true=>!(Nat.beq (jh p.1 b) p.2)|false=>true) a))=true:=h;rw[Fs] at h;have h:=(Bool.not_eq_true' _).mp h;have:=(List.any_eq_false.mp h) p hp;cases h1:di p.1 b with
  |false=>rw[h1] at this;exact absurd rfl this
  |true=>
   rw[h1] at this;cases h2:Nat.beq (jh p.1 b) p.2 with
   |true=>exact⟨rfl,bW h2⟩
   |false=>exact absurd (by show(!(Nat.beq (jh p.1 b) p.2))=true;rw[h2];rfl) this
def V3{n m ep EP:Nat}(h1:ae H n=some (.dict ep (eG a)))(h2:ae H m=some (.dict EP (dR b)))(h:nB a b=true):fO .NotEq (.ref n) (.ref m) H=some false:=by
 have e1:∀{n ep l},ae H n=some (.dict ep l)->qn H (.ref n)=some l:=λ{n ep l} h=>by show(cD H n).map (·.2)=_;rw[j9 h];rfl
 show(gL (.ref n) (.ref m) H).map (!·)=_;unfold gL;rw[e1 h1];show((qn H (.ref m)).bind λb=>yD (eG a) b).map (!·)=_;rw[e1 h2];show(yD (eG a) (dR b)).map (!·)=_;rw[aaw h];rfl
def aaA:∀{l m:List Ky},oQ l m=true->l=m:=by
 intro l
 induction l with
 |nil=>intro m h;cases m with
  |nil=>rfl
  |cons _ _=>exact nomatch h
 |cons a l ih=>
  intro m h;cases m with
  |nil=>exact nomatch h
  |cons b m=>
   have h:(match ak a b with|true=>oQ l m|false=>false)=true:=h;cases e:ak a b with
   |false=>rw[e] at h;exact nomatch h
   |true=>rw[e] at h;rw[gz e,ih h]
end
end
section
section
variable {P:bP}{d:Nat}{U ρ1 ρ2:aC}{H H1 H2:Hp}{a b c:C}{p:Pos}{v:AV}
def TK{t:Bool}{ρ3:aC}{H3:Hp}(h1:RT P d true a U H false ρ1 H1)(h2:RT P d true b ρ1 H1 false ρ2 H2)(h3:RT P d true c ρ2 H2 t ρ3 H3):RT P d true (.fw false (.cons a (.cons b (.cons c .nil))) p) U H t ρ3 H3:=by refine .step (.bind h1 (.bind h2 (.bind h3 ?_)));cases t<;>exact .ret
def Um(h1:RE P d true a U H v ρ1 H1)(h:gR v H1=some true){w:AV}(h2:RE P d true b ρ1 H1 w ρ2 H2):RE P d true (.fw true (.cons a (.cons b .nil)) p) U H w ρ2 H2:=.step (.bind h1 (.bind (.rd h) h2))
end
def vd{H H':Hp}{n:Nat}{o:AO}(l:ba H.length H H')(h:ae H n=some o):ae H' n=some o:=(l.low n (bk h)).trans h
def Dq(l:List Nat):(bR l).take 1=bR (gW l):=by unfold bR gW;rw[List.map_take]
def Xv{a b c:Ky}(h:kK a b c=true):∃F o S fr,pQ a b c=some F/\kG F.1.reverse F.2.1.reverse=some o/\j0 [a,b,c] 100 [(a,b),(a,c),(b,c)] [] [([],0)] [] 0 0=some S/\iu F.2.1.reverse 100 (cJ (·.1) F.1.reverse) []=some fr/\nB F.1 S.1=true/\gW F.2.2.reverse=gW S.2.1/\o.1=S.2.2.1/\o.2.1=fr/\(o.1=true\/o.2.2=S.2.2.2):=by
 unfold kK at h;cases e1:pQ a b c with
 |none=>rw[e1] at h;exact nomatch h
 |some F=>
 rw[e1] at h;have h:(match kG (dq F.1 []) (dq F.2.1 []) with
  |none=>false
  |some o=>match j0 [a,b,c] 100 [(a,b),(a,c),(b,c)] [] [([],0)] [] 0 0 with
   |none=>false
   |some S=>match iu (dq F.2.1 []) 100 (cJ (·.1) (dq F.1 [])) [] with
    |none=>false
    |some fr=>nB F.1 S.1&&(ak (gW (dq F.2.2 [])) (gW S.2.1)&&(vK o.1 S.2.2.1&&(oQ o.2.1 fr&&(o.1||Nat.beq o.2.2 S.2.2.2)))))=true:=h
 rw[xl,xl,xl] at h;cases e2:kG F.1.reverse F.2.1.reverse with
 |none=>rw[e2] at h;exact nomatch h
 |some o=>
 rw[e2] at h;cases e3:j0 [a,b,c] 100 [(a,b),(a,c),(b,c)] [] [([],0)] [] 0 0 with
 |none=>rw[e3] at h;exact nomatch h
 |some S=>
 rw[e3] at h;cases e4:iu F.2.1.reverse 100 (cJ (·.1) F.1.reverse) [] with
 |none=>rw[e4] at h;exact nomatch h
 |some fr=>
 rw[e4] at h;have h:(nB F.1 S.1&&(ak (gW F.2.2.reverse) (gW S.2.1)&&(vK o.1 S.2.2.1&&(oQ o.2.1 fr&&(o.1||Nat.beq o.2.2 S.2.2.2)))))=true:=h;refine QZ h λa1 a2 a3 a4 a5=>?_;refine⟨F,o,S,fr,rfl,e2,rfl,e4,a1,gz a2,?_,aaA a4,?_⟩
 ·generalize o.1=x at a3;generalize S.2.2.1=y at a3;cases x<;>cases y<;>first|rfl|exact nomatch a3
 ·cases ho:o.1 with
  |true=>exact .inl rfl
  |false=>rw[ho] at a5;exact .inr (bW a5)
def UM{d:Nat}(s:List Int)(H:Hp)(G:∀f b c e,∃x y z,rq f b c e=some [x,y,z]/\kK x y z=true):∃H',RC P (d+6) (.glob 0) [.lst (s.map .int)] H (.bool true) H':=by
 obtain⟨H1,vs,f,i,j,k,R,r1,j4,n1,IF,eR⟩:=UA (d:=d+4) (H:=H) s λf b c e=>by obtain⟨x,y,z,h,_⟩:=G f b c e;exact⟨_,h⟩
 obtain⟨x,y,z,e,hT⟩:=G f i j k;rw[eR] at e;obtain rfl:=sj e;obtain⟨wd,h3⟩:=TV eR;obtain⟨F,o,S,fr,e1,e2,e3,e4,q1,q2,q3,q4,q5⟩:=Xv hT;obtain⟨Y1,r2⟩:=WG (d:=d+4) (x0:=some (.lst (s.map .int))) (x2:=none) (x3:=none) (x4:=none) (x5:=none) (x6:=none) (x7:=none) (x8:=none) (x9:=none) (x10:=none) (x11:=none) (x12:=none) n1 IF wd h3;have w2:ae (H1++.list ([x,y,z].map .str)::Y1) H1.length=some (.list ([x,y,z].map .str)):=dX;have n2:=cb (m:=.list ([x,y,z].map .str)::Y1) n1;have VC:=IF.mono (H':=H1++.list ([x,y,z].map .str)::Y1) λn o _ h=>cb h;generalize H1++.list ([x,y,z].map AV.str)::Y1=H2 at *;obtain⟨Y2,r3⟩:=WH (d:=d+4) (x0:=some (.lst (s.map .int))) (x2:=some (.ref H1.length)) (x3:=none) (x4:=none) (x5:=none) (x6:=none) (x7:=none) (x8:=none) (x9:=none) (x10:=none) (x11:=none) (x12:=none) n2 VC wd h3;have w3:=cb (m:=.list ([x,y,z].map .str)::Y2) w2;have l3:ae (H2++.list ([x,y,z].map .str)::Y2) H2.length=some (.list ([x,y,z].map .str)):=dX;generalize H2++.list ([x,y,z].map AV.str)::Y2=H3 at *;obtain⟨H4,r4,S4,z4⟩:=Uz (d:=d+1) w3 (λw hw=>aM (wd w hw).2.2 (by decide)) e1;have z4:0+(F.1.length+(F.2.1.length+F.2.2.length))<3000:=z4;obtain⟨a1,a2,a3,a4,⟨ep,a5⟩,a6⟩:=S4;obtain⟨H5,r5,Dy⟩:=UH (dd:=d) a5 a4 (by exact F8 z4) (by rw[ie];exact F7 z4) e2;have w5:=vd Dy (vd a1 w3);obtain⟨H6,rr,ep6,r6,Jj,n6⟩:=Uy (d:=d+2) w5 (λw hw e=>by have:=(wd w hw).2.1;rw[e] at this;exact nomatch this) e3;have Nk:=vd Jj (vd Dy a5);have a4':=vd Jj (vd Dy a4);obtain⟨H7,r7,lw7⟩:=UR (d:=d+4) Nk a4' (by exact F8 z4) (by rw[ie];exact F7 z4) e4;have t1:=V3 Nk n6 q1;have ed:((F.2.2.reverse).map λn:Nat=>AV.int n).take 1=(bR S.2.1).take 1:=by show(bR F.2.2.reverse).take 1=_;rw[Dq,Dq,q2]
 have t2:fO .NotEq (.lst (((F.2.2.reverse).map λn:Nat=>AV.int n).take 1)) (.lst ((bR S.2.1).take 1)) H6=some false:=by show(gL (.lst (((F.2.2.reverse).map λn:Nat=>AV.int n).take 1)) (.lst ((bR S.2.1).take 1)) H6).map (!·)=_;rw[ed,Dq,LU (l:=bR (gW S.2.1)) (H:=H6) (EV 2 (gW S.2.1)) (IC 2 (gW S.2.1)) (aau _)];rfl
 have t3:fO .NotEq (.bool o.1) (.bool S.2.2.1) H6=some false:=by show(gL (.bool o.1) (.bool S.2.2.1) H6).map (!·)=_;rw[q3,aat];rfl
 have t4:fO .Eq (.lst (o.2.1.map .str)) (.lst (fr.map .str)) H7=some true:=by show gL (.lst (o.2.1.map .str)) (.lst (fr.map .str)) H7=_;rw[q4,LU (yE 2 fr) (xC 2 fr) (LW _)]
 let ρe:aC:=oD (some (.lst (s.map .int))) (some (.ref H.length)) (some (.ref H1.length)) (some (.ref (H3.length+2))) (some (.ref (H3.length+1))) (some (.lst (((F.2.2.reverse).map λn:Nat=>AV.int n).take 1))) (some (.bool o.1)) (some (.lst (o.2.1.map .str))) (some (.int (o.2.2:Nat))) (some (.ref rr)) (some (.lst ((bR S.2.1).take 1))) (some (.bool S.2.2.1)) (some (.int (S.2.2.2:Nat))) none none
 have last:∀p1 p2 p3 p4 p5,RE P (d+5) true (.fw false (.cons (.var "ring" 6 p1) (.cons (.cmp .Eq (.var "greatest" 8 p2) (.var "deepest" 12 p3) p4) .nil)) p5) ρe H7 (.bool true) ρe H7:=λp1 p2 p3 p4 p5=>by
  rcases q5 with q5|q5
  ·exact CV (af (show some (some (AV.bool o.1))=_ by rw[q5])) rfl
  ·cases ho:o.1 with
   |true=>exact CV (af (show some (some (AV.bool o.1))=_ by rw[ho])) rfl
   |false=>exact Ia (af (show some (some (AV.bool o.1))=_ by rw[ho])) rfl (Ac (af rfl) (af rfl) (by show(fO .Eq (.int o.2.2) (.int S.2.2.2) H7).map AV.bool=_;rw[q5,aas];rfl))
 refine⟨H7,eS (fd:=f0) (fl:=.ret (.bool true)) (ρ1:=oD (some (.lst (s.map .int))) none none none none none none none none none none none none none none) rfl rfl ⟨ρe,?_⟩ rfl⟩;refine aj (bC (bO (bL rfl) rfl (aB rfl (af rfl) aE) r1) (λO=>rfl) rfl rfl) ?_;refine aj (rn r2 rfl rfl) ?_;refine aj (bM (t:=false) (bH (af rfl) (uT r3) (V1 w3 l3)) aO) ?_;refine aj (uQ (bO (bL rfl) rfl (aB rfl (af rfl) aE) r4) (λO=>rfl) rfl) ?_;refine aj (uQ (bO (bL rfl) rfl (aB rfl (af rfl) (aB rfl (af rfl) aE)) r5) (λO=>rfl) rfl) ?_;refine aj (uQ (bO (bL rfl) rfl (aB rfl (af rfl) aE) r6) (λO=>rfl) rfl) ?_;refine aj (bM (t:=false) (TK (bH (af rfl) (af rfl) t1) (bH (af rfl) (af rfl) t2) (bH (af rfl) (af rfl) t3)) aO) ?_;exact cK (fW (Um (Ac (af rfl) (bO (bL rfl) rfl (aB rfl (af rfl) (aB rfl (af rfl) aE)) r7) (by rw[show BB .Eq _ _ H7=(fO .Eq _ _ H7).map AV.bool from rfl,t4];rfl)) rfl (last ..)) λO=>rfl) nofun
end
section
def aK(J:Nat->Nat):Prop:=∀a b,a<b->J a<J b
section
variable {J:Nat->Nat}
def aK.inj(h:aK J){a b:Nat}(e:J a=J b):a=b:=by
 rcases Nat.lt_trichotomy a b with q|q|q
 ·exact absurd e (dT (h _ _ q))
 ·exact q
 ·exact absurd e (dM (h _ _ q))
def aK.beq(h:aK J)(a b:Nat):Nat.beq (J a) (J b)=Nat.beq a b:=by
 cases e:Nat.beq a b with
 |true=>rw[bW e,fT]
 |false=>
  cases e2:Nat.beq (J a) (J b) with
  |false=>rfl
  |true=>rw[h.inj (bW e2),fT] at e;cases e
def aK.blt(h:aK J)(a b:Nat):Nat.blt (J a) (J b)=Nat.blt a b:=by
 cases e:Nat.blt a b with
 |true=>exact bG.mpr (h _ _ (bG.mp e))
 |false=>
  cases e2:Nat.blt (J a) (J b) with
  |false=>rfl
  |true=>
   have h2:=bG.mp e2;rcases Nat.lt_trichotomy a b with q|q|q
   ·rw[bG.mpr q] at e;cases e
   ·rw[q] at h2;exact absurd h2 (jQ _)
   ·exact absurd (nP h2 (h _ _ q)) (jQ _)
def aK.iU(h:aK J):∀a b:Ky,Mine.ak (a.map J) (b.map J)=Mine.ak a b
 |[],[]=>rfl
 |[],_::_=>rfl
 |_::_,[]=>rfl
 |x::a,y::b=>by
  show(match Nat.beq (J x) (J y) with|true=>Mine.ak (a.map J) (b.map J)|false=>false)=match Nat.beq x y with|true=>Mine.ak a b|false=>false
  rw[h.beq,h.iU a b]
def aK.tD(h:aK J):∀a b:Ky,Mine.bu (a.map J) (b.map J)=Mine.bu a b
 |[],[]=>rfl
 |[],_::_=>rfl
 |_::_,[]=>rfl
 |x::a,y::b=>by
  show(match Nat.beq (J x) (J y) with|true=>Mine.bu (a.map J) (b.map J)|false=>Nat.blt (J x) (J y))=match Nat.beq x y with|true=>Mine.bu a b|false=>Nat.blt x y
  rw[h.beq,h.blt,h.tD a b]
end
section
variable {α β γ:Type}{f:α->β}
variable {p:β->Bool}{q:α->Bool}
def fm(h:∀a,p (f a)=q a)(l:List α):(l.map f).filter p=(l.filter q).map f:=by rw[sG,show p∘f=q from funext h]
def ac8(h:∀a,p (f a)=q a)(l:List α):(l.map f).any p=l.any q:=by rw[List.any_map,show p∘f=q from funext h]
def adb(h:∀a,p (f a)=q a)(l:List α):(l.map f).all p=l.all q:=by rw[List.all_map,show p∘f=q from funext h]
def Wx{δ:Type}{g:β->γ}{g':α->δ}{k:δ->γ}(h:∀a,g (f a)=k (g' a))(l:List α):(l.map f).map g=(l.map g').map k:=by rw[cG,cG];exact iI λa O=>h a
def Z3{σ τ:Type}{F:τ->β->τ}{G:σ->α->σ}{g:σ->τ}(h:∀s a,F (g s) (f a)=g (G s a)):∀(l:List α) (s:σ),(l.map f).foldl F (g s)=g (l.foldl G s):=by
 intro l
 induction l with
 |nil=>intro s;exact rfl
 |cons a l ih=>intro s;show(l.map f).foldl F (F (g s) (f a))=g (l.foldl G (G s a));rw[h,ih]
end
section
variable {J:Nat->Nat}
noncomputable def mi(J:Nat->Nat)(x:aT):aT:=(x.1,x.2.map J)
noncomputable def ma(J:Nat->Nat)(t:Ad):Ad:=(t.1.map J,t.2.1,t.2.2.map (List.map J))
noncomputable def ml(J:Nat->Nat)(l:bT):bT:=(l.1.map J,l.2.1,l.2.2.1.map J,l.2.2.2)
noncomputable def mr(J:Nat->Nat)(p:Ky×Nat):Ky×Nat:=(p.1.map J,p.2)
noncomputable def mp(J:Nat->Nat)(p:Pr):Pr:=(p.1.map J,p.2.map J)
def aK.Jp(h:aK J)(a b:aT):Mine.fY (mi J a) (mi J b)=Mine.fY a b:=by show(match dQ a.1 b.1 with|true=>(match Mine.ak (a.2.map J) (b.2.map J) with|true=>false|false=>Mine.bu (a.2.map J) (b.2.map J))|false=>fZ a.1 b.1)=_;rw[h.iU,h.tD];rfl
def aK.HE(h:aK J)(x:aT):∀(n:Nat) (l:List aT) (p:Nat),Mine.iM (mi J x) n (l.map (mi J)) p=(Mine.iM x n l p).map (mi J):=by
 intro n
 induction n with
 |zero=>exact λl p=>lh _
 |succ n ih=>
  intro l p;cases p with
  |zero=>exact lh _
  |succ p=>
  show(match ae (l.map (mi J)) (p/2) with|none=>ai (l.map (mi J)) (mi J x) (p+1)|some y=>match Mine.fY (mi J x) y with|true=>Mine.iM (mi J x) n (ai (l.map (mi J)) y (p+1)) (p/2)|false=>ai (l.map (mi J)) (mi J x) (p+1))=
   (match ae l (p/2) with|none=>ai l x (p+1)|some y=>match Mine.fY x y with|true=>Mine.iM x n (ai l y (p+1)) (p/2)|false=>ai l x (p+1)).map (mi J)
  rw[il];cases ae l (p/2) with
  |none=>exact lh _
  |some y=>show(match Mine.fY (mi J x) (mi J y) with|true=>Mine.iM (mi J x) n (ai (l.map (mi J)) (mi J y) (p+1)) (p/2)|false=>ai (l.map (mi J)) (mi J x) (p+1))=(match Mine.fY x y with|true=>Mine.iM x n (ai l y (p+1)) (p/2)|false=>ai l x (p+1)).map (mi J);rw[h.Jp,lh,lh,ih];cases Mine.fY x y<;>rfl
def aK.YI(h:aK J)(x:aT)(l:List aT):Mine.oJ (mi J x) (l.map (mi J))=(Mine.oJ x l).map (mi J):=by unfold Mine.oJ;rw[aJ,<- h.HE,ew];rfl
def aK.chd(h:aK J)(l:List aT)(c:Nat):Mine.gi (l.map (mi J)) c=Mine.gi l c:=by
 unfold Mine.gi;rw[aJ,il,il];cases Nat.blt (c+1) l.length with
 |false=>rfl
 |true=>
  cases ae l c with
  |none=>rfl
  |some a=>
   cases ae l (c+1) with
   |none=>rfl
   |some b=>show(match Mine.fY (mi J a) (mi J b) with|true=>c|false=>c+1)=_;rw[h.Jp];try rfl
def aK.sup(h:aK J):∀(n:Nat) (l:List aT) (p:Nat),Mine.gp n (l.map (mi J)) p=((Mine.gp n l p).1.map (mi J),(Mine.gp n l p).2):=by
 intro n
 induction n with
 |zero=>intro l p;exact rfl
 |succ n ih=>
  intro l p;show(match Nat.blt (2*p+1) (l.map (mi J)).length with|false=>(l.map (mi J),p)|true=>match ae (l.map (mi J)) (Mine.gi (l.map (mi J)) (2*p+1)) with|some y=>Mine.gp n (ai (l.map (mi J)) y p) (Mine.gi (l.map (mi J)) (2*p+1))|none=>(l.map (mi J),p))=(λq:List aT×Nat=>(q.1.map (mi J),q.2)) (match Nat.blt (2*p+1) l.length with|false=>(l,p)|true=>match ae l (Mine.gi l (2*p+1)) with|some y=>Mine.gp n (ai l y p) (Mine.gi l (2*p+1))|none=>(l,p));rw[aJ,h.chd,il];cases Nat.blt (2*p+1) l.length with
  |false=>rfl
  |true=>
   cases ae l (Mine.gi l (2*p+1)) with
   |none=>rfl
   |some y=>show Mine.gp n (ai (l.map (mi J)) (mi J y) p) (Mine.gi l (2*p+1))=_;rw[lh,ih]
def aK.SR(h:aK J)(x:aT)(l:List aT):Mine.og (mi J x) (l.map (mi J))=(Mine.og x l).map (mi J):=by unfold Mine.og;rw[aJ,h.sup];show Mine.iM (mi J x) _ (ai ((Mine.gp l.length l 0).1.map (mi J)) (mi J x) _) _=_;rw[lh,h.HE]
def mh(J:Nat->Nat)(q:aT×List aT):aT×List aT:=(mi J q.1,q.2.map (mi J))
def aK.YM(h:aK J)(l:List aT)(x:aT):Mine.gx (l.map (mi J)) (mi J x)=mh J (Mine.gx l x):=by
 cases l with
 |nil=>rfl
 |cons y r=>show(mi J y,Mine.og (mi J x) (ai ((y::r).map (mi J)) (mi J x) 0))=(mi J y,(Mine.og x (ai (y::r) x 0)).map (mi J));rw[lh,h.SR]
def aK.u0(h:aK J)(k:Ky):∀l:List Ky,Mine.aU (k.map J) (l.map (List.map J))=Mine.aU k l:=by
 intro l
 induction l with
 |nil=>exact rfl
 |cons x l ih=>show(match Mine.ak (x.map J) (k.map J) with|true=>true|false=>Mine.aU (k.map J) (l.map (List.map J)))=_;rw[h.iU,ih];rfl
end
section
variable {α β γ:Type}{f:α->β}
def xN{δ:Type}{g:β->γ}{g':α->δ}{k:δ->γ}(h:∀a,g (f a)=k (g' a))(l:List α):cJ g (l.map f)=(cJ g' l).map k:=by rw[mZ,mZ,Wx h]
variable {p:β->Bool}{q:α->Bool}
def yy(h:∀a,p (f a)=q a)(l:List α):d8 p (l.map f)=(d8 q l).map f:=by rw[nz,nz,fm h]
def M8(h:∀a,p (f a)=q a)(l:List α):kc p (l.map f)=kc q l:=by rw[Fs,Fs,ac8 h]
def M9(h:∀a,p (f a)=q a)(l:List α):iA p (l.map f)=iA q l:=by rw[yS,yS,adb h]
def ql{σ τ:Type}{F:τ->β->τ}{G:σ->α->σ}{g:σ->τ}(h:∀s a,F (g s) (f a)=g (G s a))(l:List α)(s:σ):bI F (l.map f) (g s)=g (bI G l s):=by rw[Lz,Lz,Z3 h]
def qs(l m:List α):bj (l.map f) (m.map f)=(bj l m).map f:=by rw[fP,fP,ew]
def HZ(l:List α):dq (l.map f) []=(dq l []).map f:=by rw[xl,xl,List.map_reverse]
end
section
variable {J:Nat->Nat}
def AN(a:Ky):fc (a.map J)=fc a:=by cases a<;>rfl
def aK.DI(h:aK J)(o:Ky):∀(a b:Ky) (g:Nat),Mine.bw (o.map J) (a.map J) (b.map J) g=ml J (Mine.bw o a b g):=by
 intro a
 induction a with
 |nil=>intro b g;exact rfl
 |cons x a ih=>
  intro b g;cases b with
  |nil=>rfl
  |cons y b=>show(match Nat.beq (J x) (J y) with|true=>Mine.bw (o.map J) (a.map J) (b.map J) (g+1)|false=>(o.map J,g,[],false))=ml J (match Nat.beq x y with|true=>Mine.bw o a b (g+1)|false=>(o,g,[],false));rw[h.beq,ih];cases Nat.beq x y<;>rfl
def WS:∀(r:List aT) (x:aT),gF (mi J x) (r.map (mi J))=mi J (gF x r):=by
 intro r
 induction r with
 |nil=>intro x;exact rfl
 |cons y r ih=>exact λO=>ih y
def Ym:∀(r:List aT) (x:aT),gf (mi J x) (r.map (mi J))=(gf x r).map (mi J):=by
 intro r
 induction r with
 |nil=>intro x;exact rfl
 |cons y r ih=>exact λx=>congrArg (mi J x::·) (ih y)
def aK.Ai(h:aK J)(b:Nat)(l:bT)(q:List aT):Mine.ck b (ml J l) (q.map (mi J))=(Mine.ck b l q).map (mi J):=by show(match l.2.2.2 with|true=>Mine.oJ (mi J (((b+l.2.1:Nat):Int),l.2.2.1)) (q.map (mi J))|false=>q.map (mi J))=(match l.2.2.2 with|true=>Mine.oJ (((b+l.2.1:Nat):Int),l.2.2.1) q|false=>q).map (mi J);rw[h.YI];cases l.2.2.2<;>rfl
def aK.Et(h:aK J)(k:Ky):∀R:List (Ky×Nat),Mine.di (k.map J) (R.map (mr J))=Mine.di k R:=by
 intro R
 induction R with
 |nil=>exact rfl
 |cons p R ih=>show(match Mine.ak (p.1.map J) (k.map J) with|true=>true|false=>Mine.di (k.map J) (R.map (mr J)))=_;rw[h.iU,ih];rfl
def aK.JA(h:aK J)(k:Ky):∀R:List (Ky×Nat),Mine.jh (k.map J) (R.map (mr J))=Mine.jh k R:=by
 intro R
 induction R with
 |nil=>exact rfl
 |cons p R ih=>show(match Mine.ak (p.1.map J) (k.map J) with|true=>p.2|false=>Mine.jh (k.map J) (R.map (mr J)))=_;rw[h.iU,ih];rfl
def mL(J:Nat->Nat)(p:List aT×List bT):List aT×List bT:=(p.1.map (mi J),p.2.map (ml J))
def aK.Xj(h:aK J)(r:Ky)(n:Nat):∀(ws:List Ky) (q:List aT) (L:List bT),Mine.fB (r.map J) n (ws.map (List.map J)) (q.map (mi J)) (L.map (ml J))=mL J (Mine.fB r n ws q L):=by
 intro ws
 induction ws with
 |nil=>intro q L;exact rfl
 |cons w ws ih=>intro q L;show Mine.fB (r.map J) n (ws.map (List.map J)) (Mine.ck n (Mine.bw (r.map J) (r.map J) (w.map J) 0) (q.map (mi J))) (Mine.bw (r.map J) (r.map J) (w.map J) 0::L.map (ml J))=_;rw[h.DI,h.Ai];exact ih _ (_::L)
def aK.Vf(h:aK J)(q:List aT):Mine.xA (q.map (mi J))=(Mine.xA q).map (mh J):=by
 cases q with
 |nil=>rfl
 |cons x r=>show some (Mine.gx (gf (mi J x) (r.map (mi J))) (gF (mi J x) (r.map (mi J))))=some (mh J (Mine.gx (gf x r) (gF x r)));rw[Ym,WS,h.YM]
def mF(J:Nat->Nat)(F:fS):fS:=(F.1.map (mr J),F.2.1.map (ml J),F.2.2)
def zJ(ws:List Ky)(ih:List aT->fS->Option fS)(F:fS)(n:Nat)(k:Ky)(r:List aT):Option fS:=match fc k with
 |true=>ih r (F.1,F.2.1,n::F.2.2)
 |false=>match Mine.di k F.1 with
  |true=>ih r F
  |false=>match Nat.blt k.length 40 with
   |false=>none
   |true=>ih (Mine.fB k n ws r F.2.1).1 ((k,n)::F.1,(Mine.fB k n ws r F.2.1).2,F.2.2)
def Hf(ws:List Ky)(m:Nat)(q:List aT)(F:fS):iL ws (m+1) q F=match Mine.xA q with
 |none=>some F
 |some y=>match y.1.1 with
  |.negSucc _=>none
  |.ofNat n=>zJ ws (iL ws m) F n y.1.2 y.2:=rfl
def aK.Ss(h:aK J)(ws:List Ky):∀(m:Nat) (q:List aT) (F:fS),Mine.iL (ws.map (List.map J)) m (q.map (mi J)) (mF J F)=(Mine.iL ws m q F).map (mF J):=by
 intro m
 induction m with
 |zero=>intro q F;exact rfl
 |succ m ih=>
  intro q F;rw[Hf,Hf,h.Vf];cases Mine.xA q with
  |none=>rfl
  |some y=>
   obtain⟨⟨i,k⟩,r⟩:=y;cases i with
   |negSucc n=>rfl
   |ofNat n=>
    show zJ (ws.map (List.map J)) (Mine.iL (ws.map (List.map J)) m) (mF J F) n (k.map J) (r.map (mi J))=(zJ ws (Mine.iL ws m) F n k r).map (mF J);unfold zJ;show(match fc (k.map J) with
     |true=>_
     |false=>match Mine.di (k.map J) (F.1.map (mr J)) with
      |true=>_
      |false=>match Nat.blt (k.map J).length 40 with
       |false=>none
       |true=>Mine.iL (ws.map (List.map J)) m (Mine.fB (k.map J) n (ws.map (List.map J)) (r.map (mi J)) (F.2.1.map (ml J))).1 ((k.map J,n)::F.1.map (mr J),(Mine.fB (k.map J) n (ws.map (List.map J)) (r.map (mi J)) (F.2.1.map (ml J))).2,F.2.2))=_
    rw[AN,h.Et,aJ,h.Xj];cases fc k with
    |true=>exact ih r (F.1,F.2.1,n::F.2.2)
    |false=>
     cases Mine.di k F.1 with
     |true=>exact ih r F
     |false=>
      cases Nat.blt k.length 40 with
      |false=>rfl
      |true=>exact ih _ ((k,n)::F.1,_,F.2.2)
def aK.Sj(h:aK J)(a b c:Ky):Mine.zG (a.map J) (b.map J) (c.map J)=(Mine.zG a b c).map (ml J):=by have q:=h.DI [];show[Mine.bw (List.map J []) (b.map J) (c.map J) 0,Mine.bw (List.map J []) (a.map J) (c.map J) 0,Mine.bw (List.map J []) (a.map J) (b.map J) 0]=_;rw[q,q,q];rfl
def aK.search(h:aK J)(a b c:Ky):Mine.pQ (a.map J) (b.map J) (c.map J)=(Mine.pQ a b c).map (mF J):=by
 have q:=h.DI [];have e:Mine.ck 0 (Mine.bw [] (b.map J) (c.map J) 0) (Mine.ck 0 (Mine.bw [] (a.map J) (c.map J) 0) (Mine.ck 0 (Mine.bw [] (a.map J) (b.map J) 0) []))=(Mine.ck 0 (Mine.bw [] b c 0) (Mine.ck 0 (Mine.bw [] a c 0) (Mine.ck 0 (Mine.bw [] a b 0) []))).map (mi J):=by show Mine.ck 0 (Mine.bw (List.map J []) (b.map J) (c.map J) 0) (Mine.ck 0 (Mine.bw (List.map J []) (a.map J) (c.map J) 0) (Mine.ck 0 (Mine.bw (List.map J []) (a.map J) (b.map J) 0) (List.map (mi J) [])))=_;rw[q,q,q,h.Ai,h.Ai,h.Ai]
 unfold Mine.pQ;rw[e,h.Sj];exact h.Ss [a,b,c] 100 _ ([([],0)],Mine.zG a b c,[])
end
end
section
section
variable {J:Nat->Nat}
def aK.Ew(h:aK J)(k:Ky):∀g:List Ad,Mine.gX (k.map J) (g.map (ma J))=Mine.gX k g:=by
 intro g
 induction g with
 |nil=>exact rfl
 |cons p g ih=>show(match Mine.ak (p.1.map J) (k.map J) with|true=>true|false=>Mine.gX (k.map J) (g.map (ma J)))=_;rw[h.iU,ih];rfl
def aK.DM(h:aK J)(g:List Ad)(k:Ky):Mine.jJ (g.map (ma J)) (k.map J)=(Mine.jJ g k).map (ma J):=by
 unfold Mine.jJ;rw[h.Ew];cases Mine.gX k g with
 |true=>rfl
 |false=>exact qs (f:=ma J) g [(k,0,[])]
def aK.VN(h:aK J)(g:List Ad)(k:Ky)(f:Int->Int):Mine.xF (g.map (ma J)) (k.map J) f=(Mine.xF g k f).map (ma J):=xN (λt=>by show(match Mine.ak (t.1.map J) (k.map J) with|true=>(t.1.map J,f t.2.1,t.2.2.map (List.map J))|false=>ma J t)=ma J (match Mine.ak t.1 k with|true=>(t.1,f t.2.1,t.2.2)|false=>t);rw[h.iU];cases Mine.ak t.1 k<;>rfl) g
def aK.Di(h:aK J)(k:Ky)(f:Int->Int):∀g:List Ad,Mine.gE (g.map (ma J)) (k.map J) f=(Mine.gE g k f).map (ma J):=by
 intro g
 induction g with
 |nil=>exact rfl
 |cons t g ih=>show(match Mine.ak (t.1.map J) (k.map J) with|true=>(t.1.map J,f t.2.1,t.2.2.map (List.map J))::g.map (ma J)|false=>ma J t::Mine.gE (g.map (ma J)) (k.map J) f)=(match Mine.ak t.1 k with|true=>(t.1,f t.2.1,t.2.2)::g|false=>t::Mine.gE g k f).map (ma J);rw[h.iU,ih];cases Mine.ak t.1 k<;>rfl
def aK.Sb(h:aK J)(g:List Ad)(k x:Ky):Mine.uL (g.map (ma J)) (k.map J) (x.map J)=(Mine.uL g k x).map (ma J):=xN (λt=>by show(match Mine.ak (t.1.map J) (k.map J) with|true=>(t.1.map J,t.2.1,bj (t.2.2.map (List.map J)) ([x].map (List.map J)))|false=>ma J t)=ma J (match Mine.ak t.1 k with|true=>(t.1,t.2.1,bj t.2.2 [x])|false=>t);rw[h.iU,qs];cases Mine.ak t.1 k<;>rfl) g
def aK.adl(h:aK J)(g:List Ad)(l:bT):Mine.qt (g.map (ma J)) (ml J l)=(Mine.qt g l).map (ma J):=by show(match fc (l.2.2.1.map J) with|true=>g.map (ma J)|false=>Mine.uL (Mine.jJ (Mine.xF (Mine.jJ (g.map (ma J)) (l.2.2.1.map J)) (l.2.2.1.map J) λn=>n+1) (l.1.map J)) (l.1.map J) (l.2.2.1.map J))=_;rw[AN,h.DM,h.VN,h.DM,h.Sb];unfold Mine.qt;cases fc l.2.2.1<;>rfl
def aK.Zw(h:aK J)(R:List (Ky×Nat))(L:List bT):Mine.ny (R.map (mr J)) (L.map (ml J))=(Mine.ny R L).map (ma J):=by unfold Mine.ny;rw[show bI (λg p=>Mine.jJ g p.1) (R.map (mr J)) []=(bI (λg p=>Mine.jJ g p.1) R []).map (ma J) from ql (g:=List.map (ma J)) (λs p=>h.DM s p.1) R []];exact ql (g:=List.map (ma J)) (λs c=>h.adl s c) L _
def aK.Xx(h:aK J)(bq:List (Ky×Nat))(l:bT):Mine.gc (bq.map (mr J)) (ml J l)=Mine.gc bq l:=congrArg (·+l.2.1) (h.JA l.1 bq)
def Wy{α β γ:Type}{f:α->β}{p:β->γ}{q:α->γ}(h:∀a,p (f a)=q a)(l:List α):cJ p (l.map f)=cJ q l:=by rw[xN (g':=q) (k:=id) h,sC]
def aK.JH(h:aK J)(bq:List (Ky×Nat))(L:List bT):cJ (Mine.gc (bq.map (mr J))) (L.map (ml J))=cJ (Mine.gc bq) L:=Wy (λl=>h.Xx bq l) L
def aK.J5(h:aK J)(x:Ky)(l:bT):Mine.kM (x.map J) (ml J l)=Mine.kM x l:=by show(match Mine.ak (l.2.2.1.map J) (x.map J) with|true=>!fc (l.2.2.1.map J)|false=>false)=_;rw[h.iU,AN];rfl
def aK.Xy(h:aK J)(L:List bT)(bq:List (Ky×Nat))(x:Ky):Mine.rH (L.map (ml J)) (bq.map (mr J)) (x.map J)=(Mine.rH L bq x).map (mr J):=by unfold Mine.rH;rw[yy (f:=ml J) (λl=>h.J5 x l),h.JH];rfl
def Un(g:List Ad):lF (g.map (ma J))=(lF g).map (List.map J):=by unfold lF;rw[yy (f:=ma J) (p:=λt:Ad=>dQ t.2.1 0) (q:=λt:Ad=>dQ t.2.1 0) (λO=>rfl)];exact xN (f:=ma J) (k:=List.map J) (λO=>rfl) _
def aK.R3(h:aK J)(k:Ky):∀g:List Ad,Mine.fJ (g.map (ma J)) (k.map J)=(Mine.fJ g k).map (List.map J):=by
 intro g
 induction g with
 |nil=>exact rfl
 |cons p g ih=>show(match Mine.ak (p.1.map J) (k.map J) with|true=>p.2.2.map (List.map J)|false=>Mine.fJ (g.map (ma J)) (k.map J))=(match Mine.ak p.1 k with|true=>p.2.2|false=>Mine.fJ g k).map (List.map J);rw[h.iU,ih];cases Mine.ak p.1 k<;>rfl
def aK.IK(h:aK J)(k:Ky):∀g:List Ad,Mine.gT (g.map (ma J)) (k.map J)=Mine.gT g k:=by
 intro g
 induction g with
 |nil=>exact rfl
 |cons p g ih=>show(match Mine.ak (p.1.map J) (k.map J) with|true=>p.2.1|false=>Mine.gT (g.map (ma J)) (k.map J))=_;rw[h.iU,ih];rfl
def mg(J:Nat->Nat)(q:List Ad×List Ky):List Ad×List Ky:=(q.1.map (ma J),q.2.map (List.map J))
def aK.abq(h:aK J)(q:List Ad×List Ky)(y:Ky):Mine.kO (mg J q) (y.map J)=mg J (Mine.kO q y):=by show(Mine.gE (q.1.map (ma J)) (y.map J) (λO=>Mine.gT (q.1.map (ma J)) (y.map J)-1),match dQ (Mine.gT (q.1.map (ma J)) (y.map J)-1) 0 with|true=>bj (q.2.map (List.map J)) ([y].map (List.map J))|false=>q.2.map (List.map J))=((Mine.gE q.1 y λO=>Mine.gT q.1 y-1).map (ma J),(match dQ (Mine.gT q.1 y-1) 0 with|true=>bj q.2 [y]|false=>q.2).map (List.map J));rw[h.IK,h.Di,qs];cases dQ (Mine.gT q.1 y-1) 0<;>rfl
def Me(x:Ky)(l:List Ky)(q:List Ad×List Ky):j8 (x::l) q=match dQ (gT q.1 x) (-1)&&(iA (λy=>gX y q.1) (fJ q.1 x)&&Nat.blt (q.2.length+(fJ q.1 x).length) 1000) with
  |true=>j8 l (bI kO (fJ q.1 x) (gE q.1 x λO=>-2,q.2))
  |false=>none:=rfl
def aK.abc(h:aK J):∀(l:List Ky) (q:List Ad×List Ky),Mine.j8 (l.map (List.map J)) (mg J q)=(Mine.j8 l q).map (mg J):=by
 intro l
 induction l with
 |nil=>intro q;exact rfl
 |cons x l ih=>
  intro q;rw[Me,bE,Me];show(match dQ (Mine.gT (q.1.map (ma J)) (x.map J)) (-1)&&(iA (λy=>Mine.gX y (q.1.map (ma J))) (Mine.fJ (q.1.map (ma J)) (x.map J))&&Nat.blt ((q.2.map (List.map J)).length+(Mine.fJ (q.1.map (ma J)) (x.map J)).length) 1000) with
   |true=>Mine.j8 (l.map (List.map J)) (bI Mine.kO (Mine.fJ (q.1.map (ma J)) (x.map J)) (Mine.gE (q.1.map (ma J)) (x.map J) (λO=>-2),q.2.map (List.map J)))
   |false=>none)=_
  have e:bI Mine.kO ((Mine.fJ q.1 x).map (List.map J)) ((Mine.gE q.1 x λO=>-2).map (ma J),q.2.map (List.map J))=mg J (bI Mine.kO (Mine.fJ q.1 x) (Mine.gE q.1 x λO=>-2,q.2)):=ql (g:=mg J) (λs y=>h.abq s y) _ (Mine.gE q.1 x λO=>-2,q.2);rw[h.IK,h.R3,M9 (f:=List.map J) (λy=>h.Ew y q.1),aJ,aJ,h.Di,e,ih];cases dQ (Mine.gT q.1 x) (-1)&&(iA (λy=>Mine.gX y q.1) (Mine.fJ q.1 x)&&Nat.blt (q.2.length+(Mine.fJ q.1 x).length) 1000)<;>rfl
def aK.Vm(h:aK J)(g:List Ad)(l:List Ky):Mine.lG (g.map (ma J)) (l.map (List.map J))=(Mine.lG g l).map (ma J):=ql (g:=List.map (ma J)) (λs k=>h.Di k _ s) l g
def mk(J:Nat->Nat)(q:List Ky×List (Ky×Nat)):List Ky×List (Ky×Nat):=(q.1.map (List.map J),q.2.map (mr J))
def JJ(L:List bT)(m:Nat)(g:List Ad)(x:Ky)(r:List Ky)(bq:List (Ky×Nat))(told:List Ky):lP L (m+1) g (x::r) bq told=match iA (λy=>gX y g) (x::r)&&Nat.blt (told.length+(x::r).length) 900 with
  |false=>none
  |true=>(j8 (x::r) (lG g (x::r),[])).bind λq=>lP L m q.1 q.2 (bI (rH L) (x::r) bq) (bj told (x::r)):=rfl
def aK.XJ(h:aK J)(L:List bT):∀(m:Nat) (g:List Ad) (r:List Ky) (bq:List (Ky×Nat)) (told:List Ky),Mine.lP (L.map (ml J)) m (g.map (ma J)) (r.map (List.map J)) (bq.map (mr J)) (told.map (List.map J))=(Mine.lP L m g r bq told).map (mk J):=by
 intro m
 induction m with
 |zero=>intro g r bq told;exact rfl
 |succ m ih=>
  intro g r bq told;cases r with
  |nil=>rfl
  |cons x r=>
   rw[JJ,bE,JJ,<- bE];rw[M9 (f:=List.map J) (λy=>h.Ew y g),aJ,aJ,h.Vm,show Mine.j8 ((x::r).map (List.map J)) ((Mine.lG g (x::r)).map (ma J),[])=_ from h.abc (x::r) (Mine.lG g (x::r),[]),qs];rw[ql (g:=List.map (mr J)) (λs y=>h.Xy L s y) (x::r) bq];cases iA (λy=>Mine.gX y g) (x::r)&&Nat.blt (told.length+(x::r).length) 900 with
   |false=>rfl
   |true=>
    show((Mine.j8 (x::r) (Mine.lG g (x::r),[])).map (mg J)).bind _=((Mine.j8 (x::r) (Mine.lG g (x::r),[])).bind _).map (mk J);cases Mine.j8 (x::r) (Mine.lG g (x::r),[]) with
    |none=>rfl
    |some q=>exact ih q.1 q.2 _ _
noncomputable def mf(J:Nat->Nat)(e:Fr):Fr:=(e.1.map J,e.2.map (List.map J))
def Q8:∀E:List Fr,mK (E.map (mf J))=(mK E).map λp=>(p.1.map J,p.2.map (mf J)):=by
 intro E
 induction E with
 |nil=>exact rfl
 |cons e E ih=>
  obtain⟨k,su⟩:=e;cases su with
  |nil=>exact ih
  |cons y su=>rfl
def aK.ZF(h:aK J)(k:Ky):∀g:List Ad,Mine.oO (k.map J) (g.map (ma J))=(Mine.oO k g).map (List.map (List.map J)):=by
 intro g
 induction g with
 |nil=>exact rfl
 |cons p g ih=>show(match Mine.ak (p.1.map J) (k.map J) with|true=>some (p.2.2.map (List.map J))|false=>Mine.oO (k.map J) (g.map (ma J)))=(match Mine.ak p.1 k with|true=>some p.2.2|false=>Mine.oO k g).map (List.map (List.map J));rw[h.iU,ih];cases Mine.ak p.1 k<;>rfl
noncomputable def mo(J:Nat->Nat):Option (List Ky)->Option (List Ky):=Option.map (List.map (List.map J))
def Mh(g:List Ad)(m:Nat)(k:Ky)(E:List Fr)(seen:List Ky):iw g (m+1) k E seen=match Nat.blt seen.length 1000 with
 |false=>none
 |true=>match aU k seen with
  |true=>match aU k (E.map (·.1)) with|true=>some none|false=>lY (iw g m) E seen
  |false=>(oO k g).bind λsu=>lY (iw g m) ((k,su)::E) (seen++[k]):=rfl
def aK.abk(h:aK J)(g:List Ad):∀(m:Nat) (k:Ky) (E:List Fr) (seen:List Ky),Mine.iw (g.map (ma J)) m (k.map J) (E.map (mf J)) (seen.map (List.map J))=(Mine.iw g m k E seen).map (mo J):=by
 intro m
 induction m with
 |zero=>intro k E seen;exact rfl
 |succ m ih=>
  intro k E seen;have go:∀E seen,lY (Mine.iw (g.map (ma J)) m) (E.map (mf J)) (seen.map (List.map J))=(lY (Mine.iw g m) E seen).map (mo J):=λE seen=>by
   unfold lY;rw[Q8];cases mK E with
   |none=>rfl
   |some p=>exact ih p.1 p.2 seen
  rw[Mh,Mh,aJ,h.u0,go,h.ZF,show(E.map (mf J)).map (·.1)=(E.map (·.1)).map (List.map J) from by rw[cG,cG];rfl,h.u0];cases Nat.blt seen.length 1000 with
  |false=>rfl
  |true=>
   cases Mine.aU k seen with
   |true=>cases Mine.aU k (E.map (·.1))<;>rfl
   |false=>
    cases Mine.oO k g with
    |none=>rfl
    |some su=>have:=go ((k,su)::E) (seen++[k]);rw[ew] at this;exact this
def LG(g:List Ad)(p:Ad)(l:List Ad)(seen:List Ky):jl g (p::l) seen=match aU p.1 seen with
 |true=>jl g l seen
 |false=>(iw g 300 p.1 [] seen).bind λr=>match r with|none=>some true|some seen=>jl g l seen:=rfl
def aK.findF(h:aK J)(g:List Ad):∀(l:List Ad) (seen:List Ky),Mine.jl (g.map (ma J)) (l.map (ma J)) (seen.map (List.map J))=Mine.jl g l seen:=by
 intro l
 induction l with
 |nil=>intro seen;exact rfl
 |cons p l ih=>
  intro seen;rw[LG,bE,LG,ih,show(ma J p).1=p.1.map J from rfl,h.u0,show Mine.iw (g.map (ma J)) 300 (p.1.map J) [] (seen.map (List.map J))=(Mine.iw g 300 p.1 [] seen).map (mo J) from h.abk g 300 p.1 [] seen];generalize Mine.iw g 300 p.1 [] seen=o;cases Mine.aU p.1 seen with
  |true=>rfl
  |false=>
   cases o with
   |none=>exact(rfl:(none:Option Bool)=none)
   |some r=>
    cases r with
    |none=>exact(rfl:some true=some true)
    |some s=>exact ih s
end
end
section
section
variable {α β:Type}{f:α->β}{lt:β->β->Bool}{lt':α->α->Bool}
def Yj(h:∀a b,lt (f a) (f b)=lt' a b)(x:α):∀l:List α,jj lt (f x) (l.map f)=(jj lt' x l).map f:=by
 intro l
 induction l with
 |nil=>exact rfl
 |cons y l ih=>show(match lt (f y) (f x) with|true=>f y::jj lt (f x) (l.map f)|false=>f x::f y::l.map f)=(match lt' y x with|true=>y::jj lt' x l|false=>x::y::l).map f;rw[h,ih];cases lt' y x<;>rfl
def Cu(h:∀a b,lt (f a) (f b)=lt' a b):∀l:List α,cC lt (l.map f)=(cC lt' l).map f:=by
 intro l
 induction l with
 |nil=>exact rfl
 |cons y l ih=>show jj lt (f y) (cC lt (l.map f))=_;rw[ih,Yj h];rfl
end
section
variable {J:Nat->Nat}
abbrev v3:=Bool×List Ky×Nat
noncomputable def mO(J:Nat->Nat)(o:v3):v3:=(o.1,o.2.1.map (List.map J),o.2.2)
def Ir(R:List (Ky×Nat))(L:List bT):kG R L=match Nat.blt (ny R L).length 1000 with
  |false=>none
  |true=>(jl (ny R L) (ny R L) []).bind λring=>(lP L 100 (ny R L) (lF (ny R L)) [] []).bind λq=>match Nat.blt q.1.length 64 with
   |false=>none
   |true=>some (ring,cC bu q.1,lN (cJ (gc q.2) L)):=rfl
def aK.Vn(h:aK J)(R:List (Ky×Nat))(L:List bT):Mine.kG (R.map (mr J)) (L.map (ml J))=(Mine.kG R L).map (mO J):=by
 rw[Ir,Ir,h.Zw,aJ,Un];generalize Mine.ny R L=g;rw[show Mine.jl (g.map (ma J)) (g.map (ma J)) []=Mine.jl g g [] from h.findF g g [],show Mine.lP (L.map (ml J)) 100 (g.map (ma J)) ((lF g).map (List.map J)) [] []=(Mine.lP L 100 g (lF g) [] []).map (mk J) from h.XJ L 100 g (lF g) [] []];generalize Mine.lP L 100 g (lF g) [] []=k;generalize Mine.jl g g []=r;cases Nat.blt g.length 1000 with
 |false=>rfl
 |true=>
  cases r with
  |none=>exact(rfl:(none:Option v3)=none)
  |some r=>
   cases k with
   |none=>exact(rfl:(none:Option v3)=none)
   |some q=>
    show(match Nat.blt (q.1.map (List.map J)).length 64 with
     |false=>none
     |true=>some (r,cC Mine.bu (q.1.map (List.map J)),lN (cJ (Mine.gc (q.2.map (mr J))) (L.map (ml J)))))=Option.map (mO J) (match Nat.blt q.1.length 64 with
     |false=>none
     |true=>some (r,cC Mine.bu q.1,lN (cJ (Mine.gc q.2) L)))
    rw[aJ,Cu h.tD,h.JH];cases Nat.blt q.1.length 64<;>rfl
def aK.Zy(h:aK J)(L:List bT)(left:List Ky):Mine.gh (L.map (ml J)) (left.map (List.map J))=(Mine.gh L left).map (List.map J):=yy (f:=List.map J) (q:=λr=>!(kc (λl=>match Mine.kM r l with|true=>Mine.aU l.1 left|false=>false) L)) (λr=>congrArg not (M8 (f:=ml J) (q:=λl=>match Mine.kM r l with|true=>Mine.aU l.1 left|false=>false) (λl=>by show(match Mine.kM (r.map J) (ml J l) with|true=>Mine.aU (l.1.map J) (left.map (List.map J))|false=>false)=_;rw[h.J5,h.u0]) L)) left
def Lq(L:List bT)(m:Nat)(left free:List Ky):iu L (m+1) left free=match gh L left with
 |[]=>match Nat.blt free.length 64 with|false=>none|true=>some (cC bu free)
 |x::r=>iu L m (d8 (λy=>!aU y (x::r)) left) (bj free (x::r)):=rfl
def aK.ZI(h:aK J)(L:List bT):∀(m:Nat) (left free:List Ky),Mine.iu (L.map (ml J)) m (left.map (List.map J)) (free.map (List.map J))=(Mine.iu L m left free).map (List.map (List.map J)):=by
 intro m
 induction m with
 |zero=>intro left free;exact rfl
 |succ m ih=>
  intro left free;rw[Lq,Lq,h.Zy];cases Mine.gh L left with
  |nil=>show(match Nat.blt (free.map (List.map J)).length 64 with|false=>none|true=>some (cC Mine.bu (free.map (List.map J))))=_;rw[aJ,Cu h.tD];cases Nat.blt free.length 64<;>rfl
  |cons x r=>show Mine.iu (L.map (ml J)) m (d8 (λy=>!Mine.aU y ((x::r).map (List.map J))) (left.map (List.map J))) (bj (free.map (List.map J)) ((x::r).map (List.map J)))=_;rw[yy (f:=List.map J) (λy=>congrArg not (h.u0 y (x::r))),qs];exact ih _ _
def aK.LX(h:aK J)(a b:Pr):Mine.g5 (mp J a) (mp J b)=Mine.g5 a b:=by show(match Mine.ak (a.1.map J) (b.1.map J) with|true=>Mine.ak (a.2.map J) (b.2.map J)|false=>false)=_;rw[h.iU,h.iU];rfl
def aK.WQ(h:aK J)(a b:Pr):Mine.dw (mp J a) (mp J b)=Mine.dw a b:=by show(match Mine.ak (a.1.map J) (b.1.map J) with|true=>Mine.bu (a.2.map J) (b.2.map J)|false=>Mine.bu (a.1.map J) (b.1.map J))=_;rw[h.iU,h.tD,h.tD];rfl
def aK.Wf(h:aK J)(a b:Ky):Mine.cZ (a.map J) (b.map J)=mp J (Mine.cZ a b):=by unfold Mine.cZ;rw[h.tD];cases Mine.bu b a<;>rfl
def aK.Wn(h:aK J)(p:Pr):∀l:List Pr,Mine.ip (mp J p) (l.map (mp J))=Mine.ip p l:=by
 intro l
 induction l with
 |nil=>exact rfl
 |cons q l ih=>show(match Mine.g5 (mp J q) (mp J p) with|true=>true|false=>Mine.ip (mp J p) (l.map (mp J)))=_;rw[h.LX,ih];rfl
def aK.VA(h:aK J)(a b:Ky)(made:List Pr):Mine.lH (a.map J) (b.map J) (made.map (mp J))=(Mine.lH a b made).map (mp J):=by
 cases a with
 |nil=>rfl
 |cons x a=>
  cases b with
  |nil=>rfl
  |cons y b=>
   show(match Nat.beq (J x) (J y) with
    |false=>made.map (mp J)
    |true=>match Mine.ip (Mine.cZ (a.map J) (b.map J)) (made.map (mp J)) with|true=>made.map (mp J)|false=>bj (made.map (mp J)) [Mine.cZ (a.map J) (b.map J)])=(match Nat.beq x y with
    |false=>made
    |true=>match Mine.ip (Mine.cZ a b) made with|true=>made|false=>bj made [Mine.cZ a b]).map (mp J)
   rw[h.beq,h.Wf,h.Wn];cases Nat.beq x y with
   |false=>rfl
   |true=>
    cases Mine.ip (Mine.cZ a b) made with
    |true=>rfl
    |false=>exact qs made [Mine.cZ a b]
def Iy(ws:List Ky)(a:Ky):jF (ws.map (List.map J)) (a.map J)=(jF ws a).map (List.map J):=by cases a<;>rfl
def aK.Uk(h:aK J)(ws:List Ky)(ps:List Pr):Mine.fz (ws.map (List.map J)) (ps.map (mp J))=(Mine.fz ws ps).map (mp J):=ql (g:=List.map (mp J)) (λmade p=>by show bI (λmade a=>bI (λmade b=>Mine.lH a b made) (jF (ws.map (List.map J)) (p.2.map J)) made) (jF (ws.map (List.map J)) (p.1.map J)) (made.map (mp J))=_;rw[Iy,Iy];exact ql (g:=List.map (mp J)) (λmade a=>ql (g:=List.map (mp J)) (λmade b=>h.VA a b made) _ made) _ made) ps []
def aK.aay(h:aK J):∀l m:List Pr,Mine.oP (l.map (mp J)) (m.map (mp J))=Mine.oP l m:=by
 intro l
 induction l with
 |nil=>intro m;cases m<;>rfl
 |cons a l ih=>
  intro m;cases m with
  |nil=>rfl
  |cons b m=>show(match Mine.g5 (mp J a) (mp J b) with|true=>Mine.oP (l.map (mp J)) (m.map (mp J))|false=>false)=_;rw[h.LX,ih];rfl
def aK.Wl(h:aK J)(p:List Pr):∀l:List (List Pr),Mine.lM (p.map (mp J)) (l.map (List.map (mp J)))=Mine.lM p l:=by
 intro l
 induction l with
 |nil=>exact rfl
 |cons q l ih=>show(match Mine.oP (q.map (mp J)) (p.map (mp J)) with|true=>true|false=>Mine.lM (p.map (mp J)) (l.map (List.map (mp J))))=_;rw[h.aay,ih];rfl
abbrev Fx:=List (Ky×Nat)×List Nat
def mN(J:Nat->Nat)(q:Fx):Fx:=(q.1.map (mr J),q.2)
def aK.VP(h:aK J)(n:Nat)(q:Fx)(p:Pr):Mine.fX n (mN J q) (mp J p)=mN J (Mine.fX n q p):=by
 obtain⟨a,b⟩:=p;cases a with
 |cons x a=>rfl
 |nil=>
  cases b with
  |nil=>rfl
  |cons y b=>show(match Mine.di ((y::b).map J) (q.1.map (mr J)) with|true=>mN J q|false=>(bj (q.1.map (mr J)) [((y::b).map J,n)],q.2))=mN J (match Mine.di (y::b) q.1 with|true=>q|false=>(bj q.1 [((y::b),n)],q.2));rw[h.Et,show bj (q.1.map (mr J)) [((y::b).map J,n)]=_ from qs q.1 [((y::b),n)]];cases Mine.di (y::b) q.1<;>rfl
def ach(p:Pr):jo (mp J p)=jo p:=by
 obtain⟨a,b⟩:=p;cases a with
 |nil=>exact AN b
 |cons x a=>rfl
def mS(J:Nat->Nat)(q:r8):r8:=(q.1.map (mr J),q.2)
noncomputable def EX(l:List Pr)(deep n:Nat):Nat:=match l with|[]=>deep|_::_=>n
def Hn(ws:List Ky)(m:Nat)(p:Pr)(ps:List Pr)(seen:List (List Pr))(R:List (Ky×Nat))(D:List Nat)(t deep:Nat):j0 ws (m+1) (p::ps) seen R D t deep=match lM (p::ps) seen with
   |true=>some (R,D,true,deep)
   |false=>match Nat.blt (fz ws (p::ps)).length 64 with
    |false=>none
    |true=>j0 ws m (d8 (λp=>!jo p) (cC dw (fz ws (p::ps)))) (bj seen [p::ps]) (bI (fX (t+1)) (cC dw (fz ws (p::ps))) (R,D)).1 (bI (fX (t+1)) (cC dw (fz ws (p::ps))) (R,D)).2 (t+1) (EX (cC dw (fz ws (p::ps))) deep (t+1)):=rfl
def abb(l:List Pr)(d n:Nat):EX (l.map (mp J)) d n=EX l d n:=by cases l<;>rfl
def aK.SS(h:aK J)(ws:List Ky):∀(m:Nat) (ps:List Pr) (seen:List (List Pr)) (R:List (Ky×Nat)) (D:List Nat) (t deep:Nat),Mine.j0 (ws.map (List.map J)) m (ps.map (mp J)) (seen.map (List.map (mp J))) (R.map (mr J)) D t deep=(Mine.j0 ws m ps seen R D t deep).map (mS J):=by
 intro m
 induction m with
 |zero=>intro ps seen R D t deep;exact rfl
 |succ m ih=>
  intro ps seen R D t deep;cases ps with
  |nil=>rfl
  |cons p ps=>
   rw[Hn,bE,Hn,<- bE,h.Wl,h.Uk,aJ,Cu h.WQ,yy (f:=mp J) (λp=>congrArg not (ach p)),abb];rw[show bI (Mine.fX (t+1)) ((cC Mine.dw (Mine.fz ws (p::ps))).map (mp J)) (R.map (mr J),D)=_ from ql (g:=mN J) (λs p=>h.VP (t+1) s p) _ (R,D)];rw[show bj (seen.map (List.map (mp J))) [(p::ps).map (mp J)]=_ from qs seen [p::ps]];cases Mine.lM (p::ps) seen with
   |true=>rfl
   |false=>
    cases Nat.blt (Mine.fz ws (p::ps)).length 64 with
    |false=>rfl
    |true=>exact ih _ _ _ _ _ _
def aK.eqR(h:aK J)(a b:List (Ky×Nat)):Mine.nB (a.map (mr J)) (b.map (mr J))=Mine.nB a b:=by
 have e:zC (a.map (mr J)) (b.map (mr J))=zC a b:=congrArg not (M8 (f:=mr J) (q:=λp:Ky×Nat=>match Mine.di p.1 b with|true=>!(Nat.beq (Mine.jh p.1 b) p.2)|false=>true) (λp=>by show(match Mine.di (p.1.map J) (b.map (mr J)) with|true=>!(Nat.beq (Mine.jh (p.1.map J) (b.map (mr J))) p.2)|false=>true)=_;rw[h.Et,h.JA]) a)
 unfold Mine.nB;rw[aJ,aJ,e]
def aK.aaB(h:aK J):∀l m:List Ky,Mine.oQ (l.map (List.map J)) (m.map (List.map J))=Mine.oQ l m:=by
 intro l
 induction l with
 |nil=>intro m;cases m<;>rfl
 |cons a l ih=>
  intro m;cases m with
  |nil=>rfl
  |cons b m=>show(match Mine.ak (a.map J) (b.map J) with|true=>Mine.oQ (l.map (List.map J)) (m.map (List.map J))|false=>false)=_;rw[h.iU,ih];rfl
def aaF(F:fS)(o:v3)(S:r8)(fr:List Ky):Bool:=Mine.nB F.1 S.1&&(Mine.ak (gW (dq F.2.2 [])) (gW S.2.1)&&(vK o.1 S.2.2.1&&(Mine.oQ o.2.1 fr&&(o.1||Nat.beq o.2.2 S.2.2.2))))
def ES(F:fS)(o:Option v3)(S:Option r8)(fr:Option (List Ky)):Bool:=match o with
 |none=>false
 |some o=>match S with
  |none=>false
  |some S=>match fr with
   |none=>false
   |some fr=>aaF F o S fr
def JG(a b c:Ky):kK a b c=match Mine.pQ a b c with
 |none=>false
 |some F=>ES F (Mine.kG (dq F.1 []) (dq F.2.1 [])) (Mine.j0 [a,b,c] 100 [(a,b),(a,c),(b,c)] [] [([],0)] [] 0 0) (Mine.iu (dq F.2.1 []) 100 (cJ (·.1) (dq F.1 [])) []):=rfl
def aK.Xw(h:aK J)(a b c:Ky):Mine.kK (a.map J) (b.map J) (c.map J)=Mine.kK a b c:=by
 rw[JG,JG,h.search,show Mine.j0 [a.map J,b.map J,c.map J] 100 [(a.map J,b.map J),(a.map J,c.map J),(b.map J,c.map J)] [] [([],0)] [] 0 0=_ from h.SS [a,b,c] 100 [(a,b),(a,c),(b,c)] [] [([],0)] [] 0 0];generalize Mine.j0 [a,b,c] 100 [(a,b),(a,c),(b,c)] [] [([],0)] [] 0 0=S;cases Mine.pQ a b c with
 |none=>rfl
 |some F=>
  show ES (mF J F) (Mine.kG (dq (F.1.map (mr J)) []) (dq (F.2.1.map (ml J)) [])) (S.map (mS J)) (Mine.iu (dq (F.2.1.map (ml J)) []) 100 (cJ (·.1) (dq (F.1.map (mr J)) [])) [])=ES F (Mine.kG (dq F.1 []) (dq F.2.1 [])) S (Mine.iu (dq F.2.1 []) 100 (cJ (·.1) (dq F.1 [])) []);rw[HZ,HZ,h.Vn,xN (f:=mr J) (g:=λp:Ky×Nat=>p.1) (g':=λp:Ky×Nat=>p.1) (k:=List.map J) (λO=>rfl),show Mine.iu ((dq F.2.1 []).map (ml J)) 100 ((cJ (·.1) (dq F.1 [])).map (List.map J)) []=_ from h.ZI (dq F.2.1 []) 100 (cJ (·.1) (dq F.1 [])) []];generalize Mine.kG (dq F.1 []) (dq F.2.1 [])=o;generalize Mine.iu (dq F.2.1 []) 100 (cJ (·.1) (dq F.1 [])) []=fr;cases o with
  |none=>rfl
  |some o=>
   cases S with
   |none=>rfl
   |some S=>
    cases fr with
    |none=>rfl
    |some fr=>show(Mine.nB (F.1.map (mr J)) (S.1.map (mr J))&&(Mine.ak (gW (dq F.2.2 [])) (gW S.2.1)&&(vK o.1 S.2.2.1&&(Mine.oQ (o.2.1.map (List.map J)) (fr.map (List.map J))&&(o.1||Nat.beq o.2.2 S.2.2.2)))))=_;rw[h.eqR,h.aaB];rfl
end
end
end
section
open PySem.W PyProof.Rows
noncomputable def qp:Nat->List Ky
 |0=>[[]]
 |n+1=>(qp n).map (0::·)++(qp n).map (1::·)
def fV:List Ky:=qp 1++(qp 2++(qp 3++qp 4))
def tR(a b c:Ky):Bool:=match aU b [a] with|true=>false|false=>!aU c [a,b]
def qm(w:Nat)(a b c:Ky):Option (Ky×Ky×Ky):=(cq w [] 4 a).bind λx=>(cq w [x] 4 b).bind λy=>(cq w [x,y] 4 c).map λz=>(x,y,z)
def Cw(x y z:Ky):Bool:=match tR x y z with|true=>(aU x fV&&(aU y fV&&aU z fV))|false=>false
def cls(w:Nat)(a b c:Ky):Bool:=match qm w a b c with
 |none=>false
 |some p=>match Cw p.1 p.2.1 p.2.2 with|true=>true|false=>kK p.1 p.2.1 p.2.2
def zX(a b c:Ky):Bool:=match tR a b c with|true=>kK a b c|false=>cls 0 a b c&&cls 1 a b c
def MS(a:Ky)(B:List Ky):Bool:=iA (λb=>iA (zX a b) fV) B
noncomputable def zq:List (List Ky):=[[[0],[1],[0,0],[0,1],[1,0]],[[1,1],[0,0,0],[0,0,1],[0,1,0],[0,1,1]],[[1,0,0],[1,0,1],[1,1,0],[1,1,1],[0,0,0,0]],[[0,0,0,1],[0,0,1,0],[0,0,1,1],[0,1,0,0],[0,1,0,1]],[[0,1,1,0],[0,1,1,1],[1,0,0,0],[1,0,0,1],[1,0,1,0]],[[1,0,1,1],[1,1,0,0],[1,1,0,1],[1,1,1,0],[1,1,1,1]]]
def QQ:fV=zq.flatten:=by kernel_rfl
def ade{α:Type}{P:α->Prop}{x:α}{l:List α}(h:P x)(t:∀y∈l,P y):∀y∈x::l,P y:=List.forall_mem_cons.mpr ⟨h,t⟩
def TJ:∀A∈zq,∀a∈A,∀B∈zq,MS a B=true:=by
 unfold zq
 repeat' first|exact List.forall_mem_nil _|refine ade ?_ ?_|decide +kernel
end
section
section
def acp:∀r:Ky,(∀c∈r,c<2)->r∈qp r.length:=by
 intro r
 induction r with
 |nil=>exact λO=>bA
 |cons x r ih=>
  intro h;have i:=ih λc hc=>h c (bS _ hc);have hx:=h x bA;show x::r∈(qp r.length).map (0::·)++(qp r.length).map (1::·);rcases x with _|_|x
  ·exact nT _ (bU.mpr ⟨r,i,rfl⟩)
  ·exact mD _ (bU.mpr ⟨r,i,rfl⟩)
  ·exact absurd hx (hZ.mpr (i5 2 x))
def CJ{v w:Nat}(hv:v<2)(hw:w<2)(n:Nat):bZ v w n∈fV:=by
 have bl:(bZ v w n).length=1+n%4:=by unfold bZ;rw[aJ,List.length_range']
 have m:=acp (bZ v w n) λc hc=>by
  unfold bZ at hc;refine aq (bU.mp hc) λk _ e=>?_;rw[<- e];unfold sg;cases n/4/2^k%2 with
  |zero=>exact hv
  |succ _=>exact hw
 rw[bl] at m;have h:=k9 n (show 0<4 by decide);unfold fV;generalize n%4=k at *;rcases k with _|_|_|_|k
 ·exact nT _ m
 ·exact mD _ (nT _ m)
 ·exact mD _ (mD _ (nT _ m))
 ·exact mD _ (mD _ (mD _ m))
 ·exact absurd h (hZ.mpr (i5 4 k))
def CK(J:Nat->Nat)(v w n:Nat):bZ (J v) (J w) n=(bZ v w n).map J:=by unfold bZ;rw[cG];refine iI λk O=>?_;show sg (J v) (J w) (n/4/2^k%2)=J (sg v w (n/4/2^k%2));cases n/4/2^k%2<;>rfl
section
variable {J:Nat->Nat}
def Bp(W:Nat)(rs:List Ky)(m:Nat)(r:Ky):cq W rs (m+1) r=match aU r rs with|true=>cq W rs m (bj r [W])|false=>some r:=rfl
def aK.EL(h:aK J)(w:Nat)(rs:List Ky):∀(m:Nat) (r:Ky),Mine.cq (J w) (rs.map (List.map J)) m (r.map J)=(Mine.cq w rs m r).map (List.map J):=by
 intro m
 induction m with
 |zero=>intro r;exact rfl
 |succ m ih=>intro r;rw[Bp,Bp,h.u0,show bj (r.map J) [J w]=(bj r [w]).map J from qs r [w],ih];cases Mine.aU r rs<;>rfl
def aK.ext3(h:aK J)(w:Nat)(a b c:Ky):Mine.qm (J w) (a.map J) (b.map J) (c.map J)=(Mine.qm w a b c).map λp=>(p.1.map J,p.2.1.map J,p.2.2.map J):=by
 unfold Mine.qm;rw[show Mine.cq (J w) [] 4 (a.map J)=_ from h.EL w [] 4 a];cases Mine.cq w [] 4 a with
 |none=>rfl
 |some x=>
  show((Mine.cq (J w) [x.map J] 4 (b.map J)).bind λy=>(Mine.cq (J w) [x.map J,y] 4 (c.map J)).map λz=>(x.map J,y,z))=Option.map _ ((Mine.cq w [x] 4 b).bind λy=>(Mine.cq w [x,y] 4 c).map λz=>(x,y,z));rw[show Mine.cq (J w) [x.map J] 4 (b.map J)=_ from h.EL w [x] 4 b];cases Mine.cq w [x] 4 b with
  |none=>rfl
  |some y=>show(Mine.cq (J w) [x.map J,y.map J] 4 (c.map J)).map (λz=>(x.map J,y.map J,z))=Option.map _ ((Mine.cq w [x,y] 4 c).map λz=>(x,y,z));rw[show Mine.cq (J w) [x.map J,y.map J] 4 (c.map J)=_ from h.EL w [x,y] 4 c];cases Mine.cq w [x,y] 4 c<;>rfl
end
def TX(f b c e:Nat){lV W:Nat}(hV:1+f%15=lV)(hW:1+(f+1+f/15%14)%15=W):rq f b c e=(qm W (bZ lV W b) (bZ lV W c) (bZ lV W e)).map λp=>[p.1,p.2.1,p.2.2]:=by
 subst hV;subst hW;generalize hV:1+f%15=lV;generalize hW:1+(f+1+f/15%14)%15=W;have e1:rq f b c e=uR lV W [b,c,e] []:=by unfold rq;rw[hV,hW]
 rw[e1];show((cq W [] 4 (bZ lV W b)).bind λx=>(cq W [x] 4 (bZ lV W c)).bind λy=>(cq W [x,y] 4 (bZ lV W e)).bind λz=>some [x,y,z])=Option.map _ ((cq W [] 4 (bZ lV W b)).bind λx=>(cq W [x] 4 (bZ lV W c)).bind λy=>(cq W [x,y] 4 (bZ lV W e)).map λz=>(x,y,z));cases cq W [] 4 (bZ lV W b) with
 |none=>rfl
 |some x=>
  show((cq W [x] 4 (bZ lV W c)).bind λy=>(cq W [x,y] 4 (bZ lV W e)).bind λz=>some [x,y,z])=Option.map _ ((cq W [x] 4 (bZ lV W c)).bind λy=>(cq W [x,y] 4 (bZ lV W e)).map λz=>(x,y,z));cases cq W [x] 4 (bZ lV W c) with
  |none=>rfl
  |some y=>show((cq W [x,y] 4 (bZ lV W e)).bind λz=>some [x,y,z])=Option.map _ ((cq W [x,y] 4 (bZ lV W e)).map λz=>(x,y,z));cases cq W [x,y] 4 (bZ lV W e)<;>rfl
variable {a b c:Ky}
def abg(w:Nat)(h:tR a b c=true):qm w a b c=some (a,b,c):=by
 have h:(match aU b [a] with|true=>false|false=>!aU c [a,b])=true:=h;show((cq w [a] 4 b).bind λy=>(cq w [a,y] 4 c).map λz=>(a,y,z))=_;rw[Bp];cases e:aU b [a] with
 |true=>rw[e] at h;exact nomatch h
 |false=>
  rw[e] at h;show(cq w [a,b] 4 c).map (λz=>(a,b,z))=_;rw[Bp];cases e2:aU c [a,b] with
  |true=>rw[e2] at h;exact nomatch h
  |false=>rfl
def HH(ha:a∈fV)(hb:b∈fV)(hc:c∈fV):zX a b c=true:=by have oM:=hc;rw[QQ] at ha hb;obtain⟨A,hA,ha⟩:=List.mem_flatten.mp ha;obtain⟨B,hB,hb⟩:=List.mem_flatten.mp hb;have k:=TJ A hA a ha B hB;unfold MS at k;rw[yS] at k;have k:=jw.mp k b hb;rw[yS] at k;exact jw.mp k c oM
def MR(ha:a∈fV)(hb:b∈fV)(hc:c∈fV)(h:tR a b c=true):kK a b c=true:=by have k:=HH ha hb hc;unfold zX at k;rw[h] at k;exact k
def aah{w:Nat}(hw:w<2)(ha:a∈fV)(hb:b∈fV)(hc:c∈fV):∃x y z,qm w a b c=some (x,y,z)/\kK x y z=true:=by
 cases h:tR a b c with
 |true=>exact⟨a,b,c,abg w h,MR ha hb hc h⟩
 |false=>
  have k:=HH ha hb hc;unfold zX at k;rw[h] at k;have k:(cls 0 a b c&&cls 1 a b c)=true:=k;have k:cls w a b c=true:=by
   rcases w with _|_|w
   ·exact(qI.mp k).1
   ·exact(qI.mp k).2
   ·exact absurd hw (hZ.mpr (i5 2 w))
  unfold cls at k;cases e:qm w a b c with
  |none=>rw[e] at k;exact nomatch k
  |some p=>
   rw[e] at k;have k:(match Cw p.1 p.2.1 p.2.2 with|true=>true|false=>kK p.1 p.2.1 p.2.2)=true:=k;refine⟨p.1,p.2.1,p.2.2,rfl,?_⟩;cases s:Cw p.1 p.2.1 p.2.2 with
   |false=>rw[s] at k;exact k
   |true=>
    have s:(match tR p.1 p.2.1 p.2.2 with|true=>(aU p.1 fV&&(aU p.2.1 fV&&aU p.2.2 fV))|false=>false)=true:=s;cases d:tR p.1 p.2.1 p.2.2 with
    |false=>rw[d] at s;exact nomatch s
    |true=>rw[d] at s;have s:(aU p.1 fV&&(aU p.2.1 fV&&aU p.2.2 fV))=true:=s;obtain⟨s1,s2⟩:=qI.mp s;obtain⟨s2,s3⟩:=qI.mp s2;exact MR ((mY _ _).mp s1) ((mY _ _).mp s2) ((mY _ _).mp s3) d
noncomputable def DD(a b n:Nat):Nat:=match n with
 |0=>a
 |n+1=>b+n
def Js{a b:Nat}(h:a<b):aK (DD a b)
 |0,n+1,_=>dU h (eB ..)
 |m+1,n+1,q=>Nat.add_lt_add_left (zi q) b
def Xs(f b c e:Nat):∃x y z,rq f b c e=some [x,y,z]/\kK x y z=true:=by
 have ne:1+f%15≠1+(f+1+f/15%14)%15:=by exact P6
 generalize hV:1+f%15=lV at ne;generalize hW:1+(f+1+f/15%14)%15=W at ne;rw[TX f b c e hV hW];have go:∀{p q:Nat} (v w:Nat),v<2->w<2->p<q->DD p q v=lV->DD p q w=W->∃x y z,(qm W (bZ lV W b) (bZ lV W c) (bZ lV W e)).map (λp=>[p.1,p.2.1,p.2.2])=some [x,y,z]/\kK x y z=true:=λ{p q} v w hv hw Ku e1 e2=>by rw[<- e1,<- e2,CK,CK,CK,(Js Ku).ext3];obtain⟨x,y,z,h1,h2⟩:=aah hw (CJ hv hw b) (CJ hv hw c) (CJ hv hw e);rw[h1];exact⟨_,_,_,rfl,((Js Ku).Xw x y z).trans h2⟩
 rcases Nat.lt_or_gt_of_ne ne with q|q
 ·exact go 0 1 (by decide) (by decide) q rfl rfl
 ·exact go 1 0 (by decide) (by decide) q rfl rfl
def Xr{d:Nat}{H:Hp}{s:List Int}:∃H',RC P (d+6) (.glob 0) [.lst (s.map .int)] H (.bool true) H':=UM s H Xs
end
end
section
open PySem.W PyProof.Rows
variable {R:WRecords}{cl:Str->Option Addr}{ord:List DictEntry->List DictEntry}
def Xn{P:Params}:∀(is:List Int) {s:Shared} {q:List Value×Shared},layAllW R cl P ord (ofPys (is.map PyData.int)) s=some q->q.2.heap=s.heap/\IntsAre q.1 is:=by
 intro is
 induction is with
 |nil=>intro s q h;cases h;exact⟨rfl,.nil⟩
 |cons i is ih=>intro s q h;obtain⟨a,q',h1,h2,rfl⟩:=layAllW_cons h;cases h1;obtain⟨h3,h4⟩:=ih h2;exact⟨h3,.cons i _ h4⟩
def Xm{P:Params}{is:List Int}{s s₁:Shared}{vs:List Value}(h:layAllW R cl P ord [ofPy (.list (is.map PyData.int))] s=some (vs,s₁)):
  ∃items,vs=[.ref s.heap.objs.size]/\s₁.heap=s.heap.push {cls:=.type "list",data:=.seq (List.toArray items)}/\IntsAre items is:=by
 obtain⟨a,q,h1,h2,e⟩:=layAllW_cons h;obtain⟨q',h3,rfl⟩:=layW_list h1;obtain⟨h4,h5⟩:=Xn is h3;cases h2;cases e;exact⟨q'.1,by rw[h4],by rw[h4],h5⟩
def X5{U:aC}{H':Hp}{r:dG Fl}(h:qj U r=.ok (.bool true) U H'):DS r=true:=by
 cases r with
 |ok f ρ' H2=>cases f with
  |ret v=>have h:dG.ok v U H2=.ok (.bool true) U H':=h;cases h;rfl
  |_=>cases h
 |_=>cases h
def ack(is:List Int):uO.row.claim.post [ofPy (PyData.list (List.map PyData.int is))] (.bool true) [ofPy (PyData.list (List.map PyData.int is))]=true:=by kernel_rfl
def Xu{w:World}{s₀ s₁:Shared}{is:List Int}{l:Addr}{fa:Addr}{mg:Str->Option Value}{as:List Addr}(y:w6 s₀.heap=qR)(L:Laid R w s₀ s₁ [ofPy (.list (is.map PyData.int))] [.ref l] as)(hl:is.length<=63)
  (hn:s₁.heap.Ns mainGlobals mg) (yg:mg "law"=some (.ref fa)) (hg:s₁.gens=#[]) {Q Ex:Value->Shared->Prop} (h:∀s',OldK s₁.heap s'.heap->s'.os=s₁.os->AllBare s'.gens->Q (.bool true) s'):
  wpAny (model pw w) callerA (call (.ref fa) [.ref l]) Q Ex s₁:=by
 obtain⟨ord,_,Ec⟩:=L.laid;obtain⟨items,e1,e2,hI⟩:=Xm Ec;cases e1;have ok:=ac5 y w;have R0:aZ (qb tb w s₀.heap) [] [] s₁.heap:=(aZ.mk L.keeps (λp hp=>(nomatch hp)) (λp hp=>(nomatch hp)) mw rfl (Xz y) (λn o e=>nomatch e))
 have m0:mg=s₀.heap.nsMap mainGlobals:=hn.eq_nsMap.trans ((Heap.Ns.of_isNs (Wz y)).keeps L.keeps).eq_nsMap.symm;have Eg:(qb tb w s₀.heap).gv 0=some (.ref fa):=by rw[m0] at yg;show tO s₀.heap "law"=_;unfold tO;rw[yg]
 obtain⟨H',rc⟩:=Xr (d:=14) (H:=[]) (s:=is);obtain⟨N,hN⟩:=rc.run [];refine Rv (k:=0) (fd:=f0) (xs:=[.lst (is.map .int)]) (ρ':=[some (.lst (is.map .int)),none,none,none,none,none,none,none,none,none,none,none,none,none,none]) ok.toBR (SI ok N) R0 (d:=19) (by decide) rfl Eg (.cons (.lst (n:=0) (Sq.mk (by rw[e2];exact cY _ rfl) nofun (Gl hI) (by rw[aJ];exact aM hl (by decide):(is.map AV.int).length<=az))) .nil) rfl (X5 (hN (N+1) (i4 N):qj [] (cW ((ev P N).s 19 true) (ss f0.body) [some (.lst (is.map .int)),none,none,none,none,none,none,none,none,none,none,none,none,none,none] [])=.ok (.bool true) [] H')) λφ' H' s' nx R'=>h s' (.of_keep λb o e=>?_) nx.os (.of_eq (nx.gens.trans hg));have e':=e;rw[e2] at e';rcases Heap.get?_push_cases e' with⟨_,rfl⟩|k
 ·rcases nx.ext.keep b _ e nofun nofun with k|⟨⟨es,n,k⟩,_⟩
  ·exact k
  ·cases k
 ·exact R'.keep b o k
set_option tactic.hygienic true in
theorem Rw:uO.Holds:=by
 refine holds_law CF λCF=>?_;refine holds_openX (q:=qv) (loose:=vg) (Xt:=xt) (XP:=XL qv []) (Yf:=yf) (Ya:=λO=>qR) (N:=3346) (d:=dk.1) (kwd:=dk.2) left (λs e=>xl_of s (qI.mp e).1) XL.keeps (Option.some_get Mf).symm (by kernel_rfl) (by kernel_rfl) (λs e=>recFacts_of (qI.mp e).2) (by kernel_rfl) CF (by kernel_rfl) ⟨rfl,rfl,rfl,rfl,rfl,by decide +kernel⟩ ?hw ?hc
 case hw=>w_witness2
 intro w s₀ s₁ mg mb G y fa o pm cd doc dV kV ho hd KS hD yg hg args vals as L YK Ec YF yb YR;have hn:=L;have hN:s₁.heap.Ns mainGlobals mg:=by refine Ground.open G ?_;intro T B D TE TW;exact T.g
 have A1:dk.1.name=("law":Str):=by kernel_rfl
 rw[A1] at yg;refine Ground.open G ?_;intro T B D TE TW
 wrow_args YK Ec YF yb YR
 rename_i is _ _ _ _ _ _ _ _ _ _ _ _ _ _ _ _ hlen _;refine Xu y L (by omega:is.length<=63) hN yg hg λs' hK ho hb=>?_;exact⟨.inl ⟨.bool true,.bool true,[],rfl,λO=>rfl,.bool true,ack is,λO=>⟨mw,nofun⟩⟩,hK,ho,hb⟩
end
end
end Mine
theorem PySem.Challenge.cw_ny0272_03_holds : PySem.Challenge.rw_ny0272_03.Holds := by
 exact Mine.Rw
