import PyProof.Rows.All
import Wide.All
import OpenK.AllK
import Wide.FinOn
import KE.KBytesWalk
import KE.KStar
import KE.KSortAsk
import KE.KEqDict
import PySem.Challenge.RW_ny0272_03
open PySem
set_option maxRecDepth 1000000
set_option maxHeartbeats 0
set_option Elab.async false
set_option linter.all false
set_option linter.defProp false
set_option autoImplicit false
set_option genSizeOf false
set_option genSizeOfSpec false
set_option genInjectivity false
set_option genCtorIdx false
set_option backward.match.sparseCases false
set_option tactic.hygienic false
namespace Mine
noncomputable section
def ah:=@PySem.wpAny_bind
def aJ:=@List.length_map
def aM:=@Nat.le_trans
def bA:=@List.mem_cons_self
def bF:=@List.length_append
def bS:=@List.mem_cons_of_mem
def bV:=@Nat.eq_of_beq_eq_true
def aH:=@PySem.wpAny_pure
def aW:=@Nat.le_of_eq
def bE:=@List.map_cons
def bf:=@Nat.le_refl
def cY:=@PySem.Heap.get?_push_size
def bQ:=@List.mem_cons
def cU:=@Nat.lt_of_le_of_lt
def dj:=@List.size_toArray
def bW:=@List.mem_map
def dW:=@Nat.lt_of_lt_of_le
def bG:=@Nat.blt_eq
def eE:=@Nat.le_add_right
def cI:=@List.map_map
def eX:=@List.append_assoc
def eB:=@List.map_append
def c8:=@PySem.wpAny_holding
def ij:=@PySem.Heap.get?_push_of_some
def gN:=@Nat.le_of_ble_eq_true
def fW:=@List.mem_singleton
def eW:=@List.append_nil
def cz:=@PySem.wpAny_mono
def dM:=@Nat.ne_of_gt
def jT:=@PySem.AutoSeq1.wpAny_loadPart'
def ig:=@List.length_reverse
def dU:=@Nat.ne_of_lt
def k8:=@List.getD_eq_getElem?_getD
def i6:=@List.map_congr_left
def fz:=@PySem.wpAny_standAt
def jS:=@List.mem_of_getElem?
def mG:=@List.getElem?_eq_some_iff
def iI:=@List.lookup_cons
def iH:=@List.all_eq_true
def fy:=@PySem.Heap.lt_size
def ie:=@List.nodup_cons
def ic:=@Nat.le_antisymm
def fG:=@Nat.le_of_lt
def i5:=@List.length_cons
def fV:=@Nat.beq_refl
def pG:=@List.getElem?_append_right
def eP:=@Nat.ble_eq
def mE:=@List.mem_append_right
def i4:=@Nat.le_add_left
def kq:=@Int.natCast_nonneg
def gA:=@Nat.zero_add
def pF:=@List.getElem?_eq_getElem
def jR:=@Option.some.inj
def mD:=@Nat.mul_le_mul_left
def mB:=@Nat.add_le_add_left
def nT:=@List.mem_append_left
def pE:=@PySem.Heap.get?_update_other
def nS:=@PySem.Heap.SameBut.update
def pD:=@List.drop_of_length_le
def mA:=@List.pairwise_cons
def jw:=@PySem.mem_of_lookup
def ko:=@List.mem_append
def pB:=@List.getElem?_toArray
def pA:=@List.getElem?_set_ne
def ib:=@PySem.wpAny_of_eq
def jQ:=@Nat.lt_irrefl
def pz:=@Array.length_toList
def sy:=@Option.isSome_iff_exists
def pq:=@List.mem_map_of_mem
def qG:=@PySem.Heap.get?_update_self
def nR:=@Nat.le_of_succ_le
def pn:=@Nat.sub_add_cancel
def i3:=@Nat.le_succ
def hZ:=@Nat.not_lt
def mz:=@List.nodup_nil
def ui:=@List.getElem?_eq_none_iff
def pj:=@Option.bind_some
def qF:=@List.mem_filterMap
def qE:=@Bool.false_ne_true
def jP:=@Nat.zero_le
def k7:=@List.map_nil
def qD:=@List.getElem?_map
def sx:=@Bool.or_eq_true_iff
def pg:=@Bool.eq_iff_iff
def uh:=@List.getElem?_set_self
def nQ:=@List.cons.inj
def sq:=@Int.negSucc_lt_zero
def fi:=@Ne.symm
def wm:=@Array.getElem?_eq_some_iff
def qC:=@List.length_drop
def pf:=@PySem.Heap.size_push
def wk:=@List.getElem?_append_left
def ug:=@Bool.and_eq_true_iff
def sm:=@List.nodup_append
def nP:=@Nat.lt_trans
def nO:=@Int.ofNat_le
def wj:=@Option.map_eq_some_iff
def sk:=@List.filter_cons
def si:=@Nat.succ_le_succ
def qB:=@List.drop_zero
def k9:=@Nat.mod_lt
def uy:=@Nat.add_right_comm
def sE:=@List.filter_map
def zh:=@PySem.MeetsSeq3.plain_eq_loop
def ux:=@List.length_take
def wC:=@List.filterMap_cons
def qL:=@Nat.succ_pos
def qK:=@Nat.succ_add
def nU:=@Nat.sub_le
def qJ:=@Int.ofNat_lt
def uw:=@PySem.wpAny_call_entry
def wB:=@List.zip_cons_cons
def uu:=@List.find?_cons
def wA:=@PySem.Obj.data_mapFields
def qI:=@PySem.codeAny_mono
def zg:=@Nat.lt_of_succ_lt_succ
def uq:=@PySem.codeAny_of_tree
def wz:=@Nat.le_succ_of_le
def uo:=@Nat.mul_div_le
def zf:=@List.length_filter_le
def ze:=@List.getElem?_eq_none
def zd:=@PySem.Obj.isFreed_of_fields
def sD:=@Nat.lt_or_ge
def sC:=@Int.le_trans
def wy:=@List.mem_reverse
def wx:=@PySem.wpAny_newObj_type
def qH:=@PySem.wpAny_field
def sA:=@Prod.mk.inj
def wu:=@Nat.not_lt_of_le
def wt:=@Nat.lt_succ_self
def uk:=@PySem.wpAny_setField
def zc:=@Nat.add_le_add_right
def zb:=@PySem.builtinLookup_eq_fast
def uj:=@Nat.add_assoc
def B7:=@Array.getD_eq_getD_getElem?
def wq:=@List.forIn_cons
def wo:=@Nat.min_eq_left
def B6:=@Option.isNone_iff_eq_none
section
open PySem.W PyProof.Rows
inductive AV where
 |none
 |bool (b:Bool)
 |int (i:Int)
 |str (l:List Nat)
 |cE (l:List Nat)
 |tup (l:List AV)
 |lst (l:List AV)
 |dF (a b c:Int)
 |ref (n:Nat)
 |glob (k:Nat)
 |cP (n:Nat)
 |vals (n:Nat)
 |uY
noncomputable def AV.ctorIdx(t:AV):Nat:=@AV.casesOn (λO=>Nat) t 0 (λO=>1) (λO=>2) (λO=>3) (λO=>4) (λO=>5) (λO=>6) (λO O O=>7) (λO=>8) (λO=>9) (λO=>10) (λO=>11) 12
inductive AO where
 |list (l:List AV)
 |dict (ep:Nat) (l:List (List Nat×AV))
 |set (l:List (List Nat))
 |inst (c:Nat) (f:List (Option AV))
 |iter (n i:Nat)
 |dead
noncomputable def AO.ctorIdx(t:AO):Nat:=@AO.casesOn (λO=>Nat) t (λO=>0) (λO O=>1) (λO=>2) (λO O=>3) (λO O=>4) 5
abbrev aC:=List (Option AV)
abbrev Hp:=List AO
inductive C where
 |nil
 |cons (a r:C)
 |cst (c:Const) (v:AV) (k:Nat) (p:Pos)
 |var (x:Str) (k:Nat) (p:Pos)
 |glob (x:Str) (k:Nat) (p:Pos)
 |bin (op:Operator) (a b:C) (p:Pos)
 |neg (a:C) (p:Pos)
 |not (a:C) (p:Pos)
 |cmp (op:CmpOp) (a b:C) (p:Pos)
 |fx (isAnd:Bool) (l:C) (p:Pos)
 |call (f args:C) (p:Pos)
 |star (a:C) (p:Pos)
 |eO (o:C) (x:Str) (m:Nat) (args:C) (ap p:Pos)
 |attr (o:C) (x:Str) (a:Nat) (p:Pos)
 |sub (o i:C) (p:Pos)
 |fN (o lo hi:C) (sp p:Pos)
 |list (l:C) (r:Bool) (p:Pos)
 |tup (l:C) (k:Nat) (p:Pos)
 |dict (p:Pos)
 |dct (k v:C) (p:Pos)
 |fst (c:Const) (k:Nat) (p p':Pos)
 |oF (t a b:C) (p:Pos)
 |gen (tg it elt:C)
 |comp (elt tg it ifs:C) (sc:Scope) (p:Pos)
 |sH (t e:C) (p:Pos)
 |bad (e:Expr)
inductive S where
 |nil
 |cons (a r:S)
 |asg (ts e:C) (p:Pos)
 |aug (op:Operator) (t e:C) (p:Pos)
 |expr (e:C) (p:Pos)
 |iff (t:C) (a b:S) (p:Pos)
 |gO (t:C) (a b:S) (p:Pos)
 |loop (tg it:C) (b:S) (p:Pos)
 |ret (e:C) (p:Pos)
 |brk (p:Pos)
 |cont (p:Pos)
 |pass (p:Pos)
 |tri (b:S) (x:Str) (k:Nat) (np:Pos) (h:S) (hp p:Pos)
 |del (o i:C) (sp p:Pos)
 |raise (x:Str) (k:Nat) (np:Pos) (args:C) (cp p:Pos)
 |bad (st:Stmt)
noncomputable def iT(l:List Expr):List Comprehension:=match l with
 |[tg,it]=>[⟨tg,it,[],0⟩]
 |_=>[]
noncomputable def un:C->Expr×List Expr
 |.nil=>(.List [] ⟨0,0,0,0⟩,[])
 |.cons a r=>(.List [] ⟨0,0,0,0⟩,(un a).1::(un r).2)
 |.cst c _ k p=>(.Constant c k p,[])
 |.var x _ p=>(.Name x p,[])
 |.glob x _ p=>(.Name x p,[])
 |.bin op a b p=>(.BinOp (un a).1 op (un b).1 p,[])
 |.neg a p=>(.UnaryOp .USub (un a).1 p,[])
 |.not a p=>(.UnaryOp .Not (un a).1 p,[])
 |.cmp op a b p=>(.Compare (un a).1 [op] [(un b).1] p,[])
 |.fx isAnd l p=>(.BoolOp (if isAnd then .And else .Or) (un l).2 p,[])
 |.call f args p=>(.Call (un f).1 (un args).2 [] p,[])
 |.star a p=>(.Starred (un a).1 p,[])
 |.eO o x _ args ap p=>(.Call (.Attribute (un o).1 x ap) (un args).2 [] p,[])
 |.attr o x _ p=>(.Attribute (un o).1 x p,[])
 |.sub o i p=>(.Subscript (un o).1 (un i).1 p,[])
 |.fN o lo hi sp p=>(.Subscript (un o).1 (.Slice (match lo with|.nil=>none|_=>some (un lo).1) (match hi with|.nil=>none|_=>some (un hi).1) none sp) p,[])
 |.list l _ p=>(.List (un l).2 p,[])
 |.tup l k p=>(.Tuple (un l).2 k p,[])
 |.dict p=>(.Dict [] [] p,[])
 |.dct k v p=>(.Dict [some (un k).1] [(un v).1] p,[])
 |.fst c k p p'=>(.JoinedStr [.Constant c k p] p',[])
 |.oF t a b p=>(.IfExp (un t).1 (un a).1 (un b).1 p,[])
 |.gen tg it elt=>((un elt).1,[(un tg).1,(un it).1])
 |.comp elt tg it ifs sc p=>(.ListComp (un elt).1 (⟨(un tg).1,(un it).1,(un ifs).2,0⟩::iT (un elt).2) sc p,[])
 |.sH t e p=>(.NamedExpr (un t).1 (un e).1 p,[])
 |.bad e=>(e,[])
abbrev au(c:C):Expr:=(un c).1
abbrev bN(c:C):List Expr:=(un c).2
def sM(c:C):Option Expr:=match c with
 |.nil=>none
 |_=>some (au c)
noncomputable def mP:S->Stmt×List Stmt
 |.nil=>(.Pass ⟨0,0,0,0⟩,[])
 |.cons a r=>(.Pass ⟨0,0,0,0⟩,(mP a).1::(mP r).2)
 |.asg ts e p=>(.Assign (bN ts) (au e) p,[])
 |.aug op t e p=>(.AugAssign (au t) op (au e) p,[])
 |.expr e p=>(.Expr (au e) p,[])
 |.iff t a b p=>(.If (au t) (mP a).2 (mP b).2 p,[])
 |.gO t a b p=>(.While (au t) (mP a).2 (mP b).2 p,[])
 |.loop tg it b p=>(.For (au tg) (au it) (mP b).2 [] p,[])
 |.ret e p=>(.Return (sM e) p,[])
 |.brk p=>(.Break p,[])
 |.cont p=>(.Continue p,[])
 |.pass p=>(.Pass p,[])
 |.tri b x _ np h hp p=>(.Try (mP b).2 [.ExceptHandler (some (.Name x np)) none (mP h).2 hp] [] [] p,[])
 |.del o i sp p=>(.Delete [.Subscript (au o) (au i) sp] p,[])
 |.raise x _ np args cp p=>(.Raise (some (.Call (.Name x np) (bN args) [] cp)) none p,[])
 |.bad st=>(st,[])
abbrev wK(s:S):Stmt:=(mP s).1
abbrev c9(s:S):List Stmt:=(mP s).2
inductive Fl where
 |next|brk|cont|ret (v:AV)
noncomputable def Fl.ctorIdx(t:Fl):Nat:=@Fl.casesOn (λO=>Nat) t 0 1 2 (λO=>3)
inductive dG(α:Type) where
 |ok (a:α) (U:aC) (H:Hp)
 |exc (k:Nat) (U:aC) (H:Hp)
 |stuck
variable {α:Type}
noncomputable def dG.ctorIdx(t:dG α):Nat:=@dG.casesOn α (λO=>Nat) t (λO O O=>0) (λO O O=>1) 2
abbrev M(α:Type):=aC->Hp->dG α
noncomputable def cj(a:α):M α:=λU H=>.ok a U H
noncomputable def M.bind{β:Type}(m:M α)(f:α->M β):M β:=λU H=>match m U H with
 |.ok a ρ' H'=>f a ρ' H'
 |.exc k ρ' H'=>.exc k ρ' H'
 |.stuck=>.stuck
noncomputable def M.stuck:M α:=λO O=>.stuck
noncomputable def M.calm(m:M α):M α:=λU H=>match m U H with
 |.ok a ρ' H'=>.ok a ρ' H'
 |.exc ..=>.stuck
 |.stuck=>.stuck
noncomputable def cu(f:Hp->Option α):M α:=λU H=>match f H with
 |some v=>.ok v U H
 |none=>.stuck
noncomputable def mH(f:Hp->Option (α×Hp)):M α:=λU H=>match f H with
 |some r=>.ok r.1 U r.2
 |none=>.stuck
noncomputable def gp(f:Hp->Option Hp):M Unit:=λU H=>match f H with
 |some H'=>.ok () U H'
 |none=>.stuck
noncomputable def aI(b:Bool)(x:Option α):Option α:=match b with
 |true=>x
 |false=>none
set_option genCtorIdx true in
inductive BI where
 |len|abs|divmod|min|sorted|chr|iter|range|int|tuple|bool|set|max
structure FD where
 npar:Nat
 va:Bool
 dflt:List AV
 xG:Nat
 body:S
structure CD where
 init:Nat
 slots:Bool
 meths:List (Nat×Nat)
 bD:List Nat
inductive GE where
 |fn (f:FD)
 |cl (c:CD)
 |exc (k:Nat)
 |bi (b:BI)
 |cv (v:AV)
structure bP where
 gt:List GE
noncomputable def az:Nat:=1000000
noncomputable def VD:Nat:=2^200
noncomputable def ae(l:List α):Nat->Option α:=List.rec (motive:=λO=>Nat->Option α) (λO=>none) (λx O ih n=>match n with|0=>some x|n+1=>ih n) l
noncomputable def ai(l:List α)(y:α):Nat->List α:=List.rec (motive:=λO=>Nat->List α) (λO=>[]) (λx r ih n=>match n with|0=>y::r|n+1=>x::ih n) l
noncomputable def ak(a:List Nat):List Nat->Bool:=List.rec (motive:=λO=>List Nat->Bool) (λl=>match l with|[]=>true|_::_=>false) (λx O ih l=>match l with|[]=>false|y::ys=>match Nat.beq x y with|true=>ih ys|false=>false) a
noncomputable def bu(a:List Nat):List Nat->Bool:=List.rec (motive:=λO=>List Nat->Bool) (λl=>match l with|[]=>false|_::_=>true) (λx O ih l=>match l with|[]=>false|y::ys=>match Nat.beq x y with|true=>ih ys|false=>Nat.blt x y) a
noncomputable def ji(i:Int)(n:Nat):Bool:=match i with
 |.ofNat m=>Nat.beq m n
 |.negSucc _=>false
def dQ(i j:Int):Bool:=match i with
 |.ofNat m=>ji j m
 |.negSucc m=>match j with|.ofNat _=>false|.negSucc n=>Nat.beq m n
noncomputable def gb(i j:Int):Bool:=match i with
 |.ofNat m=>match j with|.ofNat n=>Nat.blt m n|.negSucc _=>false
 |.negSucc m=>match j with|.ofNat _=>true|.negSucc n=>Nat.blt n m
noncomputable def xM(i:Int):Option Nat:=match i with
 |.ofNat m=>some m
 |.negSucc _=>none
def fM(i:Int):Bool:=Nat.blt i.natAbs VD
def Fi(op:Operator)(i j:Int):Option Int:=match op with
 |.Sub=>some (i-j)
 |.FloorDiv=>aI (!ji j 0&&fM j) (some (i.fdiv j))
 |.Mod=>aI (!ji j 0) (some (i.fmod j))
 |.Pow=>(xM j).bind λn=>aI (Nat.ble n 1000000&&Nat.blt i.natAbs (2^64)) (some (i^n))
 |.RShift=>(xM j).bind λn=>some (i.fdiv (2^n))
 |_=>none
noncomputable def vM(a b:Bool):Bool:=match a with|true=>b|false=>!b
noncomputable def AV.bool?(x:AV):Option Bool:=match x with|.bool a=>some a|_=>.none
noncomputable def AV.int?(x:AV):Option Int:=match x with|.int a=>some a|_=>.none
noncomputable def AV.de(x:AV):Option (List Nat):=match x with|.str l=>some l|_=>.none
noncomputable def AV.ML(x:AV):Option (List Nat):=match x with|.cE l=>some l|_=>.none
noncomputable def AV.Cp(x:AV):Option (List AV):=match x with|.tup l=>some l|_=>.none
noncomputable def AV.ng(x:AV):Option (List AV):=match x with|.lst l=>some l|_=>.none
noncomputable def AV.j3(x:AV):Option Nat:=match x with|.ref n=>some n|_=>.none
noncomputable def AV.th(x:AV):Bool:=match x with|.none=>true|_=>false
def bx(H:Hp)(n:Nat):Option (List AV):=(ae H n).bind λo=>match o with|.list l=>some l|_=>none
def cD(H:Hp)(n:Nat):Option (Nat×List (List Nat×AV)):=(ae H n).bind λo=>match o with|.dict e l=>some (e,l)|_=>none
def oh(H:Hp)(n:Nat):Option (List (List Nat)):=(ae H n).bind λo=>match o with|.set l=>some l|_=>none
def ya(H:Hp)(n:Nat):Option (Nat×List (Option AV)):=(ae H n).bind λo=>match o with|.inst c f=>some (c,f)|_=>none
def tE(H:Hp)(n:Nat):Option (Nat×Nat):=(ae H n).bind λo=>match o with|.iter m i=>some (m,i)|_=>none
def cG(H:Hp)(v:AV):Option (List AV):=match v with
 |.lst l=>some l
 |.ref n=>bx H n
 |_=>none
def qY(H:Hp)(v:AV):Option (List AV):=match v with
 |.tup l=>some l
 |.lst l=>some l
 |.ref n=>bx H n
 |_=>none
noncomputable def aV(H:Hp):Nat->AV->AV
 |0,v=>v
 |n+1,v=>match cG H v with
  |some l=>.lst (l.map (aV H n))
  |none=>v
mutual
noncomputable def cw:AV->Nat->Bool
 |.int _,_=>true
 |.bool _,_=>true
 |.str _,_=>true
 |.lst l,n=>match n with|0=>false|n+1=>dh l n
 |.tup l,n=>match n with|0=>false|n+1=>dh l n
 |_,_=>false
noncomputable def dh:List AV->Nat->Bool
 |[],_=>true
 |x::xs,n=>match cw x n with|true=>dh xs n|false=>false
end
mutual
noncomputable def c6:AV->AV->Option Bool
 |.int a,y=>(y.int?).map λb=>dQ a b
 |.bool a,y=>(y.bool?).map λb=>vM a b
 |.str a,y=>(y.de).map λb=>ak a b
 |.lst a,y=>(y.ng).bind λb=>fw a b
 |.tup a,y=>(y.Cp).bind λb=>fw a b
 |_,_=>none
noncomputable def fw:List AV->List AV->Option Bool
 |[],ys=>match ys with|[]=>some true|_::_=>some false
 |x::xs,ys=>match ys with
  |[]=>some false
  |y::ys=>(c6 x y).bind λb=>match b with|true=>fw xs ys|false=>some false
end
def iU(x y:AV):Option Bool:=aI (cw x 3&&cw y 3) (c6 x y)
def AF(x y:AV):Option Bool:=match x with
 |.int a=>(y.int?).map λb=>gb a b
 |.str a=>(y.de).map λb=>bu a b
 |_=>none
noncomputable def AD:List AV->List AV->Option Bool
 |[],ys=>match ys with|[]=>some false|_::_=>some true
 |x::xs,ys=>match ys with
  |[]=>some false
  |y::ys=>(iU x y).bind λb=>match b with|true=>AD xs ys|false=>AF x y
def AG(x y:AV):Option Bool:=match x with
 |.tup a=>(y.Cp).bind λb=>AD a b
 |_=>AF x y
def M6(x y:AV)(H:Hp):Option AV:=match x with
 |.int a=>(y.int?).map λb=>.int (a+b)
 |.cE a=>(y.ML).bind λb=>aI (Nat.ble (a.length+b.length) az) (some (.cE (a++b)))
 |.str a=>(y.de).bind λb=>aI (Nat.ble (a.length+b.length) az) (some (.str (a++b)))
 |_=>(cG H x).bind λa=>(cG H y).bind λb=>aI (Nat.ble (a.length+b.length) az) (some (.lst (a++b)))
def I3(x y:AV):Option AV:=(x.int?).bind λi=>(y.int?).bind λj=>aI (fM i&&fM j) (some (.int (i*j)))
def iA(op:Operator)(x y:AV)(H:Hp):Option AV:=match op with
 |.Add=>M6 x y H
 |.Mult=>I3 x y
 |op=>(x.int?).bind λa=>(y.int?).bind λb=>(Fi op a b).map .int
def gQ(x:AV)(H:Hp):Option Bool:=match x with
 |.none=>some false
 |.bool b=>some b
 |.int a=>some (!ji a 0)
 |_=>(cG H x).map λl=>!l.isEmpty
def cy(k:List Nat)(l:List (List Nat×AV)):Option AV:=List.rec (motive:=λO=>Option AV) none (λp O ih=>match ak p.1 k with|true=>some p.2|false=>ih) l
def eJ(k:List Nat)(v:AV)(l:List (List Nat×AV)):List (List Nat×AV):=List.rec (motive:=λO=>List (List Nat×AV)) [(k,v)] (λp r ih=>match ak p.1 k with|true=>(p.1,v)::r|false=>p::ih) l
def oR(k:List Nat)(l:List (List Nat×AV)):List (List Nat×AV):=List.rec (motive:=λO=>List (List Nat×AV)) [] (λp r ih=>match ak p.1 k with|true=>r|false=>p::ih) l
def c5(k:List Nat)(l:List (List Nat×AV)):Bool:=(cy k l).isSome
def aU(k:List Nat)(l:List (List Nat)):Bool:=List.rec (motive:=λO=>Bool) false (λp O ih=>match ak p k with|true=>true|false=>ih) l
noncomputable def gG(x:AV):List AV->Option Bool
 |[]=>some false
 |y::ys=>(c6 y x).bind λb=>(gG x ys).map λc=>b||c
def gU(x c:AV)(H:Hp):Option Bool:=match cG H c with
 |some l=>aI (cw (aV H 3 x) 3&&dh (l.map (aV H 3)) 3) (gG (aV H 3 x) (l.map (aV H 3)))
 |none=>(c.j3).bind λn=>(x.de).bind λk=>match cD H n with
  |some r=>some (c5 k r.2)
  |none=>(oh H n).map λl=>aU k l
def sR(a b:List (List Nat×AV)):Option Bool:=List.rec (motive:=λO=>Option Bool) (some true) (λp O ih=>match cy p.1 b with
 |some v=>(p.2.int?).bind λi=>(v.int?).bind λj=>ih.map λc=>dQ i j&&c
 |none=>some false) a
def yE(a b:List (List Nat×AV)):Option Bool:=match Nat.beq a.length b.length with|true=>sR a b|false=>some false
def ql(H:Hp)(v:AV):Option (List (List Nat×AV)):=(v.j3).bind λn=>(cD H n).map (·.2)
def gK(x y:AV)(H:Hp):Option Bool:=match ql H x with
 |some a=>(ql H y).bind λb=>yE a b
 |none=>iU (aV H 3 x) (aV H 3 y)
def fQ(op:CmpOp)(x y:AV)(H:Hp):Option Bool:=match op with
 |.Eq=>gK x y H
 |.NotEq=>(gK x y H).map (!·)
 |.Lt=>AG x y
 |.Gt=>(x.int?).bind λi=>(y.int?).map λj=>gb j i
 |.Is=>aI y.th (some x.th)
 |.IsNot=>aI y.th (some !x.th)
 |.In=>gU x y H
 |.NotIn=>(gU x y H).map (!·)
 |_=>none
def j7(i:Int)(l:List α):Option α:=match i with
 |.ofNat m=>ae l m
 |.negSucc m=>aI (Nat.blt m l.length) (ae l (l.length-(m+1)))
def lB(o i:AV)(H:Hp):Option AV:=match o with
 |.str l=>(i.int?).bind λk=>(j7 k l).map λc=>.str [c]
 |.lst l=>(i.int?).bind λk=>j7 k l
 |.tup l=>(i.int?).bind λk=>j7 k l
 |.ref n=>match bx H n with
  |some l=>(i.int?).bind λk=>j7 k l
  |none=>(cD H n).bind λr=>(i.de).bind λk=>cy k r.2
 |_=>none
def kO(x:AV):Option (Option Int):=match x with
 |.none=>some none
 |_=>(x.int?).bind λi=>aI (Nat.ble i.natAbs az) (some (some i))
noncomputable def vU(n:Nat)(i:Int):Nat:=match i with
 |.ofNat k=>k
 |.negSucc k=>n-(k+1)
def dA(lo hi:Option Int)(l:List α):List α:=
 let l':=match hi with|none=>l|some i=>l.take (vU l.length i)
 match lo with|none=>l'|some i=>l'.drop (vU l.length i)
def kC(o lo hi:AV)(H:Hp):Option AV:=match o with
 |.cE l=>(kO lo).bind λa=>(kO hi).map λb=>.cE (dA a b l)
 |.str l=>(kO lo).bind λa=>(kO hi).map λb=>.str (dA a b l)
 |_=>(cG H o).bind λl=>(kO lo).bind λa=>(kO hi).map λb=>.lst (dA a b l)
inductive bJ where
 |fix (l:List AV)
 |lst (n i:Nat)
 |dct (n i sz ep:Nat)
 |vals (n i sz ep:Nat)
noncomputable def Ab(c:Int)(n:Nat):Int->List AV:=Nat.rec (motive:=λO=>Int->List AV) (λO=>[]) (λO ih a=>.int a::ih (a+c)) n
def pU(a b c:Int):Nat:=match gb a b with
 |true=>((b-a-1)/c+1).toNat
 |false=>0
def eS(v:AV)(H:Hp):Option bJ:=match v with
 |.tup l=>some (.fix l)
 |.lst l=>some (.fix l)
 |.cE l=>some (.fix (l.map λd=>.int ((65+d:Nat):Int)))
 |.str l=>some (.fix (l.map λd=>.str [d]))
 |.dF a b c=>some (.fix (Ab c (pU a b c) a))
 |.ref n=>match bx H n with
  |some _=>some (.lst n 0)
  |none=>(cD H n).map λr=>.dct n 0 r.2.length r.1
 |.vals n=>(cD H n).map λr=>.vals n 0 r.2.length r.1
 |_=>none
def bJ.next(s:bJ)(H:Hp):Option (Option (AV×bJ)):=match s with
 |.fix l=>match l with
  |[]=>some none
  |d::r=>some (some (d,.fix r))
 |.lst n i=>(bx H n).map λl=>(ae l i).map λd=>(d,.lst n (i+1))
 |.dct n i sz e=>(cD H n).bind λr=>aI (Nat.beq r.2.length sz&&Nat.beq r.1 e) (some ((ae r.2 i).map λp=>(.str p.1,.dct n (i+1) sz e)))
 |.vals n i sz e=>(cD H n).bind λr=>aI (Nat.beq r.2.length sz&&Nat.beq r.1 e) (some ((ae r.2 i).map λp=>(p.2,.vals n (i+1) sz e)))
noncomputable def jj(lt:α->α->Bool)(x:α)(l:List α):List α:=List.rec (motive:=λO=>List α) [x] (λy ys ih=>match lt y x with|true=>y::ih|false=>x::y::ys) l
def cC(lt:α->α->Bool)(l:List α):List α:=List.rec (motive:=λO=>List α) [] (λx O ih=>jj lt x ih) l
noncomputable def lS:List AV->Option (List Int)
 |[]=>some []
 |x::r=>(x.int?).bind λi=>(lS r).map (i::·)
noncomputable def lq:List AV->Option (List (List Nat))
 |[]=>some []
 |x::r=>(x.de).bind λi=>(lq r).map (i::·)
def pI:List AV->Option (List (List (List Nat)))
 |[]=>some []
 |x::r=>(x.ng).bind λl=>(lq l).bind λt=>(pI r).map (t::·)
def kI(a:List (List Nat)):List (List Nat)->Bool:=List.rec (motive:=λO=>List (List Nat)->Bool) (λl=>match l with|[]=>false|_::_=>true) (λx O ih l=>match l with|[]=>false|y::ys=>match ak x y with|true=>ih ys|false=>bu x y) a
noncomputable def l9(aX:Nat->Nat->Bool)(n:Nat)(t:KasT α):Option α:=KasT.rec (motive:=λO=>Option α) (λa=>some a) (λi j O ih=>match Nat.blt i n&&Nat.blt j n with|true=>ih (aX i j)|false=>none) t
def rq(l:List α)(is:List Nat):Option (List α):=List.rec (motive:=λO=>Option (List α)) (some []) (λi O ih=>(ae l i).bind λx=>ih.map (x::·)) is
def n9(ts:List (List (List Nat)))(l:List α):Option (List α):=match Nat.blt ts.length 2 with
 |true=>some l
 |false=>(l9 (λi j=>kI (ts.getD i []) (ts.getD j [])) ts.length (kas_sort ts.length)).bind λp=>aI (Nat.beq p.size ts.length) (rq l p.toList)
def jA(l:List AV):Option (List AV):=match lS l with
 |some ns=>some ((cC gb ns).map .int)
 |none=>match lq l with
  |some ts=>some ((cC bu ts).map .str)
  |none=>(pI l).bind λts=>n9 ts l
def oB(l:List Int):Int->Int:=List.rec (motive:=λO=>Int->Int) (λb=>b) (λx O ih b=>ih (match gb b x with|true=>x|false=>b)) l
def Jy(v:AV)(H:Hp):Option Nat:=match v with
 |.str l=>some l.length
 |.ref n=>match bx H n with
  |some l=>some l.length
  |none=>(cD H n).map λr=>r.2.length
 |.lst l=>some l.length
 |.tup l=>some l.length
 |_=>none
def oy(a b c:Int):Bool:=Nat.ble a.natAbs az&&Nat.ble b.natAbs az&&gb 0 c&&Nat.ble c.natAbs az
def tT(b:BI)(x:AV)(H:Hp):Option (AV×Hp):=match b with
 |.len=>(Jy x H).bind λn=>aI (Nat.ble n az) (some (.int n,H))
 |.abs=>(x.int?).map λa=>(.int (match gb a 0 with|true=>-a|false=>a),H)
 |.int=>(x.int?).map λa=>(.int a,H)
 |.chr=>(x.int?).bind λa=>(xM a).bind λn=>aI (Nat.ble 65 n&&Nat.blt n 81) (some (.str [n-65],H))
 |.range=>(x.int?).bind λb=>aI (oy 0 b 1) (some (.dF 0 b 1,H))
 |.sorted=>(cG H x).bind λl=>aI (Nat.blt l.length 64) ((jA l).map λr=>(.lst r,H))
 |.max=>(cG H x).bind λl=>(lS l).bind λns=>match ns with|[]=>none|y::ys=>some (.int (oB ys y),H)
 |.iter=>(x.j3).bind λn=>(bx H n).map λO=>(.ref H.length,H++[.iter n 0])
 |.tuple=>(cG H x).map λl=>(.tup l,H)
 |.bool=>(x.j3).bind λn=>(bx H n).map λl=>(.bool (!l.isEmpty),H)
 |_=>none
def MS(b:BI)(x y:AV)(H:Hp):Option (AV×Hp):=match b with
 |.divmod=>(x.int?).bind λa=>(y.int?).bind λc=>aI (!ji c 0&&fM c) (some (.tup [.int (a.fdiv c),.int (a.fmod c)],H))
 |.range=>(x.int?).bind λa=>(y.int?).bind λc=>aI (oy a c 1) (some (.dF a c 1,H))
 |.min=>(x.de).bind λa=>(y.de).map λb=>(.str (match bu b a with|true=>b|false=>a),H)
 |.max=>(x.de).bind λa=>(y.de).map λb=>(.str (match bu a b with|true=>b|false=>a),H)
 |_=>none
def yP(b:BI)(args:List AV)(H:Hp):Option (AV×Hp):=match args with
 |[]=>match b with
  |.set=>some (.ref H.length,H++[.set []])
  |_=>none
 |x::r=>match r with
  |[]=>tT b x H
  |y::r=>match r with
   |[]=>MS b x y H
   |_::_=>none
structure Ev where
 e:Nat->Bool->C->M AV
 t:Nat->Bool->C->M Bool
 s:Nat->Bool->S->M Fl
 w:Nat->Bool->C->S->S->M Fl
 f:Nat->Bool->C->bJ->S->M Fl
 cp:Nat->C->bJ->C->C->Nat->M Unit
 call:Nat->AV->List AV->M AV
noncomputable def cs:C->List C
 |.cons a r=>a::cs r
 |_=>[]
noncomputable def ss:S->List S
 |.cons a r=>a::ss r
 |_=>[]
noncomputable def C.kB(c:C):Option C:=match c with
 |.star a _=>some a
 |_=>Option.none
def gZ(f:C->M AV)(l:List C):M (List AV):=List.rec (motive:=λO=>M (List AV)) (cj []) (λc O ih=>match c.kB with
  |some a=>M.bind (f a) λv=>cu λH=>qY H v
  |none=>M.bind (f c) λv=>M.bind ih λvs=>cj (v::vs)) l
def tO(f:C->M AV)(c:C):M AV:=match c with
 |.nil=>cj .none
 |_=>f c
def cW(f:S->M Fl)(l:List S):M Fl:=List.rec (motive:=λO=>M Fl) (cj .next) (λs O ih=>M.bind (f s) λfl=>match fl with
  |.next=>ih
  |.brk=>cj .brk
  |.cont=>cj .cont
  |.ret v=>cj (.ret v)) l
def uG(f:C->M Bool)(isAnd:Bool)(l:List C):M Bool:=List.rec (motive:=λO=>M Bool) (cj isAnd) (λc O ih=>M.bind (f c) λb=>match b with
  |true=>match isAnd with|true=>ih|false=>cj true
  |false=>match isAnd with|true=>cj false|false=>ih) l
def BF(f:C->M AV)(isAnd:Bool)(l:List C):M AV:=List.rec (motive:=λO=>M AV) M.stuck (λc r ih=>match r with
  |[]=>f c
  |_::_=>M.bind (f c) λv=>M.bind (cu (gQ v)) λb=>match b with
   |true=>match isAnd with|true=>ih|false=>cj v
   |false=>match isAnd with|true=>cj v|false=>ih) l
def mK(k:Nat):M AV:=λU H=>match ae U k with
 |some o=>match o with
  |some v=>.ok v U H
  |none=>.stuck
 |none=>.stuck
def lE(k:Nat)(v:AV):M Unit:=λU H=>match Nat.blt k U.length with
 |true=>.ok () (ai U (some v) k) H
 |false=>.stuck
noncomputable def C.slot(c:C):Nat:=match c with
 |.var _ k _=>k
 |_=>9999
def sT(l:List C):List AV->M Unit:=List.rec (motive:=λO=>List AV->M Unit) (λvs=>match vs with|[]=>cj ()|_::_=>M.stuck) (λc O ih vs=>match vs with
 |[]=>M.stuck
 |v::vs=>M.bind (lE c.slot v) λO=>ih vs) l
noncomputable def Bi(v:AV):Option (List AV):=match v with
 |.tup l=>some l
 |.lst l=>some l
 |_=>none
def jr(t:C)(v:AV):M Unit:=match t with
 |.var _ k _=>lE k v
 |.tup l _ _=>match Bi v with
  |some vs=>sT (cs l) vs
  |none=>M.stuck
 |_=>M.stuck
inductive MK where
 |user (k:Nat)
 |list|dict|set|str
def vd(mk:MK)(m:Nat):Bool:=match mk with
 |.list=>Nat.blt m 4
 |.dict=>Nat.beq m 6||Nat.beq m 7
 |.set=>Nat.beq m 8
 |.str=>Nat.beq m 5
 |.user _=>false
def l8(P:bP)(c:Nat):Option CD:=(ae P.gt c).bind λg=>match g with
 |.cl cd=>some cd
 |_=>none
def Vy(P:bP)(m:Nat)(o:AO):Option MK:=match o with
 |.inst c _=>(l8 P c).bind λcd=>(cd.meths.lookup m).map .user
 |.list _=>some .list
 |.dict _ _=>some .dict
 |.set _=>some .set
 |_=>none
def kK(P:bP)(ov:AV)(m:Nat)(H:Hp):Option MK:=match ov with
 |.ref n=>(ae H n).bind λo=>Vy P m o
 |.str _=>some .str
 |_=>none
noncomputable def rF:List AV->Option (List Nat)
 |[]=>some []
 |x::r=>(x.de).bind λa=>(rF r).map (a++·)
def ve(m:Nat)(n:Nat)(l:List AV)(args:List AV)(H:Hp):Option (AV×Hp):=match args with
 |[]=>match m with
  |1=>(l.getLast?).map λv=>(v,ai H (.list l.dropLast) n)
  |2=>some (.none,ai H (.list []) n)
  |_=>none
 |v::r=>match r with
  |[]=>match m with
   |0=>aI (Nat.blt l.length az) (some (.none,ai H (.list (l++[v])) n))
   |m=>aI (Nat.beq m 3) ((cG H v).bind λys=>aI (Nat.ble (l.length+ys.length) az) (some (.none,ai H (.list (l++ys)) n)))
  |_::_=>none
def xQ(m:Nat)(n:Nat)(l:List (List Nat×AV))(args:List AV)(H:Hp):Option (AV×Hp):=match args with
 |[]=>aI (Nat.beq m 7) (some (.vals n,H))
 |v::r=>match r with
  |[]=>aI (Nat.beq m 6) ((v.de).map λk=>((cy k l).getD .none,H))
  |x::r=>match r with
   |[]=>aI (Nat.beq m 6) ((v.de).map λk=>((cy k l).getD x,H))
   |_::_=>none
def Je(n:Nat)(l:List (List Nat))(args:List AV)(H:Hp):Option (AV×Hp):=match args with
 |[]=>none
 |v::r=>match r with
  |[]=>(v.de).bind λk=>aI (Nat.blt l.length 1000) (some (.none,match aU k l with|true=>H|false=>ai H (.set (l++[k])) n))
  |_::_=>none
def Jd(sep:List Nat)(args:List AV)(H:Hp):Option (AV×Hp):=match args with
 |[]=>none
 |v::r=>match r with
  |[]=>aI sep.isEmpty ((cG H v).bind λl=>(rF l).bind λx=>aI (Nat.ble x.length az) (some (.str x,H)))
  |_::_=>none
def lL(mk:MK)(m:Nat)(ov:AV)(args:List AV)(H:Hp):Option (AV×Hp):=match mk with
 |.list=>(ov.j3).bind λn=>(bx H n).bind λl=>ve m n l args H
 |.dict=>(ov.j3).bind λn=>(cD H n).bind λr=>xQ m n r.2 args H
 |.set=>(ov.j3).bind λn=>(oh H n).bind λl=>Je n l args H
 |.str=>(ov.de).bind λl=>Jd l args H
 |.user _=>none
noncomputable def gz(l:List Nat)(a:Nat):Nat:=List.rec (motive:=λO=>Nat) 0 (λx O ih=>match Nat.beq x a with|true=>0|false=>ih+1) l
def qo(P:bP)(a:Nat)(ov:AV)(H:Hp):Option AV:=(ov.j3).bind λn=>(ae H n).bind λo=>match o with
 |.inst c fs=>(l8 P c).bind λcd=>(ae fs (gz cd.bD a)).bind λr=>r
 |.iter _ _=>aI (Nat.beq a 9) (some (.cP n))
 |_=>none
def pO(P:bP)(a:Nat)(ov v:AV)(H:Hp):Option Hp:=(ov.j3).bind λn=>(ya H n).bind λr=>(l8 P r.1).bind λcd=>aI (Nat.blt (gz cd.bD a) r.2.length) (some (ai H (.inst r.1 (ai r.2 (some v) (gz cd.bD a))) n))
def qX(o i v:AV)(H:Hp):Option Hp:=(o.j3).bind λn=>match bx H n with
 |some l=>(i.int?).bind λk=>(xM k).bind λj=>aI (Nat.blt j l.length) (some (ai H (.list (ai l v j)) n))
 |none=>(cD H n).bind λr=>(i.de).bind λk=>aI (Nat.blt r.2.length az) (some (ai H (.dict (match c5 k r.2 with|true=>r.1|false=>r.1+1) (eJ k v r.2)) n))
def yI(o i:AV)(H:Hp):Option Hp:=(o.j3).bind λn=>(cD H n).bind λr=>(i.de).bind λk=>aI (c5 k r.2) (some (ai H (.dict (r.1+1) (oR k r.2)) n))
def zA(P:bP)(f:C->M AV)(q:Bool)(v:AV)(t:C):M Unit:=match t with
 |.var _ k _=>lE k v
 |.sub o i _=>M.bind (f o) λov=>M.bind (f i) λiv=>gp λH=>qX ov iv v H
 |.attr o _ a _=>M.bind (f o) λov=>gp λH=>pO P a ov v H
 |.tup ..=>match q with|true=>jr t v|false=>M.stuck
 |_=>M.stuck
def wX(P:bP)(f:C->M AV)(q:Bool)(v:AV)(l:List C):M Unit:=List.rec (motive:=λO=>M Unit) (cj ()) (λt O ih=>M.bind (zA P f q v t) λO=>ih) l
noncomputable def tR(v:AV):Bool:=match v with
 |.glob _=>true
 |.cP _=>true
 |_=>false
def jo(l:List Nat)(U:aC):aC:=List.rec (motive:=λO=>aC->aC) (λU=>U) (λk O ih U=>ih (ai U none k)) l U
def Hg(t:C):List Nat:=match t with
 |.var _ k _=>[k]
 |.tup l _ _=>(cs l).map C.slot
 |_=>[]
def slots(t elt:C):List Nat:=Hg t++match elt with
 |.gen t2 _ _=>Hg t2
 |_=>[]
def tP(E:Ev)(d:Nat)(elt tg ifs:C)(x:AV):M AV:=λU H=>match eS x H with
 |some src=>match E.cp d tg src ifs elt H.length (jo (slots tg elt) U) (H++[.list []]) with
  |.ok _ _ H'=>.ok (.ref H.length) U H'
  |.exc ..=>.stuck
  |.stuck=>.stuck
 |none=>.stuck
def vT(E:Ev)(d:Nat)(q:Bool)(elt tg it ifs:C):M AV:=match q with
 |true=>M.bind (E.e d true it) (tP E d elt tg ifs)
 |false=>M.stuck
def yt(P:bP)(k:Nat):M AV:=match ae P.gt k with
 |some g=>match g with
  |.cv v=>cj v
  |_=>cj (.glob k)
 |none=>M.stuck
def MR(E:Ev)(d:Nat)(q:Bool)(op:Operator)(a b:C):M AV:=M.bind (E.e d q a) λx=>M.bind (E.e d q b) λy=>cu (iA op x y)
noncomputable def Dk(x:AV):Option AV:=(x.int?).map λa=>.int (-a)
def IZ(E:Ev)(d:Nat)(q:Bool)(a:C):M AV:=M.bind (E.e d q a) λx=>cu λO=>Dk x
def IM(E:Ev)(d:Nat)(q:Bool)(a:C):M AV:=M.bind (E.e d q a) λx=>M.bind (cu (gQ x)) λb=>cj (.bool (!b))
def BA(op:CmpOp)(x y:AV)(H:Hp):Option AV:=(fQ op x y H).map .bool
def Mm(E:Ev)(d:Nat)(q:Bool)(op:CmpOp)(a b:C):M AV:=M.bind (E.e d q a) λx=>M.bind (E.e d q b) λy=>cu (BA op x y)
def MH(E:Ev)(d:Nat)(q:Bool)(f args:C):M AV:=M.bind (E.e d q f) λfv=>match tR fv&&q with
 |true=>M.bind (gZ (E.e d q) (cs args)) λvs=>E.call d fv vs
 |false=>M.stuck
noncomputable def vD(l:List C):Bool:=l.any λc=>c.kB.isSome
def AA(E:Ev)(d:Nat)(q:Bool)(mk:MK)(ov:AV)(m:Nat)(args:C):M AV:=match vd mk m&&!vD (cs args) with
 |true=>M.bind (gZ (E.e d q) (cs args)) λvs=>mH λH=>lL mk m ov vs H
 |false=>M.stuck
def I5(E:Ev)(d:Nat)(q:Bool)(k:Nat)(ov:AV)(args:C):M AV:=match q with
 |true=>M.bind (gZ (E.e d q) (cs args)) λvs=>E.call d (.glob k) (ov::vs)
 |false=>M.stuck
def Dr(E:Ev)(d:Nat)(q:Bool)(mk:MK)(ov:AV)(m:Nat)(args:C):M AV:=match mk with
 |.user k=>I5 E d q k ov args
 |_=>AA E d q mk ov m args
def Ja(P:bP)(E:Ev)(d:Nat)(q:Bool)(o:C)(m:Nat)(args:C):M AV:=M.bind (E.e d q o) λov=>M.bind (cu (kK P ov m)) λmk=>Dr E d q mk ov m args
def ad1(P:bP)(E:Ev)(d:Nat)(q:Bool)(o:C)(a:Nat):M AV:=M.bind (E.e d q o) λov=>cu (qo P a ov)
def GR(E:Ev)(d:Nat)(q:Bool)(o i:C):M AV:=M.bind (E.e d q o) λov=>M.bind (E.e d q i) λiv=>cu (lB ov iv)
def Hj(E:Ev)(d:Nat)(q:Bool)(o lo hi:C):M AV:=M.bind (E.e d q o) λov=>M.bind (tO (E.e d q) lo) λa=>M.bind (tO (E.e d q) hi) λb=>cu (kC ov a b)
noncomputable def Jr(r:Bool)(vs:List AV)(H:Hp):Option (AV×Hp):=match r with
 |true=>some (.ref H.length,H++[.list vs])
 |false=>some (.lst vs,H)
def Jx(E:Ev)(d:Nat)(q:Bool)(l:C)(r:Bool):M AV:=M.bind (gZ (E.e d q) (cs l)) λvs=>mH (Jr r vs)
def GG(E:Ev)(d:Nat)(q:Bool)(l:C):M AV:=M.bind (gZ (E.e d q) (cs l)) λvs=>cj (.tup vs)
noncomputable def yH:M AV:=λU H=>.ok (.ref H.length) U (H++[.dict 0 []])
def Ae(r x y:AV)(H:Hp):Option Hp:=(r.j3).bind λn=>(cD H n).bind λt=>(x.de).bind λk=>aI (Nat.blt t.2.length az) (some (ai H (.dict (match c5 k t.2 with|true=>t.1|false=>t.1+1) (eJ k y t.2)) n))
def Mf(E:Ev)(d:Nat)(q:Bool)(k v:C):M AV:=M.bind yH λr=>M.bind (E.e d q k) λx=>M.bind (E.e d q v) λy=>M.bind (gp (Ae r x y)) λO=>cj r
def Kd(E:Ev)(d:Nat)(q:Bool)(t a b:C):M AV:=M.bind (E.t d q t) λc=>match c with
 |true=>E.e d q a
 |false=>E.e d q b
def QH(E:Ev)(d:Nat)(q:Bool)(t e:C):M AV:=M.bind (E.e d q e) λv=>M.bind (lE t.slot v) λO=>cj v
def G2(P:bP)(E:Ev)(d:Nat)(q:Bool)(c:C):M AV:=match c with
 |.cst _ v _ _=>cj v
 |.var _ k _=>mK k
 |.glob _ k _=>yt P k
 |.bin op a b _=>MR E d q op a b
 |.neg a _=>IZ E d q a
 |.not a _=>IM E d q a
 |.cmp op a b _=>Mm E d q op a b
 |.fx isAnd l _=>BF (E.e d q) isAnd (cs l)
 |.call f args _=>MH E d q f args
 |.eO o _ m args _ _=>Ja P E d q o m args
 |.attr o _ a _=>ad1 P E d q o a
 |.sub o i _=>GR E d q o i
 |.fN o lo hi _ _=>Hj E d q o lo hi
 |.list l r _=>Jx E d q l r
 |.tup l _ _=>GG E d q l
 |.dict _=>yH
 |.dct k v _=>Mf E d q k v
 |.fst _ _ _ _=>cj .uY
 |.oF t a b _=>Kd E d q t a b
 |.comp elt tg it ifs _ _=>vT E d q elt tg it ifs
 |.sH t e _=>QH E d q t e
 |_=>M.stuck
def IL(E:Ev)(d:Nat)(q:Bool)(a:C):M Bool:=M.bind (E.t d q a) λb=>cj (!b)
def Ml(E:Ev)(d:Nat)(q:Bool)(op:CmpOp)(a b:C):M Bool:=M.bind (E.e d q a) λx=>M.bind (E.e d q b) λy=>cu (fQ op x y)
def Gp(E:Ev)(d:Nat)(q:Bool)(c:C):M Bool:=M.bind (E.e d q c) λv=>cu (gQ v)
def GY(E:Ev)(d:Nat)(q:Bool)(c:C):M Bool:=match c with
 |.not a _=>IL E d q a
 |.fx isAnd l _=>uG (E.t d q) isAnd (cs l)
 |.cmp op a b _=>Ml E d q op a b
 |.oF ..=>M.stuck
 |.gen ..=>M.stuck
 |_=>Gp E d q c
noncomputable def tW(op:Operator)(x y:AV):Option AV:=(x.int?).bind λi=>(y.int?).bind λj=>match op with
 |.Add=>some (.int (i+j))
 |.Sub=>some (.int (i-j))
 |_=>none
def qQ(E:Ev)(d:Nat)(q:Bool)(e:C):M AV:=match e with
 |.comp elt tg it ifs _ _=>vT E d q elt tg it ifs
 |_=>E.e d q e
def Fn(P:bP)(E:Ev)(d:Nat)(q:Bool)(ts e:C):M Fl:=M.bind (qQ E d q e) λv=>M.bind (wX P (E.e d q) q v (cs ts)) λO=>cj .next
def adZ(E:Ev)(d:Nat)(q:Bool)(op:Operator)(k:Nat)(e:C):M Fl:=M.bind (mK k) λx=>M.bind (E.e d q e) λy=>M.bind (cu λO=>tW op x y) λv=>M.bind (lE k v) λO=>cj .next
def MW(P:bP)(E:Ev)(d:Nat)(q:Bool)(op:Operator)(o:C)(a:Nat)(e:C):M Fl:=M.bind (E.e d q o) λov=>M.bind (cu (qo P a ov)) λx=>M.bind (E.e d q e) λy=>M.bind (cu λO=>tW op x y) λv=>M.bind (gp λH=>pO P a ov v H) λO=>cj .next
def MX(P:bP)(E:Ev)(d:Nat)(q:Bool)(op:Operator)(t e:C):M Fl:=match t with
 |.var _ k _=>adZ E d q op k e
 |.attr o _ a _=>MW P E d q op o a e
 |_=>M.stuck
def LI(E:Ev)(d:Nat)(q:Bool)(e:C):M Fl:=M.bind (E.e d q e) λO=>cj .next
def Kc(E:Ev)(d:Nat)(q:Bool)(t:C)(a b:S):M Fl:=M.bind (E.t d q t) λc=>match c with
 |true=>cW (E.s d q) (ss a)
 |false=>cW (E.s d q) (ss b)
def AH(E:Ev)(d:Nat)(tg:C)(b:S)(x:AV):M Fl:=λU H=>match eS x H with
 |some src=>M.calm (E.f d true tg src b) U H
 |none=>.stuck
def Ju(E:Ev)(d:Nat)(q:Bool)(tg it:C)(b:S):M Fl:=match q with
 |true=>M.bind (E.e d true it) (AH E d tg b)
 |false=>M.stuck
def HW(E:Ev)(d:Nat)(q:Bool)(e:C):M Fl:=M.bind (tO (E.e d q) e) λv=>cj (.ret v)
def vE(P:bP)(E:Ev)(d:Nat)(k:Nat)(h:S)(x:Nat):M Fl:=match ae P.gt k with
 |some (.exc y)=>match Nat.beq y x with
  |true=>M.calm (cW (E.s d false) (ss h))
  |false=>M.stuck
 |_=>M.stuck
def uH(P:bP)(E:Ev)(d:Nat)(q:Bool)(b:S)(k:Nat)(h:S):M Fl:=match q with
 |true=>λU H=>match cW (E.s d true) (ss b) U H with
  |.ok f ρ' H'=>.ok f ρ' H'
  |.exc x ρ' H'=>vE P E d k h x ρ' H'
  |.stuck=>.stuck
 |false=>M.stuck
noncomputable def EI(k:Nat):M α:=λU H=>.exc k U H
def Ih(P:bP)(E:Ev)(d:Nat)(q:Bool)(k:Nat)(args:C):M Fl:=match q with
 |true=>match ae P.gt k with
  |some (.exc x)=>match x with
   |0=>M.stuck
   |x+1=>M.bind (gZ (E.e d true) (cs args)) λvs=>match Nat.ble vs.length 100 with|true=>EI (x+1)|false=>M.stuck
  |_=>M.stuck
 |false=>M.stuck
def Me(E:Ev)(d:Nat)(q:Bool)(o i:C):M Fl:=M.bind (E.e d q o) λov=>M.bind (E.e d q i) λiv=>M.bind (gp λH=>yI ov iv H) λO=>cj .next
def GZ(P:bP)(E:Ev)(d:Nat)(q:Bool)(c:S):M Fl:=match c with
 |.asg ts e _=>Fn P E d q ts e
 |.aug op t e _=>MX P E d q op t e
 |.expr e _=>LI E d q e
 |.iff t a b _=>Kc E d q t a b
 |.gO t a b _=>M.calm (E.w d q t a b)
 |.loop tg it b _=>Ju E d q tg it b
 |.ret e _=>HW E d q e
 |.brk _=>cj .brk
 |.cont _=>cj .cont
 |.pass _=>cj .next
 |.tri b _ k _ h _ _=>uH P E d q b k h
 |.del o i _ _=>Me E d q o i
 |.raise _ k _ args _ _=>Ih P E d q k args
 |_=>M.stuck
def wL(again:M Fl)(fl:Fl):M Fl:=match fl with
 |.next=>again
 |.cont=>again
 |.brk=>cj .next
 |.ret v=>cj (.ret v)
def GX(E:Ev)(d:Nat)(q:Bool)(t:C)(b e:S):M Fl:=M.calm (M.bind (E.t d q t) λc=>match c with
 |true=>M.bind (cW (E.s d q) (ss b)) (wL (E.w d q t b e))
 |false=>cW (E.s d q) (ss e))
def ZN(E:Ev)(d:Nat)(q:Bool)(tg:C)(b:S)(v:AV)(src:bJ):M Fl:=M.calm (M.bind (jr tg v) λO=>M.bind (cW (E.s d q) (ss b)) (wL (E.f d q tg src b)))
def pL(E:Ev)(d:Nat)(q:Bool)(tg:C)(src:bJ)(b:S):M Fl:=λU H=>match src.next H with
 |none=>.stuck
 |some r=>match r with
  |none=>.ok .next U H
  |some p=>ZN E d q tg b p.1 p.2 U H
def tX(k:Nat)(x:AV)(H:Hp):Option Hp:=(bx H k).bind λl=>aI (Nat.blt l.length az) (some (ai H (.list (l++[x])) k))
def Hb(x:AV):M bJ:=cu λH=>eS x H
def vO(E:Ev)(d:Nat)(elt:C)(k:Nat):M Unit:=match elt with
 |.gen tg it e=>M.bind (E.e d true it) λx=>M.bind (Hb x) λsrc=>E.cp d tg src .nil e k
 |_=>M.bind (E.e d true elt) λx=>gp (tX k x)
def abu(E:Ev)(d:Nat)(tg ifs elt:C)(k:Nat)(v:AV)(src:bJ):M Unit:=M.calm (M.bind (jr tg v) λO=>M.bind (uG (E.t d true) true (cs ifs)) λb=>match b with
 |true=>M.bind (vO E d elt k) λO=>E.cp d tg src ifs elt k
 |false=>E.cp d tg src ifs elt k)
def sS(E:Ev)(d:Nat)(tg:C)(src:bJ)(ifs elt:C)(k:Nat):M Unit:=λU H=>match src.next H with
 |none=>.stuck
 |some r=>match r with
  |none=>.ok () U H
  |some p=>abu E d tg ifs elt k p.1 p.2 U H
def kP(f:FD)(args:List AV):Option aC:=match f.va with
 |true=>aI (Nat.ble f.npar args.length&&Nat.ble args.length az) (some ((args.take f.npar).map some++[some (.tup (args.drop f.npar))]++List.replicate (f.xG-f.npar-1) none))
 |false=>aI (Nat.beq (args.length+f.dflt.length) f.npar) (some ((args++f.dflt).map some++List.replicate (f.xG-f.npar) none))
noncomputable def qi(U:aC)(r:dG Fl):dG AV:=match r with
 |.ok f _ H'=>match f with
  |.ret v=>.ok v U H'
  |.next=>.ok .none U H'
  |_=>.stuck
 |.exc x _ H'=>.exc x U H'
 |.stuck=>.stuck
def yx(E:Ev)(d:Nat)(fd:FD)(args:List AV):M AV:=λU H=>match d with
 |0=>.stuck
 |d'+1=>match kP fd args with
  |some ρ'=>qi U (cW (E.s d' true) (ss fd.body) ρ' H)
  |none=>.stuck
noncomputable def tQ(U:aC)(k:Nat)(r:dG AV):dG AV:=match r with
 |.ok v _ H'=>match v with
  |.none=>.ok (.ref k) U H'
  |_=>.stuck
 |_=>.stuck
def vV(E:Ev)(d:Nat)(k:Nat)(cd:CD)(args:List AV):M AV:=λU H=>match d with
 |0=>.stuck
 |d'+1=>match cd.slots with
  |true=>tQ U (H.length+1) (E.call d' (.glob cd.init) (.ref (H.length+1)::args) U (H++[.dead,.inst k (cd.bD.map λO=>none)]))
  |false=>tQ U H.length (E.call d' (.glob cd.init) (.ref H.length::args) U (H++[.inst k (cd.bD.map λO=>none)]))
def s6(n:Nat)(args:List AV):M AV:=λU H=>match args with
 |_::_=>.stuck
 |[]=>match tE H n with
  |none=>.stuck
  |some p=>match bx H p.1 with
   |none=>.stuck
   |some l=>match ae l p.2 with
    |some v=>.ok v U (ai H (.iter p.1 (p.2+1)) n)
    |none=>.exc 0 U (ai H .dead n)
def oM(E:Ev)(d:Nat)(k:Nat)(g:GE)(args:List AV):M AV:=match g with
 |.fn fd=>yx E d fd args
 |.cl cd=>vV E d k cd args
 |.bi b=>mH λH=>yP b args H
 |_=>M.stuck
def wY(P:bP)(E:Ev)(d:Nat)(f:AV)(args:List AV):M AV:=match f with
 |.glob k=>match ae P.gt k with
  |some g=>oM E d k g args
  |none=>M.stuck
 |.cP n=>s6 n args
 |_=>M.stuck
def G0(P:bP)(E:Ev):Ev where
 e:=G2 P E
 t:=GY E
 s:=GZ P E
 w:=GX E
 f:=pL E
 cp:=sS E
 call:=wY P E
def ev0:Ev where
 e:=λO O O=>M.stuck
 t:=λO O O=>M.stuck
 s:=λO O O=>M.stuck
 w:=λO O O O O=>M.stuck
 f:=λO O O O O=>M.stuck
 cp:=λO O O O O O=>M.stuck
 call:=λO O O=>M.stuck
def ev(P:bP)(n:Nat):Ev:=Nat.rec ev0 (λO E=>G0 P E) n
end
section
open Nat.Internal
def Kb(U:Linear.Context)(P:Prop)(hs:List (Linear.Expr×Linear.Expr)):Prop:=List.rec (motive:=λO=>Prop) P (λh O ih=>h.1.denote U<=h.2.denote U->ih) hs
noncomputable def uK(f:Linear.Expr×Linear.Expr->Linear.Expr)(hs:List (Linear.Expr×Linear.Expr))(e:Linear.Expr):Linear.Expr:=List.rec (motive:=λO=>Linear.Expr) e (λh O ih=>.add (f h) ih) hs
noncomputable def lX(l:List Nat):Nat->Lean.RArray Nat:=List.rec (motive:=λO=>Nat->Lean.RArray Nat) (λO=>.leaf 0) (λx O ih i=>.branch (i+1) (.leaf x) (ih (i+1))) l
theorem WZ(U:Linear.Context)(x y:Linear.Expr)(hs:List (Linear.Expr×Linear.Expr)):∀c:Nat,c+(uK (·.2) hs x).denote U<=c+(uK (·.1) hs y).denote U->Kb U (x.denote U<=y.denote U) hs:=by
 induction hs with
 |nil=>exact λc h=>Nat.le_of_add_le_add_left h
 |cons r hs ih=>intro c h hp;exact ih (c+r.2.denote U) (aM (aW (uj _ _ _)) (aM h (aM (mB (zc hp _) c) (aW (uj _ _ _).symm))))
def ay(l:List Nat)(hs:List (Linear.Expr×Linear.Expr))(x y:Linear.Expr)(ok:(Linear.ExprCnstr.mk false (uK (·.2) hs x) (uK (·.1) hs y)).toNormPoly.isValid=true):Kb (lX l 0) (x.denote (lX l 0)<=y.denote (lX l 0)) hs:=WZ _ x y hs 0 (mB (of_eq_true (Linear.ExprCnstr.eq_true_of_isValid (lX l 0) _ ok):Linear.Expr.denote (lX l 0) (uK (·.2) hs x)<=Linear.Expr.denote (lX l 0) (uK (·.1) hs y)) 0)
abbrev Lv:=Linear.Expr.var
abbrev Lk:=Linear.Expr.num
abbrev La:=Linear.Expr.add
abbrev Lm:=Linear.Expr.mulL
end
section
section
variable {x0 x1 x2 x3 x4 x5 x6 x7:Nat}
def pb(h0:(x0+(x2+1))=x1):x0<x1:=ay [x0,x1,x2] [(La (Lv 0) (La (Lv 2) (Lk 1)),Lv 1)] (La (Lv 0) (Lk 1)) (Lv 1) rfl (aW h0)
def za(h0:(x0+(x1+1))<x2):((x0+1)+x1)<x2:=ay [x0,x1,x2] [(La (La (Lv 0) (La (Lv 1) (Lk 1))) (Lk 1),Lv 2)] (La (La (La (Lv 0) (Lk 1)) (Lv 1)) (Lk 1)) (Lv 2) rfl h0
def km(h0:(x0+(x1+1))=x2):((x0+1)+x1)=x2:=ic (ay [x0,x1,x2] [(La (Lv 0) (La (Lv 1) (Lk 1)),Lv 2)] (La (La (Lv 0) (Lk 1)) (Lv 1)) (Lv 2) rfl (aW h0)) (ay [x0,x1,x2] [(Lv 2,La (Lv 0) (La (Lv 1) (Lk 1)))] (Lv 2) (La (La (Lv 0) (Lk 1)) (Lv 1)) rfl (aW h0.symm))
def hU(h0:(x1+0)=x0):x0<=x1:=ay [x0,x1] [(Lv 0,La (Lv 1) (Lk 0))] (Lv 0) (Lv 1) rfl (aW h0.symm)
def ud(h0:(x0+(x2+1))<x1):x0<x1:=ay [x0,x1,x2] [(La (La (Lv 0) (La (Lv 2) (Lk 1))) (Lk 1),Lv 1)] (La (Lv 0) (Lk 1)) (Lv 1) rfl h0
def NH(h0:x1<x2)(h1:x2<=x0):x0≠x1:=dM (ay [x0,x1,x2] [(La (Lv 1) (Lk 1),Lv 2),(Lv 2,Lv 0)] (La (Lv 1) (Lk 1)) (Lv 0) rfl h0 h1)
def qA(h0:(x0+(x1+1))<x2):(x0+x1)<x2:=ay [x0,x1,x2] [(La (La (Lv 0) (La (Lv 1) (Lk 1))) (Lk 1),Lv 2)] (La (La (Lv 0) (Lv 1)) (Lk 1)) (Lv 2) rfl h0
def BX(h0:x0<x1):x0≠x1:=dU (ay [x0,x1] [(La (Lv 0) (Lk 1),Lv 1)] (La (Lv 0) (Lk 1)) (Lv 1) rfl h0)
def Nw(h0:x1<=x0):¬(x0<x1):=wu (ay [x0,x1] [(Lv 1,Lv 0)] (Lv 1) (Lv 0) rfl h0)
def FU :x0<=(0+x0):=ay [x0] [] (Lv 0) (La (Lk 0) (Lv 0)) rfl 
def Od(h0:x0<x1):(0+x0)<x1:=ay [x0,x1] [(La (Lv 0) (Lk 1),Lv 1)] (La (La (Lk 0) (Lv 0)) (Lk 1)) (Lv 1) rfl h0
def B5(h0:x0<=1000000):x0<=3000000:=ay [x0] [(Lv 0,Lk 1000000)] (Lv 0) (Lk 3000000) rfl h0
def B4(h0:1000<=x1)(h1:x0<1000):x0<x1:=ay [x0,x1] [(Lk 1000,Lv 1),(La (Lv 0) (Lk 1),Lk 1000)] (La (Lv 0) (Lk 1)) (Lv 1) rfl h0 h1
def NW(h0:x0<x2)(h1:x2<=x3)(h2:x3<x1):x0<x1:=ay [x0,x1,x2,x3] [(La (Lv 0) (Lk 1),Lv 2),(Lv 2,Lv 3),(La (Lv 3) (Lk 1),Lv 1)] (La (Lv 0) (Lk 1)) (Lv 1) rfl h0 h1 h2
def yZ :(x0+2)≠x0:=dM (ay [x0] [] (La (Lv 0) (Lk 1)) (La (Lv 0) (Lk 2)) rfl)
def B3 :x0≠(x0+3):=dU (ay [x0] [] (La (Lv 0) (Lk 1)) (La (Lv 0) (Lk 3)) rfl)
def uf :x0≠(x0+1):=dU (ay [x0] [] (La (Lv 0) (Lk 1)) (La (Lv 0) (Lk 1)) rfl)
def yY :x0<=(x0+x1):=ay [x0,x1] [] (Lv 0) (La (Lv 0) (Lv 1)) rfl 
def FP :(x0+1)≠(x0+3):=dU (ay [x0] [] (La (La (Lv 0) (Lk 1)) (Lk 1)) (La (Lv 0) (Lk 3)) rfl)
def B2 :(x0+2)≠(x0+1):=dM (ay [x0] [] (La (La (Lv 0) (Lk 1)) (Lk 1)) (La (Lv 0) (Lk 2)) rfl)
def FO(h0:x0<x1):x0≠(x1+1):=dU (ay [x0,x1] [(La (Lv 0) (Lk 1),Lv 1)] (La (Lv 0) (Lk 1)) (La (Lv 1) (Lk 1)) rfl h0)
def FN(h0:(x1+4)<=x0):x0≠x1:=dM (ay [x0,x1] [(La (Lv 1) (Lk 4),Lv 0)] (La (Lv 1) (Lk 1)) (Lv 0) rfl h0)
def FK(h0:x0<x1):x0≠(x1+3):=dU (ay [x0,x1] [(La (Lv 0) (Lk 1),Lv 1)] (La (Lv 0) (Lk 1)) (La (Lv 1) (Lk 3)) rfl h0)
def B1(h0:x0<=x1):x0<=(x1+1):=ay [x0,x1] [(Lv 0,Lv 1)] (Lv 0) (La (Lv 1) (Lk 1)) rfl h0
def FJ(h0:x0<x1):x0<(x1+4):=ay [x0,x1] [(La (Lv 0) (Lk 1),Lv 1)] (La (Lv 0) (Lk 1)) (La (Lv 1) (Lk 4)) rfl h0
def NI(h0:(x0+x2)<x1):x0<=x1:=ay [x0,x1,x2] [(La (La (Lv 0) (Lv 2)) (Lk 1),Lv 1)] (Lv 0) (Lv 1) rfl h0
def FI(h0:x0<16):(65+x0)<128:=ay [x0] [(La (Lv 0) (Lk 1),Lk 16)] (La (La (Lk 65) (Lv 0)) (Lk 1)) (Lk 128) rfl h0
def FH(h0:x0<x2)(h1:x2<=x1):x0<x1:=ay [x0,x1,x2] [(La (Lv 0) (Lk 1),Lv 2),(Lv 2,Lv 1)] (La (Lv 0) (Lk 1)) (Lv 1) rfl h0 h1
def B0(h0:x0<x2)(h1:x1=x2):x0<x1:=ay [x0,x1,x2] [(La (Lv 0) (Lk 1),Lv 2),(Lv 2,Lv 1)] (La (Lv 0) (Lk 1)) (Lv 1) rfl h0 (aW h1.symm)
def FG(h0:(x1+4)<=x0):x0≠(x1+1):=dM (ay [x0,x1] [(La (Lv 1) (Lk 4),Lv 0)] (La (La (Lv 1) (Lk 1)) (Lk 1)) (Lv 0) rfl h0)
def FF(h0:(x1+4)<=x0):x0≠(x1+3):=dM (ay [x0,x1] [(La (Lv 1) (Lk 4),Lv 0)] (La (La (Lv 1) (Lk 3)) (Lk 1)) (Lv 0) rfl h0)
def FE(h0:(65+x0)=(65+x1)):x0=x1:=ic (ay [x0,x1] [(La (Lk 65) (Lv 0),La (Lk 65) (Lv 1))] (Lv 0) (Lv 1) rfl (aW h0)) (ay [x0,x1] [(La (Lk 65) (Lv 1),La (Lk 65) (Lv 0))] (Lv 1) (Lv 0) rfl (aW h0.symm))
def FC(h0:((x0+(8*(x1+1)))+8)<x2):(((x0+1)+(8*x1))+8)<x2:=ay [x0,x1,x2] [(La (La (La (Lv 0) (Lm 8 (La (Lv 1) (Lk 1)))) (Lk 8)) (Lk 1),Lv 2)] (La (La (La (La (Lv 0) (Lk 1)) (Lm 8 (Lv 1))) (Lk 8)) (Lk 1)) (Lv 2) rfl h0
def BZ :x0<=x0:=ay [x0] [] (Lv 0) (Lv 0) rfl 
def NG :1<=(x0+1):=ay [x0] [] (Lk 1) (La (Lv 0) (Lk 1)) rfl 
def NF :x0≠(x0+2):=dU (ay [x0] [] (La (Lv 0) (Lk 1)) (La (Lv 0) (Lk 2)) rfl)
def FA :x0<=(x0+3):=ay [x0] [] (Lv 0) (La (Lv 0) (Lk 3)) rfl 
def BY :x0<=(x0+1):=ay [x0] [] (Lv 0) (La (Lv 0) (Lk 1)) rfl 
def ND :(x0+3)≠x0:=dM (ay [x0] [] (La (Lv 0) (Lk 1)) (La (Lv 0) (Lk 3)) rfl)
def NC :(x0+1)≠x0:=dM (ay [x0] [] (La (Lv 0) (Lk 1)) (La (Lv 0) (Lk 1)) rfl)
def NB :2<=((x0+1)+1):=ay [x0] [] (Lk 2) (La (La (Lv 0) (Lk 1)) (Lk 1)) rfl 
def NA(h0:x0=x1):¬(x0<x1):=wu (ay [x0,x1] [(Lv 1,Lv 0)] (Lv 1) (Lv 0) rfl (aW h0.symm))
def Nz(h0:x0<200):x0<9000:=ay [x0] [(La (Lv 0) (Lk 1),Lk 200)] (La (Lv 0) (Lk 1)) (Lk 9000) rfl h0
def Fz :(x0+1)<(x0+4):=ay [x0] [] (La (La (Lv 0) (Lk 1)) (Lk 1)) (La (Lv 0) (Lk 4)) rfl 
def Ny(h0:x0<x1):x0≠(x1+2):=dU (ay [x0,x1] [(La (Lv 0) (Lk 1),Lv 1)] (La (Lv 0) (Lk 1)) (La (Lv 1) (Lk 2)) rfl h0)
def Nv(h0:x0<=x1):x0<=(x1+2):=ay [x0,x1] [(Lv 0,Lv 1)] (Lv 0) (La (Lv 1) (Lk 2)) rfl h0
def Nu(h0:(x0+1)<=x1):x0<=x1:=ay [x0,x1] [(La (Lv 0) (Lk 1),Lv 1)] (Lv 0) (Lv 1) rfl h0
def Nt(h0:x0<16):(65+x0)<81:=ay [x0] [(La (Lv 0) (Lk 1),Lk 16)] (La (La (Lk 65) (Lv 0)) (Lk 1)) (Lk 81) rfl h0
def Ov(h0:(65+x0)<81):x0<16:=ay [x0] [(La (La (Lk 65) (Lv 0)) (Lk 1),Lk 81)] (La (Lv 0) (Lk 1)) (Lk 16) rfl h0
def Ou(h0:x0<=x2)(h1:x2<x1):x0<x1:=ay [x0,x1,x2] [(Lv 0,Lv 2),(La (Lv 2) (Lk 1),Lv 1)] (La (Lv 0) (Lk 1)) (Lv 1) rfl h0 h1
def Oq(h0:x0=x2)(h1:x1<x2):x0≠x1:=dM (ay [x0,x1,x2] [(Lv 2,Lv 0),(La (Lv 1) (Lk 1),Lv 2)] (La (Lv 1) (Lk 1)) (Lv 0) rfl (aW h0.symm) h1)
def FT(h0:x0<x2)(h1:x2<=x1):x0<=x1:=ay [x0,x1,x2] [(La (Lv 0) (Lk 1),Lv 2),(Lv 2,Lv 1)] (Lv 0) (Lv 1) rfl h0 h1
def Oo(h0:x0<1000):(x0+1)<4096:=ay [x0] [(La (Lv 0) (Lk 1),Lk 1000)] (La (La (Lv 0) (Lk 1)) (Lk 1)) (Lk 4096) rfl h0
def Om(h0:1<=x0):1<=((16*0)+x0):=ay [x0] [(Lk 1,Lv 0)] (Lk 1) (La (Lm 16 (Lk 0)) (Lv 0)) rfl h0
def Ol(h0:1<=x0):1<=((16*x0)+x1):=ay [x0,x1] [(Lk 1,Lv 0)] (Lk 1) (La (Lm 16 (Lv 0)) (Lv 1)) rfl h0
def Oj(h0:(x1+4)<=x0):x0≠(x1+2):=dM (ay [x0,x1] [(La (Lv 1) (Lk 4),Lv 0)] (La (La (Lv 1) (Lk 2)) (Lk 1)) (Lv 0) rfl h0)
def Oi(h0:(x0+4)<=x1):x0<(x1+1):=ay [x0,x1] [(La (Lv 0) (Lk 4),Lv 1)] (La (Lv 0) (Lk 1)) (La (Lv 1) (Lk 1)) rfl h0
def Oh(h0:(x0+1)<=(x1+1)):x0<=x1:=ay [x0,x1] [(La (Lv 0) (Lk 1),La (Lv 1) (Lk 1))] (Lv 0) (Lv 1) rfl h0
def Og(h0:x0<16):(65+x0)<1114112:=ay [x0] [(La (Lv 0) (Lk 1),Lk 16)] (La (La (Lk 65) (Lv 0)) (Lk 1)) (Lk 1114112) rfl h0
def FR(h0:x0<=x1):(x0+1)<=(x1+1):=ay [x0,x1] [(Lv 0,Lv 1)] (La (Lv 0) (Lk 1)) (La (Lv 1) (Lk 1)) rfl h0
def Of(h0:x0<=100):x0<=(16777216+1):=ay [x0] [(Lv 0,Lk 100)] (Lv 0) (La (Lk 16777216) (Lk 1)) rfl h0
def FQ(h0:x1<=x2):(x0+x1)<=(x0+x2):=ay [x0,x1,x2] [(Lv 1,Lv 2)] (La (Lv 0) (Lv 1)) (La (Lv 0) (Lv 2)) rfl h0
def Oe(h0:(65+x0)<(65+x1)):x0<x1:=ay [x0,x1] [(La (La (Lk 65) (Lv 0)) (Lk 1),La (Lk 65) (Lv 1))] (La (Lv 0) (Lk 1)) (Lv 1) rfl h0
def Oc(h0:(x0+62)<x1):(x0+60)<x1:=ay [x0,x1] [(La (La (Lv 0) (Lk 62)) (Lk 1),Lv 1)] (La (La (Lv 0) (Lk 60)) (Lk 1)) (Lv 1) rfl h0
def Ob(h0:(x1+4)<=x2)(h1:x0=x2):x0≠x1:=dM (ay [x0,x1,x2] [(La (Lv 1) (Lk 4),Lv 2),(Lv 2,Lv 0)] (La (Lv 1) (Lk 1)) (Lv 0) rfl h0 (aW h1.symm))
def Oa(h0:x2=(x0+1))(h1:x2<=x1):x0<=x1:=ay [x0,x1,x2] [(La (Lv 0) (Lk 1),Lv 2),(Lv 2,Lv 1)] (Lv 0) (Lv 1) rfl (aW h0.symm) h1
def N9(h0:x2=(x0+1))(h1:x2<=x1):x0<x1:=ay [x0,x1,x2] [(La (Lv 0) (Lk 1),Lv 2),(Lv 2,Lv 1)] (La (Lv 0) (Lk 1)) (Lv 1) rfl (aW h0.symm) h1
def N8(h0:(x0+4)<=x2)(h1:x1=x2):x0<x1:=ay [x0,x1,x2] [(La (Lv 0) (Lk 4),Lv 2),(Lv 2,Lv 1)] (La (Lv 0) (Lk 1)) (Lv 1) rfl h0 (aW h1.symm)
def N7(h0:(x2+((2*x0)+1))<x1):x0<=x1:=ay [x0,x1,x2] [(La (La (Lv 2) (La (Lm 2 (Lv 0)) (Lk 1))) (Lk 1),Lv 1)] (Lv 0) (Lv 1) rfl h0
def N6(h0:(x2+(x0+1))<x1):(0+x0)<x1:=ay [x0,x1,x2] [(La (La (Lv 2) (La (Lv 0) (Lk 1))) (Lk 1),Lv 1)] (La (La (Lk 0) (Lv 0)) (Lk 1)) (Lv 1) rfl h0
def N5(h0:x0=x2)(h1:x2=(x1+1)):¬(x0<x1):=wu (ay [x0,x1,x2] [(Lv 2,Lv 0),(La (Lv 1) (Lk 1),Lv 2)] (Lv 1) (Lv 0) rfl (aW h0.symm) (aW h1.symm))
def N4(h0:x0=x2)(h1:x2=(x1+2)):¬(x0<x1):=wu (ay [x0,x1,x2] [(Lv 2,Lv 0),(La (Lv 1) (Lk 2),Lv 2)] (Lv 1) (Lv 0) rfl (aW h0.symm) (aW h1.symm))
def N3(h0:x0<(x1+1))(h1:¬(x0<x1)):x0=x1:=ic (ay [x0,x1] [(La (Lv 0) (Lk 1),La (Lv 1) (Lk 1))] (Lv 0) (Lv 1) rfl h0) (ay [x0,x1] [(Lv 1,Lv 0)] (Lv 1) (Lv 0) rfl (Nat.le_of_not_lt h1))
def N0 :((x0+x1)+x2)=(x0+(x1+x2)):=ic (ay [x0,x1,x2] [] (La (La (Lv 0) (Lv 1)) (Lv 2)) (La (Lv 0) (La (Lv 1) (Lv 2))) rfl) (ay [x0,x1,x2] [] (La (Lv 0) (La (Lv 1) (Lv 2))) (La (La (Lv 0) (Lv 1)) (Lv 2)) rfl)
def NZ(h0:(x1+4)<=x2)(h1:x0=x2):x0≠(x1+1):=dM (ay [x0,x1,x2] [(La (Lv 1) (Lk 4),Lv 2),(Lv 2,Lv 0)] (La (La (Lv 1) (Lk 1)) (Lk 1)) (Lv 0) rfl h0 (aW h1.symm))
def NY(h0:(x0+4)<=x2)(h1:x1=x2):(x0+1)<x1:=ay [x0,x1,x2] [(La (Lv 0) (Lk 4),Lv 2),(Lv 2,Lv 1)] (La (La (Lv 0) (Lk 1)) (Lk 1)) (Lv 1) rfl h0 (aW h1.symm)
def NX(h0:(x2+4)<=x0)(h1:x1<(x2+4)):x0≠x1:=dM (ay [x0,x1,x2] [(La (Lv 2) (Lk 4),Lv 0),(La (Lv 1) (Lk 1),La (Lv 2) (Lk 4))] (La (Lv 1) (Lk 1)) (Lv 0) rfl h0 h1)
def NV(h0:x0<x1)(h1:x1=x2)(h2:x2<=100):x0<1000:=ay [x0,x1,x2] [(La (Lv 0) (Lk 1),Lv 1),(Lv 1,Lv 2),(Lv 2,Lk 100)] (La (Lv 0) (Lk 1)) (Lk 1000) rfl h0 (aW h1) h2
def NU(h0:1000<=x1)(h1:x0=x2)(h2:x2<1000):x0<x1:=ay [x0,x1,x2] [(Lk 1000,Lv 1),(Lv 0,Lv 2),(La (Lv 2) (Lk 1),Lk 1000)] (La (Lv 0) (Lk 1)) (Lv 1) rfl h0 (aW h1) h2
def NT(h0:((x0+(8*(x2+1)))+8)<x1):x0<x1:=ay [x0,x1,x2] [(La (La (La (Lv 0) (Lm 8 (La (Lv 2) (Lk 1)))) (Lk 8)) (Lk 1),Lv 1)] (La (Lv 0) (Lk 1)) (Lv 1) rfl h0
def NS(h0:((x0+1)+x1)<=40):(x0+(x1+1))<=40:=ay [x0,x1] [(La (La (Lv 0) (Lk 1)) (Lv 1),Lk 40)] (La (Lv 0) (La (Lv 1) (Lk 1))) (Lk 40) rfl h0
def NR(h0:(x2+4)<=x3)(h1:x0<x2)(h2:x1=x3):x0<x1:=ay [x0,x1,x2,x3] [(La (Lv 2) (Lk 4),Lv 3),(La (Lv 0) (Lk 1),Lv 2),(Lv 3,Lv 1)] (La (Lv 0) (Lk 1)) (Lv 1) rfl h0 h1 (aW h2.symm)
def NQ :3<((((((0+1)+1)+1)+1)+1)+x0):=ay [x0] [] (La (Lk 3) (Lk 1)) (La (La (La (La (La (La (Lk 0) (Lk 1)) (Lk 1)) (Lk 1)) (Lk 1)) (Lk 1)) (Lv 0)) rfl 
def NP(h0:(x0+4)<=x2)(h1:x1=(x2+1)):(x0+1)<x1:=ay [x0,x1,x2] [(La (Lv 0) (Lk 4),Lv 2),(La (Lv 2) (Lk 1),Lv 1)] (La (La (Lv 0) (Lk 1)) (Lk 1)) (Lv 1) rfl h0 (aW h1.symm)
def NO(h0:(x0+4)<=x2)(h1:x1=(x2+1)):(x0+3)<x1:=ay [x0,x1,x2] [(La (Lv 0) (Lk 4),Lv 2),(La (Lv 2) (Lk 1),Lv 1)] (La (La (Lv 0) (Lk 3)) (Lk 1)) (Lv 1) rfl h0 (aW h1.symm)
def NN(h0:((x2+1)+x0)<=40)(h1:40<=x1):(1+x0)<=x1:=ay [x0,x1,x2] [(La (La (Lv 2) (Lk 1)) (Lv 0),Lk 40),(Lk 40,Lv 1)] (La (Lk 1) (Lv 0)) (Lv 1) rfl h0 h1
def NM(h0:((x0+(100*x2))+100)<x1):(x0+62)<x1:=ay [x0,x1,x2] [(La (La (La (Lv 0) (Lm 100 (Lv 2))) (Lk 100)) (Lk 1),Lv 1)] (La (La (Lv 0) (Lk 62)) (Lk 1)) (Lv 1) rfl h0
def NL(h0:((2*x3)+1)<=x1)(h1:x0<=(x3+(x2+1))):x0<=(x1+x2):=ay [x0,x1,x2,x3] [(La (Lm 2 (Lv 3)) (Lk 1),Lv 1),(Lv 0,La (Lv 3) (La (Lv 2) (Lk 1)))] (Lv 0) (La (Lv 1) (Lv 2)) rfl h0 h1
def NK(h0:((x0+(100*(x1+1)))+100)<x2):(((x0+3)+(100*x1))+100)<x2:=ay [x0,x1,x2] [(La (La (La (Lv 0) (Lm 100 (La (Lv 1) (Lk 1)))) (Lk 100)) (Lk 1),Lv 2)] (La (La (La (La (Lv 0) (Lk 3)) (Lm 100 (Lv 1))) (Lk 100)) (Lk 1)) (Lv 2) rfl h0
def NJ(h0:((x0+(100*(x1+1)))+100)<x2):(((x0+1)+(100*x1))+100)<x2:=ay [x0,x1,x2] [(La (La (La (Lv 0) (Lm 100 (La (Lv 1) (Lk 1)))) (Lk 100)) (Lk 1),Lv 2)] (La (La (La (La (Lv 0) (Lk 1)) (Lm 100 (Lv 1))) (Lk 100)) (Lk 1)) (Lv 2) rfl h0
def Qt(h0:(x2+((2*x0)+1))<x1):((x0+1)+1)<=x1:=ay [x0,x1,x2] [(La (La (Lv 2) (La (Lm 2 (Lv 0)) (Lk 1))) (Lk 1),Lv 1)] (La (La (Lv 0) (Lk 1)) (Lk 1)) (Lv 1) rfl h0
def Qs(h0:(x2+(x3+1))=x0)(h1:x0<x1)(h2:x4<=x2):x4<x1:=ay [x0,x1,x2,x3,x4] [(La (Lv 2) (La (Lv 3) (Lk 1)),Lv 0),(La (Lv 0) (Lk 1),Lv 1),(Lv 4,Lv 2)] (La (Lv 4) (Lk 1)) (Lv 1) rfl (aW h0) h1 h2
def Qr(h0:((x0+(100*x1))+100)<x2):(x0+50)<x2:=ay [x0,x1,x2] [(La (La (La (Lv 0) (Lm 100 (Lv 1))) (Lk 100)) (Lk 1),Lv 2)] (La (La (Lv 0) (Lk 50)) (Lk 1)) (Lv 2) rfl h0
def Qq(h0:((x0+(100*x1))+100)<x2):((x0+1)+3)<x2:=ay [x0,x1,x2] [(La (La (La (Lv 0) (Lm 100 (Lv 1))) (Lk 100)) (Lk 1),Lv 2)] (La (La (La (Lv 0) (Lk 1)) (Lk 3)) (Lk 1)) (Lv 2) rfl h0
def Gb(h0:(x0+60)<x1):((x0+1)+3)<x1:=ay [x0,x1] [(La (La (Lv 0) (Lk 60)) (Lk 1),Lv 1)] (La (La (La (Lv 0) (Lk 1)) (Lk 3)) (Lk 1)) (Lv 1) rfl h0
def Qw(h0:x0<=20):((301+(8*(x0+1)))+8)<1000:=ay [x0] [(Lm 8 (Lv 0),Lk 160)] (La (La (La (Lk 301) (Lm 8 (La (Lv 0) (Lk 1)))) (Lk 8)) (Lk 1)) (Lk 1000) rfl (mD 8 h0)
def Qv(h0:x0<=20):((4+(100*(x0+1)))+100)<9900:=ay [x0] [(Lm 100 (Lv 0),Lk 2000)] (La (La (La (Lk 4) (Lm 100 (La (Lv 0) (Lk 1)))) (Lk 100)) (Lk 1)) (Lk 9900) rfl (mD 100 h0)
def Qu(h0:((x0+(100*x1))+100)<x2):(((x0+1)+1)+64)<x2:=ay [x0,x1,x2] [(La (La (La (Lv 0) (Lm 100 (Lv 1))) (Lk 100)) (Lk 1),Lv 2)] (La (La (La (La (Lv 0) (Lk 1)) (Lk 1)) (Lk 64)) (Lk 1)) (Lv 2) rfl h0
def RV{i l:Nat}(h:i<l):l-i=l-(i+1)+1:=(pn (Nat.sub_pos_of_lt h)).symm
end
variable {α:Type}
def aR{x:α}{P:Prop}(e:none=some x):P:=nomatch e
def sj{x y:α}(e:some x=some y):x=y:=jR e
variable {ta:Type}
def aq{p1:ta->Prop}{p2:ta->Prop}{P:Prop}(h:∃a,p1 a/\p2 a)(k:∀a,p1 a->p2 a->P):P:=h.elim λa q0=>q0.elim λh1 h2=>k a h1 h2
def ua{p1:Prop}{p2:Prop}{P:Prop}(h:p1/\p2)(k:p1->p2->P):P:=h.elim λh1 h2=>k h1 h2
def ue{p1:ta->Prop}{P:Prop}(h:∃a,p1 a)(k:∀a,p1 a->P):P:=h.elim λa h1=>k a h1
def ct{tb:Type}{p1:ta->tb->Prop}{P:Prop}(h:∃a,∃b,p1 a b)(k:∀a,∀b,p1 a b->P):P:=h.elim λa q0=>q0.elim λb h1=>k a b h1
variable {tc:Type}
def cO{tb:Type}{p1:ta->tb->tc->Prop}{p2:ta->tb->tc->Prop}{P:Prop}(h:∃a,∃b,∃c,p1 a b c/\p2 a b c)(k:∀a,∀b,∀c,p1 a b c->p2 a b c->P):P:=h.elim λa q0=>q0.elim λb q1=>q1.elim λc q2=>q2.elim λh1 h2=>k a b c h1 h2
def bB{tb:Type}{p1:ta->tb->Prop}{p2:ta->tb->Prop}{p3:ta->tb->Prop}{P:Prop}(h:∃a,∃b,p1 a b/\p2 a b/\p3 a b)(k:∀a,∀b,p1 a b->p2 a b->p3 a b->P):P:=h.elim λa q0=>q0.elim λb q1=>q1.elim λh1 q2=>q2.elim λh2 h3=>k a b h1 h2 h3
def dN{tb:Type}{p1:ta->tb->Prop}{p2:ta->tb->Prop}{P:Prop}(h:∃a,∃b,p1 a b/\p2 a b)(k:∀a,∀b,p1 a b->p2 a b->P):P:=h.elim λa q0=>q0.elim λb q1=>q1.elim λh1 h2=>k a b h1 h2
def gP{p1:ta->Prop}{p2:ta->Prop}{p3:ta->Prop}{P:Prop}(h:∃a,p1 a/\p2 a/\p3 a)(k:∀a,p1 a->p2 a->p3 a->P):P:=h.elim λa q0=>q0.elim λh1 q1=>q1.elim λh2 h3=>k a h1 h2 h3
def il{p1:Prop}{p2:ta->Prop}{P:Prop}(h:p1/\∃a,p2 a)(k:p1->∀a,p2 a->P):P:=h.elim λh1 q0=>q0.elim λa h2=>k h1 a h2
variable {td:Type}
def i7{tb:Type}{p1:ta->tb->tc->td->Prop}{p2:ta->tb->tc->td->Prop}{p3:ta->tb->tc->td->Prop}{P:Prop}(h:∃a,∃b,∃c,∃d,p1 a b c d/\p2 a b c d/\p3 a b c d)(k:∀a,∀b,∀c,∀d,p1 a b c d->p2 a b c d->p3 a b c d->P):P:=h.elim λa q0=>q0.elim λb q1=>q1.elim λc q2=>q2.elim λd q3=>q3.elim λh1 q4=>q4.elim λh2 h3=>k a b c d h1 h2 h3
def ll{tb:Type}{p1:Prop}{p2:ta->tb->Prop}{P:Prop}(h:p1/\∃a,∃b,p2 a b)(k:p1->∀a,∀b,p2 a b->P):P:=h.elim λh1 q0=>q0.elim λa q1=>q1.elim λb h2=>k h1 a b h2
def mR{tb:Type}{p1:ta->tb->tc->Prop}{p2:ta->tb->tc->Prop}{p3:ta->tb->tc->Prop}{P:Prop}(h:∃a,∃b,∃c,p1 a b c/\p2 a b c/\p3 a b c)(k:∀a,∀b,∀c,p1 a b c->p2 a b c->p3 a b c->P):P:=h.elim λa q0=>q0.elim λb q1=>q1.elim λc q2=>q2.elim λh1 q3=>q3.elim λh2 h3=>k a b c h1 h2 h3
def iJ{tb:Type}{p1:ta->tb->tc->Prop}{P:Prop}(h:∃a,∃b,∃c,p1 a b c)(k:∀a,∀b,∀c,p1 a b c->P):P:=h.elim λa q0=>q0.elim λb q1=>q1.elim λc h1=>k a b c h1
def zt{p1:Prop}{p2:Prop}{p3:Prop}{P:Prop}(h:p1/\p2/\p3)(k:p1->p2->p3->P):P:=h.elim λh1 q0=>q0.elim λh2 h3=>k h1 h2 h3
def nZ{tb:Type}{p1:ta->tb->Prop}{p2:ta->tb->Prop}{p3:ta->tb->Prop}{p4:ta->tb->Prop}{P:Prop}(h:∃a,∃b,p1 a b/\p2 a b/\p3 a b/\p4 a b)(k:∀a,∀b,p1 a b->p2 a b->p3 a b->p4 a b->P):P:=h.elim λa q0=>q0.elim λb q1=>q1.elim λh1 q2=>q2.elim λh2 q3=>q3.elim λh3 h4=>k a b h1 h2 h3 h4
def qR{tb:Type}{p1:ta->tb->tc->Prop}{p2:ta->tb->tc->Prop}{p3:ta->tb->tc->Prop}{p4:ta->tb->tc->Prop}{P:Prop}(h:∃a,∃b,∃c,p1 a b c/\p2 a b c/\p3 a b c/\p4 a b c)(k:∀a,∀b,∀c,p1 a b c->p2 a b c->p3 a b c->p4 a b c->P):P:=h.elim λa q0=>q0.elim λb q1=>q1.elim λc q2=>q2.elim λh1 q3=>q3.elim λh2 q4=>q4.elim λh3 h4=>k a b c h1 h2 h3 h4
def mQ{tb:Type}{p1:ta->tb->tc->td->Prop}{p2:ta->tb->tc->td->Prop}{P:Prop}(h:∃a,∃b,∃c,∃d,p1 a b c d/\p2 a b c d)(k:∀a,∀b,∀c,∀d,p1 a b c d->p2 a b c d->P):P:=h.elim λa q0=>q0.elim λb q1=>q1.elim λc q2=>q2.elim λd q3=>q3.elim λh1 h2=>k a b c d h1 h2
def zr{tb:Type}{p1:ta->tb->tc->td->Prop}{P:Prop}(h:∃a,∃b,∃c,∃d,p1 a b c d)(k:∀a,∀b,∀c,∀d,p1 a b c d->P):P:=h.elim λa q0=>q0.elim λb q1=>q1.elim λc q2=>q2.elim λd h1=>k a b c d h1
def Gy{tb:Type}{p1:ta->tb->tc->Prop}{p2:ta->tb->tc->Prop}{p3:ta->tb->tc->Prop}{p4:ta->tb->tc->Prop}{p5:ta->tb->tc->Prop}{P:Prop}(h:∃a,∃b,∃c,p1 a b c/\p2 a b c/\p3 a b c/\p4 a b c/\p5 a b c)(k:∀a,∀b,∀c,p1 a b c->p2 a b c->p3 a b c->p4 a b c->p5 a b c->P):P:=h.elim λa q0=>q0.elim λb q1=>q1.elim λc q2=>q2.elim λh1 q3=>q3.elim λh2 q4=>q4.elim λh3 q5=>q5.elim λh4 h5=>k a b c h1 h2 h3 h4 h5
def Gw{tb:Type}{p1:ta->tb->tc->td->Prop}{p2:ta->tb->tc->td->Prop}{p3:ta->tb->tc->td->Prop}{p4:ta->tb->tc->td->Prop}{p5:ta->tb->tc->td->Prop}{P:Prop}(h:∃a,∃b,∃c,∃d,p1 a b c d/\p2 a b c d/\p3 a b c d/\p4 a b c d/\p5 a b c d)(k:∀a,∀b,∀c,∀d,p1 a b c d->p2 a b c d->p3 a b c d->p4 a b c d->p5 a b c d->P):P:=h.elim λa q0=>q0.elim λb q1=>q1.elim λc q2=>q2.elim λd q3=>q3.elim λh1 q4=>q4.elim λh2 q5=>q5.elim λh3 q6=>q6.elim λh4 h5=>k a b c d h1 h2 h3 h4 h5
def Co{tb:Type}{p1:ta->Prop}{p2:ta->tb->Prop}{p3:ta->tb->Prop}{P:Prop}(h:∃a,p1 a/\∃b,p2 a b/\p3 a b)(k:∀a,p1 a->∀b,p2 a b->p3 a b->P):P:=h.elim λa q0=>q0.elim λh1 q1=>q1.elim λb q2=>q2.elim λh2 h3=>k a h1 b h2 h3
variable {te:Type}
def Gv{tb tf:Type}{p1:ta->tb->tc->td->te->tf->Prop}{p2:ta->tb->tc->td->te->tf->Prop}{p3:ta->tb->tc->td->te->tf->Prop}{P:Prop}(h:∃a,∃b,∃c,∃d,∃e,∃f,p1 a b c d e f/\p2 a b c d e f/\p3 a b c d e f)(k:∀a,∀b,∀c,∀d,∀e,∀f,p1 a b c d e f->p2 a b c d e f->p3 a b c d e f->P):P:=h.elim λa q0=>q0.elim λb q1=>q1.elim λc q2=>q2.elim λd q3=>q3.elim λe q4=>q4.elim λf q5=>q5.elim λh1 q6=>q6.elim λh2 h3=>k a b c d e f h1 h2 h3
def Q6{tb:Type}{p1:ta->Prop}{p2:ta->tb->tc->Prop}{P:Prop}(h:∃a,p1 a/\∃b,∃c,p2 a b c)(k:∀a,p1 a->∀b,∀c,p2 a b c->P):P:=h.elim λa q0=>q0.elim λh1 q1=>q1.elim λb q2=>q2.elim λc h2=>k a h1 b c h2
def Gx{tb:Type}{p1:ta->tb->tc->td->Prop}{p2:ta->tb->tc->td->Prop}{p3:ta->tb->tc->td->Prop}{p4:ta->tb->tc->td->Prop}{P:Prop}(h:∃a,∃b,∃c,∃d,p1 a b c d/\p2 a b c d/\p3 a b c d/\p4 a b c d)(k:∀a,∀b,∀c,∀d,p1 a b c d->p2 a b c d->p3 a b c d->p4 a b c d->P):P:=h.elim λa q0=>q0.elim λb q1=>q1.elim λc q2=>q2.elim λd q3=>q3.elim λh1 q4=>q4.elim λh2 q5=>q5.elim λh3 h4=>k a b c d h1 h2 h3 h4
def Q8{tb:Type}{p1:Prop}{p2:ta->tb->Prop}{p3:ta->tb->Prop}{P:Prop}(h:p1/\∃a,∃b,p2 a b/\p3 a b)(k:p1->∀a,∀b,p2 a b->p3 a b->P):P:=h.elim λh1 q0=>q0.elim λa q1=>q1.elim λb q2=>q2.elim λh2 h3=>k h1 a b h2 h3
def Q9{p1:Prop}{p2:ta->Prop}{p3:ta->Prop}{P:Prop}(h:p1/\∃a,p2 a/\p3 a)(k:p1->∀a,p2 a->p3 a->P):P:=h.elim λh1 q0=>q0.elim λa q1=>q1.elim λh2 h3=>k h1 a h2 h3
def Q4{tb tf tg:Type}{p1:ta->tb->tc->td->te->tf->tg->Prop}{P:Prop}(h:∃a,∃b,∃c,∃d,∃e,∃f,∃g,p1 a b c d e f g)(k:∀a,∀b,∀c,∀d,∀e,∀f,∀g,p1 a b c d e f g->P):P:=h.elim λa q0=>q0.elim λb q1=>q1.elim λc q2=>q2.elim λd q3=>q3.elim λe q4=>q4.elim λf q5=>q5.elim λg h1=>k a b c d e f g h1
def Q5{tb:Type}{p1:ta->tb->tc->td->te->Prop}{P:Prop}(h:∃a,∃b,∃c,∃d,∃e,p1 a b c d e)(k:∀a,∀b,∀c,∀d,∀e,p1 a b c d e->P):P:=h.elim λa q0=>q0.elim λb q1=>q1.elim λc q2=>q2.elim λd q3=>q3.elim λe h1=>k a b c d e h1
def Q7{p1:ta->Prop}{p2:ta->Prop}{p3:ta->Prop}{p4:ta->Prop}{p5:ta->Prop}{P:Prop}(h:∃a,p1 a/\p2 a/\p3 a/\p4 a/\p5 a)(k:∀a,p1 a->p2 a->p3 a->p4 a->p5 a->P):P:=h.elim λa q0=>q0.elim λh1 q1=>q1.elim λh2 q2=>q2.elim λh3 q3=>q3.elim λh4 h5=>k a h1 h2 h3 h4 h5
variable {x:Option α}
def ub{β:Type}{f:α->Option β}{y:β}{P:Prop}(e:x.bind f=some y)(k:∀a,x=some a->f a=some y->P):P:=aq (Option.bind_eq_some_iff.mp e) k
def um{β:Type}{f:α->β}{y:β}{P:Prop}(e:x.map f=some y)(k:∀a,x=some a->f a=y->P):P:=aq (wj.mp e) k
def tu{p:Prop}(h:false=true):p:=absurd h qE
def us{a b:Bool}{P:Prop}(h:(a&&b)=true)(k:a=true->b=true->P):P:=by cases a<;>cases b<;>first|exact k rfl rfl|cases h
variable {a1 a2 a3:Bool}
def jx{P:Prop}(h:((a1&&a2)&&a3)=true)(k:a1=true->a2=true->a3=true->P):P:=us h λq2 p3=>us q2 λq1 p2=>k q1 p2 p3
variable {a4:Bool}
def pH{P:Prop}(h:(((a1&&a2)&&a3)&&a4)=true)(k:a1=true->a2=true->a3=true->a4=true->P):P:=us h λq3 p4=>us q3 λq2 p3=>us q2 λq1 p2=>k q1 p2 p3 p4
variable {a5:Bool}
def Cm{P:Prop}(h:((((a1&&a2)&&a3)&&a4)&&a5)=true)(k:a1=true->a2=true->a3=true->a4=true->a5=true->P):P:=us h λq4 p5=>us q4 λq3 p4=>us q3 λq2 p3=>us q2 λq1 p2=>k q1 p2 p3 p4 p5
variable {a6:Bool}
def zo{P:Prop}(h:(((((a1&&a2)&&a3)&&a4)&&a5)&&a6)=true)(k:a1=true->a2=true->a3=true->a4=true->a5=true->a6=true->P):P:=us h λq5 p6=>us q5 λq4 p5=>us q4 λq3 p4=>us q3 λq2 p3=>us q2 λq1 p2=>k q1 p2 p3 p4 p5 p6
variable {a7:Bool}
def QW{P:Prop}(h:((((((a1&&a2)&&a3)&&a4)&&a5)&&a6)&&a7)=true)(k:a1=true->a2=true->a3=true->a4=true->a5=true->a6=true->a7=true->P):P:=us h λq6 p7=>us q6 λq5 p6=>us q5 λq4 p5=>us q4 λq3 p4=>us q3 λq2 p3=>us q2 λq1 p2=>k q1 p2 p3 p4 p5 p6 p7
variable {a8:Bool}
def Gs{P:Prop}(h:(((((((a1&&a2)&&a3)&&a4)&&a5)&&a6)&&a7)&&a8)=true)(k:a1=true->a2=true->a3=true->a4=true->a5=true->a6=true->a7=true->a8=true->P):P:=us h λq7 p8=>us q7 λq6 p7=>us q6 λq5 p6=>us q5 λq4 p5=>us q4 λq3 p4=>us q3 λq2 p3=>us q2 λq1 p2=>k q1 p2 p3 p4 p5 p6 p7 p8
def QY{a9 yS:Bool}{P:Prop}(h:(((((((((a1&&a2)&&a3)&&a4)&&a5)&&a6)&&a7)&&a8)&&a9)&&yS)=true)(k:a1=true->a2=true->a3=true->a4=true->a5=true->a6=true->a7=true->a8=true->a9=true->yS=true->P):P:=us h λq9 uX=>us q9 λq8 p9=>us q8 λq7 p8=>us q7 λq6 p7=>us q6 λq5 p6=>us q5 λq4 p5=>us q4 λq3 p4=>us q3 λq2 p3=>us q2 λq1 p2=>k q1 p2 p3 p4 p5 p6 p7 p8 p9 uX
def QX{a9 yS Nh Ng Nf:Bool}{P:Prop}(h:((((((((((((a1&&a2)&&a3)&&a4)&&a5)&&a6)&&a7)&&a8)&&a9)&&yS)&&Nh)&&Ng)&&Nf)=true)(k:a1=true->a2=true->a3=true->a4=true->a5=true->a6=true->a7=true->a8=true->a9=true->yS=true->Nh=true->Ng=true->Nf=true->P):P:=us h λUW Ah=>us UW λUX Ai=>us UX λUY Aj=>us UY λq9 uX=>us q9 λq8 p9=>us q8 λq7 p8=>us q7 λq6 p7=>us q6 λq5 p6=>us q5 λq4 p5=>us q4 λq3 p4=>us q3 λq2 p3=>us q2 λq1 p2=>k q1 p2 p3 p4 p5 p6 p7 p8 p9 uX Aj Ai Ah
def QU{P:Prop}(h:(a1&&(a2&&a3))=true)(k:a1=true->a2=true->a3=true->P):P:=us h λp1 q1=>us q1 λp2 q2=>k p1 p2 q2
def QT{P:Prop}(h:(a1&&(a2&&(a3&&(a4&&a5))))=true)(k:a1=true->a2=true->a3=true->a4=true->a5=true->P):P:=us h λp1 q1=>us q1 λp2 q2=>us q2 λp3 q3=>us q3 λp4 q4=>k p1 p2 p3 p4 q4
def ur{b:Bool}{y:α}{P:Prop}(h:aI b x=some y)(k:b=true->x=some y->P):P:=by
 cases b
 ·exact aR h
 ·exact k rfl h
def jI{a1 a2:Prop}(P:Prop)(e:P=(a1/\a2))(h1:a1)(h2:a2):P:=e▸⟨h1,h2⟩
def lJ{a1 a2 a3:Prop}(P:Prop)(e:P=(a1/\a2/\a3))(h1:a1)(h2:a2)(h3:a3):P:=e▸⟨h1,h2,h3⟩
def fq{a1 a2 a3 a4:Prop}(P:Prop)(e:P=(a1/\a2/\a3/\a4))(h1:a1)(h2:a2)(h3:a3)(h4:a4):P:=e▸⟨h1,h2,h3,h4⟩
def lI{a1 a2 a3 a4 a5:Prop}(P:Prop)(e:P=(a1/\a2/\a3/\a4/\a5))(h1:a1)(h2:a2)(h3:a3)(h4:a4)(h5:a5):P:=e▸⟨h1,h2,h3,h4,h5⟩
def Dt{a1 a2 a3 a4 a5 a6 a7:Prop}(P:Prop)(e:P=(a1/\a2/\a3/\a4/\a5/\a6/\a7))(h1:a1)(h2:a2)(h3:a3)(h4:a4)(h5:a5)(h6:a6)(h7:a7):P:=e▸⟨h1,h2,h3,h4,h5,h6,h7⟩
def I4{a1 a2 a3 a4 a5 a6 a7 a8:Prop}(P:Prop)(e:P=(a1/\a2/\a3/\a4/\a5/\a6/\a7/\a8))(h1:a1)(h2:a2)(h3:a3)(h4:a4)(h5:a5)(h6:a6)(h7:a7)(h8:a8):P:=e▸⟨h1,h2,h3,h4,h5,h6,h7,h8⟩
section
def Kz(x:Nat):x<=2*(x/2)+1:=by omega
def rb{a b:Nat}(h:2*a+1<=2*b+2):a<=b:=by omega
variable {x0 x1 x2 x3 x4 x5 x6 x7 x8 x9 x10 x11:Nat}
def Ga(h0:x0≥x1)(h1:x0<x1+1):x0=x1:=ic (Nat.le_of_lt_succ h1) h0
def F9(h0:x2<x1)(h1:x0<x2):x0<x1:=nP h1 h0
def PQ(h0:x0<x1):x0-1<x1:=cU (nU ..) h0
def FZ(h0:x1<x0):x0-1<x0:=ay [x0,x1,x0-1] [(La (Lv 2) (Lk 1),Lv 0)] (La (Lv 2) (Lk 1)) (Lv 0) rfl (aW (pn (ay [x0,x1,x0-1] [(La (Lv 1) (Lk 1),Lv 0)] (Lk 1) (Lv 0) rfl h0)))
def FY(h0:x0≥x1-1)(h1:x0<x1):x0=x1-1:=ic (ay [x0,x1,x1-1] [(La (Lv 0) (Lk 1),Lv 1),(Lv 1,La (Lv 2) (Lk 1))] (Lv 0) (Lv 2) rfl h1 (Nat.le_add_of_sub_le (bf (x1-1)))) (ay [x0,x1,x1-1] [(Lv 2,Lv 0)] (Lv 2) (Lv 0) rfl h0)
def Ca(h0:x0+(x2+1)=x1):x0<x1:=cU (eE ..) (aW h0)
def qM(h0:x0+(x2+1)=x1):x0-1<x1:=ay [x0,x1,x2,x0-1] [(La (Lv 0) (La (Lv 2) (Lk 1)),Lv 1),(Lv 3,Lv 0)] (La (Lv 3) (Lk 1)) (Lv 1) rfl (aW h0) (nU (x0) (1))
def B9(h0:x0+(x1+1)=x2):x0+1+x1=x2:=ic (ay [x0,x1,x2] [(La (Lv 0) (La (Lv 1) (Lk 1)),Lv 2)] (La (La (Lv 0) (Lk 1)) (Lv 1)) (Lv 2) rfl (aW h0)) (ay [x0,x1,x2] [(Lv 2,La (Lv 0) (La (Lv 1) (Lk 1)))] (Lv 2) (La (La (Lv 0) (Lk 1)) (Lv 1)) rfl (aW h0.symm))
def OL(h0:1<=x0):x0≠x0-1:=dM (Nat.sub_lt h0 Nat.one_pos)
def OF(h0:x0+1<=x1):x0<=x1:=aM (eE ..) h0
def Qm(h0:x2+(x3+1)=x1)(h1:x0<x2):x0<x1:=ay [x0,x1,x2,x3] [(La (Lv 2) (La (Lv 3) (Lk 1)),Lv 1),(La (Lv 0) (Lk 1),Lv 2)] (La (Lv 0) (Lk 1)) (Lv 1) rfl (aW h0) h1
def Qi(h0:2<=x0):x0≠x0-1:=dM (ay [x0,x0-1] [(La (Lv 1) (Lk 1),Lv 0)] (La (Lv 1) (Lk 1)) (Lv 0) rfl (aW (pn (ay [x0,x0-1] [(Lk 2,Lv 0)] (Lk 1) (Lv 0) rfl h0))))
def P7(h0:x1<x0)(h1:x2<x1):x0-1-x1<x0-1-x2:=by omega
def PX(h0:x2<x0):x0-1-x1<x0:=ay [x0,x1,x2,x0-1-x1,x0-1] [(Lv 3,Lv 4),(La (Lv 4) (Lk 1),Lv 0)] (La (Lv 3) (Lk 1)) (Lv 0) rfl (nU (x0-1) (x1)) (aW (pn (ay [x0,x1,x2,x0-1-x1,x0-1] [(La (Lv 2) (Lk 1),Lv 0)] (Lk 1) (Lv 0) rfl h0)))
def PW(h0:2<=x0):1+(x0-1)=x0:=ic (ay [x0,x0-1] [(La (Lv 1) (Lk 1),Lv 0)] (La (Lk 1) (Lv 1)) (Lv 0) rfl (aW (pn (ay [x0,x0-1] [(Lk 2,Lv 0)] (Lk 1) (Lv 0) rfl h0)))) (ay [x0,x0-1] [(Lv 0,La (Lv 1) (Lk 1))] (Lv 0) (La (Lk 1) (Lv 1)) rfl (Nat.le_add_of_sub_le (bf (x0-1))))
def PV(h0:x0<1)(h1:x1<x0):False:=Nat.not_succ_le_zero 0 (ay [x0,x1] [(La (Lv 0) (Lk 1),Lk 1),(La (Lv 1) (Lk 1),Lv 0)] (Lk 1) (Lk 0) rfl h0 h1)
def PU(h0:2<=x0):0<x0:=aM (i4 ..) h0
def PT(h0:x0<=x1)(h1:2<=x1):x0-1<x1:=by omega
def PS(h0:x0>1):0<x0-1:=Nat.sub_pos_of_lt h0
def PR(h0:1<=x0):x0-1<x0:=Nat.sub_lt h0 Nat.one_pos
def PO(h0:¬x0>1)(h1:1<=x0):x0=1:=ic (Nat.le_of_not_lt h0) h1
def PN(h0:2<=x0):2+(x0-(1+1))=x0:=Nat.add_sub_cancel' h0
def PM(h0:x1<2)(h1:x0<x1):x0=0:=ic (ay [x0,x1] [(La (Lv 1) (Lk 1),Lk 2),(La (Lv 0) (Lk 1),Lv 1)] (Lv 0) (Lk 0) rfl h0 h1) (ay [x0,x1] [] (Lk 0) (Lv 0) rfl)
def PL(h0:x0<2)(h1:x1<x0):x0=1:=ic (ay [x0,x1] [(La (Lv 0) (Lk 1),Lk 2)] (Lv 0) (Lk 1) rfl h0) (ay [x0,x1] [(La (Lv 1) (Lk 1),Lv 0)] (Lk 1) (Lv 0) rfl h1)
def F3(h0:x0<=x1):x0+(x1-x0)=x1:=Nat.add_sub_cancel' h0
def PK(h0:x1<=x0+0)(h1:x0<=x1):x0=x1:=ic h1 h0
def PJ(h0:x0≥x1)(h1:x0<=x1):x0=x1:=ic h1 h0
def wD(h0:x1<=x3)(h1:x0<=x1)(h2:x3<x2):(x0+x1)/2<x2:=rb (ay [x0,x1,x2,x3,(x0+x1)/2] [(Lm 2 (Lv 1),Lm 2 (Lv 3)),(Lv 0,Lv 1),(Lm 2 (La (Lv 3) (Lk 1)),Lm 2 (Lv 2)),(Lm 2 (Lv 4),La (Lv 0) (Lv 1))] (La (Lm 2 (La (Lv 4) (Lk 1))) (Lk 1)) (La (Lm 2 (Lv 2)) (Lk 2)) rfl (mD 2 h0) h1 (mD 2 h2) (uo (x0+x1) 2))
def PI(h0:x0<=x1):x0<=(x0+x1)/2:=rb (ay [x0,x1,(x0+x1)/2] [(Lv 0,Lv 1),(La (Lv 0) (Lv 1),La (Lm 2 (Lv 2)) (Lk 1))] (La (Lm 2 (Lv 0)) (Lk 1)) (La (Lm 2 (Lv 2)) (Lk 2)) rfl h0 (Kz (x0+x1)))
def PH(h0:x1<=x2)(h1:x0<=x1):(x0+x1)/2<=x2:=rb (ay [x0,x1,x2,(x0+x1)/2] [(Lm 2 (Lv 1),Lm 2 (Lv 2)),(Lv 0,Lv 1),(Lm 2 (Lv 3),La (Lv 0) (Lv 1))] (La (Lm 2 (Lv 3)) (Lk 1)) (La (Lm 2 (Lv 2)) (Lk 2)) rfl (mD 2 h0) h1 (uo (x0+x1) 2))
def PG(h0:x1<=x0+(x2+1)):(x0+x1)/2<=x0+x2:=rb (ay [x0,x1,x2,(x0+x1)/2] [(Lv 1,La (Lv 0) (La (Lv 2) (Lk 1))),(Lm 2 (Lv 3),La (Lv 0) (Lv 1))] (La (Lm 2 (Lv 3)) (Lk 1)) (La (Lm 2 (La (Lv 0) (Lv 2))) (Lk 2)) rfl h0 (uo (x0+x1) 2))
def PF(h0:x0<x2)(h1:x2<x1):x0<x1:=nP h0 h1
def PE(h0:(x1+x2)/2≥x0)(h1:(x1+x2)/2<=x0):x0=(x1+x2)/2:=ic h0 h1
def PC(h0:¬x1≥x2)(h1:x2<=x0):x0≠(x1+x2)/2:=dM (rb (ay [x0,x1,x2,(x1+x2)/2] [(La (Lv 1) (Lk 1),Lv 2),(Lm 2 (Lv 2),Lm 2 (Lv 0)),(Lm 2 (Lv 3),La (Lv 1) (Lv 2))] (La (Lm 2 (La (Lv 3) (Lk 1))) (Lk 1)) (La (Lm 2 (Lv 0)) (Lk 2)) rfl (Nat.lt_of_not_le h0) (mD 2 h1) (uo (x1+x2) 2)))
def PB(h0:¬x0≥x1):(x0+x1)/2+1<=x1:=rb (ay [x0,x1,(x0+x1)/2] [(La (Lv 0) (Lk 1),Lv 1),(Lm 2 (Lv 2),La (Lv 0) (Lv 1))] (La (Lm 2 (La (Lv 2) (Lk 1))) (Lk 1)) (La (Lm 2 (Lv 1)) (Lk 2)) rfl (Nat.lt_of_not_le h0) (uo (x0+x1) 2))
def PA(h0:x0<=x1+(x2+1)):x0<=(x1+x0)/2+1+x2:=rb (ay [x0,x1,x2,(x1+x0)/2] [(Lv 0,La (Lv 1) (La (Lv 2) (Lk 1))),(La (Lv 1) (Lv 0),La (Lm 2 (Lv 3)) (Lk 1))] (La (Lm 2 (Lv 0)) (Lk 1)) (La (Lm 2 (La (La (Lv 3) (Lk 1)) (Lv 2))) (Lk 2)) rfl h0 (Kz (x1+x0)))
def Pz(h0:x0<(x2+x3)/2+1)(h1:x3<=x4)(h2:x2<=x3)(h3:x4<x1):x0<x1:=by omega
def Py(h0:¬x0≥x1)(h1:x1<=x2):(x0+x1)/2<x2:=rb (ay [x0,x1,x2,(x0+x1)/2] [(La (Lv 0) (Lk 1),Lv 1),(Lm 2 (Lv 1),Lm 2 (Lv 2)),(Lm 2 (Lv 3),La (Lv 0) (Lv 1))] (La (Lm 2 (La (Lv 3) (Lk 1))) (Lk 1)) (La (Lm 2 (Lv 2)) (Lk 2)) rfl (Nat.lt_of_not_le h0) (mD 2 h1) (uo (x0+x1) 2))
def Px(h0:x0≥(x1+x2)/2)(h1:x0<(x1+x2)/2+1):x0=(x1+x2)/2:=ic (Nat.le_of_lt_succ h1) h0
def Pw:x0<=0+x0:=i4 ..
def Pu(h0:x0<x1)(h1:x1<=x0):False:=Nat.not_succ_le_zero 0 (ay [x0,x1] [(La (Lv 0) (Lk 1),Lv 1),(Lv 1,Lv 0)] (Lk 1) (Lk 0) rfl h0 h1)
def Pt(h0:x1<=x0):x0-(x0-x1)=x1:=by omega
def Pq(h0:x2=x1)(h1:x0<x2):¬x0=x1:=dU (aM h1 (aW h0))
def Pp(h0:x3=x0)(h1:x1<x3):¬(x0<x1/\x1<=x2):=by omega
def Po(h0:x2=x1)(h1:x0<x2):x0<x1:=aM h1 (aW h0)
def Pn(h0:x0<x1/\x1<=x2):x0<=x1-1:=Nat.le_sub_one_of_lt h0.1
def Cb(h0:x0<x1+1)(h1:x2<x0):x0-1<x1:=ay [x0,x1,x2,x0-1] [(La (Lv 0) (Lk 1),La (Lv 1) (Lk 1)),(La (Lv 3) (Lk 1),Lv 0)] (La (Lv 3) (Lk 1)) (Lv 1) rfl h0 (aW (pn (ay [x0,x1,x2,x0-1] [(La (Lv 2) (Lk 1),Lv 0)] (Lk 1) (Lv 0) rfl h1)))
def Pl(h0:¬x0=x2)(h1:x2<x1/\x1<=x3)(h2:x0<x1):x0-1<x1-1:=by omega
def Pk(h0:¬(x2<x0/\x0<=x3))(h1:¬x0=x2)(h2:x2<x1/\x1<=x3)(h3:x0<x1):x0<x1-1:=by omega
def Pj(h0:¬(x1<x2/\x2<=x3))(h1:x2<x3+1)(h2:x0<x2):¬x0=x1:=by omega
def Pg(h0:¬(x0<x3/\x3<=x2))(h1:x3<x2+1)(h2:x1<x3):¬(x0<x1/\x1<=x2):=by omega
def Pf(h0:¬(x2<x0/\x0<=x1))(h1:¬x0=x2)(h2:x0<x1+1)(h3:x2<=x1):x0<x1:=by omega
def Pe(h0:¬x0<x1)(h1:x0<=x1):x0=x1:=ic h1 (Nat.le_of_not_lt h0)
def Pd(h0:x2=x3+(x4+(x5+x6)))(h1:x0=x7+(x4+(x5+1+x6)))(h2:x7<=x3+1)(h3:x2+2*(x1+1)<4000):x0+2*x1<4000:=ay [x0,x1,x2,x3,x4,x5,x6,x7] [(La (Lv 3) (La (Lv 4) (La (Lv 5) (Lv 6))),Lv 2),(Lv 0,La (Lv 7) (La (Lv 4) (La (La (Lv 5) (Lk 1)) (Lv 6)))),(Lv 7,La (Lv 3) (Lk 1)),(La (La (Lv 2) (Lm 2 (La (Lv 1) (Lk 1)))) (Lk 1),Lk 4000)] (La (La (Lv 0) (Lm 2 (Lv 1))) (Lk 1)) (Lk 4000) rfl (aW h0.symm) (aW h1) h2 h3
def Pc(h0:x5=x4+1)(h1:x6<=x1+1)(h2:x0<=x6+x2/\x3=x5+x2):x0<=x1+(x2+1)/\x3=x4+(x2+1):=⟨ay [x0,x1,x2,x3,x4,x5,x6] [(Lv 6,La (Lv 1) (Lk 1)),(Lv 0,La (Lv 6) (Lv 2))] (Lv 0) (La (Lv 1) (La (Lv 2) (Lk 1))) rfl h1 h2.1,ic (ay [x0,x1,x2,x3,x4,x5,x6] [(Lv 5,La (Lv 4) (Lk 1)),(Lv 3,La (Lv 5) (Lv 2))] (Lv 3) (La (Lv 4) (La (Lv 2) (Lk 1))) rfl (aW h0) (aW h2.2)) (ay [x0,x1,x2,x3,x4,x5,x6] [(La (Lv 4) (Lk 1),Lv 5),(La (Lv 5) (Lv 2),Lv 3)] (La (Lv 4) (La (Lv 2) (Lk 1))) (Lv 3) rfl (aW h0.symm) (aW h2.2.symm))⟩
def Pb(h0:x1=x0+1+(x2+(x3+x4)))(h1:x1+8*(x5+1)<3000):x0<=3000:=ay [x0,x1,x2,x3,x4,x5] [(La (La (Lv 0) (Lk 1)) (La (Lv 2) (La (Lv 3) (Lv 4))),Lv 1),(La (La (Lv 1) (Lm 8 (La (Lv 5) (Lk 1)))) (Lk 1),Lk 3000)] (Lv 0) (Lk 3000) rfl (aW h0.symm) h1
def Pa(h0:x1=x2+1+(x3+(x4+x0)))(h1:x1+8*(x5+1)<3000):x0<3000:=ay [x0,x1,x2,x3,x4,x5] [(La (La (Lv 2) (Lk 1)) (La (Lv 3) (La (Lv 4) (Lv 0))),Lv 1),(La (La (Lv 1) (Lm 8 (La (Lv 5) (Lk 1)))) (Lk 1),Lk 3000)] (La (Lv 0) (Lk 1)) (Lk 3000) rfl (aW h0.symm) h1
def O9(h0:x0=x5)(h1:x6=x7+1+(x1+(x2+x3)))(h2:x5=x7)(h3:x6+8*(x4+1)<3000):x0+(x1+(x2+(x3+1)))+8*x4<3000:=ay [x0,x1,x2,x3,x4,x5,x6,x7] [(Lv 0,Lv 5),(La (La (Lv 7) (Lk 1)) (La (Lv 1) (La (Lv 2) (Lv 3))),Lv 6),(Lv 5,Lv 7),(La (La (Lv 6) (Lm 8 (La (Lv 4) (Lk 1)))) (Lk 1),Lk 3000)] (La (La (La (Lv 0) (La (Lv 1) (La (Lv 2) (La (Lv 3) (Lk 1))))) (Lm 8 (Lv 4))) (Lk 1)) (Lk 3000) rfl (aW h0) (aW h1.symm) (aW h2) h3
def O8(h0:x0=x5)(h1:x6=x7+1+(x1+(x2+x3)))(h2:x5=x7)(h3:x6+8*(x4+1)<3000):x0+(x1+(x2+x3))+8*x4<3000:=ay [x0,x1,x2,x3,x4,x5,x6,x7] [(Lv 0,Lv 5),(La (La (Lv 7) (Lk 1)) (La (Lv 1) (La (Lv 2) (Lv 3))),Lv 6),(Lv 5,Lv 7),(La (La (Lv 6) (Lm 8 (La (Lv 4) (Lk 1)))) (Lk 1),Lk 3000)] (La (La (La (Lv 0) (La (Lv 1) (La (Lv 2) (Lv 3)))) (Lm 8 (Lv 4))) (Lk 1)) (Lk 3000) rfl (aW h0) (aW h1.symm) (aW h2) h3
def O7(h0:x1=x2+1+(x0+(x3+x4)))(h1:x1+8*(x5+1)<3000):x0<3000:=ay [x0,x1,x2,x3,x4,x5] [(La (La (Lv 2) (Lk 1)) (La (Lv 0) (La (Lv 3) (Lv 4))),Lv 1),(La (La (Lv 1) (Lm 8 (La (Lv 5) (Lk 1)))) (Lk 1),Lk 3000)] (La (Lv 0) (Lk 1)) (Lk 3000) rfl (aW h0.symm) h1
def O6(h0:x0=x5)(h1:x6=x7+1+(x1+(x2+x3)))(h2:x5=x7)(h3:x6+8*(x8+1)<3000)(h4:x4=3):x0+(x1+1+(x2+x3))+2*x4<4000:=by omega
def O5(h0:x0<=x5+x6/\x2=x7+x6)(h1:x5=x8)(h2:x9=x10+1+(x1+(x7+x3)))(h3:x8=x10)(h4:x9+8*(x4+1)<3000)(h5:x6=3):x0+(x1+1+(x2+x3))+8*x4<3000:=by omega
def O4(h0:x0+(x1+1)<900):x0<4000:=ay [x0,x1] [(La (La (Lv 0) (La (Lv 1) (Lk 1))) (Lk 1),Lk 900)] (La (Lv 0) (Lk 1)) (Lk 4000) rfl h0
def O3(h0:x0<=x1)(h1:x1<4000):1+x0<=4000:=ay [x0,x1] [(Lv 0,Lv 1),(La (Lv 1) (Lk 1),Lk 4000)] (La (Lk 1) (Lv 0)) (Lk 4000) rfl h0 h1
def O2(h0:x0<=x1)(h1:x1+(x2+1)<900):x0<4000:=ay [x0,x1,x2] [(Lv 0,Lv 1),(La (La (Lv 1) (La (Lv 2) (Lk 1))) (Lk 1),Lk 900)] (La (Lv 0) (Lk 1)) (Lk 4000) rfl h0 h1
def O1(h0:x0<x2)(h1:x2+2<=x1):x0<x1:=ay [x0,x1,x2] [(La (Lv 0) (Lk 1),Lv 2),(La (Lv 2) (Lk 2),Lv 1)] (La (Lv 0) (Lk 1)) (Lv 1) rfl h0 h1
def O0(h0:x0+2<=x1):x0+2<=x1+x2:=aM h0 (eE ..)
def OZ(h0:x0+(x1+1)<900):x0+1+x1<900:=cU (aW (qK ..)) h0
def OY(h0:x1+x0<900):x0<900:=aM (i4 ..) h0
def OX(h0:x1<4000)(h1:x0<4000):0+(x0+(3*x1+0))<20000:=ay [x0,x1] [(Lm 3 (La (Lv 1) (Lk 1)),Lm 3 (Lk 4000)),(La (Lv 0) (Lk 1),Lk 4000)] (La (La (Lk 0) (La (Lv 0) (La (Lm 3 (Lv 1)) (Lk 0)))) (Lk 1)) (Lk 20000) rfl (mD 3 h0) h1
def OW(h0:x0=x1)(h1:x1<4000):1+x0<=4000:=ay [x0,x1] [(Lv 0,Lv 1),(La (Lv 1) (Lk 1),Lk 4000)] (La (Lk 1) (Lv 0)) (Lk 4000) rfl (aW h0) h1
def OV(h0:x3+2<=x1)(h1:x0<=x3):x0<=x1+x2:=ay [x0,x1,x2,x3] [(La (Lv 3) (Lk 2),Lv 1),(Lv 0,Lv 3)] (Lv 0) (La (Lv 1) (Lv 2)) rfl h0 h1
def OU(h0:x0<x2)(h1:x3+2<=x1)(h2:x2<=x3):x0<x1:=ay [x0,x1,x2,x3] [(La (Lv 0) (Lk 1),Lv 2),(La (Lv 3) (Lk 2),Lv 1),(Lv 2,Lv 3)] (La (Lv 0) (Lk 1)) (Lv 1) rfl h0 h1 h2
def OT(h0:x1<=x3)(h1:800000<=x2)(h2:x0+4000*(x4+1)<=800000)(h3:x3<4000):x0+x1<=x2:=ay [x0,x1,x2,x3,x4] [(Lv 1,Lv 3),(Lk 800000,Lv 2),(La (Lv 0) (Lm 4000 (La (Lv 4) (Lk 1))),Lk 800000),(La (Lv 3) (Lk 1),Lk 4000)] (La (Lv 0) (Lv 1)) (Lv 2) rfl h0 h1 h2 h3
def OS(h0:x1<=x3)(h1:x0+4000*(x2+1)<=800000)(h2:x3<4000):x0+x1+4000*x2<=800000:=ay [x0,x1,x2,x3] [(Lv 1,Lv 3),(La (Lv 0) (Lm 4000 (La (Lv 2) (Lk 1))),Lk 800000),(La (Lv 3) (Lk 1),Lk 4000)] (La (La (Lv 0) (Lv 1)) (Lm 4000 (Lv 2))) (Lk 800000) rfl h0 h1 h2
def OQ(h0:x0=x2)(h1:x2=x3+(x4+1))(h2:x1<x3):x0≠x1:=dM (ay [x0,x1,x2,x3,x4] [(Lv 2,Lv 0),(La (Lv 3) (La (Lv 4) (Lk 1)),Lv 2),(La (Lv 1) (Lk 1),Lv 3)] (La (Lv 1) (Lk 1)) (Lv 0) rfl (aW h0.symm) (aW h1.symm) h2)
def OP(h0:x1=x0+(x2+1)):x0≠x1:=dU (cU (eE ..) (aW h0.symm))
def OO(h0:x0+(x1+1)<x2):x0+1+x1<x2:=cU (aW (qK ..)) h0
def ON(h0:x0<=x2+1):x0+x1<=x2+(x1+1):=ay [x0,x1,x2] [(Lv 0,La (Lv 2) (Lk 1))] (La (Lv 0) (Lv 1)) (La (Lv 2) (La (Lv 1) (Lk 1))) rfl h0
def OM(h0:x1<=3)(h1:x0+(3*x3+3)<x2):x0+x1<x2:=ay [x0,x1,x2,x3] [(Lv 1,Lk 3),(La (La (Lv 0) (La (Lm 3 (Lv 3)) (Lk 3))) (Lk 1),Lv 2)] (La (La (Lv 0) (Lv 1)) (Lk 1)) (Lv 2) rfl h0 h1
def OK(h0:x0<=x3+x4)(h1:x4<=3)(h2:x3+(3*x1+3)<x2):x0+3*x1<x2:=ay [x0,x1,x2,x3,x4] [(Lv 0,La (Lv 3) (Lv 4)),(Lv 4,Lk 3),(La (La (Lv 3) (La (Lm 3 (Lv 1)) (Lk 3))) (Lk 1),Lv 2)] (La (La (Lv 0) (Lm 3 (Lv 1))) (Lk 1)) (Lv 2) rfl h0 h1 h2
def OJ(h0:x0<=x2+x3)(h1:x3<=3):x0+3*x1<=x2+3*(x1+1):=ay [x0,x1,x2,x3] [(Lv 0,La (Lv 2) (Lv 3)),(Lv 3,Lk 3)] (La (Lv 0) (Lm 3 (Lv 1))) (La (Lv 2) (Lm 3 (La (Lv 1) (Lk 1)))) rfl h0 h1
def OI(h0:x1<=3)(h1:x0+(9*x3+9)<x2):x0+3*x1<x2:=ay [x0,x1,x2,x3] [(Lm 3 (Lv 1),Lm 3 (Lk 3)),(La (La (Lv 0) (La (Lm 9 (Lv 3)) (Lk 9))) (Lk 1),Lv 2)] (La (La (Lv 0) (Lm 3 (Lv 1))) (Lk 1)) (Lv 2) rfl (mD 3 h0) h1
def OH(h0:x0<=x3+3*x4)(h1:x4<=3)(h2:x3+(9*x1+9)<x2):x0+9*x1<x2:=ay [x0,x1,x2,x3,x4] [(Lv 0,La (Lv 3) (Lm 3 (Lv 4))),(Lm 3 (Lv 4),Lm 3 (Lk 3)),(La (La (Lv 3) (La (Lm 9 (Lv 1)) (Lk 9))) (Lk 1),Lv 2)] (La (La (Lv 0) (Lm 9 (Lv 1))) (Lk 1)) (Lv 2) rfl h0 (mD 3 h1) h2
def OG(h0:x0<1000):0+9*x0<9001:=ay [x0] [(Lm 9 (La (Lv 0) (Lk 1)),Lm 9 (Lk 1000))] (La (La (Lk 0) (Lm 9 (Lv 0))) (Lk 1)) (Lk 9001) rfl (mD 9 h0)
def uA(h0:x0+(x1+1)<100000):x0+x1<100000:=Nat.lt_of_succ_lt h0
def FX(h0:100000<=x1)(h1:x0+(x2+1)<100000):x0<x1:=ay [x0,x1,x2] [(Lk 100000,Lv 1),(La (La (Lv 0) (La (Lv 2) (Lk 1))) (Lk 1),Lk 100000)] (La (Lv 0) (Lk 1)) (Lv 1) rfl h0 h1
def FW(h0:x0+(x1+1)<100000):x0+1+x1<100000:=cU (aW (qK ..)) h0
def uz:x0+x1<=x0+(x1+1):=i3 _
def B8:x0+1+x1<=x0+(x1+1):=aW (qK ..)
def OE(h0:50000<=x1)(h1:x0+(x2+1)<50000):x0<x1:=ay [x0,x1,x2] [(Lk 50000,Lv 1),(La (La (Lv 0) (La (Lv 2) (Lk 1))) (Lk 1),Lk 50000)] (La (Lv 0) (Lk 1)) (Lv 1) rfl h0 h1
def FV(h0:x1<64)(h1:x0+64*(x2+1)<50000):x0+x1<100000:=ay [x0,x1,x2] [(La (Lv 1) (Lk 1),Lk 64),(La (La (Lv 0) (Lm 64 (La (Lv 2) (Lk 1)))) (Lk 1),Lk 50000)] (La (La (Lv 0) (Lv 1)) (Lk 1)) (Lk 100000) rfl h0 h1
def OD(h0:x0<64)(h1:50000<=x1):x0<x1:=ay [x0,x1] [(La (Lv 0) (Lk 1),Lk 64),(Lk 50000,Lv 1)] (La (Lv 0) (Lk 1)) (Lv 1) rfl h0 h1
def OC(h0:x1+2<x0):x0≠x1:=dM (cU (eE ..) h0)
def OB(h0:x1+2<x0):x0≠x1+1:=dM (Nat.lt_of_succ_lt h0)
def OA(h0:x1+2<x0):x0≠x1+2:=dM (h0)
def Oz(h0:x0<=x1)(h1:x1<64):x0<1000:=aM (cU h0 h1) (by decide)
def Oy(h0:x0<=x2+x3/\x4<=x5+x3)(h1:x3<64)(h2:x2+64*(x1+1)<50000):x0+64*x1<50000:=ay [x0,x1,x2,x3,x4,x5] [(Lv 0,La (Lv 2) (Lv 3)),(La (Lv 3) (Lk 1),Lk 64),(La (La (Lv 2) (Lm 64 (La (Lv 1) (Lk 1)))) (Lk 1),Lk 50000)] (La (La (Lv 0) (Lm 64 (Lv 1))) (Lk 1)) (Lk 50000) rfl h0.1 h1 h2
def Ox(h0:x2<=x3+x4/\x0<=x5+x4)(h1:x4<64)(h2:x5+64*(x1+1)<50000):x0+64*x1<50000:=ay [x0,x1,x2,x3,x4,x5] [(Lv 0,La (Lv 5) (Lv 4)),(La (Lv 4) (Lk 1),Lk 64),(La (La (Lv 5) (Lm 64 (La (Lv 1) (Lk 1)))) (Lk 1),Lk 50000)] (La (La (Lv 0) (Lm 64 (Lv 1))) (Lk 1)) (Lk 50000) rfl h0.2 h1 h2
def Ow(h0:x0+(x1+1)<50000):x0+1+x1<50000:=cU (aW (qK ..)) h0
def F8(h0:x0<x2)(h1:x1=x2+1):x0≠x1:=dU (nP h0 (aW h1.symm))
def F7(h0:x0<x2)(h1:x1=x2+1):x0≠x1+1:=dU (ay [x0,x1,x2] [(La (Lv 0) (Lk 1),Lv 2),(La (Lv 2) (Lk 1),Lv 1)] (La (Lv 0) (Lk 1)) (La (Lv 1) (Lk 1)) rfl h0 (aW h1.symm))
def F6(h0:x0<x2)(h1:x1=x2+1):x0≠x1+2:=dU (ay [x0,x1,x2] [(La (Lv 0) (Lk 1),Lv 2),(La (Lv 2) (Lk 1),Lv 1)] (La (Lv 0) (Lk 1)) (La (Lv 1) (Lk 2)) rfl h0 (aW h1.symm))
def Ql(h0:x1=x0+1):x0≠x1:=dU ((aW h0.symm))
def Qk(h0:x1=x0+1):x0≠x1+1:=dU (aM (aW h0.symm) (eE ..))
def Qj(h0:x1=x0+1):x0≠x1+2:=dU (aM (aW h0.symm) (eE ..))
def Qh(h0:x2<=x1)(h1:x2=x0+1):x0<=x1:=nR (aM (aW h1.symm) h0)
def Qg(h0:x0=0+1*x1)(h1:x1<1+x2%4):x0<=40:=ay [x0,x1,x2,x2%4] [(Lv 0,La (Lk 0) (Lm 1 (Lv 1))),(La (Lv 1) (Lk 1),La (Lk 1) (Lv 3)),(La (Lv 3) (Lk 1),Lk 4)] (Lv 0) (Lk 40) rfl (aW h0) h1 (k9 (x2) (by decide))
def Qf(h0:x0+(x1+1)<=100):x0+1<=101:=ay [x0,x1] [(La (Lv 0) (La (Lv 1) (Lk 1)),Lk 100)] (La (Lv 0) (Lk 1)) (Lk 101) rfl h0
def Qe(h0:x0+(x1+1)<=100):x0+1+x1<=100:=aM (aW (qK ..)) h0
def Qd:1+x0%4+4<=100:=ay [x0,x0%4] [(La (Lv 1) (Lk 1),Lk 4)] (La (La (Lk 1) (Lv 1)) (Lk 4)) (Lk 100) rfl (k9 (x0) (by decide))
def Qc(h0:x0+(x1+1)<1000):x0<1000:=cU (eE ..) h0
def Qb(h0:x0+(x1+1)<1000):x0+1+x1<1000:=cU (aW (qK ..)) h0
def Qa(h0:x1<=x0)(h1:x1=1+x2%4):1<=x0:=ay [x0,x1,x2,x2%4] [(Lv 1,Lv 0),(La (Lk 1) (Lv 3),Lv 1)] (Lk 1) (Lv 0) rfl h0 (aW h1.symm)
def P9(h0:x0<=x1+4)(h1:x1=1+x2%4):x0<=10:=ay [x0,x1,x2,x2%4] [(Lv 0,La (Lv 1) (Lk 4)),(Lv 1,La (Lk 1) (Lv 3)),(La (Lv 3) (Lk 1),Lk 4)] (Lv 0) (Lk 10) rfl h0 (aW h1) (k9 (x2) (by decide))
def P8:x0+1+x1=x0+(x1+1):=qK ..
def P6:1<=1+x0%15:=eE ..
def P5:1+x0%15<16:=ay [x0,x0%15] [(La (Lv 1) (Lk 1),Lk 15)] (La (La (Lk 1) (Lv 1)) (Lk 1)) (Lk 16) rfl (k9 (x0) (by decide))
def P4:1<=1+(x0+1+x0/15%14)%15:=eE ..
def P2:1+(x0+1+x0/15%14)%15<16:=ay [x0,(x0+1+x0/15%14)%15] [(La (Lv 1) (Lk 1),Lk 15)] (La (La (Lk 1) (Lv 1)) (Lk 1)) (Lk 16) rfl (k9 (x0+1+x0/15%14) (by decide))
def F5(h0:0+(x0+(x1+x2))<3000):x0<4000:=ay [x0,x1,x2] [(La (La (Lk 0) (La (Lv 0) (La (Lv 1) (Lv 2)))) (Lk 1),Lk 3000)] (La (Lv 0) (Lk 1)) (Lk 4000) rfl h0
def F4(h0:0+(x1+(x0+x2))<3000):x0<4000:=ay [x0,x1,x2] [(La (La (Lk 0) (La (Lv 1) (La (Lv 0) (Lv 2)))) (Lk 1),Lk 3000)] (La (Lv 0) (Lk 1)) (Lk 4000) rfl h0
def P1(h0:x1=x2)(h1:x0<=3)(h2:x2<=3):x0+(1+(x1+0))<4000:=ay [x0,x1,x2] [(Lv 1,Lv 2),(Lv 0,Lk 3),(Lv 2,Lk 3)] (La (La (Lv 0) (La (Lk 1) (La (Lv 1) (Lk 0)))) (Lk 1)) (Lk 4000) rfl (aW h0) h1 h2
def PZ(h0:x0<=3):x0+(1+(3+0))+800<3000:=ay [x0] [(Lv 0,Lk 3)] (La (La (La (Lv 0) (La (Lk 1) (La (Lk 3) (Lk 0)))) (Lk 800)) (Lk 1)) (Lk 3000) rfl h0
def PY:1+x0%15≠1+(x0+1+x0/15%14)%15:=by omega
end
end
section
open PySem.W PyProof.Rows
section
structure Cf where
 prog:Program
 w:World
 h₀:Heap
 P:bP
 gl:List Str
 nm:List Str
 gv:Nat->Option Value
 clsAt:Nat->Addr
 fr:Frag
abbrev Ph:=List (Addr×Addr)
noncomputable def Cf.enc(V:Cf)(l:List Nat):List Nat:=l.map λc=>65+c
noncomputable def Cf.tx(V:Cf)(l:List Nat):Str:=⟨(V.enc l).toArray⟩
def cS(V:Cf)(l:List Nat):Prop:=(l.length<=az)/\(∀c∈l,c<16)
section
variable {b1 b2}(x:cS b1 b2)
def cS.mk:=jI (cS b1 b2) rfl
def cS.len:=x.1
def cS.sign:=x.2
end
def Sq(J:Ph)(a:Addr)(l:List AV)(I R:Prop):Prop:=(I)/\(a∉J.map (·.2))/\(R)/\(l.length<=az)
section
variable {b1 b2 b3 b4 b5}(x:Sq b1 b2 b3 b4 b5)
def Sq.mk:=fq (Sq b1 b2 b3 b4 b5) rfl
def Sq.at_:=x.1
def Sq.out:=x.2.1
def Sq.all:=x.2.2.1
def Sq.len:=x.2.2.2
end
def nH(J:Ph)(h:Heap)(n:Nat)(b a d:Addr)(o:Obj):Prop:=(J[n]?=some (a,d))/\(h.get? b=some o)/\(o.cls=.type "method-wrapper")/\(o.data=.fields #[.builtin "list_iterator.__next__",.ref a])/\(b∉J.map (·.2))
section
variable {b1 b2 b3 b4 b5 b6 b7}(x:nH b1 b2 b3 b4 b5 b6 b7)
def nH.mk:=lI (nH b1 b2 b3 b4 b5 b6 b7) rfl
def nH.ph:=x.1
def nH.get:=x.2.1
def nH.cls:=x.2.2.1
def nH.data:=x.2.2.2.1
def nH.out:=x.2.2.2.2
end
mutual
noncomputable def VR(V:Cf)(J:Ph)(h:Heap)(v:Value):AV->Prop
 |.none=>v=.none
 |.bool b=>v=.bool b
 |.int i=>∃t,v=.int i t
 |.str l=>∃t,v=.str (V.tx l) t/\cS V l
 |.cE l=>∃b t,v=.bytes b t/\b.toList.map UInt8.toNat=V.enc l/\cS V l
 |.tup l=>∃a items n,v=.ref a/\Sq J a l (IsT h a (List.toArray items) n) (aQ V J h items l)
 |.lst l=>∃a items n,v=.ref a/\Sq J a l (IsL h a (List.toArray items) n) (aQ V J h items l)
 |.dF x y z=>∃a t u w,v=.ref a/\IsRange h a x y z t u w/\a∉J.map (·.2)/\oy x y z=true
 |.ref n=>∃a d,v=.ref a/\J[n]?=some (a,d)
 |.glob k=>V.gv k=some v
 |.cP n=>∃b a d o,v=.ref b/\nH J h n b a d o
 |.vals n=>∃b a d,v=.ref b/\J[n]?=some (a,d)/\h.IsValuesView b a/\b∉J.map (·.2)
 |.uY=>∃x t,v=.str x t
noncomputable def aQ(V:Cf)(J:Ph)(h:Heap)(vs:List Value):List AV->Prop
 |[]=>vs=[]
 |d::ds=>∃v r,vs=v::r/\VR V J h v d/\aQ V J h r ds
end
variable {V:Cf}{J:Ph}{h:Heap}
def VR.lit(i:Int)(t:Tok):VR V J h (.int i t) (.int i):=⟨t,rfl⟩
def VR.bool(b:Bool):VR V J h (.bool b) (.bool b):=rfl
def VR.none:VR V J h .none .none:=rfl
def VR.str{l:List Nat}{t:Tok}(o:cS V l):VR V J h (.str (V.tx l) t) (.str l):=⟨t,rfl,o⟩
variable {n:Nat}{a:Addr}
def VR.ref{d:Addr}(e:J[n]?=some (a,d)):VR V J h (.ref a) (.ref n):=⟨a,d,rfl,e⟩
variable {items:List Value}
def VR.tup{l:List AV}(x:Sq J a l (IsT h a (List.toArray items) n) (aQ V J h items l)):VR V J h (.ref a) (.tup l):=⟨a,items,n,rfl,x⟩
def VR.lst{l:List AV}(x:Sq J a l (IsL h a (List.toArray items) n) (aQ V J h items l)):VR V J h (.ref a) (.lst l):=⟨a,items,n,rfl,x⟩
def aQ.nil:aQ V J h [] []:=rfl
def aQ.cons{v:Value}{d:AV}{vs:List Value}{ds:List AV}(x:VR V J h v d)(r:aQ V J h vs ds):aQ V J h (v::vs) (d::ds):=⟨v,vs,rfl,x,r⟩
theorem aQ.length:∀{ds:List AV} {vs:List Value},aQ V J h vs ds->vs.length=ds.length:=by
 intro ds
 induction ds with
 |nil=>exact λx=>congrArg List.length x
 |cons _ _ ih=>exact λq=>bB q λO O e O r=>e▸congrArg (·+1) (ih r)
theorem aQ.append:∀{ds:List AV} {vs:List Value} {jV:List Value} {vP:List AV},aQ V J h vs ds->aQ V J h jV vP->aQ V J h (vs++jV) (ds++vP):=by
 intro ds
 induction ds with
 |nil=>intro _ _ _ x y;cases x;exact y
 |cons _ _ ih=>exact λq y=>bB q λO O e x r=>e▸.cons x (ih r y)
theorem aQ.take:∀{ds:List AV} {vs:List Value},aQ V J h vs ds->∀n:Nat,aQ V J h (vs.take n) (ds.take n)
 |[],_,x,n=>by cases x;rw[List.take_nil,List.take_nil];exact .nil
 |_::_,_,x,0=>.nil
 |_::_,_,q,n+1=>bB q λO O e x r=>e▸.cons x (r.take n)
theorem aQ.drop:∀{ds:List AV} {vs:List Value},aQ V J h vs ds->∀n:Nat,aQ V J h (vs.drop n) (ds.drop n)
 |[],_,x,n=>by cases x;rw[List.drop_nil,List.drop_nil];exact .nil
 |_::_,_,x,0=>x
 |_::_,_,q,n+1=>bB q λO O e x r=>e▸r.drop n
theorem cQ{α:Type}:∀(l:List α) (n:Nat),ae l n=l[n]?:=by
 intro l
 induction l with
 |nil=>intro _;exact rfl
 |cons _ r ih=>
  intro t_;cases t_ with
  |zero=>exact rfl
  |succ n=>exact ih n
theorem sL{α:Type}(y:α):∀(l:List α) (n:Nat),ai l y n=l.set n y:=by
 intro l
 induction l with
 |nil=>intro _;exact rfl
 |cons x r ih=>
  intro t_;cases t_ with
  |zero=>exact rfl
  |succ n=>exact congrArg (x::·) (ih n)
theorem aQ.get:∀{ds:List AV} {vs:List Value},aQ V J h vs ds->∀{i:Nat} {d:AV},ds[i]?=some d->∃v,vs[i]?=some v/\VR V J h v d:=by
 intro ds
 induction ds with
 |nil=>exact λO O O e=>aR e
 |cons _ _ ih=>
  intro _ k i _ e;cases i with
  |zero=>exact bB k λv O q x O=>⟨v,q▸rfl,sj e▸x⟩
  |succ i=>exact bB k λO O q O r=>q▸ih r (i:=i) e
theorem aQ.set:∀{ds:List AV} {vs:List Value},aQ V J h vs ds->∀(n:Nat) {v:Value} {d:AV},VR V J h v d->aQ V J h (vs.set n v) (ds.set n d):=by
 intro ds
 induction ds with
 |nil=>intro _ x n _ _ _;cases x;exact .nil
 |cons _ _ ih=>
  intro _ q n _ _ y;cases n with
  |zero=>exact bB q λO O e x r=>e▸.cons y r
  |succ n=>exact bB q λO O e x r=>e▸.cons x (ih r n y)
noncomputable def vq(T:String):Bool:=T=="list_iterator"||T=="tuple_iterator"||T=="range_iterator"||T=="dict_keyiterator"||T=="dict_valueiterator"||T=="bytes_iterator"||T=="str_ascii_iterator"
structure kh(o:Obj):Prop where
 it:∃T vs,o.cls=.type T/\vq T=true/\o.data=.fields vs
noncomputable def AP(T:String):Bool:=T=="traceback"||T=="StopIteration"
def ki(o:Obj):Prop:=(∃vs,o.data=.fields vs)/\(∀T,o.cls=.type T->AP T=true)
section
variable {b1}(x:ki b1)
def ki.mk:=jI (ki b1) rfl
def ki.data:=x.1
def ki.cls:=x.2
end
def cN(h:Heap)(a:Addr):Prop:=∃o,h.get? a=some o
def jH(ha:h.objs.size<=a):¬ cN h a:=λ⟨_,e⟩=>absurd (fy e) (hZ.mpr ha)
def iQ(o:Obj):Prop:=∃es n,o.data=.dict es n
def jv(h':Heap)(a:Addr)(o:Obj):Prop:=h'.get? a=some o\/(iQ o/\∃sl,h'.get? a=some {o with slots:=sl})
structure dD(X:List Addr)(J:Ph)(h h':Heap):Prop where
 keep:∀a o,h.get? a=some o->a∉J.map (·.2)->a∉X->jv h' a o
def oW(o:Obj):Prop:=iQ o\/(∃v,o.data=.cell v)\/kh o\/ki o
variable {o:Obj}
def oW.slots(sl:Array (Option Value))(x:oW o):oW {o with slots:=sl}:=by
 rcases x with k|k|k|k
 ·exact .inl k
 ·exact .inr (.inl k)
 ·exact .inr (.inr (.inl ⟨k.it⟩))
 ·exact .inr (.inr (.inr (ki.mk k.data k.cls)))
def d3(X:List Addr)(h:Heap):Prop:=∀a∈X,∃o,h.get? a=some o/\oW o
def iF(o:Obj):Prop:=(¬ iQ o)/\(∀v,o.data≠.cell v)/\(∀T,o.cls=.type T->vq T=false/\AP T=false)/\((∃T,o.cls=.type T)\/∀vs,o.data≠.fields vs)
section
variable {b1}(x:iF b1)
def iF.mk:=fq (iF b1) rfl
def iF.dct:=x.1
def iF.nE:=x.2.1
def iF.it:=x.2.2.1
def iF.fl:=x.2.2.2
end
def iF.own(f:iF o):¬ oW o:=λk=>by
 rcases k with k|⟨v,k⟩|⟨T,vs,k1,k2,k3⟩|⟨⟨vs,k1⟩,k2⟩
 ·exact f.dct k
 ·exact f.nE v k
 ·have:=(f.it T k1).1;rw[k2] at this;cases this
 ·rcases f.fl with⟨T,h⟩|h
  ·have:=(f.it T h).2;rw[k2 T h] at this;cases this
  ·exact h vs k1
def iF.ty{T:String}{dct:Option Addr}{dt:Data}{sl:Array (Option Value)}(hT:(vq T||AP T)=false)(hd:∀es n,dt≠.dict es n)(hc:∀v,dt≠.cell v):iF {cls:=.type T,dict:=dct,data:=dt,slots:=sl}:=(iF.mk (λ⟨es,n,h⟩=>hd es n h) hc (λT' h'=>by cases h';simpa using hT) (.inl ⟨T,rfl⟩))
def iF.mk'{T:String}(ht:o.cls=.type T)(hT:(vq T||AP T)=false)(hd:∀es n,o.data≠.dict es n)(hc:∀v,o.data≠.cell v):iF o:=(iF.mk (λ⟨es,n,h⟩=>hd es n h) hc (λT' h'=>by rw[ht] at h';cases h';simpa using hT) (.inl ⟨T,ht⟩))
def dD.refl(X:List Addr)(J:Ph)(h:Heap):dD X J h h:=⟨λO O e O O=>.inl e⟩
def dD.get{X:List Addr}{h':Heap}(E:dD X J h h')(hX:d3 X h)(e:h.get? a=some o)(hφ:a∉J.map (·.2))(hc:iF o):h'.get? a=some o:=by
 have hx:a∉X:=λhm=>by refine aq (hX a hm) λo' e' k=>?_;rw[e] at e';cases e';exact hc.own k
 rcases E.keep a o e hφ hx with k|⟨k,_⟩
 ·exact k
 ·exact absurd k hc.dct
structure Gr(J φ':Ph)(h:Heap):Prop where
 pre:∃r,φ'=J++r/\∀p∈r,¬ cN h p.2
def Gr.refl(J:Ph)(h:Heap):Gr J J h:=⟨[],by simp,by simp⟩
def Gr.get{φ':Ph}(g:Gr J φ' h){p:Addr×Addr}(e:J[n]?=some p):φ'[n]?=some p:=by refine aq g.pre λr aa O=>?_;subst aa;rw[wk (mG.mp e).1];exact e
def Gr.not{φ':Ph}(g:Gr J φ' h)(hl:cN h a)(ha:a∉J.map (·.2)):a∉φ'.map (·.2):=by refine aq g.pre λr aa hr=>?_;subst aa;simp only[eB,ko,not_or];refine⟨ha,λhm=>?_⟩;refine aq (bW.mp hm) λp hp aa=>?_;subst aa;exact hr p hp hl
def Gr.trans{φ' wh:Ph}{h':Heap}(g:Gr J φ' h)(g':Gr φ' wh h')(hl:∀a,cN h a->cN h' a):Gr J wh h:=by
 refine aq g.pre λr aa hr=>?_;subst aa;refine aq g'.pre λr' aa Yx=>?_;subst aa;refine⟨r++r',by simp,λp hp=>?_⟩;rcases ko.mp hp with k|k
 ·exact hr p k
 ·exact λo=>Yx p k (hl _ o)
def Gr.push(J:Ph)(p:Addr×Addr)(k:¬ cN h p.2):Gr J (J++[p]) h:=⟨[p],rfl,by simpa using k⟩
section
variable {φ':Ph}{h':Heap}{X:List Addr}
mutual
theorem VR.mono(E:dD X J h h')(hX:d3 X h)(g:Gr J φ' h){d:AV}{v:Value}(q:VR V J h v d):VR V φ' h' v d:=by
 cases d with
 |tup=>exact cO q λa items n e s=>⟨a,items,n,e,Sq.mk (E.get hX s.at_ s.out (.ty (by decide) (by simp) (by simp))) (g.not ⟨_,s.at_⟩ s.out) (aQ.mono E hX g s.all) s.len⟩
 |lst=>exact cO q λa items n e s=>⟨a,items,n,e,Sq.mk (E.get hX s.at_ s.out (.ty (by decide) (by simp) (by simp))) (g.not ⟨_,s.at_⟩ s.out) (aQ.mono E hX g s.all) s.len⟩
 |dF=>exact Gx q λa t u w e s o z=>⟨a,t,u,w,e,E.get hX s o (.ty (by decide) (by simp) (by simp)),g.not ⟨_,s⟩ o,z⟩
 |ref=>exact dN q λa d e s=>⟨a,d,e,g.get s⟩
 |cP=>exact mQ q λb a d o e s=>⟨b,a,d,o,e,nH.mk (g.get s.ph) (E.get hX s.get s.out (.mk' s.cls (by decide) (by rw[s.data];simp) (by rw[s.data];simp))) s.cls s.data (g.not ⟨_,s.get⟩ s.out)⟩
 |vals=>exact qR q λb a d e p k out=>gP k λo e1 hc hd=>⟨b,a,d,e,g.get p,⟨o,E.get hX e1 out (.mk' hc (by decide) (by rw[hd];simp) (by rw[hd];simp)),hc,hd⟩,g.not ⟨_,e1⟩ out⟩
 |_=>exact q
theorem aQ.mono(E:dD X J h h')(hX:d3 X h)(g:Gr J φ' h){ds:List AV}{vs:List Value}(q:aQ V J h vs ds):aQ V φ' h' vs ds:=by
 cases ds with
 |nil=>exact q
 |cons=>exact bB q λv r e x rr=>⟨v,r,e,VR.mono E hX g x,aQ.mono E hX g rr⟩
end
end
end
section
variable {V:Cf}{J φ':Ph}{h h':Heap}{X:List Addr}
def GA{a b:List Nat}(h:V.tx a=V.tx b):a=b:=by
 have h:(V.enc a).toArray=(V.enc b).toArray:=congrArg Str.cps h;have h:V.enc a=V.enc b:=by simpa using h
 unfold Cf.enc at h;exact List.map_inj_right (λx y e=>Nat.add_left_cancel e) |>.mp h
noncomputable def kS(V:Cf):KeyKind V.prog V.w (List Nat) where
 is k:=Value.isStrOf (V.tx k)
 hash k:=(PySem.strKind V.prog V.w).hash (V.tx k)
 inj v a b h1 h2:=GA (Value.isStrOf_inj v _ _ h1 h2)
 byValue _ v h:=(PySem.strKind V.prog V.w).byValue _ v h
 pyHash h:=(PySem.strKind V.prog V.w).pyHash h
 eqBool {_ _ _ a b _ _ _} h1 h2 h:=(PySem.strKind V.prog V.w).eqBool h1 h2 (by have:decide (V.tx a=V.tx b)=decide (a=b):=decide_eq_decide.mpr ⟨GA,λe=>by rw[e]⟩;rw[this];exact h)
 «strs» _ x t v h:=(PySem.strKind V.prog V.w).strs _ x t v h
def DR(V:Cf)(J:Ph)(h:Heap)(e:DictEntry)(p:List Nat×AV):Prop:=((kS V).is p.1 e.key=true)/\(e.hash=(kS V).hash p.1)/\(VR V J h e.val p.2)/\(cS V p.1)
section
variable {b1 b2 b3 b4 b5}(x:DR b1 b2 b3 b4 b5)
def DR.mk:=fq (DR b1 b2 b3 b4 b5) rfl
def DR.key:=x.1
def DR.hash:=x.2.1
def DR.val:=x.2.2.1
def DR.ok:=x.2.2.2
end
def hO(V:Cf)(J:Ph)(h:Heap):List (List Nat×AV)->List DictEntry->Prop
 |[]=>λes=>es=[]
 |p::ps=>λes=>∃e r,es=e::r/\DR V J h e p/\hO V J h ps r
def DR.mono(E:dD X J h h')(hX:d3 X h)(g:Gr J φ' h){e:DictEntry}{p:List Nat×AV}(x:DR V J h e p):DR V φ' h' e p:=(DR.mk x.key x.hash (x.val.mono E hX g) x.ok)
theorem hO.mono(E:dD X J h h')(hX:d3 X h)(g:Gr J φ' h):∀{ps:List (List Nat×AV)} {es:List DictEntry},hO V J h ps es->hO V φ' h' ps es:=by
 intro ps
 induction ps with
 |nil=>exact λx=>x
 |cons _ _ ih=>exact λk=>bB k λe r q x rr=>⟨e,r,q,x.mono E hX g,ih rr⟩
structure Nj(V:Cf)(h:Heap)(a:Addr)(l:List (List Nat)):Prop where
 set:h.SetOf (strKind V.prog V.w) a (λx=>l.any λy=>V.tx y==x) l.length
def t8(V:Cf)(J:Ph)(h:Heap)(m:Str->Option Value)(names:List Nat)(fs:List (Option AV)):Prop:=(∀y val,m y=some val->∃a∈names,V.nm[a]?=some y)/\(∀(j a:Nat),names[j]?=some a->fs[j]?=some Option.none->∃x,V.nm[a]?=some x/\m x=Option.none)/\(∀(j a:Nat) (v:AV),names[j]?=some a->fs[j]?=some (Option.some v)->∃x val,V.nm[a]?=Option.some x/\m x=Option.some val/\VR V J h val v)
def t8.name{V J h m names fs}(hh:t8 V J h m names fs):=hh.1
def t8.none{V J h m names fs}(hh:t8 V J h m names fs):=hh.2.1
def t8.some{V J h m names fs}(hh:t8 V J h m names fs):=hh.2.2
def aeM(V:Cf)(J:Ph)(h:Heap)(sl:Array (Option Value))(fs:List (Option AV)):Prop:=∀(j:Nat) (v:AV),fs[j]?=some (some v)->∃val,sl[j]?=some (some val)/\VR V J h val v
def mq(V:Cf)(J:Ph)(h:Heap)(p:Addr×Addr)(c:Nat)(fs:List (Option AV))(dx:Addr)(sl:Array (Option Value)):Prop:=(p.1=p.2)/\(h.get? p.2=some {cls:=.ref (V.clsAt c),dict:=some dx,data:=.plain,slots:=sl})/\((dx,dx)∈J)/\(aeM V J h sl fs)
section
variable {b1 b2 b3 b4 b5 b6 b7 b8}(x:mq b1 b2 b3 b4 b5 b6 b7 b8)
def mq.mk:=fq (mq b1 b2 b3 b4 b5 b6 b7 b8) rfl
def mq.eq:=x.1
def mq.get:=x.2.1
def mq.dct:=x.2.2.1
def mq.fld:=x.2.2.2
end
def mu(V:Cf)(J:Ph)(h:Heap)(p:Addr×Addr)(c:Nat)(names:List Nat)(fs:List (Option AV))(m:Str->Option Value):Prop:=(p.1∉J.map (·.2))/\(h.get? p.1=some (instObj (V.clsAt c) p.2))/\(h.Ns1 p.2 m)/\(t8 V J h m names fs)
section
variable {b1 b2 b3 b4 b5 b6 b7 b8}(x:mu b1 b2 b3 b4 b5 b6 b7 b8)
def mu.mk:=fq (mu b1 b2 b3 b4 b5 b6 b7 b8) rfl
def mu.out:=x.1
def mu.get:=x.2.1
def mu.ns:=x.2.2.1
def mu.fld:=x.2.2.2
end
def kY(V:Cf)(J:Ph)(h:Heap)(p:Addr×Addr)(c:Nat)(fs:List (Option AV))(cd:CD):Prop:=(V.P.gt[c]?=some (.cl cd))/\(fs.length=cd.bD.length)/\(cd.slots=true->∃dx sl,mq V J h p c fs dx sl)/\(cd.slots=false->∃m,mu V J h p c cd.bD fs m)
section
variable {b1 b2 b3 b4 b5 b6 b7}(x:kY b1 b2 b3 b4 b5 b6 b7)
def kY.mk:=fq (kY b1 b2 b3 b4 b5 b6 b7) rfl
def kY.cls:=x.1
def kY.len:=x.2.1
def kY.slo:=x.2.2.1
def kY.dct:=x.2.2.2
end
def mn(V:Cf)(J:Ph)(h:Heap)(p:Addr×Addr)(l:List AV)(items:List Value)(n:Nat):Prop:=(p.1=p.2)/\(IsL h p.2 items.toArray n)/\(aQ V J h items l)/\(l.length<=az)
section
variable {b1 b2 b3 b4 b5 b6 b7}(x:mn b1 b2 b3 b4 b5 b6 b7)
def mn.mk:=fq (mn b1 b2 b3 b4 b5 b6 b7) rfl
def mn.eq:=x.1
def mn.at_:=x.2.1
def mn.all:=x.2.2.1
def mn.len:=x.2.2.2
end
def iG(V:Cf)(J:Ph)(h:Heap)(p:Addr×Addr)(ep:Nat)(l:List (List Nat×AV))(es:List DictEntry):Prop:=(p.1=p.2)/\(h.get? p.2=some {cls:=.type "dict",data:=.dict es.toArray ep})/\(hO V J h l es)/\(l.length<=az)/\((l.map (·.1)).Nodup)
section
variable {b1 b2 b3 b4 b5 b6 b7}(x:iG b1 b2 b3 b4 b5 b6 b7)
def iG.mk:=lI (iG b1 b2 b3 b4 b5 b6 b7) rfl
def iG.eq:=x.1
def iG.at_:=x.2.1
def iG.all:=x.2.2.1
def iG.len:=x.2.2.2.1
def iG.nodup:=x.2.2.2.2
end
def oZ(J:Ph)(h:Heap)(p:Addr×Addr)(n i:Nat)(q:Addr×Addr)(sl:Array (Option Value)):Prop:=(p.1=p.2)/\(J[n]?=some q)/\(h.get? p.2=some {cls:=.type "list_iterator",dict:=none,data:=.fields #[.ref q.1,.int i 0],slots:=sl})
section
variable {b1 b2 b3 b4 b5 b6 b7}(x:oZ b1 b2 b3 b4 b5 b6 b7)
def oZ.mk:=lJ (oZ b1 b2 b3 b4 b5 b6 b7) rfl
def oZ.eq:=x.1
def oZ.ph:=x.2.1
def oZ.get:=x.2.2
end
def OR(V:Cf)(J:Ph)(h:Heap)(p:Addr×Addr)(o:AO):Prop:=match o with
 |.list l=>∃items n,mn V J h p l items n
 |.dict ep l=>∃es,iG V J h p ep l es
 |.set l=>p.1=p.2/\Nj V h p.2 l
 |.inst c fs=>∃cd,kY V J h p c fs cd
 |.iter n i=>∃q sl,oZ J h p n i q sl
 |.dead=>True
variable {p:Addr×Addr}
def Gr.mem(g:Gr J φ' h)(e:p∈J):p∈φ':=by refine aq g.pre λr aa O=>?_;subst aa;exact nT _ e
def Zx(C d:Addr):iF (instObj C d):=(iF.mk (λ⟨_,_,h⟩=>(nomatch h)) (λO h=>(nomatch h)) (λO h=>(nomatch h)) (.inr λO h=>(nomatch h)))
def OR.mono(E:dD X J h h')(hX:d3 X h)(g:Gr J φ' h)(hp:h'.get? p.2=h.get? p.2):∀{o:AO},OR V J h p o->OR V φ' h' p o
 |.list l,q=>ct q λitems n x=>⟨items,n,mn.mk x.eq (hp.trans x.at_) (x.all.mono E hX g) x.len⟩
 |.dict ep l,q=>ue q λes x=>⟨es,iG.mk x.eq (hp.trans x.at_) (x.all.mono E hX g) x.len x.nodup⟩
 |.set l,q=>⟨q.1,⟨mQ q.2.set λo es ep t e r=>⟨o,es,ep,t,hp.trans e,r⟩⟩⟩
 |.inst c fs,q=>ue q λcd x=>⟨cd,kY.mk x.cls x.len (λhs=>ct (x.slo hs) λdx sl y=>⟨dx,sl,mq.mk y.eq (hp.trans y.get) (g.mem y.dct) (λj v z=>aq (y.fld j v z) λval y x=>⟨val,y,x.mono E hX g⟩)⟩) (
   λhs=>ue (x.dct hs) λm y=>⟨m,mu.mk (g.not ⟨_,y.get⟩ y.out) (E.get hX y.get y.out (Zx _ _)) (cO y.ns λo es n c k=>⟨o,es,n,hp.trans c,k⟩) ⟨
    y.fld.name,y.fld.none,λj a v e1 e2=>bB (y.fld.some j a v e1 e2) λx val a b c=>⟨x,val,a,b,c.mono E hX g⟩⟩⟩)⟩
 |.iter n i,q=>ct q λq sl x=>⟨q,sl,oZ.mk x.eq (g.get x.ph) (hp.trans x.get)⟩
 |.dead,_=>trivial
def aZ(V:Cf)(J:Ph)(H:Hp)(h:Heap):Prop:=(∀a o,V.h₀.get? a=some o->h.get? a=some o)/\(∀p∈J,V.h₀.objs.size<=p.2)/\(∀p∈J,∃o,h.get? p.2=some o)/\((J.map (·.2)).Nodup)/\(J.length=H.length)/\(∃a o,V.h₀.get? a=some o/\a+1=V.h₀.objs.size)/\(∀(n:Nat) (o:AO),H[n]?=some o->∃p,J[n]?=some p/\OR V J h p o)
section
variable {b1 b2 b3 b4}(x:aZ b1 b2 b3 b4)
def aZ.mk:=Dt (aZ b1 b2 b3 b4) rfl
def aZ.keep:=x.1
def aZ.above:=x.2.1
def aZ.live:=x.2.2.1
def aZ.nodup:=x.2.2.2.1
def aZ.len:=x.2.2.2.2.1
def aZ.last:=x.2.2.2.2.2.1
def aZ.obj:=x.2.2.2.2.2.2
end
variable {H:Hp}
def aZ.base(R:aZ V J H h):V.h₀.objs.size<=h.objs.size:=by refine dN R.last λa o e k=>?_;rw[<- k];exact fy (R.keep a o e)
def aZ.at(R:aZ V J H h){n:Nat}{o:AO}(e:H[n]?=some o)(hp:J[n]?=some p):OR V J h p o:=by refine aq (R.obj n o e) λq hq r=>?_;rw[hp] at hq;obtain rfl:=sj hq;exact r
def aZ.out(R:aZ V J H h){b:Addr}(hb:¬ cN h b):b∉J.map (·.2):=λhm=>by refine aq (bW.mp hm) λp hp e=>?_;exact hb (e▸R.live p hp)
def aZ.fresh(R:aZ V J H h){b:Addr}(hb:h.objs.size<=b):b∉J.map (·.2):=R.out (jH hb)
def aZ.mono(R:aZ V J H h)(E:dD X J h h')(hX:d3 X h)(hk:∀a o,V.h₀.get? a=some o->h'.get? a=some o)(hφ:∀p∈J,h'.get? p.2=h.get? p.2):aZ V J H h':=aZ.mk hk R.above (λp hp=>let ⟨o,e⟩:=R.live p hp;⟨o,(hφ p hp).trans e⟩) R.nodup R.len R.last (λn o e=>let ⟨p,hp,r⟩:=R.obj n o e;⟨p,hp,r.mono E hX (Gr.refl _ _) (hφ p (jS hp))⟩)
def d3.nil(h:Heap):d3 [] h:=λO ha=>nomatch ha
def vK{n:Nat}(hp:J[n]?=some p)(hs:Heap.SameBut p.2 h h')(X:List Addr):dD X J h h':=⟨λa o e ha O=>.inl ((hs.2 a λq=>ha (q▸pq (jS hp))).trans e)⟩
def xb{L:Addr}(hs:Heap.SameBut L h h')(hx:cN h' L):∀a,cN h a->cN h' a:=λa ⟨o,e⟩=>by
 by_cases q:a=L
 ·rw[q];exact hx
 ·exact⟨o,(hs.2 a q).trans e⟩
def aZ.put(R:aZ V J H h){n:Nat}{o:AO}(hp:J[n]?=some p)(hs:Heap.SameBut p.2 h h')(ho:OR V J h' p o)(hx:∃o,h'.get? p.2=some o):aZ V J (H.set n o) h':=by
 refine(aZ.mk (λa o e=>(hs.2 a λq=>?_).trans (R.keep a o e)) R.above (λp' tI=>xb hs hx _ (R.live p' tI)) R.nodup (by rw[R.len,List.length_set]) R.last (λm o' e=>?_))
 ·exact absurd (fy e) (hZ.mpr (q▸R.above p (jS hp)))
 ·by_cases hm:n=m
  ·subst hm;rw[uh (by rw[<- R.len];exact(mG.mp hp).1)] at e;obtain rfl:=sj e;exact⟨p,hp,ho⟩
  ·rw[pA hm] at e;refine aq (R.obj m o' e) λp' tI r=>?_;refine⟨p',tI,r.mono (vK hp hs []:dD [] J h h') (d3.nil h) (Gr.refl _ _) (hs.2 _ λq=>hm ?_)⟩;have h1:(J.map (·.2))[n]?=some p.2:=by rw[qD,hp];rfl
   have h2:(J.map (·.2))[m]?=some p.2:=by rw[qD,tI,<- q];rfl
   exact(List.getElem?_inj (mG.mp h1).1 R.nodup).mp (h1.trans h2.symm)
def aZ.push(R:aZ V J H h){o:AO}(hk:∀a o,h.get? a=some o->h'.get? a=some o)
  (h1:h.objs.size<=p.2) (h2:∃o,h'.get? p.2=some o) (hφ:∀p∈J,h'.get? p.2=h.get? p.2) (ho:OR V (J++[p]) h' p o):aZ V (J++[p]) (H++[o]) h':=by
 have g:Gr J (J++[p]) h:=Gr.push J p (jH h1);have mem:∀q∈J++[p],q∈J\/q=p:=λq hq=>by simpa using hq
 refine(aZ.mk (λa o e=>hk a o (R.keep a o e)) (λq hq=>?_) (λq hq=>?_) ?_ (by simp[R.len]) R.last (λm o' e=>?_))
 ·rcases mem q hq with z|rfl
  ·exact R.above q z
  ·exact aM R.base h1
 ·rcases mem q hq with z|rfl
  ·refine ue (R.live q z) λo eo=>?_;exact⟨o,hk _ _ eo⟩
  ·exact h2
 ·rw[eB];refine sm.mpr ⟨R.nodup,by simp,λa ha b hb e=>?_⟩;simp at hb;subst hb e;exact R.fresh h1 ha
 ·by_cases hm:m<H.length
  ·rw[wk hm] at e;refine aq (R.obj m o' e) λq hq r=>?_;exact⟨q,g.get hq,r.mono (⟨λa o e O O=>.inl (hk a o e)⟩:dD [] J h h') (d3.nil h) g (hφ q (jS hq))⟩
  ·have D9:m=H.length:=by have:=(mG.mp e).1;simp at this;exact N3 ‹_› ‹_›
   subst D9;rw[pG (bf _)] at e;simp at e;subst e;exact⟨p,by rw[<- R.len,pG (bf _)];simp,ho⟩
end
section
variable {V:Cf}
structure Cx where
 sc:List (Str×Nat)
 kn:List (Str×NameKind)
structure Fm where
 K:Cx
 A:Around
 env:Env
 X:List Addr
def gn(V:Cf)(G:Fm)(J:Ph)(U:aC)(h:Heap)(x:Str)(k:Nat)(c:Addr)(ov:Option Value):Prop:=(G.env.cells.lookup x=some c)/\(G.env.kindOf x=some .cell\/G.env.kindOf x=some .free)/\(h.IsCell c ov)/\(c≠G.env.locals)/\(c∉J.map (·.2))/\(V.h₀.objs.size<=c)/\(G.K.kn.lookup x=some .cell->c∈G.X/\G.env.kindOf x=some .cell)/\(∀d,U[k]?=some (some d)->∃v,ov=some v/\VR V J h v d)
section
variable {b1 b2 b3 b4 b5 b6 b7 b8 b9}(x:gn b1 b2 b3 b4 b5 b6 b7 b8 b9)
def gn.mk:=I4 (gn b1 b2 b3 b4 b5 b6 b7 b8 b9) rfl
def gn.look:=x.1
def gn.kind:=x.2.1
def gn.cell:=x.2.2.1
def gn.loc:=x.2.2.2.1
def gn.out:=x.2.2.2.2.1
def gn.low:=x.2.2.2.2.2.1
def gn.own:=x.2.2.2.2.2.2.1
def gn.val:=x.2.2.2.2.2.2.2
end
def kg(V:Cf)(G:Fm)(J:Ph)(U:aC)(h:Heap)(m:Str->Option Value):Prop:=(∀x,(∃k,G.K.sc.lookup x=some k)->G.K.kn.lookup x=some .local->G.env.kindOf x=some .local)/\(∀(x:Str) (k:Nat),G.K.sc.lookup x=some k->G.K.kn.lookup x=some .local->∀d,U[k]?=some (some d)->∃v,m x=some v/\VR V J h v d)
section
variable {b1 b2 b3 b4 b5 b6}(x:kg b1 b2 b3 b4 b5 b6)
def kg.mk:=jI (kg b1 b2 b3 b4 b5 b6) rfl
def kg.kind:=x.1
def kg.val:=x.2
end
def bX(V:Cf)(G:Fm)(J:Ph)(U:aC)(h:Heap):Prop:=(G.env.scope.kind=.function)/\(G.env.globals=mainGlobals)/\(G.env.builtins=builtinsNs)/\(d3 G.X h)/\(∀a∈G.X,V.h₀.objs.size<=a)/\(∀a∈G.X,a∉J.map (·.2))/\(G.env.locals∈G.X)/\(∀x:Str,G.K.kn.lookup x=some .globalImplicit->G.env.kindOf x=some .globalImplicit)/\(∃m,h.Ns G.env.locals m/\kg V G J U h m)/\(∀(x:Str) (k:Nat),G.K.sc.lookup x=some k->(G.K.kn.lookup x=some .cell\/G.K.kn.lookup x=some .free)->∃c ov,gn V G J U h x k c ov)/\(∀(x y:Str) (c:Addr),G.env.cells.lookup x=some c->G.env.cells.lookup y=some c->x=y)/\(∀(x y:Str) (k:Nat),G.K.sc.lookup x=some k->G.K.sc.lookup y=some k->x=y)/\(∀(x:Str) (k:Nat),G.K.sc.lookup x=some k->G.K.kn.lookup x=some .local\/G.K.kn.lookup x=some .cell\/G.K.kn.lookup x=some .free)
section
variable {b1 b2 b3 b4 b5}(x:bX b1 b2 b3 b4 b5)
def bX.mk:=λm1 m2 m3 m4 m5 m6 m7 m8 m9 qc qb xS xR=>(⟨m1,m2,m3,m4,m5,m6,m7,m8,m9,qc,qb,xS,xR⟩:bX b1 b2 b3 b4 b5)
def bX.kind:=x.1
def bX.rM:=x.2.1
def bX.rU:=x.2.2.1
def bX.fH:=x.2.2.2.1
def bX.sF:=x.2.2.2.2.1
def bX.qN:=x.2.2.2.2.2.1
def bX.kJ:=x.2.2.2.2.2.2.1
def bX.Ba:=x.2.2.2.2.2.2.2.1
def bX.ns:=x.2.2.2.2.2.2.2.2.1
def bX.nE:=x.2.2.2.2.2.2.2.2.2.1
def bX.apart:=x.2.2.2.2.2.2.2.2.2.2.1
def bX.inj:=x.2.2.2.2.2.2.2.2.2.2.2.1
def bX.zS:=x.2.2.2.2.2.2.2.2.2.2.2.2
end
section
variable {J φ':Ph}{h h':Heap}{X:List Addr}{G:Fm}{U:aC}
def jv.ns{L:Addr}{m:Str->Option Value}(n:h.Ns L m)(k:∀o,h.get? L=some o->jv h' L o):h'.Ns L m:=by
 refine mR n λo es ep e hd r=>?_;clear n;rcases k o e with z|⟨_,sl,z⟩
 ·exact⟨o,es,ep,z,hd,r⟩
 ·exact⟨_,es,ep,z,hd,r⟩
def jv.cell{c:Addr}{v:Option Value}(n:h.IsCell c v)(k:∀o,h.get? c=some o->jv h' c o):h'.IsCell c v:=by
 refine aq n λo e hd=>?_;clear n;rcases k o e with z|⟨_,sl,z⟩
 ·exact⟨o,z,hd⟩
 ·exact⟨_,z,hd⟩
def dD.IS(E:dD [] J h h'):dD X J h h':=⟨λa o e ha O=>E.keep a o e ha (λh=>nomatch h)⟩
def bX.DL(R:bX V G J U h)(E:dD X J h h')(hX:d3 X h)(g:Gr J φ' h)(k:∀a o,(a∈G.X\/(∃v,o.data=.cell v))->h.get? a=some o->a∉J.map (·.2)->jv h' a o):bX V G φ' U h':=by
 refine aq R.ns λm hn hm=>?_;have kx:∀a o,a∈G.X->h.get? a=some o->jv h' a o:=λa o ha e=>k a o (.inl ha) e (R.qN a ha);refine(bX.mk R.kind R.rM R.rU (λa ha=>?_) R.sF (λa ha=>g.not (let ⟨o,e,_⟩:=R.fH a ha;⟨o,e⟩) (R.qN a ha)) R.kJ R.Ba (
  ⟨m,jv.ns hn λo=>kx _ o R.kJ,kg.mk hm.kind (λx j hx hk d hd=>let ⟨v,e,r⟩:=hm.val x j hx hk d hd;⟨v,e,r.mono E hX g⟩)⟩) (λx j hx hk=>?_) R.apart R.inj R.zS)
 ·refine aq (R.fH a ha) λo e w=>?_;rcases kx a o ha e with z|⟨_,sl,z⟩
  ·exact⟨o,z,w⟩
  ·exact⟨_,z,w.slots sl⟩
 ·refine ct (R.nE x j hx hk) λc ov w=>?_;refine aq (id w.cell) λo e KN=>?_;exact⟨c,ov,gn.mk w.look w.kind (jv.cell w.cell λo' e'=>k c o' (.inr (by rw[e] at e';obtain rfl:=sj e';exact⟨_,KN⟩)) e' w.out) w.loc (g.not ⟨o,e⟩ w.out) w.low w.own (λd hd=>let ⟨v,e,r⟩:=w.val d hd;⟨v,e,r.mono E hX g⟩)⟩
def bX.mono(R:bX V G J U h)(E:dD [] J h h')(g:Gr J φ' h):bX V G φ' U h':=R.DL E (d3.nil h) g λa o O e ha=>E.keep a o e ha (λh=>nomatch h)
end
def Nx(X:List Addr)(J φ':Ph)(s s':Shared):Prop:=(dD X J s.heap s'.heap)/\(Gr J φ' s.heap)/\(s'.gens=s.gens)/\(s'.os=s.os)/\(∀a,cN s.heap a->cN s'.heap a)
section
variable {b1 b2 b3 b4 b5}(x:Nx b1 b2 b3 b4 b5)
def Nx.mk:=lI (Nx b1 b2 b3 b4 b5) rfl
def Nx.ext:=x.1
def Nx.gr:=x.2.1
def Nx.gens:=x.2.2.1
def Nx.os:=x.2.2.2.1
def Nx.live:=x.2.2.2.2
end
variable {a:Addr}{h':Heap}
def jv.trans{o:Obj}{yn:Heap}(x:jv h' a o)(y:∀o',h'.get? a=some o'->jv yn a o'):jv yn a o:=by
 rcases x with z|⟨hc,sl,z⟩
 ·exact y o z
 ·rcases y _ z with w|⟨_,SJ,w⟩
  ·exact .inr ⟨hc,sl,w⟩
  ·exact .inr ⟨hc,SJ,w⟩
variable {X:List Addr}{J φ':Ph}{h:Heap}
def dD.trans{yn:Heap}(E:dD X J h h')(E':dD X φ' h' yn)(g:Gr J φ' h):dD X J h yn:=⟨λa o e hφ hX=>(E.keep a o e hφ hX).trans λo' z=>E'.keep a o' z (g.not ⟨o,e⟩ hφ) hX⟩
variable {s s':Shared}
def Nx.trans{wh:Ph}{ja:Shared}(a:Nx X J φ' s s')(b:Nx X φ' wh s' ja):Nx X J wh s ja:=(Nx.mk (a.ext.trans b.ext a.gr) (a.gr.trans b.gr a.live) (b.gens.trans a.gens) (b.os.trans a.os) (λx h=>b.live x (a.live x h)))
def Nx.refl(X:List Addr)(J:Ph)(s:Shared):Nx X J J s s:=(Nx.mk (dD.refl ..) (Gr.refl ..) rfl rfl (λO h=>h))
noncomputable def LK(V:Cf):Nat->Value
 |0=>.type "StopIteration"
 |k+1=>.ref (V.clsAt k)
def iD(V:Cf)(J:Ph)(h₁:Heap)(a:Addr):Prop:=(¬ cN V.h₀ a)/\(a∉J.map (·.2))/\(¬ cN h₁ a)
section
variable {b1 b2 b3 b4}(x:iD b1 b2 b3 b4)
def iD.mk:=lJ (iD b1 b2 b3 b4) rfl
def iD.h0:=x.1
def iD.out:=x.2.1
def iD.new:=x.2.2
end
def nG(h:Heap)(T:Addr)(oT:Obj)(ts:Array Value):Prop:=(h.get? T=some oT)/\(oT.data=.fields ts)/\(oT.cls=.type "traceback")/\(ts[3]?=some .none)
section
variable {b1 b2 b3 b4}(x:nG b1 b2 b3 b4)
def nG.mk:=fq (nG b1 b2 b3 b4) rfl
def nG.get:=x.1
def nG.data:=x.2.1
def nG.cls:=x.2.2.1
def nG.zero:=x.2.2.2
end
def k6(V:Cf)(J:Ph)(h₁:Heap)(h:Heap)(k:Nat)(e:Addr)(oe:Obj)(vs:Array Value):Prop:=(h.get? e=some oe)/\(oe.cls=LK V k)/\(oe.data=.fields vs)/\(iD V J h₁ e)/\(vs[1]?=some .none\/∃T oT ts,vs[1]?=some (.ref T)/\T≠e/\iD V J h₁ T/\nG h T oT ts)
section
variable {b1 b2 b3 b4 b5 b6 b7 b8}(x:k6 b1 b2 b3 b4 b5 b6 b7 b8)
def k6.mk:=lI (k6 b1 b2 b3 b4 b5 b6 b7 b8) rfl
def k6.get:=x.1
def k6.cls:=x.2.1
def k6.data:=x.2.2.1
def k6.new:=x.2.2.2.1
def k6.tb:=x.2.2.2.2
end
def o6(V:Cf)(J:Ph)(h₁:Heap)(h:Heap)(v:Value)(k:Nat):Prop:=∃e oe vs,v=.ref e/\k6 V J h₁ h k e oe vs
def iD.low{h₁ h₂:Heap}(x:iD V J h₂ a)(hl:∀a,cN h₁ a->cN h₂ a):iD V J h₁ a:=(iD.mk x.h0 x.out (λo=>x.new (hl _ o)))
def o6.low{h₁ h₂:Heap}{v:Value}{k:Nat}(x:o6 V J h₂ h v k)(hl:∀a,cN h₁ a->cN h₂ a):o6 V J h₁ h v k:=by
 refine cO x λe oe vs q y=>?_;clear x;refine⟨e,oe,vs,q,k6.mk y.get y.cls y.data (y.new.low hl) ?_⟩;rcases y.tb with z|⟨T,oT,ts,b1,b2,b3,b4⟩
 ·exact .inl z
 ·exact .inr ⟨T,oT,ts,b1,b2,b3.low hl,b4⟩
def fT(V:Cf)(l:List Env)(J:Ph)(h:Heap):Prop:=(h.FunFrames V.h₀ l)/\(∀L∈l.filterMap (·.frame),L∉J.map (·.2))/\(∀L∈l.filterMap (·.frame),∃o,h.get? L=some o/\iQ o)
section
variable {b1 b2 b3 b4}(x:fT b1 b2 b3 b4)
def fT.mk:=lJ (fT b1 b2 b3 b4) rfl
def fT.vG:=x.1
def fT.out:=x.2.1
def fT.dct:=x.2.2
end
structure dB(V:Cf)(G:Fm)(J:Ph)(h:Heap):Prop where
 fr:∃d0 outer L,G.A.frames=some (d0::outer)/\G.env.frame=some L/\d0.frame=some L/\fT V (d0::outer) J h
def kW(A:Around)(d:Nat):Prop:=(A.depth+8*d+8<recursionLimit)/\(A.units+100*d+100<cLine)
section
variable {b1 b2}(x:kW b1 b2)
def kW.mk:=jI (kW b1 b2) rfl
def kW.depth:=x.1
def kW.units:=x.2
end
def ao(V:Cf)(d:Nat)(q:Bool)(G:Fm)(J:Ph)(U:aC)(H:Hp)(s:Shared):Prop:=(aZ V J H s.heap)/\(bX V G J U s.heap)/\(kW G.A d)/\(q=true->G.A.handled=none)/\(dB V G J s.heap)
section
variable {b1 b2 b3 b4 b5 b6 b7 b8}(x:ao b1 b2 b3 b4 b5 b6 b7 b8)
def ao.mk:=lI (ao b1 b2 b3 b4 b5 b6 b7 b8) rfl
def ao.rel:=x.1
def ao.er:=x.2.1
def ao.room:=x.2.2.1
def ao.hd:=x.2.2.2.1
def ao.fr:=x.2.2.2.2
end
def fT.keep{l:List Env}(F:fT V l J h)(g:Gr J φ' h)(key:∀L o,L∈l.filterMap (·.frame)->L∉J.map (·.2)->h.get? L=some o->iQ o->∃o',h'.get? L=some o'/\iQ o'):fT V l φ' h':=by
 have JI:∀L∈l.filterMap (·.frame),∃o',h'.get? L=some o'/\iQ o':=λL hL=>by refine aq (F.dct L hL) λo e w=>?_;exact key L o hL (F.out L hL) e w
 have ff:∀l:List Env,(∀L∈l.filterMap (·.frame),∃o',h'.get? L=some o'/\iQ o')->h.FunFrames V.h₀ l->h'.FunFrames V.h₀ l:=by
  intro l
  induction l with
  |nil=>intro _ _;trivial
  |cons env rest ih=>intro h1 hf;obtain⟨b1,⟨L,o,b2,b3,b4,b5⟩,b6⟩:=hf;rw[wC,b2] at h1;refine Q6 (h1 L bA) λVz d1 es n d2=>?_;exact⟨b1,⟨L,Vz,b2,b3,d1,λvs=>by rw[d2];simp⟩,ih (λL' iS=>h1 L' (bS _ iS)) b6⟩
 refine(fT.mk (ff l JI F.vG) (λL hL=>?_) JI);refine aq (F.dct L hL) λo e O=>?_;exact g.not ⟨o,e⟩ (F.out L hL)
def jv.dct{o:Obj}(x:jv h' a o)(hd:iQ o):∃o',h'.get? a=some o'/\iQ o':=by
 rcases x with z|⟨⟨es,n,w⟩,sl,z⟩
 ·exact⟨o,z,hd⟩
 ·exact⟨_,z,es,n,w⟩
variable {G:Fm}
def dB.keep(F:dB V G J h)(g:Gr J φ' h)(key:∀L o,L∉J.map (·.2)->h.get? L=some o->iQ o->∃o',h'.get? L=some o'/\iQ o'):dB V G φ' h':=qR F.fr λd0 outer L a1 a2 a3 a4=>⟨d0,outer,L,a1,a2,a3,a4.keep g λL o O=>key L o⟩
def BP(A:Around)(C:Addr):Prop:=∀fs,A.frames=some fs->C∉fs.filterMap (·.frame)
def dB.but{C:Addr}(F:dB V G J h)(k:∀b o,b≠C->h.get? b=some o->h'.get? b=some o)(hC:BP G.A C):dB V G J h':=qR F.fr λd0 outer L a1 a2 a3 a4=>⟨d0,outer,L,a1,a2,a3,a4.keep (Gr.refl ..) λL o hL O e w=>⟨o,k L o (λq=>hC _ a1 (q▸hL)) e,w⟩⟩
def dB.VM{C:Addr}(F:dB V G J h)(hC:¬ cN h C):BP G.A C:=by refine qR F.fr λd0 outer L a1 a2 a3 a4=>?_;intro fs A5 hm;rw[a1] at A5;obtain rfl:=sj A5;refine aq (a4.dct C hm) λo c2 O=>?_;exact hC ⟨o,c2⟩
def dB.mono(F:dB V G J h)(E:dD X J h h')(g:Gr J φ' h)
  (hX:∀a∈X,∀o,h.get? a=some o->iQ o->∃o',h'.get? a=some o'/\iQ o'):dB V G φ' h':=
 F.keep g λL o hφ e hd=>by
  by_cases hx:L∈X
  ·exact hX L hx o e hd
  ·exact(E.keep L o e hφ hx).dct hd
def dI(V:Cf)(G:Fm)(J:Ph)(s:Shared)(φ':Ph)(ρ':aC)(H':Hp)(s':Shared):Prop:=(Nx G.X J φ' s s')/\(aZ V φ' H' s'.heap)/\(bX V G φ' ρ' s'.heap)/\(dB V G φ' s'.heap)
section
variable {b1 b2 b3 b4 b5 b6 b7 b8}(x:dI b1 b2 b3 b4 b5 b6 b7 b8)
def dI.mk:=fq (dI b1 b2 b3 b4 b5 b6 b7 b8) rfl
def dI.nx:=x.1
def dI.rel:=x.2.1
def dI.er:=x.2.2.1
def dI.fr:=x.2.2.2
end
def dI.up{φ₀:Ph}{s₀:Shared}{ρ':aC}{H':Hp}(a:dI V G J s φ' ρ' H' s')(n:Nx G.X φ₀ J s₀ s):dI V G φ₀ s₀ φ' ρ' H' s':=(dI.mk (n.trans a.nx) a.rel a.er a.fr)
def dI.pre{U ρ':aC}{H H':Hp}{d:Nat}{q:Bool}(a:dI V G J s φ' ρ' H' s')(p:ao V d q G J U H s):ao V d q G φ' ρ' H' s':=(ao.mk a.rel a.er p.room p.hd a.fr)
def ao.rV{U:aC}{H:Hp}{d:Nat}{q:Bool}(p:ao V d q G φ' U H s')(n:Nx G.X J φ' s s'):dI V G J s φ' U H s':=(dI.mk n p.rel p.er p.fr)
variable {α β:Type}
def kH(V:Cf)(G:Fm)(J:Ph)(s:Shared)(r:dG β)(R:Ph->Heap->α->β->Prop):α->Shared->Prop:=λa s'=>∃b ρ' H' φ',r=.ok b ρ' H'/\dI V G J s φ' ρ' H' s'/\R φ' s'.heap a b
def l6(V:Cf)(G:Fm)(J:Ph)(s:Shared)(r:dG β):Value->Shared->Prop:=λe s'=>∃k ρ' H' φ',r=.exc k ρ' H'/\dI V G J s φ' ρ' H' s'/\o6 V φ' s.heap s'.heap e k
def TT(V:Cf)(G:Fm)(J:Ph)(s:Shared)(W:(α->Shared->Prop)->(Value->Shared->Prop)->Prop)(r:dG β)(R:Ph->Heap->α->β->Prop):Prop:=r≠.stuck->W (kH V G J s r R) (l6 V G J s r)
def ag(V:Cf)(G:Fm)(J:Ph)(s:Shared)(t:Sem α)(r:dG β)(R:Ph->Heap->α->β->Prop):Prop:=TT V G J s (λQ E=>wpAny (model V.prog V.w) G.A t Q E s) r R
section
variable {G:Fm}{φ₀ J:Ph}{s₀ s:Shared}{U:aC}{H:Hp}{d:Nat}{q:Bool}
variable {α β:Type}{r:dG β}{R:Ph->Heap->α->β->Prop}{a:α}{s':Shared}
def kH.up(n:Nx G.X φ₀ J s₀ s)(h:kH V G J s r R a s'):kH V G φ₀ s₀ r R a s':=i7 h λb ρ' H' φ' e f x=>⟨b,ρ',H',φ',e,f.up n,x⟩
def l6.up(n:Nx G.X φ₀ J s₀ s){a:Value}(h:l6 V G J s r a s'):l6 V G φ₀ s₀ r a s':=i7 h λb ρ' H' φ' e f x=>⟨b,ρ',H',φ',e,f.up n,x.low n.live⟩
def kH.not(h:kH V G J s r R a s')(e:∀b ρ' H',r≠.ok b ρ' H'){P:Prop}:P:=mQ h λb ρ' H' O q O=>absurd q (e b ρ' H')
def l6.not{a:Value}(h:l6 V G J s r a s')(e:∀k ρ' H',r≠.exc k ρ' H'){P:Prop}:P:=mQ h λb ρ' H' O q O=>absurd q (e b ρ' H')
def Nx.vr{φ':Ph}(n:Nx G.X J φ' s s')(er:bX V G J U s.heap){v:Value}{a:AV}(x:VR V J s.heap v a):VR V φ' s'.heap v a:=x.mono n.ext er.fH n.gr
variable {v:List Value}
def Nx.jW{φ':Ph}(n:Nx G.X J φ' s s')(er:bX V G J U s.heap){a:List AV}(x:aQ V J s.heap v a):aQ V φ' s'.heap v a:=x.mono n.ext er.fH n.gr
variable {f:α->M β}
def tS{m:M α}{ρ':aC}{H':Hp}(e:m U H=.ok a ρ' H'):M.bind m f U H=f a ρ' H':=by unfold M.bind;rw[e]
def MQ{m:M α}{k:Nat}{ρ':aC}{H':Hp}(e:m U H=.exc k ρ' H'):M.bind m f U H=.exc k ρ' H':=by unfold M.bind;rw[e]
def vX{m:M α}(e:m U H=.stuck):M.bind m f U H=.stuck:=by unfold M.bind;rw[e]
variable {t:Sem α}
def TT.seq{α' β':Type}{m:M α'}{g:α'->M β'}{W:α->Shared->(β->Shared->Prop)->(Value->Shared->Prop)->Prop}
  {R:Ph->Heap->α->α'->Prop} {R':Ph->Heap->β->β'->Prop} (n:Nx G.X φ₀ J s₀ s) (pre:ao V d q G J U H s) (x:ag V G J s t (m U H) R)
  (y:∀a a' ρ' H' φ' s',Nx G.X J φ' s s'->Nx G.X φ₀ φ' s₀ s'->ao V d q G φ' ρ' H' s'->R φ' s'.heap a a'->TT V G φ₀ s₀ (W a s') (g a' ρ' H') R'):
  TT V G φ₀ s₀ (λQ E=>wpAny (model V.prog V.w) G.A t (λa s'=>W a s' Q E) E s) (M.bind m g U H) R':=by
 intro hs;refine cz (x λz=>hs (vX z)) (λa s' h=>?_) λe s' h=>?_
 ·refine i7 h λb ρ' H' φ' e f hR=>?_;clear h;rw[tS e] at hs⊢;exact y a b ρ' H' φ' s' f.nx (n.trans f.nx) (f.pre pre) hR hs
 ·refine i7 h λk ρ' H' φ' e' f r4=>?_;clear h;exact⟨k,ρ',H',φ',MQ e',f.up n,r4.low n.live⟩
def TT.last(n:Nx G.X φ₀ J s₀ s)(x:ag V G J s t r R):
  TT V G φ₀ s₀ (λQ E=>wpAny (model V.prog V.w) G.A t Q E s) r R:=λhs=>cz (x hs) (λO O h=>h.up n) λO O h=>h.up n
variable {b:β}
def TT.now(n:Nx G.X φ₀ J s₀ s)(pre:ao V d q G J U H s)(h:R J s.heap a b):
  TT V G φ₀ s₀ (λQ O=>Q a s) (.ok b U H) R:=λO=>⟨b,U,H,J,rfl,pre.rV n,h⟩
def TT.imp{W W':(α->Shared->Prop)->(Value->Shared->Prop)->Prop}(h:∀Q E,W Q E->W' Q E)(x:TT V G J s W r R):
  TT V G J s W' r R:=λhs=>h _ _ (x hs)
def ag.bind{α' β':Type}{f:α->Sem β}{m:M α'}{g:α'->M β'}{R:Ph->Heap->α->α'->Prop}{R':Ph->Heap->β->β'->Prop}(pre:ao V d q G J U H s)
  (x:ag V G J s t (m U H) R)
  (y:∀a a' ρ' H' φ' s',Nx G.X J φ' s s'->ao V d q G φ' ρ' H' s'->R φ' s'.heap a a'->ag V G φ' s' (f a) (g a' ρ' H') R'):
  ag V G J s (t>>=f) (M.bind m g U H) R':=
 TT.imp (λO O h=>ah h) (TT.seq (Nx.refl ..) pre x λa a' ρ' H' φ' s' n O p r=>TT.last n (y a a' ρ' H' φ' s' n p r))
def ag.stuck:ag V G J s t (.stuck:dG β) R:=λh=>absurd rfl h
def ax(s s':Shared):Prop:=(∀a o,s.heap.get? a=some o->s'.heap.get? a=some o)/\(s'.gens=s.gens)/\(s'.os=s.os)
section
variable {b1 b2}(x:ax b1 b2)
def ax.mk:=lJ (ax b1 b2) rfl
def ax.keep:=x.1
def ax.gens:=x.2.1
def ax.os:=x.2.2
end
def ax.refl(s:Shared):ax s s:=(ax.mk (λO O e=>e) rfl rfl)
def ax.toks(s:Shared)(t:Nat):ax s {s with toks:=t}:=(ax.mk (λO O e=>e) rfl rfl)
def ax.push(s:Shared)(o:Obj)(t:Nat):ax s {s with heap:=s.heap.push o,toks:=t}:=(ax.mk (λO O e=>ij _ e) rfl rfl)
def ax.trans{ja:Shared}(a:ax s s')(b:ax s' ja):ax s ja:=(ax.mk (λx o e=>b.keep x o (a.keep x o e)) (b.gens.trans a.gens) (b.os.trans a.os))
def ax.ext(g:ax s s')(X:List Addr)(J:Ph):dD X J s.heap s'.heap:=⟨λa o e O O=>.inl (g.keep a o e)⟩
def ax.live(g:ax s s'):∀a,cN s.heap a->cN s'.heap a:=λa ⟨o,e⟩=>⟨o,g.keep a o e⟩
def ax.nx(g:ax s s')(X:List Addr)(J:Ph):Nx X J J s s':=(Nx.mk (g.ext X J) (Gr.refl ..) g.gens g.os g.live)
def ax.at(g:ax s s')(R:aZ V J H s.heap):∀p∈J,s'.heap.get? p.2=s.heap.get? p.2:=λp hp=>let ⟨_,e⟩:=R.live p hp;(g.keep _ _ e).trans e.symm
def ax.vr(g:ax s s'){v:Value}{x:AV}(r:VR V J s.heap v x):VR V J s'.heap v x:=r.mono (g.ext [] J) (d3.nil _) (Gr.refl ..)
def ax.jW(g:ax s s'){x:List AV}(r:aQ V J s.heap v x):aQ V J s'.heap v x:=r.mono (g.ext [] J) (d3.nil _) (Gr.refl ..)
def aZ.grow(R:aZ V J H s.heap)(g:ax s s'):aZ V J H s'.heap:=R.mono (g.ext [] J) (d3.nil _) (λa o e=>g.keep a o (R.keep a o e)) (g.at R)
def dB.grow(F:dB V G J s.heap)(g:ax s s'):dB V G J s'.heap:=F.mono (g.ext [] J) (Gr.refl ..) λO ha=>nomatch ha
def ao.grow(p:ao V d q G J U H s)(g:ax s s'):ao V d q G J U H s':=(ao.mk (p.rel.grow g) (p.er.mono (g.ext [] J) (Gr.refl ..)) p.room p.hd (p.fr.grow g))
def ag.quiet(pre:ao V d q G J U H s)
  (h:∀Q E,(∀v s',ax s s'->R J s'.heap v b->Q v s')->wpAny (model V.prog V.w) G.A t Q E s):ag V G J s t (.ok b U H) R:=
 λO=>h _ _ λv s' g r=>⟨b,U,H,J,rfl,(pre.grow g).rV (g.nx G.X J),r⟩
def ag.opt{f:Hp->Option β}(pre:ao V d q G J U H s)
  (h:∀b,f H=some b->∀Q E,(∀v s',ax s s'->R J s'.heap v b->Q v s')->wpAny (model V.prog V.w) G.A t Q E s):ag V G J s t (cu f U H) R:=by
 unfold cu;cases e:f H with
 |none=>exact ag.stuck
 |some b=>exact ag.quiet pre (h b e)
def ag.fresh{R:Ph->Heap->α->AV->Prop}{o:AO}(pre:ao V d q G J U H s)
  (h:∀Q E,(∀v s' p,ax s s'->s.heap.objs.size<=p.2->(∃o,s'.heap.get? p.2=some o)->OR V (J++[p]) s'.heap p o->R (J++[p]) s'.heap v (.ref H.length)->Q v s')->wpAny (model V.prog V.w) G.A t Q E s):
  ag V G J s t (.ok (.ref H.length) U (H++[o])) R:=by
 intro _;refine h _ _ λv s' p g hp hx ho hr=>?_;have gr:Gr J (J++[p]) s.heap:=Gr.push J p (jH hp);exact⟨_,U,_,J++[p],rfl,(dI.mk (Nx.mk (g.ext G.X J) gr g.gens g.os g.live) (pre.rel.push g.keep hp hx (g.at pre.rel) ho) (pre.er.mono (g.ext [] J) gr) (pre.fr.mono (g.ext [] J) gr (λO ha=>nomatch ha))),hr⟩
variable {h:Heap}
def xp(J:Ph)(p:Addr×Addr)(R:J.length=H.length):VR V (J++[p]) h (.ref p.1) (.ref H.length):=.ref (d:=p.2) (by rw[<- R,pG (bf _)];simp)
def ju(s s':Shared)(a:Addr):Prop:=(Heap.SameBut a s.heap s'.heap)/\(s'.gens=s.gens)/\(s'.os=s.os)
section
variable {b1 b2 b3}(x:ju b1 b2 b3)
def ju.mk:=lJ (ju b1 b2 b3) rfl
def ju.but:=x.1
def ju.gens:=x.2.1
def ju.os:=x.2.2
end
variable {n:Nat}{p:Addr×Addr}
def ag.put{o:AO}(pre:ao V d q G J U H s)(hp:J[n]?=some p)
  (h:∀Q E,(∀v s',ju s s' p.2->OR V J s'.heap p o->(∃o,s'.heap.get? p.2=some o)->R J s'.heap v b->Q v s')->wpAny (model V.prog V.w) G.A t Q E s):
  ag V G J s t (.ok b U (ai H o n)) R:=by
 intro _;rw[sL];refine h _ _ λv s' hs ho hx hr=>?_;have E:∀X,dD X J s.heap s'.heap:=vK hp hs.but;exact⟨b,U,_,J,rfl,(dI.mk (Nx.mk (E _) (Gr.refl ..) hs.gens hs.os (xb hs.but hx)) (pre.rel.put hp hs.but ho hx) (pre.er.mono (E []) (Gr.refl ..)) (pre.fr.mono (E []) (Gr.refl ..) (λO ha=>nomatch ha))),hr⟩
variable {h':Heap}
def VR.put{v:Value}{x:AV}(hp:J[n]?=some p)(hs:Heap.SameBut p.2 h h')(r:VR V J h v x):VR V J h' v x:=r.mono (vK hp hs []) (d3.nil _) (Gr.refl ..)
def aQ.put{x:List AV}(hp:J[n]?=some p)(hs:Heap.SameBut p.2 h h')(r:aQ V J h v x):aQ V J h' v x:=r.mono (vK hp hs []) (d3.nil _) (Gr.refl ..)
def hO.put{v:List DictEntry}{x:List (List Nat×AV)}(hp:J[n]?=some p)(hs:Heap.SameBut p.2 h h')(r:hO V J h x v):hO V J h' x v:=r.mono (vK hp hs []) (d3.nil _) (Gr.refl ..)
def ag.xx{a:Addr}{items':List Value}{l':List AV}(pre:ao V d q G J U H s)(hp:J[n]?=some (a,a))
  (r:aQ V J s.heap items' l') (z:l'.length<=az)
  (h:∀Q E,(∀v h' k',IsL h' a items'.toArray k'->Heap.SameBut a s.heap h'->R J h' v b->Q v {s with heap:=h'})->wpAny (model V.prog V.w) G.A t Q E s):
  ag V G J s t (.ok b U (ai H (.list l') n)) R:=
 ag.put pre hp λQ E hq=>h Q E λv h' k' e' hs hr=>hq v _ (ju.mk hs rfl rfl) ⟨items',k',mn.mk rfl e' (r.put hp hs) z⟩ ⟨_,e'⟩ hr
end
end
section
variable {V:Cf}
variable {b:Bool}
def zX{α:Type}{x:Option α}{y:α}(h:aI b x=some y):b=true/\x=some y:=by
 cases b
 ·exact aR h
 ·exact⟨rfl,h⟩
def nF{a:Bool}(h:(a&&b)=true):a=true/\b=true:=by rwa[Bool.and_eq_true] at h
variable {i:Int}
def JY{n:Nat}(h:ji i n=true):i=n:=by
 cases i with
 |ofNat m=>exact congrArg Int.ofNat (bV h)
 |negSucc m=>cases h
def AN{n:Nat}(h:ji i n=false):i≠n:=λq=>by subst q;have:ji (n:Int) n=true:=fV n;rw[h] at this;cases this
def jf(h:(!b)=true):b=false:=by cases b;rfl;cases h
def LU(i j:Int):dQ i j=(i==j):=by
 rw[pg,beq_iff_eq];cases i with
 |ofNat m=>
  constructor
  ·exact λh=>(JY (i:=j) h).symm
  ·intro h;subst h;exact fV m
 |negSucc m=>
  cases j with
  |ofNat n=>exact⟨λh=>(nomatch h),λh=>(nomatch h)⟩
  |negSucc n=>
   constructor
   ·exact λh=>congrArg Int.negSucc (bV h)
   ·intro h;cases h;exact fV m
def rD(i j:Int):gb i j=decide (i<j):=by
 rw[pg,decide_eq_true_iff];cases i with
 |ofNat m=>cases j with
  |ofNat n=>show Nat.blt m n=true↔(m:Int)<(n:Int);rw[bG];exact qJ.symm
  |negSucc n=>exact⟨λh=>(nomatch h),λh=>absurd (Int.lt_trans (show(m:Int)<Int.negSucc n from h) (sq n)) (Int.not_lt.mpr (kq m))⟩
 |negSucc m=>cases j with
  |ofNat n=>exact⟨λO=>Int.lt_of_lt_of_le (sq m) (kq n),λO=>rfl⟩
  |negSucc n=>show Nat.blt n m=true↔_;rw[bG,Int.negSucc_eq,Int.negSucc_eq];exact⟨λh=>Int.neg_lt_neg (Int.add_lt_add_right (qJ.mpr h) 1),λh=>qJ.mp (Int.lt_of_add_lt_add_right (Int.neg_lt_neg_iff.mp h))⟩
def Av{n:Nat}(h:xM i=some n):i=n:=by
 cases i with
 |ofNat m=>obtain rfl:=sj h;rfl
 |negSucc m=>exact aR h
def zJ(h:fM i=true):i.natAbs<2^200:=bG.mp h
def Hf(h:i.natAbs<2^200):i.natAbs.log2<9000:=by
 by_cases h0:i.natAbs=0
 ·rw[h0];decide
 ·have:i.natAbs.log2<200:=(Nat.log2_lt h0).mpr h;exact Nz ‹_›
def cS.append{l m:List Nat}(a:cS V l)(b:cS V m)(h:l.length+m.length<=az):cS V (l++m):=(cS.mk (by rw[bF];exact h) (λc hc=>(ko.mp hc).elim (a.sign c) (b.sign c)))
def cS.one{d:Nat}(h:d<16):cS V [d]:=(cS.mk (show 1<=az by decide) (λc hc=>by rw[fW.mp hc];exact h))
theorem vL:∀(a b:List Nat),ak a b=true↔a=b:=by
 intro a
 induction a with
 |nil=>
  intro t_;cases t_ with
  |nil=>exact⟨λO=>rfl,λO=>rfl⟩
  |cons _ _=>exact⟨λh=>tu h,λh=>absurd h.symm (List.cons_ne_nil _ _)⟩
 |cons x xs ih=>
  intro t_;cases t_ with
  |nil=>exact⟨λh=>tu h,λh=>absurd h (List.cons_ne_nil _ _)⟩
  |cons y ys=>
   show(match Nat.beq x y with|true=>ak xs ys|false=>false)=true↔_;cases h:Nat.beq x y with
   |true=>have:=bV h;subst this;rw[List.cons.injEq,and_iff_right rfl];exact(ih ys)
   |false=>have:=Nat.ne_of_beq_eq_false h;exact⟨λh=>tu h,λh=>absurd (nQ h).1 this⟩
def V1{j:Int}(h1:fM i=true)(h3:fM j=true):IntMulOk i j:=IntMulOk.of_le (m:=200) (n:=200) (intBits_le_iff.mpr (zJ h1)) (intBits_le_iff.mpr (zJ h3)) (by decide)
end
section
variable {V:Cf}{G:Fm}{J:Ph}{s:Shared}{U:aC}{H:Hp}{d:Nat}{q:Bool}
variable {n:Nat}
def i8(h:n<=az):n<=sizeLine:=aM h (by decide)
def vH(h:n<=az):(n:Int)<2^63:=Int.lt_of_le_of_lt (nO.mpr h) (by decide:((1000000:Nat):Int)<2^63)
section
variable {h:Heap}{v:Value}{x:AV}
def eG{i:Int}(hx:VR V J h v x)(e:x.int?=some i):∃t,v=.int i t:=by
 cases x with
 |int a'=>obtain rfl:=sj e;exact hx
 |_=>exact aR e
def qP{l:List Nat}(hx:VR V J h v x)(e:x.de=some l):∃t,v=.str (V.tx l) t/\cS V l:=by
 cases x with
 |str a'=>obtain rfl:=sj e;exact hx
 |_=>exact aR e
def QO{l:List Nat}(hx:VR V J h v x)(e:x.ML=some l):∃b t,v=.bytes b t/\b.toList.map UInt8.toNat=V.enc l/\cS V l:=by
 cases x with
 |cE a'=>obtain rfl:=sj e;exact hx
 |_=>exact aR e
def QL{l:List AV}(hx:VR V J h v x)(e:x.Cp=some l):∃a items n,v=.ref a/\Sq J a l (IsT h a (List.toArray items) n) (aQ V J h items l):=by
 cases x with
 |tup a'=>obtain rfl:=sj e;exact hx
 |_=>exact aR e
def ik{n:Nat}(hx:VR V J h v x)(e:x.j3=some n):∃p,v=.ref p.1/\J[n]?=some p:=by
 cases x with
 |ref a'=>obtain rfl:=sj e;refine dN hx λa b e1 e2=>?_;clear hx;exact⟨(a,b),e1,e2⟩
 |_=>exact aR e
end
variable {l:List AV}
def WW(h:bx H n=some l):H[n]?=some (.list l):=by
 refine ub h λo h1 h2=>?_;rw[cQ] at h1;cases o with
 |list=>obtain rfl:=sj h2;exact h1
 |_=>exact aR h2
def aa9{r:Nat×List (List Nat×AV)}(h:cD H n=some r):H[n]?=some (.dict r.1 r.2):=by
 refine ub h λo h1 h2=>?_;rw[cQ] at h1;cases o with
 |dict=>obtain rfl:=sj h2;exact h1
 |_=>exact aR h2
def Hs{l:List (List Nat)}(h:oh H n=some l):H[n]?=some (.set l):=by
 refine ub h λo h1 h2=>?_;rw[cQ] at h1;cases o with
 |set=>obtain rfl:=sj h2;exact h1
 |_=>exact aR h2
def X5{r:Nat×List (Option AV)}(h:ya H n=some r):H[n]?=some (.inst r.1 r.2):=by
 refine ub h λo h1 h2=>?_;rw[cQ] at h1;cases o with
 |inst=>obtain rfl:=sj h2;exact h1
 |_=>exact aR h2
def XK{r:Nat×Nat}(h:tE H n=some r):H[n]?=some (.iter r.1 r.2):=by
 refine ub h λo h1 h2=>?_;rw[cQ] at h1;cases o with
 |iter=>obtain rfl:=sj h2;exact h1
 |_=>exact aR h2
def Ls(V:Cf)(J:Ph)(h:Heap)(v:Value)(l:List AV)(a:Addr)(items:List Value)(n:Nat):Prop:=(v=.ref a)/\(IsL h a items.toArray n)/\(aQ V J h items l)/\(l.length<=az)
section
variable {b1 b2 b3 b4 b5 b6 b7 b8}(x:Ls b1 b2 b3 b4 b5 b6 b7 b8)
def Ls.mk:=fq (Ls b1 b2 b3 b4 b5 b6 b7 b8) rfl
def Ls.eq:=x.1
def Ls.at_:=x.2.1
def Ls.all:=x.2.2.1
def Ls.len:=x.2.2.2
end
variable {h:Heap}{v:Value}{items:List Value}
def Ls.small{a:Addr}(x:Ls V J h v l a items n):items.toArray.size<=az:=by rw[dj,x.all.length];exact x.len
def aZ.list(R:aZ V J H h)(e:bx H n=some l){p:Addr×Addr}(hp:J[n]?=some p):p=(p.1,p.1)/\∃items k,Ls V J h (.ref p.1) l p.1 items k:=by refine ct (R.at (WW e) hp) λitems k x=>?_;have eq:=x.eq;obtain⟨a,b⟩:=p;dsimp only at eq;subst eq;exact⟨rfl,items,k,Ls.mk rfl x.at_ x.all x.len⟩
variable {x:AV}
def lg(R:aZ V J H s.heap)(hx:VR V J s.heap v x)(hl:cG H x=some l):∃a items n,Ls V J s.heap v l a items n:=by
 cases x with
 |lst=>obtain rfl:=sj hl;refine cO hx λa items n e x=>?_;clear hx;exact⟨a,items,n,Ls.mk e x.at_ x.all x.len⟩
 |ref=>refine aq (ik hx rfl) λp aa hp=>?_;subst aa;refine ll (R.list hl hp) λO items k x=>?_;exact⟨_,items,k,x⟩
 |_=>exact aR hl
def me(V:Cf)(J:Ph)(h:Heap)(v:Value)(l:List AV)(a:Addr)(items:List Value)(n:Nat)(T:String):Prop:=(v=.ref a)/\(h.get? a=some {cls:=.type T,data:=.seq items.toArray n})/\(T="list"\/T="tuple")/\(aQ V J h items l)/\(l.length<=az)
section
variable {b1 b2 b3 b4 b5 b6 b7 b8 b9}(x:me b1 b2 b3 b4 b5 b6 b7 b8 b9)
def me.mk:=lI (me b1 b2 b3 b4 b5 b6 b7 b8 b9) rfl
def me.eq:=x.1
def me.at_:=x.2.1
def me.ty:=x.2.2.1
def me.all:=x.2.2.2.1
def me.len:=x.2.2.2.2
end
def QM(R:aZ V J H s.heap)(hx:VR V J s.heap v x)(hl:qY H x=some l):∃a items n T,me V J s.heap v l a items n T:=by
 cases x with
 |tup=>obtain rfl:=sj hl;refine cO hx λa items n e x=>?_;clear hx;exact⟨a,items,n,_,me.mk e x.at_ (.inr rfl) x.all x.len⟩
 |lst=>obtain rfl:=sj hl;refine cO hx λa items n e x=>?_;clear hx;exact⟨a,items,n,_,me.mk e x.at_ (.inl rfl) x.all x.len⟩
 |ref=>refine aq (ik hx rfl) λp aa hp=>?_;subst aa;refine ll (R.list hl hp) λO items k x=>?_;exact⟨_,items,k,_,me.mk x.eq x.at_ (.inl rfl) x.all x.len⟩
 |_=>exact aR hl
variable {s':Shared}
def IY(R:aZ V J H s.heap)(g:ax s s'){I:Prop}(e:I)(r:aQ V J s.heap items l)(z:l.length<=az):Sq J s.heap.objs.size l I (aQ V J s'.heap items l):=(Sq.mk e (R.fresh (bf _)) (g.jW r) z)
def Dj(R:aZ V J H s.heap)(g:ax s s')(e:IsL s'.heap s.heap.objs.size items.toArray n)(r:aQ V J s.heap items l)(z:l.length<=az):VR V J s'.heap (.ref s.heap.objs.size) (.lst l):=.lst (IY R g e r z)
def IX(R:aZ V J H s.heap)(g:ax s s')(e:IsT s'.heap s.heap.objs.size items.toArray n)(r:aQ V J s.heap items l)(z:l.length<=az):VR V J s'.heap (.ref s.heap.objs.size) (.tup l):=.tup (IY R g e r z)
def fS(V:Cf)(G:Fm)(J:Ph)(s:Shared)(t:Sem Value)(b:AV):Prop:=∀Q E,(∀v s',ax s s'->VR V J s'.heap v b->Q v s')->wpAny (model V.prog V.w) G.A t Q E s
def ER(l m:List Nat):V.enc (l++m)=V.enc l++V.enc m:=eB
def rS(l:List Nat):(V.enc l).length=l.length:=aJ _
def Fd{b:Array UInt8}{l:List Nat}(h:b.toList.map UInt8.toNat=V.enc l):b.size=l.length:=by have:=congrArg List.length h;rwa[aJ,pz,rS] at this
def aek{l m:List Nat}{t u:Tok}{Q E:Value->Shared->Prop}(o1:cS V l)(o2:cS V m)(h3:l.length+m.length<=az)(h:∀v s',ax s s'->VR V J s'.heap v (.str (l++m))->Q v s'):wpAny (model V.prog V.w) G.A (binaryOp .Add (.str (V.tx l) t) (.str (V.tx m) u)) Q E s:=by
 have e:V.tx l++V.tx m=V.tx (l++m):=by show(⟨(V.enc l).toArray++(V.enc m).toArray⟩:Str)=⟨(V.enc (l++m)).toArray⟩;rw[List.append_toArray,ER]
 have len:∀n,(V.tx n).length=n.length:=λn=>by show(V.enc n).toArray.size=_;rw[dj,rS]
 exact add_str (λt' tk=>h _ _ (ax.toks ..) ⟨t',by rw[e],o1.append o2 h3⟩) (by rw[len,len];exact i8 h3)
variable {vx vy:Value}
def aer(R:aZ V J H s.heap){y b:AV}(hx:VR V J s.heap vx x)(hy:VR V J s.heap vy y)(e:M6 x y H=some b):fS V G J s (binaryOp .Add vx vy) b:=by
 intro Q E h;have lists:∀e:((cG H x).bind λa=>(cG H y).bind λb=>aI (Nat.ble (a.length+b.length) az) (some (.lst (a++b))))=some b,wpAny (model V.prog V.w) G.A (binaryOp .Add vx vy) Q E s:=λe=>by
  refine ub e λl h1 e=>?_;refine ub e λm h2 e=>?_;refine ur e λh3 h4=>?_;obtain rfl:=sj h4;have h3:=gN h3;refine iJ (lg R hx h1) λa i1 n1 f1=>?_;refine iJ (lg R hy h2) λb i2 n2 f2=>?_;rw[f1.eq,f2.eq];refine P.add_list f1.at_ f2.at_ (h _ _ (ax.push ..) ?_) ?_
  ·refine Dj R (items:=i1++i2) (n:=0) (ax.push s _ s.toks) ?_ (f1.all.append f2.all) (by rw[bF];exact h3);rw[List.append_toArray];exact IsL.new ..
  ·rw[dj,dj,f1.all.length,f2.all.length];exact i8 h3
 cases x with
 |int a=>refine um e λj h1 aa=>?_;subst aa;refine ue hx λt aa=>?_;clear hx;subst aa;refine ue (eG hy h1) λu aa=>?_;subst aa;exact P.add_int (h _ _ (ax.toks ..) (.lit ..))
 |cE l=>
  refine ub e λm h1 e=>?_;refine ur e λh3 h4=>?_;obtain rfl:=sj h4;have h3:=gN h3;refine bB hx λb1 t aa r1 o1=>?_;clear hx;subst aa;refine bB (QO hy h1) λb2 u aa r2 o2=>?_;subst aa;refine KBy.add_bytes ?_ λt' k=>h _ _ (ax.toks ..) ⟨_,_,rfl,?_,o1.append o2 h3⟩
  ·rw[Fd r1,Fd r2];exact i8 h3
  ·rw[Array.toList_append,eB,r1,r2,ER]
 |str l=>refine ub e λm h1 e=>?_;refine ur e λh3 h4=>?_;obtain rfl:=sj h4;refine aq hx λt aa o1=>?_;clear hx;subst aa;refine aq (qP hy h1) λu aa o2=>?_;subst aa;exact aek o1 o2 (gN h3) h
 |_=>exact lists e
def V2{y b:AV}(hx:VR V J s.heap vx x)(hy:VR V J s.heap vy y)(e:I3 x y=some b):fS V G J s (binaryOp .Mult vx vy) b:=by intro Q E h;refine ub e λi h1 e=>?_;refine ub e λj h2 e=>?_;refine ur e λh3 e=>?_;obtain rfl:=sj e;refine us h3 λh3 h4=>?_;refine ue (eG hx h1) λt aa=>?_;subst aa;refine ue (eG hy h2) λu aa=>?_;subst aa;exact P.mul_int (h _ _ (ax.toks ..) (.lit ..)) (V1 h3 h4)
def adq{op:Operator}(ye:op≠.Add/\op≠.Mult){i j:Int}{t u:Tok}{c:Int}(e:Fi op i j=some c):fS V G J s (binaryOp op (.int i t) (.int j u)) (.int c):=by
 intro Q E h;cases op with
 |Add=>exact absurd rfl ye.1
 |Mult=>exact absurd rfl ye.2
 |Sub=>obtain rfl:=sj e;exact P.sub_int (h _ _ (ax.toks ..) (.lit ..))
 |FloorDiv=>refine ur e λh1 e=>?_;obtain rfl:=sj e;refine us h1 λh1 h3=>?_;exact floordiv_int (AN (jf h1)) (h _ _ (ax.toks ..) (.lit ..)) (.inl (PyProof.noPylong_of_log2 (Hf (zJ h3))))
 |Mod=>refine ur e λh1 e=>?_;obtain rfl:=sj e;exact mod_int' (AN (jf h1)) (h _ _ (ax.toks ..) (.lit ..))
 |Pow=>refine ub e λn h1 e=>?_;refine ur e λh2 h3=>?_;refine us h2 λh2 h4=>?_;obtain rfl:=sj h3;have hj:=Av h1;subst hj;exact pow_int_small (kq n) (nO.mpr (gN h2)) (bG.mp h4) (h _ _ (ax.toks ..) (.lit ..))
 |RShift=>refine ub e λn h1 e=>?_;obtain rfl:=sj e;have hj:=Av h1;subst hj;exact rshift_int (kq n) (h _ _ (ax.toks ..) (.lit ..))
 |_=>exact aR e
def adp(pre:ao V d q G J U H s){op:Operator}{y:AV}(hx:VR V J s.heap vx x)(hy:VR V J s.heap vy y):
  ag V G J s (binaryOp op vx vy) (cu (iA op x y) U H) (VR V):=ag.opt pre λb e=>by
 have Vu:∀ye:op≠.Add/\op≠.Mult,((x.int?).bind λa=>(y.int?).bind λb=>(Fi op a b).map .int)=some b->fS V G J s (binaryOp op vx vy) b:=λye e=>by refine ub e λa h1 e=>?_;refine ub e λa2 h2 e=>?_;refine um e λc h3 aa=>?_;subst aa;refine ue (eG hx h1) λt aa=>?_;subst aa;refine ue (eG hy h2) λu aa=>?_;subst aa;exact adq ye h3
 cases op with
 |Add=>exact aer pre.rel hx hy e
 |Mult=>exact V2 hx hy e
 |_=>exact Vu ⟨by decide,by decide⟩ e
def VQ(pre:ao V d q G J U H s)(hx:VR V J s.heap vx x):ag V G J s (unaryOp .USub vx) (cu (λO=>Dk x) U H) (VR V):=ag.opt pre λb e Q E h=>by refine um e λi h1 aa=>?_;subst aa;refine ue (eG hx h1) λt aa=>?_;subst aa;exact P.neg_int (h _ _ (ax.toks ..) (.lit ..))
def J0(r:aQ V J h items l):items.toArray.isEmpty=l.isEmpty:=by have:=r.length;cases items<;>cases l<;>first|rfl|cases this
def Rl(i:Int):(i != 0)=!ji i 0:=by
 cases h:ji i 0 with
 |true=>rw[JY h];rfl
 |false=>simpa using AN h
def Cq(pre:ao V d q G J U H s)(hx:VR V J s.heap vx x):ag V G J s (truthy vx) (cu (gQ x) U H) (λO O b c=>b=c):=ag.opt pre λb e Q E h=>by
 have lists:∀e:((cG H x).map λl=>!l.isEmpty)=some b,wpAny (model V.prog V.w) G.A (truthy vx) Q E s:=λe=>by refine um e λl h1 aa=>?_;subst aa;refine iJ (lg pre.rel hx h1) λa i1 n1 f1=>?_;rw[f1.eq];exact wpAny_truthy_list f1.at_.isList (vH f1.small) (h _ _ (ax.toks ..) (by rw[J0 f1.all]))
 cases x with
 |none=>subst hx;obtain rfl:=sj e;exact λO O O=>h _ _ (ax.refl _) rfl
 |bool=>subst hx;obtain rfl:=sj e;exact wpAny_truthy_bool (h _ _ (ax.refl _) rfl)
 |int a=>refine ue hx λt aa=>?_;clear hx;subst aa;obtain rfl:=sj e;exact P.truthy_int (h _ _ (ax.refl _) (Rl a))
 |_=>exact lists e
end
section
variable {V:Cf}{G:Fm}{J:Ph}{s:Shared}{U:aC}{H:Hp}{d:Nat}{q:Bool}
mutual
noncomputable def PD(V:Cf):AV->PyData->Prop
 |.int i,D=>D=.int i
 |.bool b,D=>D=.bool b
 |.str l,D=>D=.str (V.tx l)
 |.lst l,D=>∃Ds,D=.list Ds/\tZ V l Ds
 |.tup l,D=>∃Ds,D=.tuple Ds/\tZ V l Ds
 |_,_=>False
noncomputable def tZ(V:Cf):List AV->List PyData->Prop
 |[],Ds=>Ds=[]
 |x::xs,Ds=>∃D r,Ds=D::r/\PD V x D/\tZ V xs r
end
theorem LV:∀{a b:List Nat},V.enc a=V.enc b->a=b:=by
 intro a
 induction a with
 |nil=>
  intro t_ h;cases t_ with
  |nil=>exact rfl
  |cons _ _=>exact nomatch h
 |cons x xs ih=>
  intro t_ h;cases t_ with
  |nil=>exact nomatch h
  |cons y ys=>have h:=nQ h;rw[show x=y by have:65+x=65+y:=h.1;exact FE ‹_›,ih h.2]
def Rh{a b:List Nat}(h:V.tx a=V.tx b):a=b:=by have:(V.enc a).toArray=(V.enc b).toArray:=congrArg Str.cps h;exact LV (by simpa using this)
def GB(a b:List Nat):(V.tx a==V.tx b)=ak a b:=by rw[pg,beq_iff_eq,vL];exact⟨Rh,λh=>by rw[h]⟩
theorem Bp:∀(a b:List Nat),V.enc a<V.enc b↔bu a b=true:=by
 intro a
 induction a with
 |nil=>
  intro t_;cases t_ with
  |nil=>exact⟨λh=>absurd h (List.lt_irrefl _),λh=>(nomatch h)⟩
  |cons _ _=>exact⟨λO=>rfl,λO=>List.Lex.nil⟩
 |cons x xs gH=>
  intro t_;cases t_ with
  |nil=>exact⟨λh=>absurd h (List.not_lt_nil _),λh=>(nomatch h)⟩
  |cons y ys=>
   have ih:=gH ys;show(65+x)::V.enc xs<(65+y)::V.enc ys↔(match Nat.beq x y with|true=>bu xs ys|false=>Nat.blt x y)=true;rw[List.cons_lt_cons_iff,ih];cases h:Nat.beq x y with
   |true=>have:=bV h;subst this;exact⟨λh=>by rcases h with h|h;exact absurd h (jQ _);exact h.2,λh=>.inr ⟨rfl,h⟩⟩
   |false=>
    have d8:=Nat.ne_of_beq_eq_false h;show _↔Nat.blt x y=true;rw[bG];refine⟨λh=>?_,λh=>.inl (by exact FQ ‹_›)⟩;rcases h with h|h
    ·exact Oe ‹_›
    ·exact absurd (by have:=h.1;exact FE ‹_›) d8
mutual
theorem yD{x y:AV}{D D':PyData}{b:Bool}(hx:PD V x D)(hy:PD V y D')(e:c6 x y=some b):D.eqv D'=b:=by
 cases x with
 |int a=>
  refine um e λa2 h1 aa=>?_;subst aa;cases y with
  |int=>obtain rfl:=sj h1;subst hx;subst hy;exact(LU _ _).symm
  |_=>exact aR h1
 |bool a=>
  refine um e λa2 h1 aa=>?_;subst aa;cases y with
  |bool a3=>have q:=sj h1;subst hx;subst hy;subst q;cases a<;>cases a3<;>rfl
  |_=>exact aR h1
 |str a=>
  refine um e λa2 h1 aa=>?_;subst aa;cases y with
  |str=>obtain rfl:=sj h1;subst hx;subst hy;exact GB _ _
  |_=>exact aR h1
 |lst a=>
  refine aq hx λDs e1 x1=>?_;clear hx;refine ub e λa2 h1 e=>?_;cases y with
  |lst=>obtain rfl:=sj h1;refine aq hy λBU aa x2=>?_;clear hy;subst aa;subst e1;exact EK x1 x2 e
  |_=>exact aR h1
 |tup a=>
  refine aq hx λDs e1 x1=>?_;clear hx;refine ub e λa2 h1 e=>?_;cases y with
  |tup=>obtain rfl:=sj h1;refine aq hy λBU aa x2=>?_;clear hy;subst aa;subst e1;exact EK x1 x2 e
  |_=>exact aR h1
 |_=>exact hx.elim
theorem EK{xs ys:List AV}{Ds BU:List PyData}{b:Bool}(hx:tZ V xs Ds)(hy:tZ V ys BU)(e:fw xs ys=some b):PyData.eqvAll Ds BU=b:=by
 cases xs with
 |nil=>
  cases ys with
  |nil=>subst hx;subst hy;obtain rfl:=sj e;rfl
  |cons=>refine dN hy λO O e1 O=>?_;clear hy;subst hx;subst e1;obtain rfl:=sj e;rfl
 |cons x xs=>
  cases ys with
  |nil=>refine dN hx λO O e1 O=>?_;clear hx;subst hy;subst e1;obtain rfl:=sj e;rfl
  |cons y ys=>
   refine bB hx λD r e1 x1 x2=>bB hy λD' r' e2 y1 y2=>?_;clear hx hy;refine ub e λc h1 e=>?_;subst e1;subst e2;have h1:=yD x1 y1 h1;show(D.eqv D'&&PyData.eqvAll r r')=_;rw[h1];cases c with
   |true=>exact EK x2 y2 e
   |false=>obtain rfl:=sj e;rfl
end
def gM(V:Cf)(h:Heap)(v:Value)(x:AV)(n:Nat)(D:PyData)(as:List Addr):Prop:=(Reads h v D as)/\(D.canLay0=true)/\(D.depth<=n)/\(PD V x D)
section
variable {b1 b2 b3 b4 b5 b6 b7}(x:gM b1 b2 b3 b4 b5 b6 b7)
def gM.mk:=fq (gM b1 b2 b3 b4 b5 b6 b7) rfl
def gM.rd:=x.1
def gM.hB:=x.2.1
def gM.deep:=x.2.2.1
def gM.pd:=x.2.2.2
end
def iY(V:Cf)(h:Heap)(vs:List Value)(xs:List AV)(n:Nat)(Ds:List PyData)(as:List Addr):Prop:=(ReadsAll h vs Ds as)/\(PyData.canLayAll0 Ds=true)/\(PyData.depthAll Ds<=n)/\(tZ V xs Ds)
section
variable {b1 b2 b3 b4 b5 b6 b7}(x:iY b1 b2 b3 b4 b5 b6 b7)
def iY.mk:=fq (iY b1 b2 b3 b4 b5 b6 b7) rfl
def iY.rd:=x.1
def iY.hB:=x.2.1
def iY.deep:=x.2.2.1
def iY.pd:=x.2.2.2
end
variable {h:Heap}{items:List Value}{n:Nat}{Ds:List PyData}
def iY.lst{a:Addr}{k:Nat}{xs:List AV}{as:List Addr}(x:iY V h items xs n Ds as)(e:IsL h a items.toArray k):gM V h (.ref a) (.lst xs) (n+1) (.list Ds) (a::as):=(gM.mk (.list e rfl rfl x.rd) x.hB (by have:=x.deep;simp only[PyData.depth];exact FR ‹_›) ⟨Ds,rfl,x.pd⟩)
def iY.tup{a:Addr}{k:Nat}{xs:List AV}{as:List Addr}(x:iY V h items xs n Ds as)(e:IsT h a items.toArray k):gM V h (.ref a) (.tup xs) (n+1) (.tuple Ds) as:=(gM.mk (.tuple e rfl rfl x.rd) x.hB (by have:=x.deep;simp only[PyData.depth];exact FR ‹_›) ⟨Ds,rfl,x.pd⟩)
def Xb{l:List Nat}{t:Tok}(o:cS V l)(n:Nat):gM V h (.str (V.tx l) t) (.str l) n (.str (V.tx l)) []:=by refine(gM.mk (.str _ t) ?_ (by simp[PyData.depth]) rfl);simp only[PyData.canLay0,PyData.strOk,Cf.tx];rw[List.all_toArray,iH];intro c hc;refine aq (bW.mp hc) λe he aa=>?_;subst aa;have:=o.sign e he;simp;exact Og ‹_›
mutual
theorem tD{x:AV}{h:Heap}{v:Value}(n:Nat)(hx:VR V J h v x)(hd:cw x n=true):∃D as,gM V h v x n D as:=by
 cases x with
 |int=>refine ue hx λt aa=>?_;clear hx;subst aa;exact⟨_,_,gM.mk (.int _ t) rfl (by simp[PyData.depth]) rfl⟩
 |bool=>have q:v=.bool _:=hx;subst q;exact⟨_,_,gM.mk (.bool _) rfl (by simp[PyData.depth]) rfl⟩
 |str=>refine aq hx λt aa o=>?_;clear hx;subst aa;exact⟨_,_,Xb o n⟩
 |tup l=>
  cases n with
  |zero=>exact tu hd
  |succ n=>refine cO hx λa items k aa x=>?_;clear hx;subst aa;refine ct (DF n x.all hd) λO O y=>?_;exact⟨_,_,y.tup x.at_⟩
 |lst l=>
  cases n with
  |zero=>exact tu hd
  |succ n=>refine cO hx λa items k aa x=>?_;clear hx;subst aa;refine ct (DF n x.all hd) λO O y=>?_;exact⟨_,_,y.lst x.at_⟩
 |_=>exact tu hd
theorem DF{xs:List AV}{h:Heap}{vs:List Value}(n:Nat)(hx:aQ V J h vs xs)(hd:dh xs n=true):∃Ds as,iY V h vs xs n Ds as:=by
 cases xs with
 |nil=>subst hx;exact⟨_,_,iY.mk .nil rfl (by simp[PyData.depthAll]) rfl⟩
 |cons x xs=>
  refine bB hx λv r aa hv hr=>?_;clear hx;subst aa;have hd:(match cw x n with|true=>dh xs n|false=>false)=true:=hd;cases hk:cw x n with
  |false=>rw[hk] at hd;exact tu hd
  |true=>rw[hk] at hd;refine ct (tD n hv hk) λD as y=>?_;refine ct (DF n hr hd) λDs bs z=>?_;exact⟨D::Ds,_,iY.mk (.cons y.rd z.rd) (by simp[PyData.canLayAll0,y.hB,z.hB]) (by simp only[PyData.depthAll];exact Nat.max_le.mpr ⟨y.deep,z.deep⟩) ⟨_,_,rfl,y.pd,z.pd⟩⟩
end
variable {x:AV}
def aaZ(h:cG H x=none):aV H n x=x:=by
 cases n with
 |zero=>rfl
 |succ n=>show(match cG H x with|some l=>AV.lst (l.map (aV H n))|none=>x)=x;rw[h]
def aaY{l:List AV}(h:cG H x=some l):aV H (n+1) x=.lst (l.map (aV H n)):=by show(match cG H x with|some l=>AV.lst (l.map (aV H n))|none=>x)=_;rw[h]
theorem Jz(R:aZ V J H s.heap)(n:Nat)(ih:∀{v:Value} {x:AV} (m:Nat),VR V J s.heap v x->cw (aV H n x) m=true->∃D as,gM V s.heap v (aV H n x) m D as):
  ∀{xs:List AV} {vs:List Value} (m:Nat),aQ V J s.heap vs xs->dh (xs.map (aV H n)) m=true->∃Ds as,iY V s.heap vs (xs.map (aV H n)) m Ds as:=by
 intro xs
 induction xs with
 |nil=>intro _ _ hx _;subst hx;exact⟨_,_,iY.mk .nil rfl (by simp[PyData.depthAll]) rfl⟩
 |cons x xs gH=>
  intro _ m hx h;refine bB hx λv r aa hv hr=>?_;clear hx;subst aa;have h:(match cw (aV H n x) m with|true=>dh (xs.map (aV H n)) m|false=>false)=true:=h;cases hk:cw (aV H n x) m with
  |false=>rw[hk] at h;cases h
  |true=>rw[hk] at h;refine ct (ih m hv hk) λD as y=>?_;refine ct (gH m hr h) λDs bs z=>?_;exact⟨D::Ds,_,iY.mk (.cons y.rd z.rd) (by simp[PyData.canLayAll0,y.hB,z.hB]) (by simp only[PyData.depthAll];exact Nat.max_le.mpr ⟨y.deep,z.deep⟩) ⟨_,_,rfl,y.pd,z.pd⟩⟩
def AL(R:aZ V J H s.heap):∀(n:Nat) {v:Value} {x:AV} (m:Nat),VR V J s.heap v x->cw (aV H n x) m=true->∃D as,gM V s.heap v (aV H n x) m D as:=by
 intro n
 induction n with
 |zero=>intro v x m hx h;exact tD m hx h
 |succ n ih=>
  intro v x m hx h;cases hl:cG H x with
  |none=>rw[aaZ hl] at h⊢;exact tD m hx h
  |some l=>
   rw[aaY hl] at h⊢;cases m with
   |zero=>cases h
   |succ m=>refine iJ (lg R hx hl) λa items k y=>?_;refine ct (Jz R n (λm=>ih m) m y.all h) λDs as z=>?_;rw[y.eq];exact⟨_,_,z.lst y.at_⟩
def HO{A:Around}(hr:kW A d)(hn:n<=50)(m:Nat):A.units+min n m<cLine:=cU (mB (aM (Nat.min_le_left ..) hn) _) (Qr hr.units)
def kf(V:Cf)(A:Around)(s:Shared)(t:Sem Value)(b:Bool):Prop:=∀Q E,(∀s',ax s s'->Q (.bool b) s')->wpAny (model V.prog V.w) A t Q E s
variable {vx vy:Value}{y:AV}{b:Bool}
def aah(pre:ao V d q G J U H s)(hx:VR V J s.heap vx x)(hy:VR V J s.heap vy y)(e:iU (aV H 3 x) (aV H 3 y)=some b):
  kf V G.A s (compareOp .Eq vx vy) b/\kf V G.A s (compareOp .NotEq vx vy) !b:=by
 refine ur e λh1 h2=>?_;refine us h1 λh1 h3=>?_;refine ct (AL pre.rel 3 3 hx h1) λD as y1=>?_;refine ct (AL pre.rel 3 3 hy h3) λD' bs y2=>?_;have hv:=yD y1.pd y2.pd h2;have ru:=HO pre.room (show D.depth<=50 from aM y1.deep (by decide)) D'.depth;exact⟨λQ E hq=>SeqAt.compareEq_reads y1.rd y2.rd y1.hB y2.hB ru (by rw[hv];exact hq _ (ax.refl _)),λQ E hq=>SeqAt.compareNe_reads y1.rd y2.rd y1.hB y2.hB ru (by rw[hv];exact hq _ (ax.refl _))⟩
def Dx{prog:Program}{w:World}{A':Around}(hx:VR V J s.heap vx x)(hy:VR V J s.heap vy y)(e:AF x y=some b):
  ∀Q E,Q (.bool b) s->wpAny (model prog w) A' (compareOp .Lt vx vy) Q E s:=by
 intro Q E hq;cases x with
 |int a=>refine um e λa2 h1 aa=>?_;subst aa;refine ue hx λt aa=>?_;clear hx;subst aa;refine ue (eG hy h1) λu aa=>?_;subst aa;exact P.lt_int (by rw[<- rD];exact hq)
 |str l=>
  refine um e λm h1 aa=>?_;subst aa;refine aq hx λt aa O=>?_;clear hx;subst aa;refine aq (qP hy h1) λu aa O=>?_;subst aa;refine P.lt_str ?_;have:decide ((V.tx l).cps.toList<(V.tx m).cps.toList)=bu l m:=by
   rw[pg,decide_eq_true_iff]
   simpa[Cf.tx] using Bp l m
  rw[<- this] at hq
  simpa using hq
 |_=>exact aR e
def t7(V:Cf)(J:Ph)(h:Heap)(r:Bool)(n m:Nat)(rest:List (Value×Value)):Prop:=∃vs ws ds es,rest=List.zip vs ws/\aQ V J h vs ds/\aQ V J h ws es/\AD ds es=some r/\(n<m↔vs.length<ws.length)
def t7.nil{r:Bool}{m:Nat}(I:t7 V J h r n m []):decide (n<m)=r:=by
 refine Gw I λvs ws ds es hz r1 r2 iu ir=>?_;clear I;rw[decide_eq_decide.mpr ir];cases ds with
 |nil=>
  have q:vs=[]:=r1;subst q;cases es with
  |nil=>have q:ws=[]:=r2;subst q;exact jR iu
  |cons=>refine dN r2 λO O aa O=>?_;clear r2;subst aa;exact(decide_eq_true (qL _)).trans (jR iu)
 |cons=>
  refine dN r1 λO O aa O=>?_;clear r1;subst aa;cases es with
  |nil=>have q:ws=[]:=r2;subst q;exact jR iu
  |cons=>refine dN r2 λO O aa O=>?_;clear r2;subst aa;exact nomatch hz
def LtC(V:Cf)(J:Ph)(h:Heap)(r:Bool)(n m:Nat)(rest:List (Value×Value))(y x:Value)(d e:AV)(c:Bool):Prop:=c6 d e=some c/\(c=true->t7 V J h r n m rest)/\(c=false->VR V J h y d/\VR V J h x e/\AF d e=some r)
def t7.cons{r:Bool}{m:Nat}{y x:Value}{rest:List (Value×Value)}(I:t7 V J h r n m ((y,x)::rest)):
  ∃d e c D D' as bs,LtC V J h r n m rest y x d e c/\gM V h y d 3 D as/\gM V h x e 3 D' bs:=by
 refine Gw I λvs ws ds es hz r1 r2 iu ir=>?_;clear I;cases ds with
 |nil=>have q:vs=[]:=r1;subst q;exact nomatch hz
 |cons d1 ds=>
  refine bB r1 λv1 t1 aa a1 a2=>?_;clear r1;subst aa;cases es with
  |nil=>have q:ws=[]:=r2;subst q;exact nomatch hz
  |cons e1 es=>
   refine bB r2 λw1 t2 aa b1 b2=>?_;clear r2;subst aa;injection hz with h1 h2
   injection h1 with h3 h4
   subst h2 h3 h4;refine ub iu λc hc iu=>?_;refine ur hc λh1 h2=>?_;refine us h1 λh1 h3=>?_;refine ct (tD 3 a1 h1) λD as y1=>?_;refine ct (tD 3 b1 h3) λD' bs y2=>?_;refine⟨d1,e1,c,D,D',as,bs,⟨h2,λq=>?_,λq=>?_⟩,y1,y2⟩
   ·subst q;exact⟨t1,t2,ds,es,rfl,a2,b2,iu,ir.trans Nat.succ_lt_succ_iff⟩
   ·subst q;exact⟨a1,b1,iu⟩
def Rk(V:Cf)(J:Ph)(l b:Addr)(items gw:List Value)(n n2:Nat)(xs ys:List AV)(r:Bool)(e:AD xs ys=some r):
  Meets (Builtin.«tuple.__lt__» ⟨[.ref l,.ref b],[]⟩) (λA' R s'=>A'.units+60<cLine/\IsT s'.heap l items.toArray n/\IsT s'.heap b gw.toArray n2/\aQ V J s'.heap items xs/\aQ V J s'.heap gw ys/\R (.ok (.ret (.bool r))) s'):=
 .of_wp λprog w A' R s' h=>by
  obtain⟨hu,hl,hb,rx,ry,h⟩:=h;have I0:t7 V J s'.heap r items.length gw.length (List.zip items gw):=⟨_,_,_,_,rfl,rx,ry,e,Iff.rfl⟩;clear rx ry e;have f2:=AutoSeq1.sub_tuple_tuple;wp_walk using wpAny_loadPart' hl,wpAny_loadPart' hb,wpAny_forIn_list _ (λrest b s=>b.1=none/\s=s'/\t7 V J s'.heap r items.length gw.length rest) _
  case turn=>
   rintro ⟨y,x⟩ rest b s ⟨Em,rfl,I⟩
   obtain⟨d1,e1,c,D,D',as,bs,k,y1,y2⟩:=I.cons;refine ah (SeqAt.eqBoolOverData _ _ _ _ _ _ _ _ _ _ _ _ y1.rd y2.rd y1.hB y2.hB (cU (mB (aM (Nat.min_le_left ..) y1.deep) _) (Gb hu)) ?_);rw[yD y1.pd y2.pd k.1];cases c with
   |true=>wp_walk;exact⟨rfl,rfl,k.2.1 rfl⟩
   |false=>have q:=k.2.2 rfl;refine wpAny_ite_true rfl ?_;refine ah (wpAny_rule (ah (Dx q.1 q.2.1 q.2.2 _ _ ?_)));exact ah (aH (aH (aH ⟨_,rfl,h⟩)))
  case fin=>
   rintro ⟨b1,b2⟩ s ⟨Em,rfl,I⟩
   simp only at Em;subst Em;refine aH ⟨_,rfl,?_⟩;show R (.ok (.ret (.bool (decide (items.toArray.size<gw.toArray.size))))) _;rw[dj,dj,I.nil];exact h
  case h=>exact⟨rfl,rfl,I0⟩
def WA{prog:Program}{w:World}{A:Around}(hu:A.units+62<cLine)(hx:VR V J s.heap vx x)(hy:VR V J s.heap vy y)(e:AG x y=some b):
  ∀Q E,Q (.bool b) s->wpAny (model prog w) A (richCompare .Lt vx vy) Q E s:=by
 intro Q E hq;cases x with
 |tup a=>refine ub e λm h1 e=>?_;refine cO hx λa1 i1 n1 aa f1=>?_;clear hx;subst aa;refine cO (QL hy h1) λa2 i2 n2 aa f2=>?_;subst aa;exact richCompare_meets_room (op:=.Lt) ⟨_,f1.at_,rfl⟩ ⟨_,f2.at_,rfl⟩ F.slot_tuple_lt F.entry_tuple_lt (F.args_tuple_lt_2 _ _) (Rk V J _ _ _ _ _ _ _ _ b e) ⟨by exact Oc ‹_›,f1.at_,f2.at_,f1.all,f2.all,by simp,hq⟩ (by exact ud ‹_›)
 |_=>exact Dx hx hy e Q E hq
def WB(pre:ao V d q G J U H s)(hx:VR V J s.heap vx x)(hy:VR V J s.heap vy y)(e:AG x y=some b):kf V G.A s (compareOp .Lt vx vy) b:=λQ E hq=>WA (by have:=pre.room.units;exact NM ‹_›) hx hy e Q E (hq _ (ax.refl _))
end
section
variable {V:Cf}{G:Fm}{J:Ph}{s:Shared}{U:aC}{H:Hp}{d:Nat}{q:Bool}
variable {h:Heap}{v:Value}{x:AV}
def sI{k:List Nat}(hx:VR V J h v x)(e:x.de=some k):(kS V).is k v=true/\cS V k:=by refine aq (qP hx e) λt aa o=>?_;subst aa;exact⟨strKind_is V.prog V.w (V.tx k) t,o⟩
def JH{y:List Nat}(hy:(kS V).is y v=true)(x:List Nat):(kS V).is x v=ak y x:=by rw[KeyKind.is_eq_decide hy x,pg,decide_eq_true_iff,vL];exact eq_comm
theorem yG{h:Heap}:∀{l:List (List Nat×AV)} {es:List DictEntry},hO V J h l es->KeysOf (kS V) es.toArray:=by
 intro l
 induction l with
 |nil=>intro _ x;subst x;intro e he;simp at he
 |cons p l ih=>
  intro _ bU;refine bB bU λe r q x y=>?_;clear bU;subst q;intro e' he;rw[List.mem_toArray] at he;rcases bQ.mp he with rfl|he
  ·exact⟨p.1,x.key,x.hash⟩
  ·exact ih y e' (List.mem_toArray.mpr he)
theorem Bv(x:List Nat){h:Heap}:∀{l:List (List Nat×AV)} {es:List DictEntry},hO V J h l es ->
  (cy x l=none/\findBy (kS V).is es.toArray x=none)\/∃v val,cy x l=some v/\findBy (kS V).is es.toArray x=some val/\VR V J h val v:=by
 intro l
 induction l with
 |nil=>intro _ e;subst e;exact .inl ⟨rfl,rfl⟩
 |cons p l gH=>
  intro _ bU;refine bB bU λe r q z y=>?_;clear bU;subst q;have ih:=gH y;unfold findBy at ih⊢;rw[List.find?_toArray] at ih⊢;rw[uu,JH z.key];show((match ak p.1 x with|true=>some p.2|false=>cy x l)=_/\_)\/∃v val,(match ak p.1 x with|true=>some p.2|false=>cy x l)=_/\_;cases ak p.1 x with
  |true=>exact .inr ⟨_,_,rfl,rfl,z.val⟩
  |false=>exact ih
def iZ(V:Cf)(J:Ph)(h:Heap)(a:Addr)(ep:Nat)(l:List (List Nat×AV))(es:List DictEntry):Prop:=(h.MapOf (kS V) a (λk=>findBy (kS V).is es.toArray k))/\(hO V J h l es)/\(h.get? a=some {cls:=.type "dict",data:=.dict es.toArray ep})/\(l.length<=az)/\((l.map (·.1)).Nodup)
section
variable {b1 b2 b3 b4 b5 b6 b7}(x:iZ b1 b2 b3 b4 b5 b6 b7)
def iZ.mk:=lI (iZ b1 b2 b3 b4 b5 b6 b7) rfl
def iZ.map:=x.1
def iZ.all:=x.2.1
def iZ.at_:=x.2.2.1
def iZ.len:=x.2.2.2.1
def iZ.nodup:=x.2.2.2.2
end
variable {p:Addr×Addr}{ep:Nat}{l:List (List Nat×AV)}{es:List DictEntry}
def iG.map(x:iG V J h p ep l es):p=(p.1,p.1)/\iZ V J h p.1 ep l es:=by have eq:=x.eq;obtain⟨a,b⟩:=p;dsimp only at eq;subst eq;exact⟨rfl,iZ.mk ⟨_,es.toArray,ep,x.at_,⟨rfl,rfl,rfl⟩,rfl,yG x.all,λO=>rfl⟩ x.all x.at_ x.len x.nodup⟩
variable {n:Nat}{r:Nat×List (List Nat×AV)}
def aZ.dict(R:aZ V J H h)(e:cD H n=some r)(hp:J[n]?=some p):p=(p.1,p.1)/\∃es,iZ V J h p.1 r.1 r.2 es:=ue (R.at (aa9 e) hp) λes x=>⟨x.map.1,es,x.map.2⟩
def aZ.set(R:aZ V J H h){l:List (List Nat)}(e:oh H n=some l)(hp:J[n]?=some p):p=(p.1,p.1)/\Nj V h p.1 l:=by refine ua (R.at (Hs e) hp) λeq x=>?_;obtain⟨a,b⟩:=p;dsimp only at eq;subst eq;exact⟨rfl,x⟩
def I9(k:List Nat):∀l:List (List Nat),(l.any λy=>V.tx y==V.tx k)=aU k l:=by
 intro l
 induction l with
 |nil=>exact rfl
 |cons y l ih=>rw[List.any_cons,GB,ih];show _=(match ak y k with|true=>true|false=>aU k l);cases ak y k<;>rfl
structure eg(V:Cf):Prop where
 big:10<=V.h₀.objs.size
 Zl:∀k,V.gv k≠some .none
def VH(R:aZ V J H h)(e:J[n]?=some p)(El:10<=V.h₀.objs.size):(p.2==sysModules)=false:=by exact beq_eq_false_iff_ne.mpr λq=>absurd (aM El (q▸R.above p (jS e))) (by decide)
def xH(R:aZ V J H h)(e:J[n]?=some p)(hp:p=(p.1,p.1))(El:10<=V.h₀.objs.size):(p.1==sysModules)=false:=by have:=VH R e El;rwa[congrArg Prod.snd hp] at this
noncomputable def vn:List (List Nat×AV)->List DictEntry->List (List Nat×Value)
 |[],_=>[]
 |p::l,es=>match es with
  |[]=>[]
  |e::es=>(p.1,e.val)::vn l es
theorem Xq{h:Heap}:∀{l:List (List Nat×AV)} {es:List DictEntry},hO V J h l es->Pairs (kS V) es (vn l es)/\(vn l es).map (·.1)=l.map (·.1)/\(vn l es).length=l.length:=by
 intro l
 induction l with
 |nil=>intro _ e;subst e;exact⟨.nil,rfl,rfl⟩
 |cons p l ih=>intro _ bU;refine bB bU λe r q z y=>?_;clear bU;subst q;refine zt (ih y) λa b c=>?_;exact⟨.cons z.key rfl a,congrArg (p.1::·) b,congrArg (·+1) c⟩
def qu(V:Cf)(J:Ph)(h:Heap)(x:List Nat)(w:AV)(o:Option (List Nat×Value))(v:Value):Prop:=(o=some (x,v))/\(VR V J h v w)/\(cS V x)
section
variable {b1 b2 b3 b4 b5 b6 b7}(x:qu b1 b2 b3 b4 b5 b6 b7)
def qu.mk:=lJ (qu b1 b2 b3 b4 b5 b6 b7) rfl
def qu.get:=x.1
def qu.val:=x.2.1
def qu.ok:=x.2.2
end
theorem Xr{h:Heap}:∀{l:List (List Nat×AV)} {es:List DictEntry},hO V J h l es->∀(i:Nat) (p:List Nat×AV),l[i]?=some p->∃v,qu V J h p.1 p.2 (vn l es)[i]? v:=by
 intro l
 induction l with
 |nil=>intro _ e i p h;exact nomatch h
 |cons p l ih=>
  intro _ bU i p' e';refine bB bU λe r q z y=>?_;clear bU;subst q;cases i with
  |zero=>obtain rfl:=sj e';exact⟨_,qu.mk rfl z.val z.ok⟩
  |succ i=>exact ih y i p' e'
def qy(V:Cf)(J:Ph)(h:Heap)(a:Addr)(ep:Nat)(l:List (List Nat×AV))(lO:List (List Nat×Value)):Prop:=(h.DictAt (kS V) a lO ep)/\(lO.length=l.length)/\(l.length<=az)/\(∀(i:Nat) (p:List Nat×AV),l[i]?=some p->∃v,qu V J h p.1 p.2 lO[i]? v)
section
variable {b1 b2 b3 b4 b5 b6 b7}(x:qy b1 b2 b3 b4 b5 b6 b7)
def qy.mk:=fq (qy b1 b2 b3 b4 b5 b6 b7) rfl
def qy.at_:=x.1
def qy.len:=x.2.1
def qy.get:=x.2.2.2
end
variable {a:Addr}
def iZ.at(m:iZ V J h a ep l es):qy V J h a ep l (vn l es):=by refine zt (Xq m.all) λh2 h3 h4=>?_;exact(qy.mk ⟨_,es.toArray,m.at_,⟨rfl,rfl,rfl⟩,rfl,yG m.all,by simpa using h2,by rw[h3];exact m.nodup⟩ h4 m.len (Xr m.all))
def aZ.dictAt(R:aZ V J H h)(e:Mine.cD H n=some r)(hp:J[n]?=some p):p=(p.1,p.1)/\∃lO,qy V J h p.1 r.1 r.2 lO:=by refine il (R.dict e hp) λpe es m=>?_;exact⟨pe,_,m.at⟩
theorem aeh{x:AV}{D:PyData}(hx:PD V x D):∀{l:List AV} {Ds:List PyData} {b:Bool},tZ V l Ds->gG x l=some b->(Ds.any λy=>PyData.eqv y D)=b:=by
 intro l
 induction l with
 |nil=>intro _ _ r e;subst r;obtain rfl:=sj e;rfl
 |cons y l ih=>intro _ _ bU e;refine bB bU λD' r q h1 h2=>?_;clear bU;subst q;refine ub e λb e1 e=>?_;refine um e λc e2 aa=>?_;subst aa;rw[List.any_cons,yD h1 hx e1,ih h2 e2]
variable {vx vy:Value}{b:Bool}
def Yk(pre:ao V d q G J U H s){l:List AV}{items:List Value}(hx:VR V J s.heap vx x)(y:Ls V J s.heap vy l a items n)(e:aI (cw (aV H 3 x) 3&&dh (l.map (aV H 3)) 3) (gG (aV H 3 x) (l.map (aV H 3)))=some b):
  kf V G.A s (compareOp .In vx vy) b/\kf V G.A s (compareOp .NotIn vx vy) !b:=by
 refine ur e λh1 h2=>?_;refine us h1 λh1 h3=>?_;refine ct (AL pre.rel 3 3 hx h1) λD as y1=>?_;refine ct (Jz pre.rel 3 (AL pre.rel 3) 3 y.all h3) λDs bs y2=>?_;have hv:=aeh y1.pd y2.pd h2;have rc:Reads s.heap vy (.list Ds) (a::bs):=by rw[y.eq];exact .list y.at_ rfl rfl y2.rd
 have ru:G.A.units+1+min (PyData.depthAll Ds) D.depth<cLine:=cU (mB (aM (Nat.min_le_right ..) y1.deep) _) (Qq pre.room.units);exact⟨λQ E hq=>SeqAt.in_list_reads rc y1.rd y2.hB y1.hB ru (by rw[hv];exact hq _ (ax.refl _)),λQ E hq=>SeqAt.notIn_list_reads rc y1.rd y2.hB y1.hB ru (by rw[hv];exact hq _ (ax.refl _))⟩
def Yi{k:List Nat}(hk:(kS V).is k vx=true)(hm:(a==sysModules)=false)(m:iZ V J s.heap a ep l es):
  kf V G.A s (compareOp .In vx (.ref a)) (c5 k l)/\kf V G.A s (compareOp .NotIn vx (.ref a)) !(c5 k l):=by
 have hf:(findBy (kS V).is es.toArray k).isSome=c5 k l:=by unfold c5;rcases Bv k m.all with⟨a1,a2⟩|⟨v,val,a1,a2,_⟩<;>rw[a1,a2]<;>rfl
 exact⟨λQ E hq=>wpAny_in_of hk hm m.map (by rw[hf];exact hq _ (ax.toks ..)),λQ E hq=>wpAny_notIn_of hk hm m.map (by rw[hf];exact hq _ (ax.toks ..))⟩
def Ka(pre:ao V d q G J U H s)(ok:eg V){y:AV}(hx:VR V J s.heap vx x)(hy:VR V J s.heap vy y)(e:gU x y H=some b):
  kf V G.A s (compareOp .In vx vy) b/\kf V G.A s (compareOp .NotIn vx vy) !b:=by
 unfold gU at e;cases hl:cG H y with
 |some l=>rw[hl] at e;refine iJ (lg pre.rel hy hl) λa items n z=>?_;exact Yk pre hx z e
 |none=>
  rw[hl] at e;refine ub e λn h2 e=>?_;refine aq (ik hy h2) λp aa hp=>?_;subst aa;refine ub e λk h1 e=>?_;cases hd:cD H n with
  |some r=>rw[hd] at e;obtain rfl:=sj e;refine il (pre.rel.dict hd hp) λpe es m=>?_;exact Yi (sI hx h1).1 (xH pre.rel hp pe ok.big) m
  |none=>rw[hd] at e;refine um e λl h3 aa=>?_;subst aa;refine aq (qP hx h1) λt aa o=>?_;subst aa;have ny:=strKind_is V.prog V.w (V.tx k) t;refine ua (pre.rel.set h3 hp) λpe m=>?_;rw[<- I9 (V:=V)];exact⟨λQ E hq=>wpAny_inSet_of ny rfl m.set (hq _ (ax.toks ..)),λQ E hq=>wpAny_notInSet_of ny rfl m.set (hq _ (ax.toks ..))⟩
def Cj(ok:eg V)(hx:VR V J h v x):(v==Value.none)=x.th:=by
 cases x with
 |none=>subst hx;rfl
 |bool=>subst hx;rfl
 |int=>refine ue hx λO aa=>?_;clear hx;subst aa;rfl
 |str=>refine aq hx λO aa O=>?_;clear hx;subst aa;rfl
 |cE=>refine dN hx λO O aa O=>?_;clear hx;subst aa;rfl
 |tup=>refine cO hx λO O O aa O=>?_;clear hx;subst aa;rfl
 |lst=>refine cO hx λO O O aa O=>?_;clear hx;subst aa;rfl
 |dF=>refine mQ hx λO O O O aa O=>?_;clear hx;subst aa;rfl
 |ref=>refine dN hx λO O aa O=>?_;clear hx;subst aa;rfl
 |glob=>cases v<;>first|rfl|exact absurd hx (ok.Zl _)
 |cP=>refine mQ hx λO O O O aa O=>?_;clear hx;subst aa;rfl
 |vals=>refine cO hx λO O O aa O=>?_;clear hx;subst aa;rfl
 |uY=>refine ct hx λO O aa=>?_;clear hx;subst aa;rfl
def KR(V:Cf)(J:Ph)(h:Heap):List (List Nat×AV)->List (List Nat×Value)->Prop
 |[],ka=>ka=[]
 |p::l,ka=>∃v r,ka=(p.1,v)::r/\VR V J h v p.2/\KR V J h l r
def aa1:∀{l:List (List Nat×AV)} {es:List DictEntry},hO V J h l es->∃ka,Pairs (kS V) es ka/\KR V J h l ka/\ka.map (·.1)=l.map (·.1):=by
 intro l
 induction l with
 |nil=>intro es e;subst e;exact⟨[],.nil,rfl,rfl⟩
 |cons p l ih=>intro es bU;refine bB bU λe r q z y=>?_;subst q;obtain⟨ka,a,b,c⟩:=ih y;exact⟨(p.1,e.val)::ka,.cons z.key rfl a,⟨_,_,rfl,z.val,b⟩,congrArg (p.1::·) c⟩
def Xs(k:List Nat):∀{l:List (List Nat×AV)} {ka:List (List Nat×Value)},KR V J h l ka->(cy k l=none/\valueAt ka k=none)\/∃v y,cy k l=some v/\valueAt ka k=some y/\VR V J h y v:=by
 intro l
 induction l with
 |nil=>intro ka e;rw[show ka=[] from e];exact .inl ⟨rfl,rfl⟩
 |cons p l ih=>
  intro ka e;obtain⟨v,r,e1,e2,e3⟩:=e;subst e1;have hl:cy k (p::l)=match ak p.1 k with|true=>some p.2|false=>cy k l:=rfl
  have hv:valueAt ((p.1,v)::r) k=if p.1=k then some v else valueAt r k:=by
   unfold valueAt;rw[uu];by_cases q:p.1=k
   ·rw[if_pos q];simp[q]
   ·rw[if_neg q];simp[q]
  rw[hl,hv];by_cases q:p.1=k
  ·rw[if_pos q,(vL _ _).mpr q];exact .inr ⟨_,_,rfl,rfl,e2⟩
  ·rw[if_neg q];have:ak p.1 k=false:=by
    cases h:ak p.1 k with
    |false=>rfl
    |true=>exact absurd ((vL _ _).mp h) q
   rw[this];exact ih e3
def Xx{A:Around}{lb:List (List Nat×AV)}{kb:List (List Nat×Value)}(hb:KR V J s.heap lb kb):∀{la:List (List Nat×AV)} {ka:List (List Nat×Value)} {r:Bool},KR V J s.heap la ka->sR la lb=some r->KeqHits A s kb ka r:=by
 intro la
 induction la with
 |nil=>intro ka r ha e;rw[show ka=[] from ha];obtain rfl:=sj e;exact .nil
 |cons p la ih=>
  intro ka r ha e;obtain⟨v,t,e1,e2,e3⟩:=ha;subst e1;have e:(match cy p.1 lb with
   |some v=>(p.2.int?).bind λi=>(v.int?).bind λj=>(sR la lb).map λc=>dQ i j&&c
   |none=>some false)=some r:=e
  rcases Xs p.1 hb with⟨a1,a2⟩|⟨w,y,a1,a2,a3⟩
  ·rw[a1] at e;obtain rfl:=sj e;exact .miss a2
  ·rw[a1] at e;refine ub e λi h1 e=>?_;refine ub e λj h2 e=>?_;refine um e λc h3 e=>?_;subst e;obtain⟨t1,q1⟩:=eG e2 h1;obtain⟨t2,q2⟩:=eG a3 h2;subst q1 q2;refine .hit a2 (λprog w E Q h=>?_) (ih e3 h3);rw[LU] at h;exact wpAny_eqBool_int h
def LN(pre:ao V d q G J U H s)(ok:eg V){y:AV}(hx:VR V J s.heap vx x)(hy:VR V J s.heap vy y)(e:gK x y H=some b):
  kf V G.A s (compareOp .Eq vx vy) b/\kf V G.A s (compareOp .NotEq vx vy) !b:=by
 unfold gK at e;cases hd:ql H x with
 |none=>rw[hd] at e;exact aah pre hx hy e
 |some a=>
  rw[hd] at e;refine ub e λb' hb e=>?_;have L6:∀{v:AV} {vv:Value} {l:List (List Nat×AV)},VR V J s.heap vv v->ql H v=some l->∃p ka,vv=.ref p/\(p==sysModules)=false/\s.heap.DictOf (kS V) p ka/\KR V J s.heap l ka/\ka.length=l.length:=λ{v vv l} hv h=>by refine ub h λn h2 h3=>?_;refine um h3 λr h4 aa=>?_;subst aa;refine aq (ik hv h2) λp aa hp=>?_;subst aa;refine il (pre.rel.dict h4 hp) λpe es m=>?_;obtain⟨ka,k1,k2,k3⟩:=aa1 m.all;refine⟨p.1,ka,rfl,xH pre.rel hp pe ok.big,⟨_,_,_,m.at_,⟨rfl,rfl,rfl⟩,rfl,yG m.all,k1,by rw[k3];exact m.nodup⟩,k2,by have:=congrArg List.length k3;rwa[aJ,aJ] at this⟩
  obtain⟨p,ka,r1,m1,d1,k1,l1⟩:=L6 hx hd;obtain⟨p2,kb,r2,m2,d2,k2,l2⟩:=L6 hy hb;subst r1 r2;have hu:G.A.units<cLine:=cU (eE _ _) (HO pre.room (show 0<=50 from jP _) 0);have go:∀r:Bool,(ka.length=kb.length->KeqHits G.A.in1 s kb ka r)->(ka.length==kb.length&&r)=b->kf V G.A s (compareOp .Eq (.ref p) (.ref p2)) b/\kf V G.A s (compareOp .NotEq (.ref p) (.ref p2)) !b:=λr hh hb=>⟨λQ E hq=>keq_eq m1 m2 d1 d2 hu hh (by rw[hb];exact hq _ (ax.refl _)),λQ E hq=>keq_ne m1 m2 d1 d2 hu hh (by rw[hb];exact hq _ (ax.refl _))⟩;have e:(match Nat.beq a.length b'.length with|true=>sR a b'|false=>some false)=some b:=e;cases hl:Nat.beq a.length b'.length with
  |true=>rw[hl] at e;have el:=bV hl;refine go b (λO=>Xx k2 k1 e) ?_;rw[l1,l2,el,beq_self_eq_true];rfl
  |false=>
   rw[hl] at e;obtain rfl:=sj e;have en:ka.length≠kb.length:=λq=>by rw[l1,l2] at q;rw[q,fV] at hl;exact nomatch hl
   refine go true (λh=>absurd h en) ?_;rw[beq_eq_false_iff_ne.mpr en];rfl
def Mk(pre:ao V d q G J U H s)(ok:eg V){op:CmpOp}{y:AV}(hx:VR V J s.heap vx x)(hy:VR V J s.heap vy y)(e:fQ op x y H=some b):
  kf V G.A s (compareOp op vx vy) b:=by
 have JV:∀{r:Bool},aI y.th (some r)=some b->vy=.none/\r=b:=λe=>by refine ur e λh1 h2=>?_;obtain rfl:=sj h2;rw[<- Cj ok hy] at h1;exact⟨eq_of_beq h1,rfl⟩
 cases op with
 |Eq=>exact(LN pre ok hx hy e).1
 |NotEq=>refine um e λc e' aa=>?_;subst aa;exact(LN pre ok hx hy e').2
 |Lt=>exact WB pre hx hy e
 |Gt=>refine ub e λi h1 e=>?_;refine um e λj h2 aa=>?_;subst aa;refine ue (eG hx h1) λt aa=>?_;subst aa;refine ue (eG hy h2) λu aa=>?_;subst aa;rw[rD];exact λQ E hq=>P.gt_int (hq _ (ax.refl _))
 |Is=>refine ua (JV e) λaa ow=>?_;subst aa;subst ow;intro Q E hq;refine is_none ?_;rw[Cj ok hx];exact hq _ (ax.refl _)
 |IsNot=>refine ua (JV e) λaa ow=>?_;subst aa;subst ow;intro Q E hq;refine isNot_none ?_;rw[Cj ok hx];exact hq _ (ax.refl _)
 |In=>exact(Ka pre ok hx hy e).1
 |NotIn=>refine um e λc e' aa=>?_;subst aa;exact(Ka pre ok hx hy e').2
 |_=>exact aR e
end
section
variable {V:Cf}{G:Fm}{J:Ph}{s:Shared}{U:aC}{H:Hp}{d:Nat}{q:Bool}
variable {k:Nat}
def QQ{v:AV}{ρ':aC}{H':Hp}(h:mK k U H=.ok v ρ' H'):U[k]?=some (some v)/\ρ'=U/\H'=H:=by
 unfold mK at h;rw[cQ] at h;cases e:U[k]? with
 |none=>rw[e] at h;cases h
 |some o=>cases o with
  |none=>rw[e] at h;cases h
  |some w=>rw[e] at h;cases h;exact⟨rfl,rfl,rfl⟩
def ag.res{α β:Type}{t:Sem α}{r:dG β}{R:Ph->Heap->α->β->Prop}(h:∀v,r=.ok v U H->ag V G J s t (.ok v U H) R)(hr:r=.stuck\/∃v,r=.ok v U H):ag V G J s t r R:=by
 rcases hr with e|⟨v,e⟩
 ·rw[e];exact ag.stuck
 ·rw[e];exact h v e
def QP(k:Nat)(U:aC)(H:Hp):mK k U H=.stuck\/∃v,mK k U H=.ok v U H:=by
 unfold mK;cases ae U k with
 |none=>exact .inl rfl
 |some o=>cases o with
  |none=>exact .inl rfl
  |some v=>exact .inr ⟨v,rfl⟩
variable {x:Str}
def Gk(pre:ao V d q G J U H s)(hx:G.K.sc.lookup x=some k)(hn:(x==("__classdict__":Str))=false):ag V G J s (loadName G.env x) (mK k U H) (VR V):=
 ag.res (λv e=>by
  have hv:=(QQ e).1;rcases pre.er.zS x k hx with hk|hk
  ·refine aq pre.er.ns λm tJ hm=>?_;refine aq (hm.val x k hx hk v hv) λval e r=>?_;exact ag.quiet pre λQ E h=>wpAny_loadName_local pre.er.kind (hm.kind x ⟨k,hx⟩ hk) tJ e (h _ _ (ax.refl _) r)
  ·refine ct (pre.er.nE x k hx hk) λc ov w=>?_;refine aq (w.val v hv) λval aa r=>?_;subst aa;rcases w.kind with h2|h2
   ·exact ag.quiet pre λQ E h=>wpAny_loadName_cell pre.er.kind h2 w.look w.cell (h _ _ (ax.refl _) r)
   ·exact ag.quiet pre λQ E h=>wpAny_loadName_free pre.er.kind h2 w.look w.cell (h _ _ (ax.refl _) r) hn) (QP k U H)
def K8(V:Cf)(k:Nat)(v:Value)(e:GE):Prop:=match e with
 |.cv c=>∀J h,VR V J h v c
 |_=>V.gv k=some v
def r9(V:Cf)(k:Nat)(mg mb:Str->Option Value)(x:Str)(v:Value):Prop:=(mg x=some v\/(mg x=none/\mb x=some v))/\(∀e,V.P.gt[k]?=some e->K8 V k v e)
section
variable {b1 b2 b3 b4 b5 b6}(x:r9 b1 b2 b3 b4 b5 b6)
def r9.mk:=jI (r9 b1 b2 b3 b4 b5 b6) rfl
def r9.val:=x.1
def r9.is:=x.2
end
structure BQ(V:Cf):Prop where
 g:∃mg mb,V.h₀.Ns mainGlobals mg/\V.h₀.Ns builtinsNs mb/\∀(k:Nat) (x:Str),V.gl[k]?=some x->∃v,r9 V k mg mb x v
def WT{M:Model}{A:Around}{env:Env}{E:Value->Shared->Prop}{Q:Value->Shared->Prop}{v:Value}{mg mb:Str->Option Value}(hk:env.scope.kind=.function)(hx:env.kindOf x=some .globalImplicit)
  (hg:s.heap.Ns env.globals mg) (hb:s.heap.Ns env.builtins mb) (hv:mg x=some v\/(mg x=none/\mb x=some v)) (h:Q v s):wpAny M A (loadName env x) Q E s:=by
 unfold loadName Env.blockKind;rw[hk,hx];show wpAny M A (loadGlobal env x) Q E s;unfold loadGlobal;refine ah (wpAny_nsGet hg ?_);rcases hv with e|⟨e,e'⟩
 ·rw[e];exact aH h
 ·rw[e];refine ah (wpAny_nsGet hb ?_);rw[e'];exact aH h
def Lb(pre:ao V d q G J U H s)(yp:BQ V)(hx:G.K.kn.lookup x=some .globalImplicit)(hg:V.gl[k]?=some x):
  ∃v,(∀e,V.P.gt[k]?=some e->K8 V k v e)/\∀Q E,Q v s->∀A,wpAny (model V.prog V.w) A (loadName G.env x) Q E s:=by
 refine bB yp.g λmg mb n1 n2 ym=>?_;refine ue (ym k x hg) λv r=>?_;exact⟨v,r.is,λQ E h A=>WT pre.er.kind (pre.er.Ba x hx) (by rw[pre.er.rM];exact n1.keeps pre.rel.keep) (by rw[pre.er.rU];exact n2.keeps pre.rel.keep) r.val h⟩
def Zq(pre:ao V d q G J U H s)(yp:BQ V)(hx:G.K.kn.lookup x=some .globalImplicit)(hg:V.gl[k]?=some x):
  ag V G J s (loadName G.env x) (yt V.P k U H) (VR V):=by
 refine aq (Lb pre yp hx hg) λv hv hl=>?_;unfold yt;rw[cQ];cases e:V.P.gt[k]? with
 |none=>exact ag.stuck
 |some g=>
  have:=hv g e;cases g with
  |cv c=>exact ag.quiet pre λQ E h=>hl _ _ (h _ _ (ax.refl _) (this _ _)) _
  |_=>exact ag.quiet pre λQ E h=>hl _ _ (h _ _ (ax.refl _) this) _
section
variable {h h':Heap}{L:Addr}
variable {X:List Addr}
def xc(hs:Heap.SameBut L h h')(hL:L∈X)(J:Ph):dD X J h h':=⟨λa o e O hx=>.inl ((hs.2 a λq=>hx (q▸hL)).trans e)⟩
def aZ.own(R:aZ V J H h)(hX:d3 X h)(hs:Heap.SameBut L h h')(hL:L∈X)(ha:V.h₀.objs.size<=L)(hφ:L∉J.map (·.2)):aZ V J H h':=R.mono (xc hs hL J) hX (λa o e=>(hs.2 a λq=>absurd (fy e) (hZ.mpr (q▸ha))).trans (R.keep a o e)) λp hp=>hs.2 _ λq=>hφ (q▸pq hp)
def d3.put(hX:d3 X h)(hs:Heap.SameBut L h h')(hL:∃o,h'.get? L=some o/\oW o):d3 X h':=λa ha=>by
 by_cases q:a=L
 ·rw[q];exact hL
 ·refine aq (hX a ha) λo e k=>?_;exact⟨o,(hs.2 a q).trans e,k⟩
def bX.own(R:bX V G J U h){ρ':aC}(hs:Heap.SameBut L h h')(hL:∃o,h'.get? L=some o/\oW o)(n:∃m,h'.Ns G.env.locals m/\kg V G J ρ' h' m)
  (c:∀(x:Str) (k:Nat),G.K.sc.lookup x=some k->(G.K.kn.lookup x=some .cell\/G.K.kn.lookup x=some .free)->∃c ov,gn V G J ρ' h' x k c ov):bX V G J ρ' h':=
 (bX.mk R.kind R.rM R.rU (R.fH.put hs hL) R.sF R.qN R.kJ R.Ba n c R.apart R.inj R.zS)
def dB.own(F:dB V G J h)(hs:Heap.SameBut L h h')(hd:∀o,h.get? L=some o->iQ o->∃o',h'.get? L=some o'/\iQ o'):dB V G J h':=
 F.keep (Gr.refl ..) λa o O e w=>by
  by_cases q:a=L
  ·subst q;exact hd o e w
  ·exact⟨o,(hs.2 a q).trans e,w⟩
def Hn{k:Nat}{a:AV}{dd:AV}(h:(U.set k (some a))[k]?=some (some dd)):dd=a:=by
 by_cases hl:k<U.length
 ·rw[uh hl] at h;cases h;rfl
 ·rw[ze (by simpa using hl)] at h;exact aR h
def bX.putL(R:bX V G J U h){x:Str}{k:Nat}{v:Value}{a:AV}{m:Str->Option Value}(hx:G.K.sc.lookup x=some k)(hk:G.K.kn.lookup x=some .local)(hm:kg V G J U h m)
  (hn:h'.Ns G.env.locals (λy=>if y=x then some v else m y)) (hs:Heap.SameBut G.env.locals h h') (hv:VR V J h v a):bX V G J (U.set k (some a)) h':=by
 have mono:∀{v:Value} {d:AV},VR V J h v d->VR V J h' v d:=λr=>r.mono (xc hs R.kJ J) R.fH (Gr.refl ..);refine mR (id hn) λo es ep ho hd O=>?_;refine R.own hs ⟨o,ho,.inl ⟨es,ep,hd⟩⟩ ⟨_,hn,kg.mk hm.kind (λy j hy nv d hd=>?_)⟩ λy j hy nv=>?_
 ·by_cases e:y=x
  ·subst e;rw[hx] at hy;obtain rfl:=sj hy;cases Hn hd;exact⟨v,if_pos rfl,mono hv⟩
  ·rw[pA (show k≠j from λq=>e (R.inj y x k (q▸hy) hx))] at hd;refine aq (hm.val y j hy nv d hd) λv' e' r=>?_;exact⟨v',(if_neg e).trans e',mono r⟩
 ·refine ct (R.nE y j hy nv) λc ov w=>?_;refine aq w.cell λoc eo hc=>?_;refine⟨c,ov,gn.mk w.look w.kind ⟨oc,(hs.2 c w.loc).trans eo,hc⟩ w.loc w.out w.low w.own (λd hd=>?_)⟩;rw[pA (λq=>by have:y=x:=R.inj y x k (q▸hy) hx;subst this;rw[hk] at nv;rcases nv with z|z<;>cases z)] at hd
  refine aq (w.val d hd) λv' e' r=>?_;exact⟨v',e',mono r⟩
def bX.Ac(R:bX V G J U h){x:Str}{k:Nat}{v:Value}{a:AV}{c:Addr}{ov:Option Value}(hx:G.K.sc.lookup x=some k)(hk:G.K.kn.lookup x=some .cell)(w:gn V G J U h x k c ov)
  (hn:h'.IsCell c (some v)) (hs:Heap.SameBut c h h') (hv:VR V J h v a):bX V G J (U.set k (some a)) h':=by
 have mono:∀{v:Value} {d:AV},VR V J h v d->VR V J h' v d:=λr=>r.mono (xc hs (w.own hk).1 J) R.fH (Gr.refl ..);refine aq R.ns λm hm hl=>?_;refine aq (id hn) λo ho hd=>?_;refine R.own hs ⟨o,ho,.inr (.inl ⟨_,hd⟩)⟩ ⟨m,hm.sameBut hs (fi w.loc),kg.mk hl.kind (λy j hy nv d hd=>?_)⟩ λy j hy nv=>?_
 ·rw[pA (λq=>by have:y=x:=R.inj y x k (q▸hy) hx;subst this;rw[hk] at nv;cases nv)] at hd
  refine aq (hl.val y j hy nv d hd) λv' e' r=>?_;exact⟨v',e',mono r⟩
 ·by_cases e:y=x
  ·subst e;rw[hx] at hy;obtain rfl:=sj hy;refine⟨c,some v,gn.mk w.look w.kind hn w.loc w.out w.low w.own (λd hd=>?_)⟩;cases Hn hd;exact⟨v,rfl,mono hv⟩
  ·refine ct (R.nE y j hy nv) λc' Ve w'=>?_;refine aq w'.cell λoc eo hc=>?_;refine⟨c',Ve,gn.mk w'.look w'.kind ⟨oc,(hs.2 c' (λq=>e (R.apart y x c (q▸w'.look) w.look):c'≠c)).trans eo,hc⟩ w'.loc w'.out w'.low w'.own (λd hd=>?_)⟩;rw[pA (show k≠j from λq=>e (R.inj y x k (q▸hy) hx))] at hd;refine aq (w'.val d hd) λv' e' r=>?_;exact⟨v',e',mono r⟩
end
def GU(pre:ao V d q G J U H s){v:Value}{a:AV}(hx:G.K.sc.lookup x=some k)(hk:G.K.kn.lookup x=some .local\/G.K.kn.lookup x=some .cell)(hv:VR V J s.heap v a):
  ag V G J s (storeName G.env x v) (lE k a U H) (λO O O O=>True):=by
 unfold lE;cases hl:Nat.blt k U.length with
 |false=>exact ag.stuck
 |true=>
  show ag V G J s _ (.ok () (ai U (some a) k) H) _;rw[sL];intro _;have R:=pre.er;rcases hk with hk|hk
  ·refine aq R.ns λm tJ hm=>?_;refine wpAny_storeName_local (hm.kind x ⟨k,hx⟩ hk) tJ (λh' dZ hs=>?_) (by rw[R.kind];rfl:(G.env.scope.kind==.class||(G.env.scope.kind==.module&&G.env.locals != G.env.globals))=false);refine mR (id dZ) λo es ep ho hd O=>?_;exact⟨(),_,H,J,rfl,(dI.mk (Nx.mk (xc hs R.kJ J) (Gr.refl ..) rfl rfl (xb hs ⟨o,ho⟩)) (pre.rel.own R.fH hs R.kJ (R.sF _ R.kJ) (R.qN _ R.kJ)) (R.putL hx hk hm dZ hs hv) (pre.fr.own hs λO O O=>⟨o,ho,es,ep,hd⟩)),trivial⟩
  ·refine ct (R.nE x k hx (.inl hk)) λc ov w=>?_;refine ua (w.own hk) λh7 Zd=>?_;refine wpAny_storeName_cell R.kind Zd w.look w.cell λh' dZ hs=>?_;refine aq w.cell λoc ec hc=>?_;exact⟨(),_,H,J,rfl,(dI.mk (Nx.mk (xc hs h7 J) (Gr.refl ..) rfl rfl (xb hs (aq dZ λo e O=>⟨o,e⟩))) (pre.rel.own R.fH hs h7 w.low w.out) (R.Ac hx hk w dZ hs hv) (pre.fr.own hs λo e bU=>ct bU λes n hd=>by rw[ec] at e;obtain rfl:=sj e;rw[hc] at hd;cases hd)),trivial⟩
end
section
variable {V:Cf}{G:Fm}{J:Ph}{s:Shared}{U:aC}{H:Hp}{d:Nat}{q:Bool}
noncomputable def rH:Expr->Bool
 |.Slice ..=>true
 |_=>false
variable {slice:Expr}
def zx(h:rH slice=false)(o i:Value):subscripted slice false o i=operate [o,i] (getItem o i):=by cases slice<;>first|rfl|exact absurd h.symm qE
variable {lo hi:Option Expr}
def Cr{p:Pos}(o i:Value):subscripted (.Slice lo hi none p) false o i=operate [i,o] (getItem o i):=rfl
structure Ix{α:Type}(i:Int)(l:List α)(v:α)(j:Nat):Prop where
 seq:seqIndex? i l.length=some j
 lo:-(2^63)<=i
 hi:i<2^63
 get:l[j]?=some v
variable {n:Nat}
def Hu{m:Nat}(h:m<n):seqIndex? (m:Int) n=some m:=by
 unfold seqIndex?;have e:(if(m:Int)<0 then(m:Int)+(n:Int) else(m:Int))=(m:Int):=if_neg (Int.not_lt.mpr (kq m));dsimp only;rw[e,decide_eq_true (kq m),decide_eq_true (qJ.mpr h)]
 rfl
def SY{m:Nat}(h:m<n):seqIndex? (Int.negSucc m) n=some (n-(m+1)):=by have e1:Int.negSucc m+(n:Int)=((n-(m+1):Nat):Int):=Int.subNatNat_of_le h;have e:=Hu (m:=n-(m+1)) (n:=n) (Nat.sub_lt (cU (jP m) h) (qL m));unfold seqIndex? at e⊢;dsimp only at e⊢;rw[if_neg (Int.not_lt.mpr (kq _))] at e;rw[if_pos (sq m),e1];exact e
variable {α:Type}
def DW{i:Int}{l:List α}{v:α}(h:j7 i l=some v)(hn:l.length<=az):∃j,Ix i l v j:=by
 cases i with
 |ofNat m=>have h:ae l m=some v:=h;rw[cQ] at h;have k:=(mG.mp h).1;exact⟨m,Hu k,sC (Int.neg_nonpos_of_nonneg (Int.pow_nonneg (by decide))) (kq m),vH (aM (fG k) hn),h⟩
 |negSucc m=>refine ur h λh1 h2=>?_;rw[cQ] at h2;have h1:=bG.mp h1;exact⟨_,SY h1,by rw[Int.negSucc_eq];exact Int.neg_le_neg (Int.le_of_lt (vH (n:=m+1) (aM h1 hn))),Int.lt_of_lt_of_le (sq m) (Int.pow_nonneg (by decide)),h2⟩
variable {value:Expr}{vo:Value}{l:List AV}{a:Addr}{items:List Value}
def JS(hs:rH slice=false){i:Int}{t:Tok}{v:AV}(x:Ls V J s.heap vo l a items n)(hi:j7 i l=some v):
  fS V G J s (subscriptTail value slice vo (.int i t)) v:=by
 intro Q E h;refine ue (DW hi x.len) λj ix=>?_;refine aq (x.all.get ix.get) λw hw rw=>?_;rw[x.eq];refine tail_any x.at_.isList.typeIs slot_list_getitem.lookup ?_ (zx hs _ _);have sz:items.toArray.size=l.length:=by rw[dj,x.all.length]
 have he:=ix.seq;unfold seqIndex? at he;dsimp only at he;have Ki:items.toArray[j]?=some w:=by simpa using hw
 by_cases h0:i<0
 ·rw[if_pos h0] at he
  set_option tactic.hygienic true in split at he
  ·rename_i hc;obtain rfl:=sj he;simp only[Bool.and_eq_true,decide_eq_true_iff] at hc;exact wpAny_getItem_list_neg x.at_.isList h0 (by rw[sz];exact Int.le_of_sub_nonneg (by rw[Int.sub_neg];exact hc.1)) ix.lo (by rw[sz];exact Ki) (h w _ (ax.refl _) rw)
  ·exact aR he
 ·rw[if_neg h0] at he;split at he
  ·obtain rfl:=sj he;exact wpAny_getItem_list x.at_.isList (Int.not_lt.mp h0) ix.hi Ki (h w _ (ax.refl _) rw)
  ·exact aR he
def XN(hs:rH slice=false){i:Int}{t:Tok}{v:AV}(x:Sq J a l (IsT s.heap a items.toArray n) (aQ V J s.heap items l))(hi:j7 i l=some v):
  fS V G J s (subscriptTail value slice (.ref a) (.int i t)) v:=by
 intro Q E h;refine ue (DW hi x.len) λj ix=>?_;refine aq (x.all.get ix.get) λw hw rw=>?_;exact tail_any (T:="tuple") ⟨_,x.at_,rfl⟩ F.slot_tuple_getitem.lookup (P.getItem_tuple x.at_ ix.lo ix.hi (by rw[dj,x.all.length];exact ix.seq) (by rw[pB];exact hw) (h w _ (ax.refl _) rw)) (zx hs _ _)
def XO(hs:rH slice=false){vi:Value}{k:List Nat}{ep:Nat}{l:List (List Nat×AV)}{es:List DictEntry}{v:AV}(m:iZ V J s.heap a ep l es)(hk:(kS V).is k vi=true)(e:cy k l=some v):
  fS V G J s (subscriptTail value slice (.ref a) vi) v:=by
 intro Q E h;rcases Bv k m.all with⟨a1,_⟩|⟨w,val,a1,a2,a3⟩
 ·rw[a1] at e;exact aR e
 ·rw[a1] at e;obtain rfl:=sj e;exact tail_any m.map.typeIs slot_dict_getitem.lookup (wpAny_getItem_of hk m.map a2 (h _ _ (ax.toks ..) a3)) (zx hs _ _)
def RX(pre:ao V d q G J U H s)(hs:rH slice=false){vi:Value}{o i:AV}(ho:VR V J s.heap vo o)(hi:VR V J s.heap vi i):
  ag V G J s (subscriptTail value slice vo vi) (cu (lB o i) U H) (VR V):=ag.opt pre λv e Q E h=>by
 cases o with
 |str l=>
  refine ub e λk h1 e=>?_;refine um e λc h3 aa=>?_;subst aa;refine ue (eG hi h1) λt aa=>?_;subst aa;refine aq ho λu aa o=>?_;clear ho;subst aa;refine ue (DW h3 o.len) λj ix=>?_;refine tail_any (typeIs_str _ _ _) slot_str_getitem.lookup (P.getItem_str ?_ (c:=65+c) ?_ (h _ _ (ax.toks ..) (.str (.one (o.sign c (jS ix.get)))))) (zx hs _ _)
  ·rw[decide_eq_false (Int.not_lt.mpr ix.lo),decide_eq_false (Int.not_le.mpr ix.hi)];rfl
  ·show(seqIndex? _ (V.enc l).toArray.size).bind _=_;rw[dj,rS,ix.seq];show(V.enc l).toArray[j]?=_;rw[pB];unfold Cf.enc;rw[qD,ix.get]
   rfl
 |lst l=>refine ub e λk h1 e=>?_;refine ue (eG hi h1) λt aa=>?_;subst aa;refine iJ (lg (x:=.lst l) pre.rel ho rfl) λa items n x=>?_;exact JS hs x e Q E h
 |tup l=>refine ub e λk h1 e=>?_;refine ue (eG hi h1) λt aa=>?_;subst aa;refine cO ho λa items n aa x=>?_;clear ho;subst aa;exact XN hs x e Q E h
 |ref n=>
  have e:(match bx H n with
   |some l=>(i.int?).bind λk=>j7 k l
   |none=>(cD H n).bind λr=>(i.de).bind λk=>cy k r.2)=some v:=e
  refine aq (ik ho rfl) λp aa hp=>?_;subst aa;cases hl:bx H n with
  |some l=>rw[hl] at e;refine ub e λk h1 e=>?_;refine ue (eG hi h1) λt aa=>?_;subst aa;refine ll (pre.rel.list hl hp) λO items n x=>?_;exact JS hs x e Q E h
  |none=>rw[hl] at e;refine ub e λr h1 e=>?_;refine ub e λk h2 e=>?_;refine il (pre.rel.dict h1 hp) λO es m=>?_;exact XO hs m (sI hi h2).1 e Q E h
 |_=>exact aR e
def Wj(x:Int)(n:Nat):(max 0 (min x (n:Int))).toNat=min x.toNat n:=by
 cases x with
 |ofNat k=>
  show(max 0 (min (k:Int) (n:Int))).toNat=min k n;rcases Nat.le_total k n with h|h
  ·rw[Int.min_eq_left (nO.mpr h)];exact(wo h).symm▸congrArg Int.toNat (Int.max_eq_right (kq k))
  ·rw[Int.min_eq_right (nO.mpr h)];exact(Nat.min_eq_right h).symm▸congrArg Int.toNat (Int.max_eq_right (kq n))
 |negSucc k=>rw[Int.min_eq_left (Int.le_of_lt (Int.lt_of_lt_of_le (sq k) (kq _))),Int.max_eq_left (Int.le_of_lt (sq k))];exact(Nat.zero_min n).symm
def EZ(n:Nat)(i:Int):clipAt n i=min (vU n i) n:=by
 unfold clipAt;rw[Wj];cases i with
 |ofNat k=>rfl
 |negSucc k=>rw[if_pos (sq k)];show min (Int.subNatNat n (k+1)).toNat n=min (n-(k+1)) n;rw[Int.subNatNat_eq_coe,Int.toNat_sub]
def abA(n:Nat)(i:Int):clipAt n i<=n:=EZ n i▸Nat.min_le_right ..
def aaV{m:List α}(a n:Nat)(h:m.length<=n):m.drop (min a n)=m.drop a:=by
 rcases Nat.le_total a n with k|k
 ·rw[wo k]
 ·rw[Nat.min_eq_right k,List.drop_eq_nil_of_le h,List.drop_eq_nil_of_le (aM h k)]
def Bx(l:List α)(lo hi:Option Int):List.take (hi.elim l.length (clipAt l.length)-lo.elim 0 (clipAt l.length)) (List.drop (lo.elim 0 (clipAt l.length)) l)=dA lo hi l:=by
 rw[<- List.drop_take];have e:∀m:List α,m.length<=l.length->m.drop (lo.elim 0 (clipAt l.length))=match lo with|none=>m|some i=>m.drop (vU l.length i):=λm h=>by
  cases lo with
  |none=>rfl
  |some a=>show m.drop (clipAt _ a)=_;rw[EZ];exact aaV _ _ h
 rw[e _ (List.length_take_le' ..)];cases hi with
 |none=>show(match lo with|none=>l.take l.length|some i=>(l.take l.length).drop (vU l.length i))=_;rw[List.take_length];rfl
 |some b=>show(match lo with|none=>l.take (clipAt _ b)|some i=>(l.take (clipAt _ b)).drop (vU l.length i))=_;rw[EZ,<- List.take_eq_take_min];rfl
def uW{h:Heap}{v:Value}{x:AV}{b:Option Int}(hv:VR V J h v x)(e:kO x=some b):IsPart v b/\∃pv:Option (Int×Tok),v=partValue pv/\b=pv.map (·.1):=by
 have num:∀e:((x.int?).bind λi=>aI (Nat.ble i.natAbs az) (some (some i)))=some b,IsPart v b/\∃pv:Option (Int×Tok),v=partValue pv/\b=pv.map (·.1):=λe=>by refine ub e λi h1 e=>?_;refine ur e λO e=>?_;obtain rfl:=sj e;refine ue (eG hv h1) λt aa=>?_;subst aa;exact⟨.int _ _,some (_,t),rfl,rfl⟩
 cases x with
 |none=>subst hv;obtain rfl:=sj e;exact⟨.none,none,rfl,rfl⟩
 |_=>exact num e
def yJ(a b:Option Int)(l:List α):(dA a b l).length<=l.length/\∀c∈dA a b l,c∈l:=by
 unfold dA;cases a<;>cases b<;>dsimp only
 ·exact⟨bf _,λO h=>h⟩
 ·exact⟨by rw[ux];exact Nat.min_le_right ..,λc h=>List.mem_of_mem_take h⟩
 ·exact⟨by rw[qC];exact nU ..,λc h=>List.mem_of_mem_drop h⟩
 ·exact⟨by rw[qC,ux];exact aM (nU ..) (Nat.min_le_right ..),λc h=>List.mem_of_mem_take (List.mem_of_mem_drop h)⟩
def abi(a b:Option Int)(l:List α):(dA a b l).Sublist l:=by
 unfold dA;cases a<;>cases b
 ·exact .refl _
 ·exact List.take_sublist ..
 ·exact List.drop_sublist ..
 ·exact(List.drop_sublist ..).trans (List.take_sublist ..)
def By{β:Type}(f:α->β)(a b:Option Int)(l:List α):dA a b (l.map f)=(dA a b l).map f:=by unfold dA;cases a<;>cases b<;>simp only[aJ,List.map_take,List.map_drop]
def aQ.cut{h:Heap}{vs:List Value}(r:aQ V J h vs l)(a b:Option Int):aQ V J h (dA a b vs) (dA a b l):=by have e:=r.length;unfold dA;rw[e];cases b<;>cases a<;>first|exact r|exact r.drop _|exact r.take _|exact(r.take _).drop _
def w0(s:Shared)(vl vu:Value):Shared:={s with heap:=s.heap.push {cls:=.type "slice",data:=.fields #[vl,vu,.none]}}
def SH{prog:Program}{w:World}{A:Around}{s1:Shared}{sa:Addr}{xs:List Nat}{t:Tok}{vl vu:Value}{a b:Option Int}(ok:cS V xs)(xY:s1.heap.IsSliceOf sa vl vu .none)(hl:∃pv:Option (Int×Tok),vl=partValue pv/\a=pv.map (·.1))(hu:∃pv:Option (Int×Tok),vu=partValue pv/\b=pv.map (·.1)){Q:Value->Shared->Prop}{E:Value->Shared->Prop}
  (h:∀v s',ax s1 s'->VR V J s'.heap v (.str (dA a b xs))->Q v s'):wpAny (model prog w) A (getItem (.str (V.tx xs) t) (.ref sa)) Q E s1:=by
 refine aq hl λpl aa el=>?_;clear hl;subst aa;refine aq hu λpu aa eu=>?_;clear hu;subst aa;have XR:s1.heap.IsSlice sa pl pu none:=xY;have len:(V.tx xs).cps.size=(V.enc xs).length:=dj;have Kr:slicePicked (V.tx xs) pl pu none=(List.range (b.elim (V.enc xs).length (clipAt (V.enc xs).length)-a.elim 0 (clipAt (V.enc xs).length))).map (a.elim 0 (clipAt (V.enc xs).length)+·):=by
  rw[<- sliceRange_one];show Builtin.Str.strSliceIndices _ _ 1 (V.tx xs).cps.size=_;rw[len];have:=sliceBounds_plain (pl.map (·.1)) (pu.map (·.1)) (V.enc xs).length;rw[<- el,<- eu] at this;unfold sliceBounds at this;unfold Builtin.Str.strSliceIndices;simp -iota only[Option.getD_none,Prod.mk.injEq] at this;rw[<- this.1,<- this.2.1,el,eu]
  rfl
 have A7:(slicePicked (V.tx xs) pl pu none).filterMap ((V.tx xs).cps[·]?)=V.enc (dA a b xs):=by rw[Kr];show List.filterMap (λx=>(V.enc xs).toArray[x]?) _=_;rw[pick_run];exact(Bx (V.enc xs) a b).trans (By ..)
 have xD:cS V (dA a b xs):=(cS.mk (aM (yJ ..).1 ok.len) (λc hc=>ok.sign c ((yJ ..).2 c hc)));refine wpAny_getItem_str_slice XR (by decide) ?_;unfold sliceMade
 set_option tactic.hygienic true in split
 ·rename_i hw;simp only[Option.map_none,Option.getD_none,Bool.and_eq_true,beq_iff_eq] at hw;have e:=congrArg List.length ((Bx (V.enc xs) a b).trans (By _ a b xs));rw[ux,qC,aJ] at e;have h2:(slicePicked (V.tx xs) pl pu none).length=(dA a b xs).length:=by
   rw[Kr,aJ,List.length_range,<- e];refine(wo ?_).symm;cases hb:b with
   |none=>exact bf _
   |some k=>exact Nat.sub_le_sub_right (abA ..) _
  have h3:(dA a b xs).length=xs.length:=by
   rw[<- h2];have:(slicePicked (V.tx xs) pl pu none).length=(V.tx xs).length:=by first|exact hw.2|exact hw.1
   rw[this];show(V.enc xs).toArray.size=_;rw[dj,rS]
  have Ek:dA a b xs=xs:=(abi a b xs).eq_of_length h3;rw[Ek] at h;exact h _ _ (ax.refl _) (.str ok)
 ·rw[A7];refine⟨?_,h _ _ (ax.toks ..) (.str xD)⟩;show(V.enc (dA a b xs)).toArray.size<=sizeLine;rw[dj,rS];exact i8 xD.len
def SI(pre:ao V d q G J U H s){p:Pos}{vl vu:Value}{o l u:AV}(ho:VR V J s.heap vo o)(hl:VR V J s.heap vl l)(hu:VR V J s.heap vu u):
  TT V G J s (λQ E=>wpAny (model V.prog V.w) G.A (subscriptTail value (.Slice lo hi none p) vo (.ref s.heap.objs.size)) Q E (w0 s vl vu)) (cu (kC o l u) U H) (VR V):=by
 have g0:ax s (w0 s vl vu):=ax.push s _ s.toks;have C4:=pre.grow g0;have xY:(w0 s vl vu).heap.IsSliceOf s.heap.objs.size vl vu .none:=Heap.IsSliceOf.new ..;have ho:=g0.vr ho;have hl:=g0.vr hl;have hu:=g0.vr hu;refine TT.imp (W:=λQ E=>wpAny (model V.prog V.w) G.A (subscriptTail value (.Slice lo hi none p) vo (.ref s.heap.objs.size)) Q E (w0 s vl vu)) (λO O h=>h) (TT.last (g0.nx G.X J) ?_);generalize w0 s vl vu=s1 at *;refine ag.opt C4 λv e Q E h=>?_;have lists:∀e:((cG H o).bind λm=>(kO l).bind λa=>(kO u).map λb=>.lst (dA a b m))=some v,wpAny (model V.prog V.w) G.A (subscriptTail value (.Slice lo hi none p) vo (.ref s.heap.objs.size)) Q E s1:=λe=>by refine ub e λm h1 e=>?_;refine ub e λa h2 e=>?_;refine um e λb h3 aa=>?_;subst aa;refine iJ (lg C4.rel ho h1) λad items n x=>?_;rw[x.eq];refine tail_any x.at_.isList.typeIs slot_list_getitem.lookup (wpAny_getItem_list_slice x.at_.isList xY (uW hl h2).1 (uW hu h3).1 .none (by simp) (h _ _ (ax.push s1 _ s1.toks) ?_) (i8 x.small)) (Cr _ _);refine Dj C4.rel (n:=0) (items:=dA a b items) (ax.push s1 _ s1.toks) ?_ (x.all.cut a b) (aM (yJ ..).1 x.len);rw[slicePick_plain,dj,Bx];exact IsL.new ..
 cases o with
 |cE m=>
  refine ub e λa h2 e=>?_;refine um e λb h3 aa=>?_;subst aa;refine bB ho λbs t aa z ok=>?_;clear ho;subst aa;have A7:(KBy.picked bs a b).toList.map UInt8.toNat=V.enc (dA a b m):=by rw[KBc.picked_eq];have:=Bx bs.toList a b;rw[pz] at this;show(List.take _ _).map _=_;refine(congrArg (List.map UInt8.toNat) this).trans ?_;rw[<- By,z];exact By ..
  have xD:cS V (dA a b m):=(cS.mk (aM (yJ ..).1 ok.len) (λc hc=>ok.sign c ((yJ ..).2 c hc)));refine tail_any (typeIs_bytes _ _ _) FB.slot_bytes_getitem.lookup (getItem_meets (typeIs_bytes _ _ _) (by decide) FB.slot_bytes_getitem FB.entry_bytes_getitem (FB.args_bytes_getitem_2 _ _) (KBc.meets_slice2 bs t _ (uW hl h2).1 (uW hu h3).1)
   ⟨xY,?_,λt' k'=>h _ _ (ax.toks s1 k') ⟨_,_,rfl,A7,xD⟩⟩) (Cr _ _)
  rw[Fd A7];exact i8 xD.len
 |str xs=>refine ub e λa h2 e=>?_;refine um e λb h3 aa=>?_;subst aa;refine aq ho λt aa ok=>?_;clear ho;subst aa;exact tail_any (typeIs_str _ _ _) slot_str_getitem.lookup (SH ok xY (uW hl h2).2 (uW hu h3).2 h) (Cr _ _)
 |_=>exact lists e
end
section
variable {V:Cf}{G:Fm}{J:Ph}{s:Shared}{U:aC}{H:Hp}{d:Nat}{q:Bool}
variable {a:Addr}{items:List Value}
def wI{k:Nat}{f:Array Value->Array Value}{items':List Value}(e:IsL s.heap a items.toArray k)(hf:f items.toArray=items'.toArray):
  ∃k',IsL (s.heap.update a (Obj.mapSeq f)) a items'.toArray k':=⟨_,by have:=IsL.update e f;rwa[hf] at this⟩
variable {Q:Unit->Shared->Prop}{E:Value->Shared->Prop}
def SV{A:Around}{n:Nat}{k:Int}{t:Tok}{v:Value}(h1:IsL s.heap a items.toArray n)(h0:0<=k)(A6:k<2^63)(hn:k<items.length)
  (h:Q () {s with heap:=s.heap.update a (Obj.mapSeq (·.setIfInBounds k.toNat v))}):wpAny (model V.prog V.w) A (setItem (.ref a) (.int k t) v) Q E s:=by
 have hl:=h1.isList;unfold setItem
 try with_reducible refine c8 ?_
 refine ah (wpAny_sequenceKey hl.typeIs (by decide) ?_);refine ah (wpAny_callSpecial?_slot (name:=Str.ofString "__setitem__") hl.typeIs slot_list_setitem
  (uw slot_list_setitem hl.typeIs entry_list_setitem ?_ (args_list_setitem _ _ _)))
 show wpAny _ _ (Builtin.List.listSubscript? (.int k t)>>=_) _ _ s;refine ah (wpAny_listSubscript_int (fitsIndex_of h0 A6) ?_);clear A6;refine ue (Int.eq_ofNat_of_zero_le h0) λj aa=>?_;subst aa;have hj:j<items.toArray.size:=by rw[dj];exact qJ.mp hn
 have Yq:items.toArray[j]?=some items.toArray[j]:=Array.getElem?_eq_getElem hj;show wpAny _ _ ((seqItemAt a j>>=λr=>pure (r.map (j,·)))>>=_) _ _ s;refine ah (ah (wpAny_seqItemAt h1 rfl (aH ?_)));rw[Yq];refine ah (wpAny_setSeqItemAt h1 rfl ?_)
 first
  |exact ah (wpAny_point (ah (wpAny_letGo (aH ⟨.none,rfl,aH h⟩))))
  |exact ah (wpAny_letGo (aH ⟨.none,rfl,aH h⟩))
  |exact aH ⟨.none,rfl,aH h⟩
def o8(V:Cf)(J:Ph)(h:Heap)(x:List Nat)(l:List (List Nat×AV))(es:List DictEntry)(i:Nat):Prop:=(c5 x l=true)/\(∀vv v,VR V J h vv v->hO V J h (eJ x v l) (es.modify i λe=>{e with val:=vv}))/\(hO V J h (oR x l) (es.eraseIdx i))/\(i<es.length)
section
variable {b1 b2 b3 b4 b5 b6 b7}(x:o8 b1 b2 b3 b4 b5 b6 b7)
def o8.mk:=fq (o8 b1 b2 b3 b4 b5 b6 b7) rfl
def o8.has:=x.1
def o8.put:=x.2.1
def o8.drop:=x.2.2.1
def o8.lt:=x.2.2.2
end
def se(V:Cf)(J:Ph)(h:Heap)(x:List Nat)(l:List (List Nat×AV))(es:List DictEntry):Prop:=(c5 x l=false)/\(∀kv vv v,(kS V).is x kv=true->VR V J h vv v->hO V J h (eJ x v l) (es++[⟨(kS V).hash x,kv,vv⟩]))
section
variable {b1 b2 b3 b4 b5 b6}(x:se b1 b2 b3 b4 b5 b6)
def se.mk:=jI (se b1 b2 b3 b4 b5 b6) rfl
def se.has:=x.1
def se.put:=x.2
end
theorem L8(x:List Nat)(ox:cS V x){h:Heap}:∀{l:List (List Nat×AV)} {es:List DictEntry},hO V J h l es ->
  (es.toArray.findIdx? (λe=>(kS V).is x e.key)=none/\se V J h x l es)\/∃i,es.toArray.findIdx? (λe=>(kS V).is x e.key)=some i/\o8 V J h x l es i:=by
 intro l
 induction l with
 |nil=>intro _ e;subst e;exact .inl ⟨by rw[List.findIdx?_toArray];rfl,se.mk rfl (λt vv v hk hv=>⟨_,_,rfl,(DR.mk hk rfl hv ox),rfl⟩)⟩
 |cons p l gH=>
  intro _ bU;refine bB bU λe r q z y=>?_;clear bU;subst q;have ih:=gH y;rw[List.findIdx?_toArray] at ih⊢;rw[List.findIdx?_cons,JH z.key];have hh:c5 x (p::l)=(match ak p.1 x with|true=>some p.2|false=>cy x l).isSome:=rfl;have hp:∀v,eJ x v (p::l)=match ak p.1 x with|true=>(p.1,v)::l|false=>p::eJ x v l:=λv=>rfl
  have hd:oR x (p::l)=match ak p.1 x with|true=>l|false=>p::oR x l:=rfl
  cases hq:ak p.1 x with
  |true=>exact .inr ⟨0,rfl,o8.mk (by rw[hh,hq];rfl) (λvv v hv=>by rw[hp,hq];exact⟨_,_,rfl,(DR.mk z.key z.hash hv z.ok),y⟩) (by rw[hd,hq];exact y) (qL _)⟩
  |false=>
   rcases ih with⟨a1,a2⟩|⟨i,a1,a2⟩
   ·exact .inl ⟨by rw[a1];rfl,se.mk (by rw[hh,hq];exact a2.has) (λt vv v hk hv=>by rw[hp,hq];exact⟨_,_,rfl,z,a2.put t vv v hk hv⟩)⟩
   ·exact .inr ⟨i+1,by rw[a1];rfl,o8.mk (by rw[hh,hq];exact a2.has) (λvv v hv=>by rw[hp,hq];exact⟨_,_,rfl,z,a2.put vv v hv⟩) (by rw[hd,hq];exact⟨_,_,rfl,z,a2.drop⟩) (Nat.succ_lt_succ a2.lt)⟩
theorem L7{h:Heap}:∀{l:List (List Nat×AV)} {es:List DictEntry},hO V J h l es->es.length=l.length:=by
 intro l
 induction l with
 |nil=>intro _ e;subst e;rfl
 |cons _ _ ih=>intro _ bU;refine bB bU λO O q O y=>?_;clear bU;subst q;exact congrArg (·+1) (ih y)
theorem KU(x:List Nat):∀l:List (List Nat×AV),c5 x l=true↔x∈l.map (·.1)
 |[]=>⟨λh=>(nomatch h),λh=>(nomatch h)⟩
 |p::r=>by
  show(match ak p.1 x with|true=>some p.2|false=>cy x r).isSome=true↔_;rw[bE,bQ];cases h:ak p.1 x with
  |true=>exact⟨λO=>.inl ((vL _ _).mp h).symm,λO=>rfl⟩
  |false=>refine(KU x r).trans ⟨.inr,λk=>k.resolve_left λq=>?_⟩;have:=(vL _ _).mpr q.symm;rw[h] at this;cases this
theorem C1(x:List Nat)(v:AV):∀l:List (List Nat×AV),(eJ x v l).map (·.1)=if c5 x l=true then l.map (·.1) else l.map (·.1)++[x]
 |[]=>rfl
 |p::r=>by
  show List.map (λq:List Nat×AV=>q.1) (match ak p.1 x with|true=>(p.1,v)::r|false=>p::eJ x v r)=if(match ak p.1 x with|true=>some p.2|false=>cy x r).isSome=true then _ else _;cases h:ak p.1 x with
  |true=>rfl
  |false=>have ih:=C1 x v r;show p.1::(eJ x v r).map (·.1)=if c5 x r=true then p.1::r.map (·.1) else p.1::(r.map (·.1)++[x]);rw[ih];split<;>rfl
variable {v:AV}{l:List (List Nat×AV)}
def Ij{x:List Nat}(h:(l.map (·.1)).Nodup):((eJ x v l).map (·.1)).Nodup:=by
 rw[C1]
 set_option tactic.hygienic true in split
 ·exact h
 ·rename_i hn;rw[KU] at hn;rw[sm];exact⟨h,by simp,λa ha b hb=>by rw[fW.mp hb];exact λe=>hn (e▸ha)⟩
def U4(k:List Nat)(v:AV)(l:List (List Nat×AV)):(eJ k v l).length<=l.length+1:=by
 have:=congrArg List.length (C1 k v l);rw[aJ] at this;rw[this];split
 ·rw[aJ];exact i3 _
 ·rw[bF,aJ];exact bf _
def aaX(k:List Nat):∀l:List (List Nat×AV),(oR k l).Sublist l:=by
 intro r
 induction r with
 |nil=>exact .slnil
 |cons p r ih=>
  show(match ak p.1 k with|true=>r|false=>p::oR k r).Sublist _;cases ak p.1 k with
  |true=>exact .cons _ (.refl _)
  |false=>exact(ih).cons_cons _
def Cn{o o':Obj}{f:Obj->Obj}(e:s.heap.get? a=some o)(hf:f o=o')(tL:o'.isFreed=false):(s.heap.update a f).get? a=some o':=by subst hf;exact qG _ e tL
def ag.wJ{α:Type}{t:Sem α}{f:Hp->Option Hp}(h:∀H',f H=some H'->ag V G J s t (.ok () U H') (λO O O O=>True)):ag V G J s t (Mine.gp f U H) (λO O O O=>True):=by
 unfold Mine.gp;cases e:f H with
 |none=>exact ag.stuck
 |some H'=>exact h H' e
variable {ep:Nat}{es:List DictEntry}
def Io{h:Heap}{p:Addr×Addr}(x:iG V J h p ep l es):OR V J h p (.dict ep l):=⟨es,x⟩
variable {vv:Value}
def Mc{k:List Nat}{kv:Value}{n:Nat}{ad:Addr}(hp:J[n]?=some (ad,ad))(m:iZ V J s.heap ad ep l es)(ny:(kS V).is k kv=true)(o:cS V k)(hv:VR V J s.heap vv v)(hl:l.length<az){A:Around} 
  (h:∀s',ju s s' ad->OR V J s'.heap (ad,ad) (AO.dict (match c5 k l with|true=>ep|false=>ep+1) (eJ k v l))->(∃o,s'.heap.get? ad=some o)->Q () s'):wpAny (model V.prog V.w) A (dictSet ad kv vv) Q E s:=by
 have Eh:=L7 m.all;have len:(eJ k v l).length<=az:=aM (U4 ..) hl;unfold dictSet
 try with_reducible refine c8 ?_
 refine ah ((kS V).pyHash ny ?_);unfold dictSetHashed
 try with_reducible refine c8 ?_
 refine ah (wpAny_dictFind_of (s:={s with toks:=s.toks+1}) ny m.at_ rfl (yG m.all) ?_);rcases L8 k o m.all with⟨a1,a2⟩|⟨i,a1,a2⟩
 ·rw[a1];rw[a2.has] at h;have sb:=nS s.heap ad (Obj.mapDictKeys (·.push (⟨(kS V).hash k,kv,vv⟩:DictEntry)));have e1:=Cn (o':={cls:=.type "dict",data:=.dict (es++[(⟨(kS V).hash k,kv,vv⟩:DictEntry)]).toArray (ep+1)}) m.at_ (f:=(Obj.mapDictKeys (·.push (⟨(kS V).hash k,kv,vv⟩:DictEntry)))) (congrArg (λl=>({cls:=.type "dict",data:=.dict l (ep+1)}:Obj)) (List.push_toArray ..)) rfl;exact ah (wpAny_rule (wpAny_updateDictKeys (hz:=by rw[dj,Eh];exact i8 m.len) (s:={s with toks:=s.toks+1}) m.at_ rfl (h _ (ju.mk sb rfl rfl) (Io (iG.mk rfl e1 ((a2.put kv vv v ny hv).put hp sb) len (Ij m.nodup))) ⟨_,e1⟩)))
 ·rw[a1];rw[a2.has] at h;have sb:=nS s.heap ad (Obj.mapDict (·.modify i λe=>{e with val:=vv}));have e1:=Cn (o':={cls:=.type "dict",data:=.dict (es.modify i λe=>{e with val:=vv}).toArray ep}) m.at_ (f:=(Obj.mapDict (·.modify i λe=>{e with val:=vv}))) (congrArg (λl=>({cls:=.type "dict",data:=.dict l ep}:Obj)) (List.modify_toArray ..)) rfl;refine ah (wpAny_rule (ah (wpAny_updateDict (s:={s with toks:=s.toks+1}) m.at_ rfl (wpAny_point ?_))));exact h _ (ju.mk sb rfl rfl) (Io (iG.mk rfl e1 ((a2.put vv v hv).put hp sb) len (Ij m.nodup))) ⟨_,e1⟩
def aa8{k:List Nat}{kv:Value}{n:Nat}{ad:Addr}(pre:ao V d q G J U H s)(hp:J[n]?=some (ad,ad))(m:iZ V J s.heap ad ep l es)(hk:(kS V).is k kv=true/\cS V k)(hv:VR V J s.heap vv v)(hl:l.length<az):
  ag V G J s (setItem (.ref ad) kv vv) (.ok () U (ai H (AO.dict (match c5 k l with|true=>ep|false=>ep+1) (eJ k v l)) n)) (λO O O O=>True):=by
 refine ag.put pre hp λQ E h=>?_;unfold setItem
 try with_reducible refine c8 ?_
 refine ah (wpAny_sequenceKey m.map.typeIs (by decide) ?_);refine ah (wpAny_callSpecial?_slot (name:=Str.ofString "__setitem__") m.map.typeIs slot_dict_setitem
  (uw slot_dict_setitem m.map.typeIs entry_dict_setitem ?_ (args_dict_setitem _ _ _)))
 refine ah (wpAny_notOrdered_dict m.map.typeIs ?_);show wpAny _ _ (dictSet _ _ vv>>=_) _ _ s;exact ah (Mc hp m hk.1 hk.2 hv hl λs' a b c=>aH ⟨.none,rfl,aH (h () s' a b c trivial)⟩)
def SW(pre:ao V d q G J U H s){vo vi:Value}{o i:AV}(ho:VR V J s.heap vo o)(hi:VR V J s.heap vi i)(hv:VR V J s.heap vv v):
  ag V G J s (setItem vo vi vv) (gp (qX o i v) U H) (λO O O O=>True):=ag.wJ λH' e=>by
 refine ub e λn h1 e=>?_;refine aq (ik ho h1) λp aa hp=>?_;subst aa;cases hl:bx H n with
 |some l=>rw[hl] at e;refine ub e λk h2 e=>?_;refine ub e λj h3 e=>?_;refine ur e λh4 e=>?_;obtain rfl:=sj e;have h4:=bG.mp h4;refine ue (eG hi h2) λt aa=>?_;subst aa;have hk:=Av h3;subst hk;refine ll (pre.rel.list hl hp) λpe items n x=>?_;rw[pe] at hp;rw[sL v];refine ag.xx pre hp (x.all.set j hv) (by rw[List.length_set];exact x.len) λQ E h=>SV (k:=(j:Int)) x.at_ (kq j) (Int.lt_trans (qJ.mpr h4) (vH x.len)) (by rw[x.all.length];exact qJ.mpr h4) ?_;refine ue (wI x.at_ (f:=(·.setIfInBounds j vv)) (items':=items.set j vv) (by simp)) λk' e'=>?_;exact h () _ k' e' (nS ..) trivial
 |none=>rw[hl] at e;refine ub e λr h2 e=>?_;refine ub e λk h3 e=>?_;refine ur e λh4 e=>?_;obtain rfl:=sj e;refine il (pre.rel.dict h2 hp) λpe es m=>?_;rw[pe] at hp;exact aa8 pre hp m (sI hi h3) hv (bG.mp h4)
def abd(pre:ao V d q G J U H s){vo vi:Value}{o i:AV}(ho:VR V J s.heap vo o)(hi:VR V J s.heap vi i):
  ag V G J s (delItem vo vi) (gp (yI o i) U H) (λO O O O=>True):=ag.wJ λH' e=>by
 refine ub e λn h1 e=>?_;refine ub e λr h2 e=>?_;refine ub e λk h3 e=>?_;refine ur e λh4 e=>?_;obtain rfl:=sj e;refine aq (ik ho h1) λp aa hp=>?_;subst aa;refine ua (sI hi h3) λny o=>?_;refine il (pre.rel.dict h2 hp) λpe es m=>?_;rw[pe] at hp;have Eh:=L7 m.all;refine ag.put pre hp λQ E h=>wpAny_delItem_slot m.map.typeIs (by decide) F.slot_dict_delitem (uw F.slot_dict_delitem m.map.typeIs F.entry_dict_delitem ?_ (F.args_dict_delitem_2 _ _));unfold Builtin.«dict.__delitem__»;refine ah ?_;unfold Builtin.Dict.dictSlotArgs;refine ah (wpAny_notOrdered_dict m.map.typeIs ?_);refine aH ?_;show wpAny _ _ (Builtin.Dict.takeOut _ _>>=_) _ _ s;refine ah ?_;unfold Builtin.Dict.takeOut
 try with_reducible refine c8 ?_
 refine ah ((kS V).pyHash ny ?_);refine ah (wpAny_dictFind_of (s:={s with toks:=s.toks+1}) ny m.at_ rfl (yG m.all) ?_);rcases L8 k o m.all with⟨a1,a2⟩|⟨i,a1,a2⟩
 ·rw[a2.has] at h4;cases h4
 ·rw[a1];refine ah (wpAny_dictEntries (s:={s with toks:=s.toks+1}) m.at_ rfl ?_);have fO:es.toArray[i]?=some (es[i]'a2.lt):=by simp[a2.lt]
  rw[fO];refine ah (wpAny_updateDictKeys (hz:=by rw[dj,Eh];exact i8 m.len) (s:={s with toks:=s.toks+1}) m.at_ rfl (aH ?_));refine ah (wpAny_letGo (aH ⟨.none,rfl,?_⟩));have sb:=nS s.heap p.1 (Obj.mapDictKeys (·.eraseIdxIfInBounds i));have e1:=Cn (o':={cls:=.type "dict",data:=.dict (es.eraseIdx i).toArray (r.1+1)}) m.at_ (f:=(Obj.mapDictKeys (·.eraseIdxIfInBounds i))) (congrArg (λl=>({cls:=.type "dict",data:=.dict l (r.1+1)}:Obj)) (by simp)) rfl;have sl:=aaX k r.2;exact h () _ (ju.mk sb rfl rfl) ⟨_,iG.mk rfl e1 (a2.drop.put hp sb) (aM sl.length_le m.len) ((sl.map _).nodup m.nodup)⟩ ⟨_,e1⟩ trivial
end
section
variable {V:Cf}{G:Fm}{J:Ph}{s:Shared}{U:aC}{H:Hp}{d:Nat}{q:Bool}
noncomputable def Ay(m:Nat):Str:=match m with
 |0=>"append"
 |1=>"pop"
 |2=>"clear"
 |3=>"extend"
 |5=>"join"
 |6=>"get"
 |7=>"values"
 |8=>"add"
 |_=>"__next__"
def Du(mk:MK):String:=match mk with
 |.list=>"list"
 |.dict=>"dict"
 |.set=>"set"
 |.str=>"str"
 |.user _=>""
def xP(mk:MK)(m:Nat):String:=match mk with
 |.list=>match m with|0=>"list.append"|1=>"list.pop"|2=>"list.clear"|_=>"list.extend"
 |.dict=>match m with|6=>"dict.get"|_=>"dict.values"
 |.set=>"set.add"
 |_=>"str.join"
def jN(mk:MK)(m:Nat):Prop:=(PlainAttrs (Du mk))/\(Slot (Du mk) (Ay m) (xP mk m))/\(typeOf (.builtin (xP mk m))=pure (.type "method_descriptor"))
section
variable {b1 b2}(x:jN b1 b2)
def jN.mk:=lJ (jN b1 b2) rfl
def jN.plain:=x.1
def jN.slot:=x.2.1
def jN.ty:=x.2.2
end
variable {m:Nat}
def Wt{mk:MK}(h:vd mk m=true):jN mk m:=by
 cases mk with
 |user=>cases h
 |list=>
  have:m<4:=bG.mp h
  match m,this with
  |0,_=>exact(jN.mk F.plainAttrs_list F.slot_list_append F.type_list_append)
  |1,_=>exact(jN.mk F.plainAttrs_list F.slot_list_pop F.type_list_pop)
  |2,_=>exact(jN.mk F.plainAttrs_list F.slot_list_clear F.type_list_clear)
  |3,_=>exact(jN.mk F.plainAttrs_list F.slot_list_extend F.type_list_extend)
 |dict=>
  rcases sx.mp h with h|h<;>cases bV h
  ·exact(jN.mk F.plainAttrs_dict F.slot_dict_get F.type_dict_get)
  ·exact(jN.mk F.plainAttrs_dict F.slot_dict_values F.type_dict_values)
 |set=>cases bV h;exact(jN.mk F.plainAttrs_set F.slot_set_add F.type_set_add)
 |str=>cases bV h;exact(jN.mk F.plainAttrs_str F.slot_str_join F.type_str_join)
def ag.Cd{α β:Type}{t:Sem α}{f:Hp->Option (β×Hp)}{R:Ph->Heap->α->β->Prop}(h:∀r,f H=some r->ag V G J s t (.ok r.1 U r.2) R):ag V G J s t (Mine.mH f U H) R:=by
 unfold Mine.mH;cases e:f H with
 |none=>exact ag.stuck
 |some r=>exact h r e
theorem XB{h:Heap}:∀{l:List AV} {items:List Value} {x:List Nat},aQ V J h items l->rF l=some x ->
  ∃ps:List (Str×Tok),items=strValues ps/\((ps.map (·.1)).map (·.cps.toList)).flatten=V.enc x/\∀c∈x,c<16:=by
 intro l
 induction l with
 |nil=>intro _ _ r e;subst r;obtain rfl:=sj e;exact⟨[],rfl,rfl,λc h=>nomatch h⟩
 |cons d l ih=>intro _ _ bU e;refine bB bU λv r q hv hr=>?_;clear bU;refine ub e λy h1 e=>?_;refine um e λz h2 aa=>?_;subst aa;refine gP (ih hr h2) λps aa h3 h4=>?_;subst aa;refine aq (qP hv h1) λt aa o=>?_;subst aa;exact⟨(V.tx y,t)::ps,q,by simp only[bE,List.flatten_cons,h3,ER];rfl,λc hc=>(ko.mp hc).elim (o.sign c) (h4 c)⟩
def XE(ps:List Str):Builtin.Str.glued ⟨#[]⟩ ps=⟨((ps.map (·.cps.toList)).flatten).toArray⟩:=by
 have g:∀(ps:List Str) (acc:Array Nat),List.foldl (λacc (p:Str)=>acc++(⟨#[]⟩:Str).cps++p.cps) acc ps=acc++((ps.map (·.cps.toList)).flatten).toArray:=by
  intro ps
  induction ps with
  |nil=>intro acc;simp
  |cons p r ih=>intro acc;rw[List.foldl_cons,ih];apply Array.ext';simp
 unfold Builtin.Str.glued;rw[g];cases ps with
 |nil=>rfl
 |cons p r=>congr 1;apply Array.ext';simp
def ZO:∀(ps:List Str) (n:Nat),List.foldl (λ(a:Nat) (x:Str)=>a+x.length+(⟨#[]⟩:Str).length) n ps=n+((ps.map (·.cps.toList)).flatten).length:=by
 intro r
 induction r with
 |nil=>intro n;simp
 |cons p r ih=>intro n;rw[List.foldl_cons,ih];simp[Str.length];exact N0
def XD{ps:List (Str×Tok)}{x:List Nat}(h2:((ps.map (·.1)).map (·.cps.toList)).flatten=V.enc x)(ok:cS V x){Q:Value->Shared->Prop}
  (h:∀v s',ax s s'->VR V J s'.heap v (.str x)->Q v s'):(joinMade ⟨#[]⟩ ps).post Q s:=by
 have gen:(Made.str (Builtin.Str.glued ⟨#[]⟩ (ps.map (·.1)))).post Q s:=by rw[XE,h2];exact⟨(by show(V.enc x).toArray.size<=sizeLine;rw[dj,rS];exact i8 ok.len),h _ _ (ax.toks ..) (.str ok)⟩
 match ps,gen,h2 with
 |[],gen,_=>exact gen
 |[p],_,h2=>
  have:p.1=V.tx x:=by
   obtain⟨⟨c⟩,t⟩:=p;have h2:c.toList=V.enc x:=by simpa using h2
   unfold Cf.tx;rw[<- h2]
  show Q (.str p.1 p.2) s;rw[this];exact h _ _ (ax.refl _) (.str ok)
 |_::_::_,gen,_=>exact gen
variable {p:Addr×Addr}{vs:List Value}{args:List AV}{r:AV×Hp}
def Jc(pre:ao V d q G J U H s){n:Nat}{l:List AV}(hp:J[n]?=some p)(hl:bx H n=some l)(hs:aQ V J s.heap vs args)(e:ve m n l args H=some r):
  ag V G J s (call (.builtin (xP .list m)) (.ref p.1::vs)) (.ok r.1 U r.2) (VR V):=by
 refine ll (pre.rel.list hl hp) λpe items k x=>?_;rw[pe] at hp;have hT:s.TypeIs (.ref p.1) "list":=⟨_,x.at_,rfl⟩;have hz:=i8 x.small;cases args with
 |nil=>
  subst hs
  match m,e with
  |1,e=>
   refine um e λv h1 aa=>?_;subst aa;rw[List.getLast?_eq_getElem?] at h1;refine aq (x.all.get h1) λy hy ry=>?_;rw[<- x.all.length] at hy;refine ag.xx (items':=items.dropLast) pre hp (by rw[List.dropLast_eq_take,List.dropLast_eq_take,x.all.length];exact x.all.take _) (aM (by rw[List.length_dropLast];exact nU ..) x.len) λQ E h=>call_meets F.slot_list_pop hT F.entry_list_pop (F.args_list_pop_1 _) (MeetsSeq.list_pop_last _ _ k y (by simpa using hy) hz) ⟨x.at_,?_⟩
   refine ue (wI x.at_ (f:=(·.eraseIdxIfInBounds (items.toArray.size-1))) (items':=items.dropLast) (by simp[List.eraseIdx_length_sub_one])) λk' e'=>?_;exact h _ _ k' e' (nS ..) (ry.put hp (nS ..))
  |2,e=>obtain rfl:=sj e;refine ag.xx pre hp .nil (jP _) λQ E h=>call_meets F.slot_list_clear hT F.entry_list_clear (F.args_list_clear_1 _) (AutoSeq1.list_clear_list_0 _ _ k hz) ⟨x.at_,?_⟩;refine ue (wI x.at_ (f:=(λO=>#[])) (items':=[]) rfl) λk' e'=>?_;exact h _ _ k' e' (nS ..) .none
  |0,e=>exact aR e
  |_+3,e=>exact aR e
 |cons v as=>
  refine bB hs λvv r' aa hv hr=>?_;clear hs;subst aa;cases as with
  |cons=>exact aR e
  |nil=>
   subst hr
   match m,e with
   |0,e=>refine ur e λh1 e=>?_;obtain rfl:=sj e;refine ag.xx pre hp (x.all.append (.cons hv .nil)) (by rw[bF];exact(bG.mp h1)) λQ E h=>call_meets F.slot_list_append hT F.entry_list_append (F.args_list_append_2 _ _) (list_append _ _ k _ hz) ⟨x.at_,?_⟩;refine ue (wI x.at_ (f:=(·.push vv)) (items':=items++[vv]) (by simp)) λk' e'=>?_;exact h _ _ k' e' (nS ..) .none
   |m+1,e=>
    refine ur e λh0 e=>?_;cases Nat.succ.inj (bV h0);refine ub e λl2 h1 e=>?_;refine ur e λh2 e=>?_;obtain rfl:=sj e;have h2:=gN h2;refine iJ (lg pre.rel hv h1) λb its n2 y=>?_;rw[y.eq];have len:items.toArray.size+its.toArray.size<=sizeLine:=by rw[dj,x.all.length,dj,y.all.length];exact i8 h2
    refine ag.xx pre hp (x.all.append y.all) (by rw[bF];exact h2) λQ E h=>call_meets F.slot_list_extend hT F.entry_list_extend (F.args_list_extend_2 _ _) (AutoSeq1.list_extend_list_list_0 _ _ k b its.toArray n2 (by simp[Builtin.List.listTooLong];intro _;simpa using len) hz (wz len)) ⟨x.at_,y.at_,?_⟩
    refine ue (wI x.at_ (f:=(·++its.toArray)) (items':=items++its) (by simp)) λk' e'=>?_;exact h _ _ k' e' (nS ..) .none
def Wu(pre:ao V d q G J U H s)(ok:eg V){n:Nat}{dd:Nat×List (List Nat×AV)}(hp:J[n]?=some p)(hl:cD H n=some dd)(hs:aQ V J s.heap vs args)(e:xQ m n dd.2 args H=some r):
  ag V G J s (call (.builtin (xP .dict m)) (.ref p.1::vs)) (.ok r.1 U r.2) (VR V):=by
 obtain⟨pe,es,x⟩:=pre.rel.dict hl hp;have tJ:=xH pre.rel hp pe ok.big;cases args with
 |nil=>
  subst hs;obtain⟨h1,e⟩:=zX e;obtain rfl:=sj e;cases bV h1;rw[pe] at hp;refine ag.quiet pre λQ E h=>call_meetsIn F.slot_dict_values x.map.typeIs F.entry_dict_values (F.args_dict_values_1 _) (meets_dict_values (kS V) _ tJ) ⟨?_,h _ _ (ax.push s _ s.toks) ?_⟩
  ·exact⟨_,x.at.at_.dictOf⟩
  ·exact⟨_,_,_,rfl,hp,⟨_,cY _ rfl,rfl,rfl⟩,pre.rel.fresh (bf _)⟩
 |cons v as=>
  obtain⟨vv,r',rfl,hv,hr⟩:=hs;cases as with
  |cons w as=>
   obtain⟨ww,r',rfl,hw,hr⟩:=hr;cases as with
   |cons=>exact aR e
   |nil=>
    subst hr;obtain⟨h1,e⟩:=zX e;cases bV h1;obtain⟨k,h2,rfl⟩:=wj.mp e;refine ag.quiet pre λQ E h=>call_meetsIn F.slot_dict_get x.map.typeIs F.entry_dict_get (F.args_dict_get_3 _ _ _) (meets_dict_get_default (kS V) _ ((sI hv h2).1) tJ ww) ⟨_,x.map,?_⟩;refine h _ _ (ax.toks ..) ?_;rcases Bv k x.all with⟨a1,a2⟩|⟨w,val,a1,a2,a3⟩
    ·rw[a1,a2];exact hw
    ·rw[a1,a2];exact a3
  |nil=>
   subst hr;obtain⟨h1,e⟩:=zX e;cases bV h1;obtain⟨k,h2,rfl⟩:=wj.mp e;refine ag.quiet pre λQ E h=>call_meetsIn F.slot_dict_get x.map.typeIs F.entry_dict_get (F.args_dict_get_2 _ _) (meets_dict_get (kS V) _ ((sI hv h2).1) tJ) ⟨_,x.map,?_⟩;refine h _ _ (ax.toks ..) ?_;rcases Bv k x.all with⟨a1,a2⟩|⟨w,val,a1,a2,a3⟩
   ·rw[a1,a2];exact .none
   ·rw[a1,a2];exact a3
def Ws(pre:ao V d q G J U H s){n:Nat}{l:List (List Nat)}(hp:J[n]?=some p)(hl:oh H n=some l)(hs:aQ V J s.heap vs args)(e:Je n l args H=some r):
  ag V G J s (call (.builtin "set.add") (.ref p.1::vs)) (.ok r.1 U r.2) (VR V):=by
 refine ua (pre.rel.set hl hp) λpe x=>?_;rw[pe] at hp;cases args with
 |nil=>exact aR e
 |cons v as=>
  refine bB hs λvv r' aa hv hr=>?_;clear hs;subst aa;cases as with
  |cons=>exact aR e
  |nil=>
   subst hr;refine ub e λk h1 e=>?_;refine ur e λh2 e=>?_;obtain rfl:=sj e;have h2:=bG.mp h2;refine aq (qP hv h1) λt aa o=>?_;subst aa;have hm:=I9 (V:=V) k l;have go:∀l',(λk':Str=>(l.any λy=>V.tx y==k')||decide (k'=V.tx k))=(λk'=>l'.any λy=>V.tx y==k')->(if(l.any λy=>V.tx y==V.tx k)=true then l.length else l.length+1)=l'.length ->
     ag V G J s (call (.builtin "set.add") (.ref p.1::[.str (V.tx k) t])) (.ok .none U (ai H (.set l') n)) (VR V):=λl' h3 h4=>by
    refine ag.put pre hp λQ E h=>call_set_add (strKind_is V.prog V.w (V.tx k) t) rfl x.set (by show l.length+1<4096;exact Oo ‹_›) λh' gV Zb=>?_;have KZ:h'.SetOf (strKind V.prog V.w) p.1 (λk'=>l'.any λy=>V.tx y==k') l'.length:=by rw[<- h3,<- h4];exact Zb
    refine mQ (id KZ) λo es ep t' e1 e2=>?_;exact h _ _ (ju.mk gV rfl rfl) ⟨rfl,⟨KZ⟩⟩ ⟨o,e1⟩ .none
   cases hc:aU k l with
   |true=>
    rw[hc] at hm;have:ai H (.set l) n=H:=by rw[sL];obtain⟨h,e⟩:=mG.mp (Hs hl);rw[<- e];exact List.set_getElem_self h
    have:=this▸go l (by
     funext x
     by_cases hx:x=V.tx k
     ·subst hx;rw[hm];rfl
     ·simp[hx]) (if_pos hm)
    exact this
   |false=>
    rw[hc] at hm;refine go (l++[k]) ?_ ?_
    ·funext x
     rw[List.any_append,List.any_cons,List.any_nil,Bool.or_false]
     congr 1
     rw[pg,decide_eq_true_iff,beq_iff_eq];exact eq_comm
    ·rw[if_neg (by rw[hm];simp),bF];rfl
def Wr(pre:ao V d q G J U H s){t:Tok}{sep:List Nat}(hs:aQ V J s.heap vs args)(e:Jd sep args H=some r):
  ag V G J s (call (.builtin "str.join") (.str (V.tx sep) t::vs)) (.ok r.1 U r.2) (VR V):=by
 cases args with
 |nil=>exact aR e
 |cons v as=>
  refine bB hs λvv r' aa hv hr=>?_;clear hs;subst aa;cases as with
  |cons=>exact aR e
  |nil=>
   subst hr;refine ur e λh1 e=>?_;refine ub e λl h2 e=>?_;refine ub e λx h3 e=>?_;refine ur e λh4 e=>?_;obtain rfl:=sj e;have h4:=gN h4;cases sep with
   |cons=>cases h1
   |nil=>refine iJ (lg pre.rel hv h2) λa items n y=>?_;refine gP (XB y.all h3) λps aa h5 h6=>?_;subst aa;rw[y.eq];refine ag.quiet pre λQ E h=>call_meets F.slot_str_join (typeIs_str _ _ _) F.entry_str_join (F.args_str_join_2 _ _) (meets_str_join_list ⟨#[]⟩ t a ps ?_) ⟨y.at_.isList,XD (V:=V) (J:=J) h5 (cS.mk h4 h6) h⟩;have:=ZO (ps.map (·.1)) 0;rw[h5,rS] at this;unfold Builtin.Str.tooLong;rw[List.foldl_toArray,this];have:=i8 h4;simp;simpa using this
def V7(pre:ao V d q G J U H s)(ok:eg V){mk:MK}{vo:Value}{ov:AV}(ho:VR V J s.heap vo ov)(hs:aQ V J s.heap vs args):
  ag V G J s (call (.builtin (xP mk m)) (vo::vs)) (mH (λH=>lL mk m ov args H) U H) (VR V):=ag.Cd λr e=>by
 cases mk with
 |user=>exact aR e
 |list=>refine ub e λn h1 e=>?_;refine ub e λl h2 e=>?_;refine aq (ik ho h1) λp aa hp=>?_;subst aa;exact Jc pre hp h2 hs e
 |dict=>refine ub e λn h1 e=>?_;refine ub e λl h2 e=>?_;refine aq (ik ho h1) λp aa hp=>?_;subst aa;exact Wu pre ok hp h2 hs e
 |set=>refine ub e λn h1 e=>?_;refine ub e λl h2 e=>?_;refine aq (ik ho h1) λp aa hp=>?_;subst aa;exact Ws pre hp h2 hs e
 |str=>refine ub e λl h1 e=>?_;refine aq (qP ho h1) λt aa O=>?_;subst aa;exact Wr pre hs e
end
section
noncomputable def pW(x:Str):Bool:=!(x==("__debug__":Str))&&!(x==("__classdict__":Str))
noncomputable def DE(l:List (Str×Nat))(x:Str)(k:Nat):Bool:=decide (l.lookup x=some k)
noncomputable def tC(K:Cx)(x:Str)(k:NameKind):Bool:=decide (K.kn.lookup x=some k)
noncomputable def Au(V:Cf)(a:Nat)(x:Str):Bool:=decide (V.nm[a]?=some x)
def De(l:List Nat):Bool:=Nat.ble l.length az&&l.all λc=>Nat.blt c 16
def MB(v:AV)(c:Const):Bool:=match v with
 |.none=>decide (c=.none)
 |.bool b=>decide (c=.bool b)
 |.int i=>decide (c=.int i)
 |.str l=>De l&&decide (c=.str ⟨(l.map λc=>65+c).toArray⟩)
 |.cE l=>De l&&decide (c=.bytes (l.map λc=>UInt8.ofNat (65+c)))
 |_=>false
noncomputable def xW(e:Expr):Nat:=match e with
 |.Starred _ _=>1
 |.ListComp ..=>2
 |.SetComp ..=>2
 |.DictComp ..=>2
 |.Set ..=>3
 |.Tuple ..=>4
 |.Attribute ..=>5
 |.Slice ..=>6
 |_=>0
noncomputable def Ag(e:Expr):Bool:=match e with
 |.Call _ as ks _=>!(as.isEmpty&&ks.isEmpty)
 |_=>true
def u9(e:Expr):Bool:=!Nat.beq (xW e) 1
def rA(e:Expr):Bool:=!Nat.beq (xW e) 2
def s9(e:Expr):Bool:=!Nat.beq (xW e) 3
def Aq(e:Expr):Bool:=!Nat.beq (xW e) 4
def Dh(e:Expr):Bool:=!Nat.beq (xW e) 5
noncomputable def l7(K:Cx)(names:List (Str×NameKind))(ts:List (Str×Nat)):Cx where
 sc:=names.filterMap λp=>if p.2=.local\/p.2=.cell then(ts.lookup p.1).map (p.1,·) else if p.2=.free then(K.sc.lookup p.1).map (p.1,·) else none
 kn:=names
noncomputable def C.VN(c:C):Option (Str×Nat):=match c with
 |.var x k _=>some (x,k)
 |_=>none
def GL(t:C):List (Str×Nat):=match t with
 |.var x k _=>[(x,k)]
 |.tup l _ _=>(cs l).filterMap C.VN
 |_=>[]
def mT(t elt:C):List (Str×Nat):=GL t++match elt with
 |.gen t2 _ _=>GL t2
 |_=>[]
noncomputable def As(c:C):Bool:=match c with
 |.gen ..=>false
 |_=>true
def Mv(K:Cx)(ts:List Nat)(p:Str×NameKind):Bool:=match p.2 with
 |.local=>true
 |.cell=>true
 |.free=>(match K.sc.lookup p.1 with|some k=>!ts.contains k|none=>false)&&(tC K p.1 .cell||tC K p.1 .free)
 |.globalImplicit=>true
 |_=>false
def Mu(K:Cx)(sc:Scope)(nms:List (Str×Nat))(ts:List Nat):Bool:=decide (sc.kind=.function)&&sc.names.all (λp=>decide (sc.names.lookup p.1=some p.2)&&Mv K ts p)&&nms.all (λp=>ts.contains p.2)&&decide (((l7 K sc.names nms).sc.map (·.2)).Nodup)
def nW(K:Cx)(c:C):Bool:=match c with
 |.var x k _=>pW x&&DE K.sc x k&&(tC K x .local||tC K x .cell)
 |_=>false
noncomputable def tG:C->Bool
 |.nil=>true
 |.cons _ r=>tG r
 |_=>false
def mJ(K:Cx)(c:C):Bool:=match c with
 |.tup l _ _=>tG l&&(cs l).all (nW K)
 |_=>nW K c
noncomputable def qd(c:C):Bool:=match c with
 |.nil=>true
 |_=>false
noncomputable def JW(c:Const):Bool:=match c with
 |.str _=>true
 |_=>false
mutual
noncomputable def wf(V:Cf):C->Cx->Bool
 |.cst c v _ _,_=>MB v c
 |.var x k _,K=>pW x&&DE K.sc x k
 |.glob x k _,K=>pW x&&tC K x .globalImplicit&&decide (V.gl[k]?=some x)
 |.bin _ a b _,K=>wf V a K&&wf V b K
 |.neg a _,K=>wf V a K
 |.not a _,K=>wf V a K
 |.cmp op a b _,K=>wf V a K&&wf V b K&&!behindInMarks op (au b)
 |.fx _ l _,K=>jU V l K
 |.call f args _,K=>Dh (au f)&&wf V f K&&nY V args K&&Nat.blt (cs args).length 30
 |.eO o x m args ap p,K=>wf V o K&&Ag (au o)&&Au V m x&&nY V args K&&ap.endLine==p.line&&Nat.blt (cs args).length 30
 |.attr o x a _,K=>wf V o K&&Ag (au o)&&Au V a x
 |.sub o i _,K=>wf V o K&&wf V i K&&!rH (au i)
 |.fN o lo hi _ _,K=>wf V o K&&(qd lo||wf V lo K)&&(qd hi||wf V hi K)
 |.list l _ _,K=>jU V l K&&Nat.ble (cs l).length 100
 |.tup l _ _,K=>jU V l K&&Nat.ble (cs l).length 100
 |.dict _,_=>true
 |.dct k v _,K=>wf V k K&&wf V v K
 |.fst c _ _ _,_=>JW c
 |.oF t a b _,K=>wf V t K&&wf V a K&&wf V b K
 |.gen tg it e,K=>mJ K tg&&wf V it K&&s9 (au it)&&wf V e K&&As e&&rA (au e)
 |.comp elt tg it ifs sc _,K=>wf V it K&&s9 (au it)&&Mu K sc (mT tg elt) (slots tg elt)&&mJ (l7 K sc.names (mT tg elt)) tg&&wf V elt (l7 K sc.names (mT tg elt))&&jU V ifs (l7 K sc.names (mT tg elt))
 |.sH t e _,K=>nW K t&&wf V e K
 |.star a _,K=>wf V a K
 |_,_=>false
noncomputable def jU(V:Cf):C->Cx->Bool
 |.nil,_=>true
 |.cons a r,K=>u9 (au a)&&wf V a K&&jU V r K
 |_,_=>false
noncomputable def nY(V:Cf):C->Cx->Bool
 |.nil,_=>true
 |.cons a r,K=>wf V a K&&match a.kB with
  |some _=>qd r
  |none=>u9 (au a)&&nY V r K
 |_,_=>false
end
variable {V:Cf}{G:Fm}{J:Ph}{s:Shared}{U:aC}{H:Hp}{d:Nat}{q:Bool}
def jt(V:Cf)(K:Cx)(c:C):Prop:=(u9 (au c)=true)/\(wf V c K=true)
section
variable {b1 b2 b3}(x:jt b1 b2 b3)
def jt.mk:=jI (jt b1 b2 b3) rfl
def jt.plain:=x.1
def jt.wf:=x.2
end
def cR{p:Prop}(h:false=true):p:=absurd h qE
variable {l:C}
def DS:tG l=true->bN l=(cs l).map au:=by
 induction l with
 |nil=>exact λO=>rfl
 |cons a r _ ih=>exact λh=>congrArg (au a::·) (ih h)
 |_=>exact cR
def uC{K:Cx}:jU V l K=true->bN l=(cs l).map au/\∀c∈cs l,jt V K c:=by
 induction l with
 |nil=>exact λO=>⟨rfl,λc h=>nomatch h⟩
 |cons a r _ ih=>
  intro h;refine jx h λh1 h2 h3=>?_;refine ua (ih h3) λh4 h5=>?_;exact⟨congrArg (au a::·) h4,λc hc=>by
   rcases bQ.mp hc with rfl|hc
   ·exact(jt.mk h1 h2)
   ·exact h5 c hc⟩
 |_=>exact cR
variable {a b:C}
def Sb:a.kB=some b->∃p,a=.star b p:=by
 cases a with
 |star c p=>intro h;obtain rfl:=sj h;exact⟨p,rfl⟩
 |_=>exact λh=>aR h
def kU(V:Cf)(K:Cx)(l m:List C):Prop:=(∀c∈m,jt V K c/\c.kB=none)/\(l=m\/∃a p,l=m++[.star a p]/\wf V a K=true)
section
variable {b1 b2 b3 b4}(x:kU b1 b2 b3 b4)
def kU.mk:=jI (kU b1 b2 b3 b4) rfl
def kU.all:=x.1
def kU.is:=x.2
end
def Cg{K:Cx}:nY V l K=true->bN l=(cs l).map au/\∃m:List C,kU V K (cs l) m:=by
 induction l with
 |nil=>exact λO=>⟨rfl,[],kU.mk (λc h=>(nomatch h)) (.inl rfl)⟩
 |cons a r _ ih=>
  intro h;refine us h λh1 h2=>?_;cases hs:a.kB with
  |some b=>
   rw[hs] at h2;refine ue (Sb hs) λp aa=>?_;subst aa;cases r with
   |nil=>exact⟨rfl,[],kU.mk (λc h=>(nomatch h)) (.inr ⟨b,p,rfl,h1⟩)⟩
   |_=>exact cR h2
  |none=>
   rw[hs] at h2;refine us h2 λh2 h3=>?_;refine il (ih h3) λh4 m h5=>?_;refine⟨congrArg (au a::·) h4,a::m,kU.mk (λc hc=>?_) ?_⟩
   ·rcases bQ.mp hc with rfl|hc
    ·exact⟨(jt.mk h2 h1),hs⟩
    ·exact h5.all c hc
   ·rcases h5.is with h6|⟨b,p,h6,h7⟩
    ·exact .inl (congrArg (a::·) h6)
    ·exact .inr ⟨b,p,congrArg (a::·) h6,h7⟩
 |_=>exact cR
variable {x:Str}
def Dd(h:pW x=true):(x==("__debug__":Str))=false:=jf (nF h).1
def Iz(h:pW x=true):(x==("__classdict__":Str))=false:=jf (nF h).2
def IA{l:List Nat}(h:De l=true):cS V l:=by refine us h λh1 h2=>?_;rw[iH] at h2;exact(cS.mk (gN h1) (λc hc=>bG.mp (h2 c hc)))
theorem Vw:∀{l:List Nat},(∀c∈l,c<16)->(l.map λc=>UInt8.ofNat (65+c)).map UInt8.toNat=V.enc l:=by
 intro l
 induction l with
 |nil=>intro _;exact rfl
 |cons c l ih=>intro h;rw[bE,bE,ih λc hc=>h c (bS _ hc)];refine congrArg (·::V.enc l) ?_;have:=h c bA;exact UInt8.toNat_ofNat_of_lt' (nP (by exact FI ‹_›:65+c<128) (by decide))
def abk(pre:ao V d q G J U H s){v:AV}{c:Const}(h:MB v c=true):ag V G J s (constValue G.env c) (.ok v U H) (VR V):=by
 cases v with
 |none=>cases of_decide_eq_true h;exact ag.quiet pre λQ E hq=>aH (hq _ _ (ax.refl _) .none)
 |bool b=>cases of_decide_eq_true h;exact ag.quiet pre λQ E hq=>aH (hq _ _ (ax.refl _) (.bool _))
 |int a=>cases of_decide_eq_true h;exact ag.quiet pre λQ E hq=>λO O O=>hq _ _ (ax.toks ..) (.lit ..)
 |str l=>refine us h λh1 h2=>?_;cases of_decide_eq_true h2;exact ag.quiet pre λQ E hq=>wpAny_mkText (hq _ _ (ax.toks ..) (VR.str (IA h1)))
 |cE l=>refine us h λh1 h2=>?_;cases of_decide_eq_true h2;have o:=IA (V:=V) h1;exact ag.quiet pre λQ E hq=>wpAny_mkTextBytes (hq _ _ (ax.toks ..) ⟨_,_,rfl,Vw o.sign,o⟩)
 |_=>exact cR h
structure Ok(V:Cf):Prop extends eg V,BQ V where
 ZG:V.fr.In V.h₀
 keeps:∀k v,V.gv k=some v->(∃id,v=.builtin id)\/(∃T,v=.type T)\/keepIn V.fr v=true
 nms:∀m,m<10->m≠4->V.nm[m]?=some (Ay m)
def d7(V:Cf)(J:Ph)(h:Heap)(f:Flow)(g:Fl):Prop:=match g with
 |.next=>f=.next
 |.brk=>f=.brk
 |.cont=>f=.cont
 |.ret a=>∃v,f=.ret v/\VR V J h v a
structure d5(V:Cf)(E:Ev):Prop where
 e:∀{d q G J U H s c},ao V d q G J U H s->wf V c G.K=true->ag V G J s (eval (au c) G.env) (E.e d q c U H) (VR V)
 t:∀{d q G J U H s c},ao V d q G J U H s->wf V c G.K=true->ag V G J s (isTrue (au c) G.env (eval (au c) G.env)) (E.t d q c U H) (λO O a b=>a=b)
variable {E:Ev}
variable {pos:Pos}
def aaS(S:d5 V E)(pre:ao V d q G J U H s){op:Operator}(ha:wf V a G.K=true)(hb:wf V b G.K=true):
  ag V G J s (eval (.BinOp (au a) op (au b) pos) G.env) (MR E d q op a b U H) (VR V):=
 TT.imp (λO O h=>wpAny_BinOp h) (TT.seq (Nx.refl ..) pre (S.e pre ha) λa x ρ1 H1 φ1 s1 n1 m1 p1 r1=>TT.seq m1 p1 (S.e p1 hb) λb y ρ2 H2 φ2 s2 n2 m2 p2 r2=>TT.last m2 (adp p2 (n2.vr p1.er r1) r2))
def aaI(S:d5 V E)(pre:ao V d q G J U H s)(ha:wf V a G.K=true):
  ag V G J s (eval (.UnaryOp .USub (au a) pos) G.env) (IZ E d q a U H) (VR V):=
 TT.imp (λO O h=>wpAny_UnaryOp h) (TT.seq (Nx.refl ..) pre (S.e pre ha) λa x ρ1 H1 φ1 s1 n1 m1 p1 r1=>TT.last m1 (VQ p1 r1))
def Q3{M:Model}{A:Around}{E':Value->Shared->Prop}{Q:Value->Shared->Prop}{v:Value}(h:wpAny M A (truthy v) (λb s'=>Q (.bool (!b)) s') E' s):wpAny M A (unaryOp .Not v) Q E' s:=by unfold unaryOp;refine c8 ?_;show wpAny M A (truthy v>>=λb=>pure (Value.bool (!b))) Q E' s;exact ah (cz h (λb s' h'=>aH h') λO O e=>e)
def aaH(S:d5 V E)(pre:ao V d q G J U H s)(ha:wf V a G.K=true):
  ag V G J s (eval (.UnaryOp .Not (au a) pos) G.env) (IM E d q a U H) (VR V):=
 TT.imp (λO O h=>wpAny_UnaryOp h) (TT.seq (Nx.refl ..) pre (S.e pre ha) λa x ρ1 H1 φ1 s1 n1 m1 p1 r1=>TT.imp (λO O h=>Q3 h) (TT.seq m1 p1 (Cq p1 r1) λb c ρ2 H2 φ2 s2 n2 m2 p2 r2=>TT.now m2 p2 (by subst r2;exact .bool _)))
variable {op:CmpOp}
def abt(pre:ao V d q G J U H s)(ok:eg V){vx vy:Value}{x y:AV}(hx:VR V J s.heap vx x)(hy:VR V J s.heap vy y):
  ag V G J s (compareOp op vx vy) (cu (BA op x y) U H) (VR V):=ag.opt pre λv e Q E h=>by
 refine um e λb e' aa=>?_;subst aa;exact Mk pre ok hx hy e' Q E λs' g=>h _ _ g (.bool _)
def aaQ(ok:eg V)(S:d5 V E)(pre:ao V d q G J U H s)(ha:wf V a G.K=true)(hb:wf V b G.K=true)(hm:behindInMarks op (au b)=false):
  ag V G J s (eval (.Compare (au a) [op] [au b] pos) G.env) (Mm E d q op a b U H) (VR V):=
 TT.imp (λO O h=>wpAny_Compare1 h hm) (TT.seq (Nx.refl ..) pre (S.e pre ha) λa x ρ1 H1 φ1 s1 n1 m1 p1 r1=>TT.seq m1 p1 (S.e p1 hb) λb y ρ2 H2 φ2 s2 n2 m2 p2 r2=>TT.last m2 (abt p2 ok (n2.vr p1.er r1) r2))
noncomputable def BG(isAnd:Bool):BoolOp:=if isAnd then .And else .Or
set_option backward.match.sparseCases true in
theorem L3(S:d5 V E){pos:Pos}{isAnd:Bool}:∀(l:List C) {J:Ph} {U:aC} {H:Hp} {s:Shared},ao V d q G J U H s->(∀c∈l,jt V G.K c) ->
  ag V G J s (boolOp pos (BG isAnd) (evalEach (l.map au) G.env)) (BF (E.e d q) isAnd l U H) (VR V)
 |[],_,_,_,_,_,_=>ag.stuck
 |[c],_,_,_,_,pre,h=>S.e pre (h c bA).wf
 |c::c2::l,J,U,H,s,pre,h=>by
  show ag V G J s (do
   let v <- eval (au c) G.env
   standAt pos
   let t <- holding [v] (truthy v)
   match(BG isAnd),t with
   |.And,false|.Or,true=>pure v
   |_,_=>boolOp pos (BG isAnd) (evalEach ((c2::l).map au) G.env)) (M.bind (E.e d q c) (λv=>M.bind (cu (gQ v)) λb=>match b with
    |true=>match isAnd with|true=>BF (E.e d q) isAnd (c2::l)|false=>cj v
    |false=>match isAnd with|true=>cj v|false=>BF (E.e d q) isAnd (c2::l)) U H) (VR V)
  have ih:=λ{J:Ph} {U:aC} {H:Hp} {s:Shared} (p:ao V d q G J U H s)=>L3 S (pos:=pos) (isAnd:=isAnd) (c2::l) p λc hc=>h c (bS _ hc);refine ag.bind pre (S.e pre ((h c bA).wf)) λv x ρ1 H1 φ1 s1 n1 p1 r1=>?_;refine TT.imp (λO O h=>ah (fz (ah (c8 h)))) ?_;refine TT.seq (Nx.refl ..) p1 (Cq p1 r1) λb c' ρ2 H2 φ2 s2 n2 m2 p2 r2=>?_;subst r2;have sX:=n2.vr p1.er r1;cases isAnd<;>cases b
  ·exact TT.last m2 (ih p2)
  ·exact TT.imp (λO O h=>aH h) (TT.now m2 p2 sX)
  ·exact TT.imp (λO O h=>aH h) (TT.now m2 p2 sX)
  ·exact TT.last m2 (ih p2)
def wZ{e:Expr}{rest:List Expr}{env:Env}(h:u9 e=true):backTo pos (starEach (e::rest) env)=(false,eval e env)::backTo pos (starEach rest env):=by
 have:starEach (e::rest) env=(false,eval e env)::starEach rest env:=by cases e<;>first|rfl|exact cR h
 rw[this];rfl
variable {c:C}
def LM(f:C->M AV)(l:List C)(h:c.kB=none):gZ f (c::l)=M.bind (f c) λv=>M.bind (gZ f l) λvs=>cj (v::vs):=by show(match c.kB with|some a=>_|none=>_)=_;rw[h];rfl
def G5(h:u9 (au c)=true):c.kB=none:=by cases c<;>first|rfl|exact cR h
def LL(S:d5 V E):∀(l:List C) {J:Ph} {U:aC} {H:Hp} {s:Shared},ao V d q G J U H s->(∀c∈l,jt V G.K c) ->
  ag V G J s (spliced (backTo pos (starEach (l.map au) G.env))) (gZ (E.e d q) l U H) (λφ' h' vs xs=>aQ V φ' h' vs xs/\xs.length=l.length):=by
 intro l
 induction l with
 |nil=>intro _ _ _ _ pre _;exact TT.imp (λO O h=>aH h) (TT.now (Nx.refl ..) pre ⟨.nil,rfl⟩)
 |cons c l ih=>intro J U H s pre h;have hc:=h c bA;rw[bE,wZ hc.plain,LM _ _ (G5 hc.plain)];refine TT.imp (λO O h=>Calls.spliced_cons h) (TT.seq (Nx.refl ..) pre (S.e pre hc.wf) λv x ρ1 H1 φ1 s1 n1 m1 p1 r1=>?_);exact TT.seq m1 p1 (ih p1 λc hc=>h c (bS _ hc)) λvs xs ρ2 H2 φ2 s2 n2 m2 p2 r2=>TT.now m2 p2 ⟨.cons (n2.vr p1.er r1) r2.1,congrArg (·+1) r2.2⟩
def He{h:Heap}{vs:List Value}{xs:List AV}{l:List C}(r:aQ V J h vs xs/\xs.length=l.length)(hl:l.length<=100):xs.length<=az/\vs.length<=sizeLine:=by
 have:xs.length<=az:=by rw[r.2];exact aM hl (by decide)
 exact⟨this,by rw[r.1.length];exact i8 this⟩
def aaK(S:d5 V E)(pre:ao V d q G J U H s){b:Bool}(h:jU V l G.K=true)(hl:(cs l).length<=100):
  ag V G J s (eval (.List (bN l) pos) G.env) (Jx E d q l b U H) (VR V):=by
 refine ua (uC h) λe h=>?_;rw[e,arm_eval_List];refine TT.imp (W:=λQ Ex=>wpAny (model V.prog V.w) G.A (spliced (backTo pos (starEach ((cs l).map au) G.env))) (λvs s'=>wpAny (model V.prog V.w) G.A (newList vs) Q Ex s') Ex s) (λO O h=>ah (fz (ah h))) ?_;refine TT.seq (Nx.refl ..) pre (LL S (pos:=pos) (cs l) pre h) λvs xs ρ1 H1 φ1 s1 n1 m1 p1 r1=>?_;refine ua (He r1 hl) λz1 z2=>?_;refine TT.last m1 (ag.Cd λr e=>?_);cases b with
 |true=>
  obtain rfl:=sj e;exact ag.fresh p1 λQ E h=>wpAny_newList (h _ _ (s1.heap.objs.size,s1.heap.objs.size) (ax.push s1 _ s1.toks) (bf _) ⟨_,cY _ rfl⟩
   ⟨vs,0,mn.mk rfl (IsL.new ..) (r1.1.mono ((ax.push s1 _ s1.toks).ext [] φ1) (d3.nil _) (Gr.push φ1 _ (jH (bf _)))) z1⟩ (xp _ _ p1.rel.len)) z2
 |false=>obtain rfl:=sj e;exact ag.quiet p1 λQ E h=>wpAny_newList (h _ _ (ax.push s1 _ s1.toks) (Dj p1.rel (ax.push s1 _ s1.toks) (n:=0) (IsL.new ..) r1.1 z1)) z2
variable {k:Nat}
def aaD(S:d5 V E)(pre:ao V d q G J U H s)(h:jU V l G.K=true)(hl:(cs l).length<=100):
  ag V G J s (eval (.Tuple (bN l) k pos) G.env) (GG E d q l U H) (VR V):=by
 refine ua (uC h) λe h=>?_;rw[e,arm_eval_Tuple];refine TT.imp (W:=λQ Ex=>wpAny (model V.prog V.w) G.A (spliced (backTo pos (starEach ((cs l).map au) G.env))) (λvs s'=>wpAny (model V.prog V.w) G.A (newTuple vs) Q Ex s') Ex s) (λO O h=>ah (fz (ah h))) ?_;refine TT.seq (Nx.refl ..) pre (LL S (pos:=pos) (cs l) pre h) λvs xs ρ1 H1 φ1 s1 n1 m1 p1 r1=>?_;refine ua (He r1 hl) λz1 z2=>?_;refine TT.last m1 (ag.quiet p1 λQ E h=>wx (h _ _ (ax.push s1 _ s1.toks) (IX p1.rel (ax.push s1 _ s1.toks) (n:=0) (cY _ rfl) r1.1 z1)) ?_);show vs.toArray.size<=sizeLine;rw[dj];exact z2
def aaO(pre:ao V d q G J U H s):ag V G J s (eval (.Dict [] [] pos) G.env) (yH U H) (VR V):=
 ag.fresh pre λQ E h=>wpAny_Dict_empty (h _ _ (s.heap.objs.size,s.heap.objs.size) (ax.push s _ s.toks) (bf _) ⟨_,cY _ rfl⟩
  ⟨[],iG.mk rfl (cY _ rfl) rfl (jP _) mz⟩ (xp _ _ pre.rel.len))
def aaT(pre:ao V d q G J U H s){a:Addr}{kv vv:Value}{r x y:AV}(hr:VR V J s.heap (.ref a) r)(hk:VR V J s.heap kv x)(hv:VR V J s.heap vv y):
  ag V G J s (dictSet a kv vv) (gp (Ae r x y) U H) (λO O O O=>True):=ag.wJ λH' e=>by
 refine ub e λn h1 e=>?_;refine ub e λt h2 e=>?_;refine ub e λk h3 e=>?_;refine ur e λh4 e=>?_;obtain rfl:=sj e;refine aq (ik hr h1) λp aa hp=>?_;cases Value.ref.inj aa;refine il (pre.rel.dict h2 hp) λpe es m=>?_;rw[pe] at hp;have hk:=sI hk h3;exact ag.put pre hp λQ E h=>Mc hp m hk.1 hk.2 hv (bG.mp h4) λs' a b c=>h () s' a b c trivial
def aaP(S:d5 V E)(pre:ao V d q G J U H s){k v:C}(hk:wf V k G.K=true)(hv:wf V v G.K=true):
  ag V G J s (eval (.Dict [some (au k)] [au v] pos) G.env) (Mf E d q k v U H) (VR V):=by
 refine TT.imp (W:=λQ Ex=>wpAny (model V.prog V.w) G.A (alloc {cls:=.type "dict",data:=.dict #[]}) (λa s1=>wpAny (model V.prog V.w) G.A (eval (au k) G.env) (λkv s2=>wpAny (model V.prog V.w) G.A (eval (au v) G.env) (λvv s3=>wpAny (model V.prog V.w) G.A (dictSet a kv vv) (λO s4=>Q (.ref a) s4) Ex s3) Ex s2) Ex s1) Ex s) (λQ Ex h=>?_) ?_
 ·rw[arm_eval_Dict,zip_pairTrees [some (au k)] [au v] G.env pos rfl rfl,dictDisplay_pairs _ (by unfold pairTrees;exact nofun) (by show 1<17;decide)];refine ah (fz (ah ?_));unfold subDict;refine ah (cz h (λa s1 h=>?_) λO O e=>e);refine ah (c8 ?_);rw[if_pos (show(pairTrees [some (au k)] [au v] G.env pos).length<=15 by show 1<=15;decide)];refine ah (pairTrees_cons_walk (cz h (λkv s2 h=>cz h (λvv s3 h=>pairTrees_nil_walk ?_) λO O e=>e) λO O e=>e));refine c8 ?_;rw[wq];refine ah (ah ?_);refine ah (cz h (λO s4 h=>?_) λO O e=>e);exact aH (aH (aH (aH (aH h))))
 ·refine TT.seq (R:=λJ h a b=>VR V J h (.ref a) b) (Nx.refl ..) pre (ag.fresh pre λQ E h=>wpAny_alloc (h _ _ (s.heap.objs.size,s.heap.objs.size) (ax.push s _ s.toks) (bf _) ⟨_,cY _ rfl⟩
   ⟨[],iG.mk rfl (cY _ rfl) rfl (jP _) mz⟩ (xp _ _ pre.rel.len))) λa r ρ1 H1 φ1 s1 n1 m1 p1 r1=>?_
  refine TT.seq m1 p1 (S.e p1 hk) λkv x ρ2 H2 φ2 s2 n2 m2 p2 r2=>?_;refine TT.seq m2 p2 (S.e p2 hv) λvv y ρ3 H3 φ3 s3 n3 m3 p3 r3=>?_;have sX:=n3.vr p2.er (n2.vr p1.er r1);exact TT.seq m3 p3 (aaT p3 sX (n3.vr p2.er r2) r3) λO O ρ4 H4 φ4 s4 n4 m4 p4 O=>TT.now m4 p4 (n4.vr p3.er sX)
def aaN(pre:ao V d q G J U H s){c:Const}{p p':Pos}(h:JW c=true):ag V G J s (eval (.JoinedStr [.Constant c k p] p') G.env) (.ok .uY U H) (VR V):=by
 cases c with
 |str x=>exact ag.quiet pre λQ E hq=>wpAny_JoinedStr_one (by rw[arm_eval_Constant];exact wpAny_mkText (hq _ _ (ax.toks ..) ⟨_,_,rfl⟩))
 |_=>exact cR h
def aaL(S:d5 V E)(pre:ao V d q G J U H s){t:C}(ht:wf V t G.K=true)(ha:wf V a G.K=true)(hb:wf V b G.K=true):
  ag V G J s (eval (.IfExp (au t) (au a) (au b) pos) G.env) (Kd E d q t a b U H) (VR V):=by
 rw[arm_eval_IfExp];refine ag.bind pre (S.t pre ht) λc c' ρ1 H1 φ1 s1 n1 p1 r1=>?_;subst r1;cases c with
 |true=>exact S.e p1 ha
 |false=>exact S.e p1 hb
def aaE(S:d5 V E)(pre:ao V d q G J U H s){o i:C}(ho:wf V o G.K=true)(hi:wf V i G.K=true)(hs:rH (au i)=false):
  ag V G J s (eval (.Subscript (au o) (au i) pos) G.env) (GR E d q o i U H) (VR V):=
 TT.imp (λO O h=>Subscript_ h) (TT.seq (Nx.refl ..) pre (S.e pre ho) λa x ρ1 H1 φ1 s1 n1 m1 p1 r1=>TT.seq m1 p1 (S.e p1 hi) λb y ρ2 H2 φ2 s2 n2 m2 p2 r2=>TT.last m2 (RX p2 hs (n2.vr p1.er r1) r2))
def LY(S:d5 V E)(pre:ao V d q G J U H s)(h:(qd c||wf V c G.K)=true):ag V G J s (evalPart (sM c) G.env) (tO (E.e d q) c U H) (VR V):=by
 cases c with
 |nil=>exact TT.imp (λO O h=>aH h) (TT.now (Nx.refl ..) pre .none)
 |_=>exact S.e pre h
def TT.up{α β:Type}{W:(α->Shared->Prop)->(Value->Shared->Prop)->Prop}{φ₀:Ph}{s₀:Shared}{r:dG β}{R:Ph->Heap->α->β->Prop}(n:Nx G.X φ₀ J s₀ s)(mono:∀{Q Q' E E'},W Q E->(∀a s,Q a s->Q' a s)->(∀a s,E a s->E' a s)->W Q' E')(x:TT V G J s W r R):TT V G φ₀ s₀ W r R:=λhs=>mono (x hs) (λO O h=>h.up n) λO O h=>h.up n
def aaG(S:d5 V E)(pre:ao V d q G J U H s){o lo hi:C}{p:Pos}(ho:wf V o G.K=true)(hl:(qd lo||wf V lo G.K)=true)(hu:(qd hi||wf V hi G.K)=true):
  ag V G J s (eval (.Subscript (au o) (.Slice (sM lo) (sM hi) none p) pos) G.env) (Hj E d q o lo hi U H) (VR V):=by
 refine TT.imp (λO O h=>Subscript_ h) (TT.seq (Nx.refl ..) pre (S.e pre ho) λa x ρ1 H1 φ1 s1 n1 m1 p1 r1=>?_);refine TT.imp (λO O h=>wpAny_Slice h) (TT.seq m1 p1 (LY S p1 hl) λb y ρ2 H2 φ2 s2 n2 m2 p2 r2=>?_);refine TT.seq m2 p2 (LY S p2 hu) λc z ρ3 H3 φ3 s3 n3 m3 p3 r3=>?_;rw[evalPart_none];refine TT.imp (λO O h=>aH h) ?_;exact TT.up m3 cz (SI p3 (value:=au o) (lo:=sM lo) (hi:=sM hi) (p:=p) (n3.vr p2.er (n2.vr p1.er r1)) (n3.vr p2.er r2) r3)
def aaC(pre:ao V d q G J U H s)(h:(pW x&&DE G.K.sc x k)=true):ag V G J s (eval (.Name x pos) G.env) (mK k U H) (VR V):=by have h:=nF h;exact TT.imp (λO O h'=>wpAny_Name h' (Dd h.1)) (Gk pre (of_decide_eq_true h.2) (Iz h.1))
def aaM(ok:Ok V)(pre:ao V d q G J U H s)(h:(pW x&&tC G.K x .globalImplicit&&decide (V.gl[k]?=some x))=true):
  ag V G J s (eval (.Name x pos) G.env) (yt V.P k U H) (VR V):=by
 have h:=nF h;have h':=nF h.1;exact TT.imp (λO O h=>wpAny_Name h (Dd h'.1)) (Zq pre ok.toBQ (of_decide_eq_true h'.2) (of_decide_eq_true h.2))
def Ry(S:d5 V E)(pre:ao V d q G J U H s)(h:wf V c G.K=true)(he:isTrue (au c) G.env (eval (au c) G.env)=(do let v <- eval (au c) G.env;standAt (au c).pos;holding [v] (truthy v))):
  ag V G J s (isTrue (au c) G.env (eval (au c) G.env)) (Gp E d q c U H) (λO O a b=>a=b):=
 TT.imp (λO O h=>wpAny_isTrue_value h he) (TT.seq (Nx.refl ..) pre (S.e pre h) λa x ρ1 H1 φ1 s1 n1 m1 p1 r1=>TT.last m1 (Cq p1 r1))
variable {whole:Sem Value}
def RD(S:d5 V E)(pre:ao V d q G J U H s)(ha:wf V a G.K=true):
  ag V G J s (isTrue (.UnaryOp .Not (au a) pos) G.env whole) (IL E d q a U H) (λO O a b=>a=b):=
 TT.imp (λO O h=>wpAny_isTrue_Not h) (TT.seq (Nx.refl ..) pre (S.t pre ha) λb c ρ1 H1 φ1 s1 n1 m1 p1 r1=>TT.now m1 p1 (by rw[r1]))
theorem RH(S:d5 V E){isAnd:Bool}:∀(l:List C) {J:Ph} {U:aC} {H:Hp} {s:Shared},ao V d q G J U H s->(∀c∈l,jt V G.K c) ->
  ag V G J s (allTrue (BG isAnd) (l.map au) G.env) (uG (E.t d q) isAnd l U H) (λO O a b=>a=b):=by
 intro l
 induction l with
 |nil=>intro _ _ _ _ pre _;exact TT.imp (λO O h=>aH h) (TT.now (Nx.refl ..) pre (by cases isAnd<;>rfl))
 |cons c l gH=>
  intro J U H s pre h;have ih:=λ{J:Ph} {U:aC} {H:Hp} {s:Shared} (p:ao V d q G J U H s)=>gH p λc hc=>h c (bS _ hc);rw[bE,arm_allTrue_cons];refine ag.bind pre (S.t pre (h c bA).wf) λb c' ρ1 H1 φ1 s1 n1 p1 r1=>?_;subst r1;cases isAnd<;>cases b
  ·exact ih p1
  ·exact TT.imp (λO O h=>aH h) (TT.now (Nx.refl ..) p1 rfl)
  ·exact TT.imp (λO O h=>aH h) (TT.now (Nx.refl ..) p1 rfl)
  ·exact ih p1
def abw(pre:ao V d q G J U H s)(ok:eg V){vx vy:Value}{x y:AV}(hx:VR V J s.heap vx x)(hy:VR V J s.heap vy y):
  ag V G J s (compareOp op vx vy) (cu (fQ op x y) U H) (λO O v b=>v=.bool b):=ag.opt pre λv e Q E h=>Mk pre ok hx hy e Q E λs' g=>h _ _ g rfl
def adk{α:Type}(m:M α)(U:aC)(H:Hp):M.bind m cj U H=m U H:=by unfold M.bind cj;cases m U H<;>rfl
def RG(ok:eg V)(S:d5 V E)(pre:ao V d q G J U H s)(ha:wf V a G.K=true)(hb:wf V b G.K=true)(hm:behindInMarks op (au b)=false):
  ag V G J s (isTrue (.Compare (au a) [op] [au b] pos) G.env whole) (Ml E d q op a b U H) (λO O a b=>a=b):=by
 refine TT.imp (λO O h=>wpAny_isTrue_Compare1 h hm) (TT.seq (Nx.refl ..) pre (S.e pre ha) λa x ρ1 H1 φ1 s1 n1 m1 p1 r1=>?_);refine TT.seq m1 p1 (S.e p1 hb) λb y ρ2 H2 φ2 s2 n2 m2 p2 r2=>?_;show TT V G J s _ (cu (fQ op x y) ρ2 H2) _;rw[<- adk (cu (fQ op x y)) ρ2 H2];refine TT.seq m2 p2 (abw p2 ok (n2.vr p1.er r1) r2) λc z ρ3 H3 φ3 s3 n3 m3 p3 r3=>?_;subst r3;exact TT.imp (λO O h=>wpAny_truthy_bool h) (TT.now m3 p3 rfl)
end
section
variable {V:Cf}{G:Fm}{J:Ph}{s:Shared}{U:aC}{H:Hp}{d:Nat}{q:Bool}
def nM(V:Cf)(J:Ph)(h:Heap)(I:Addr)(l:List AV)(a:Addr)(items:List Value)(n i:Nat):Prop:=(h.IsListIter I a i)/\(IsL h a items.toArray n)/\(a∉J.map (·.2))/\(aQ V J h (items.drop i) l)
section
variable {b1 b2 b3 b4 b5 b6 b7 b8 b9}(x:nM b1 b2 b3 b4 b5 b6 b7 b8 b9)
def nM.mk:=fq (nM b1 b2 b3 b4 b5 b6 b7 b8 b9) rfl
def nM.it:=x.1
def nM.at_:=x.2.1
def nM.out:=x.2.2.1
def nM.all:=x.2.2.2
end
def nL(V:Cf)(J:Ph)(h:Heap)(I:Addr)(l:List AV)(a:Addr)(items:List Value)(n i:Nat):Prop:=(h.IsTupleIter I a i)/\(IsT h a items.toArray n)/\(a∉J.map (·.2))/\(aQ V J h (items.drop i) l)
section
variable {b1 b2 b3 b4 b5 b6 b7 b8 b9}(x:nL b1 b2 b3 b4 b5 b6 b7 b8 b9)
def nL.mk:=fq (nL b1 b2 b3 b4 b5 b6 b7 b8 b9) rfl
def nL.it:=x.1
def nL.at_:=x.2.1
def nL.out:=x.2.2.1
def nL.all:=x.2.2.2
end
def oY(V:Cf)(h:Heap)(I:Addr)(l:List AV)(b:Array UInt8)(t:Tok)(i:Nat)(m:List Nat):Prop:=(KBw.IsBytesIter h I b t i)/\((b.toList.drop i).map UInt8.toNat=V.enc m)/\(l=m.map λd=>.int ((65+d:Nat):Int))
section
variable {b1 b2 b3 b4 b5 b6 b7 b8}(x:oY b1 b2 b3 b4 b5 b6 b7 b8)
def oY.mk:=lJ (oY b1 b2 b3 b4 b5 b6 b7 b8) rfl
def oY.it:=x.1
def oY.enc:=x.2.1
def oY.is:=x.2.2
end
def nK(V:Cf)(h:Heap)(I:Addr)(l:List AV)(x:Str)(t:Tok)(i:Nat)(m:List Nat):Prop:=(h.IsStrIter I "str_ascii_iterator" x t i)/\(x.cps.toList.drop i=V.enc m)/\(l=m.map λd=>.str [d])/\(∀c∈m,c<16)
section
variable {b1 b2 b3 b4 b5 b6 b7 b8}(x:nK b1 b2 b3 b4 b5 b6 b7 b8)
def nK.mk:=fq (nK b1 b2 b3 b4 b5 b6 b7 b8) rfl
def nK.it:=x.1
def nK.enc:=x.2.1
def nK.is:=x.2.2.1
def nK.ok:=x.2.2.2
end
inductive Fw(V:Cf)(J:Ph)(h:Heap)(I:Addr)(l:List AV):Prop where
 |lst (a:Addr) (items:List Value) (n i:Nat) (x:nM V J h I l a items n i)
 |tup (a:Addr) (items:List Value) (n i:Nat) (x:nL V J h I l a items n i)
 |dF (z c:Int) (n:Nat) (x:IsRangeIter h I z n c) (e:l=Ab c n z)
 |cE (b:Array UInt8) (t:Tok) (i:Nat) (m:List Nat) (x:oY V h I l b t i m)
 |str (y:Str) (t:Tok) (i:Nat) (m:List Nat) (x:nK V h I l y t i m)
def Fv(V:Cf)(J:Ph)(h:Heap)(I:Addr)(src:bJ):Prop:=match src with
 |.fix l=>Fw V J h I l
 |.lst n i=>∃a,J[n]?=some (a,a)/\h.IsListIter I a i
 |.dct n i sz ep=>∃a,J[n]?=some (a,a)/\h.IsKeyIter I a i sz ep
 |.vals n i sz ep=>∃a,J[n]?=some (a,a)/\h.IsValIter I a i sz ep
def cH(V:Cf)(J:Ph)(h:Heap)(I:Addr)(src:bJ):Prop:=(Fv V J h I src)/\(V.h₀.objs.size<=I)/\(I∉J.map (·.2))
section
variable {b1 b2 b3 b4 b5}(x:cH b1 b2 b3 b4 b5)
def cH.mk:=lJ (cH b1 b2 b3 b4 b5) rfl
def cH.st:=x.1
def cH.new:=x.2.1
def cH.out:=x.2.2
end
variable {h:Heap}{I:Addr}
def rG{T:String}{vs:Array Value}(hT:vq T=true)(x:∃o,h.get? I=some o/\o.cls=.type T/\o.data=.fields vs):∃o,h.get? I=some o/\kh o:=gP x λo e h1 h2=>⟨o,e,T,vs,h1,hT,h2⟩
variable {src:bJ}
def lQ(x:Fv V J h I src):∃o,h.get? I=some o/\kh o:=by
 cases src with
 |fix l=>
  cases x with
  |lst a items n i x=>exact rG (by decide) x.it
  |tup a items n i x=>exact rG (by decide) x.it
  |dF x c n e _=>exact rG (T:="range_iterator") (by decide) ⟨_,e,rfl,rfl⟩
  |cE b t i m x=>exact rG (by decide) x.it
  |str y t i m x=>exact rG (by decide) x.it
 |lst n i=>obtain⟨a,_,x⟩:=x;exact rG (by decide) x
 |dct n i sz ep=>obtain⟨a,_,x⟩:=x;exact rG (by decide) x
 |vals n i sz ep=>obtain⟨a,_,x⟩:=x;exact rG (by decide) x
def Ak(x:∃o,h.get? I=some o/\kh o):d3 [I] h:=λa ha=>by rw[fW.mp ha];refine aq x λo e w=>?_;clear x;exact⟨o,e,.inr (.inr (.inl w))⟩
def kh.nd{o:Obj}(x:kh o):¬ iQ o:=λbU=>ct bU λes n k=>by refine bB x.it λT vs O O k3=>?_;rw[k] at k3;cases k3
variable {h':Heap}
def cH.mono{X:List Addr}{φ':Ph}(x:cH V J h I src)(E:dD X J h h')(hX:d3 X h)(g:Gr J φ' h)(hI:I∉X):cH V φ' h' I src:=by
 refine aq (lQ x.st) λo e ho=>?_;have e':h'.get? I=some o:=by
  rcases E.keep I o e x.out hI with k|⟨k,_⟩
  ·exact k
  ·exact absurd k ho.nd
 have same:∀{o'},h.get? I=some o'->h'.get? I=some o':=λe2=>by rw[e] at e2;obtain rfl:=sj e2;exact e'
 have xs:=x.st;refine(cH.mk ?_ x.new (g.not ⟨o,e⟩ x.out));cases src with
 |fix l=>
  cases xs with
  |lst a items n i y=>exact .lst a items n i (nM.mk (aq y.it λo e r=>⟨o,same e,r⟩) (E.get hX y.at_ y.out (.ty (by decide) (by simp) (by simp))) (g.not ⟨_,y.at_⟩ y.out) (y.all.mono E hX g))
  |tup a items n i y=>exact .tup a items n i (nL.mk (aq y.it λo e r=>⟨o,same e,r⟩) (E.get hX y.at_ y.out (.ty (by decide) (by simp) (by simp))) (g.not ⟨_,y.at_⟩ y.out) (y.all.mono E hX g))
  |dF z c n e q=>exact .dF z c n (same e) q
  |cE b t i m y=>exact .cE b t i m (oY.mk (aq y.it λo e r=>⟨o,same e,r⟩) y.enc y.is)
  |str y0 t i m y=>exact .str y0 t i m (nK.mk (aq y.it λo e r=>⟨o,same e,r⟩) y.enc y.is y.ok)
 |lst n i=>refine Co xs λa h1 o2 e2 h2=>?_;clear xs;exact⟨a,g.get h1,o2,same e2,h2⟩
 |dct n i sz ep=>refine Co xs λa h1 o2 e2 h2=>?_;clear xs;exact⟨a,g.get h1,o2,same e2,h2⟩
 |vals n i sz ep=>refine Co xs λa h1 o2 e2 h2=>?_;clear xs;exact⟨a,g.get h1,o2,same e2,h2⟩
def ei(I:Addr)(s s':Shared):Prop:=(∀b o,b≠I->s.heap.get? b=some o->s'.heap.get? b=some o)/\(s'.gens=s.gens)/\(s'.os=s.os)
section
variable {b1 b2 b3}(x:ei b1 b2 b3)
def ei.mk:=lJ (ei b1 b2 b3) rfl
def ei.keep:=x.1
def ei.gens:=x.2.1
def ei.os:=x.2.2
end
variable {s':Shared}
def ei.ext(k:ei I s s')(J:Ph):dD [I] J s.heap s'.heap:=⟨λa o e O hx=>.inl (k.keep a o (λq=>hx (by simp[q])) e)⟩
def ao.MT(pre:ao V d q G J U H s)(k:ei I s s')(hI:∃o,s.heap.get? I=some o/\oW o/\∀v,o.data≠.cell v)(hf:dB V G J s'.heap)(hn:V.h₀.objs.size<=I)(hφ:I∉J.map (·.2))(hX:I∉G.X):
  ao V d q G J U H s':=by
 refine gP hI λoI eI w wc=>?_;clear hI;have xk:d3 [I] s.heap:=λa ha=>by rw[fW.mp ha];exact⟨oI,eI,w⟩
 have E:=k.ext J;refine(ao.mk (pre.rel.mono E xk (λa o e=>k.keep a o (λq=>absurd (fy e) (hZ.mpr (q▸hn))) (pre.rel.keep a o e)) λp hp=>?_) (pre.er.DL E xk (Gr.refl ..) λa o ha e O=>.inl (k.keep a o (λq=>?_) e)) pre.room pre.hd hf)
 ·refine ue (pre.rel.live p hp) λo e=>?_;exact(k.keep _ o (λq=>hφ (q▸pq hp)) e).trans e.symm
 ·subst q;rcases ha with ha|⟨v,ha⟩
  ·exact hX ha
  ·rw[eI] at e;obtain rfl:=sj e;exact wc v ha
def ao.it(pre:ao V d q G J U H s)(k:ei I s s')(hI:∃o,s.heap.get? I=some o/\kh o)(hn:V.h₀.objs.size<=I)(hφ:I∉J.map (·.2))(hX:I∉G.X):ao V d q G J U H s':=by refine aq hI λo e w=>?_;clear hI;exact pre.MT k ⟨o,e,.inr (.inr (.inl w)),λv hv=>by refine bB w.it λT vs O O k3=>?_;rw[hv] at k3;cases k3⟩ (pre.fr.mono (k.ext J) (Gr.refl ..) λa ha o' e' hd=>by rw[fW.mp ha,e] at e';obtain rfl:=sj e';exact absurd hd w.nd) hn hφ hX
def Bs{α:Type}{l:List α}{i:Nat}{x:α}{r:List α}(h:l.drop i=x::r):l[i]?=some x/\l.drop (i+1)=r:=by
 constructor
 ·rw[<- List.head?_drop,h];rfl
 ·rw[<- List.tail_drop,h];rfl
def Br{α:Type}{l:List α}{i:Nat}(h:l.drop i=[]):l[i]?=none:=by rw[<- List.head?_drop,h];rfl
def om(hs:Heap.SameBut I s.heap h')(t:Nat):ei I s {s with heap:=h',toks:=t}:=(ei.mk (λb o hb e=>(hs.2 b hb).trans e) rfl rfl)
def Gh(hs:Heap.SameBut I s.heap h')(hI:∃o,s.heap.get? I=some o/\kh o){vs:List Value}{l:List AV}(r:aQ V J s.heap vs l):aQ V J h' vs l:=r.mono ((om hs s.toks).ext J) (Ak hI) (Gr.refl ..)
def zm(hs:Heap.SameBut I s.heap h')(hI:∃o,s.heap.get? I=some o/\kh o){v:Value}{l:AV}(r:VR V J s.heap v l):VR V J h' v l:=r.mono ((om hs s.toks).ext J) (Ak hI) (Gr.refl ..)
def Nm(V:Cf)(A:Around)(J:Ph)(s:Shared)(I:Addr)(v:AV)(src':bJ):Prop:=∀Q E,(∀xv s',ei I s s'->VR V J s'.heap xv v->cH V J s'.heap I src'->Q (some xv) s')->wpAny (model V.prog V.w) A (pyNext (.ref I)) Q E s
def IK{a:Addr}(hI:∃o,s.heap.get? I=some o/\kh o){o:Obj}(e:s.heap.get? a=some o)(h:∀vs,o.data≠.fields vs):I≠a:=λq=>by subst q;refine aq hI λo' e' w=>?_;clear hI;rw[e] at e';obtain rfl:=sj e';refine bB w.it λT vs O O k=>?_;exact h vs k
variable {A:Around}
def IT{r:List AV}{v:AV}(x:cH V J s.heap I (.fix (v::r))):Nm V A J s I v (.fix r):=by
 intro Q E h;have hI:=lQ x.st;have xs:Fw V J s.heap I (v::r):=x.st;cases xs with
 |lst a items n i y=>have d8:=IK hI y.at_ (by simp);refine bB y.all λxv r' hd hv hr=>?_;refine ua (Bs hd) λk1 k2=>?_;exact wpAny_pyNext_list_item y.it y.at_.isList (by simpa using k1) λh' i' hs=>h xv _ (om hs _) (zm hs hI hv) (cH.mk (.lst a items n (i+1) (nM.mk i' ((hs.2 a (fi d8)).trans y.at_) y.out (k2▸Gh hs hI hr))) x.new x.out)
 |tup a items n i y=>have d8:=IK hI y.at_ (by simp);refine bB y.all λxv r' hd hv hr=>?_;refine ua (Bs hd) λk1 k2=>?_;exact wpAny_pyNext_tuple_item y.it ⟨_,y.at_,rfl,_,rfl⟩ (by simpa using k1) λh' i' hs=>h xv _ (om hs _) (zm hs hI hv) (cH.mk (.tup a items n (i+1) (nL.mk i' ((hs.2 a (fi d8)).trans y.at_) y.out (k2▸Gh hs hI hr))) x.new x.out)
 |dF z c n y e=>
  cases n with
  |zero=>cases e
  |succ n=>cases e;refine wpAny_pyNext_range_item y (qJ.mpr (qL n)) λh' i' hs=>h _ _ (om hs _) (.lit z _) (cH.mk (.dF (z+c) c n ?_ rfl) x.new x.out);have:((n+1:Nat):Int)-1=(n:Int):=Int.add_sub_cancel (n:Int) 1;rw[this] at i';exact i'
 |cE b t i m y=>
  have y2:=y.is;have y1:=y.enc;cases m with
  |nil=>cases y2
  |cons k m=>
   cases y2;cases hd:b.toList.drop i with
   |nil=>rw[hd] at y1;cases y1
   |cons c r'=>rw[hd] at y1;have y1:=nQ y1;have ek:c.toNat=65+k:=y1.1;refine ua (Bs hd) λk1 k2=>?_;refine KBw.next_item y.it (by simpa using k1) λh' i' hs=>?_;refine h _ _ (om hs _) ?_ (cH.mk (.cE b t (i+1) m (oY.mk i' (by rw[k2];exact y1.2) rfl)) x.new x.out);rw[ek];exact .lit ..
 |str y0 t i m y=>
  have y2:=y.is;have y1:=y.enc;cases m with
  |nil=>cases y2
  |cons k m=>cases y2;refine ua (Bs y1) λk1 k2=>?_;refine wpAny_pyNext_ascii_item y.it (by simpa using k1) λh' i' hs=>h _ _ (om hs _) ⟨_,rfl,.one (y.ok k bA)⟩ (cH.mk (.str y0 t (i+1) m (nK.mk i' k2 rfl (λc hc=>y.ok c (bS _ hc)))) x.new x.out)
def VP(R:aZ V J H s.heap){src':bJ}{v:AV}(x:cH V J s.heap I src)(e:src.next H=some (some (v,src'))):Nm V A J s I v src':=by
 cases src with
 |fix l=>
  cases l with
  |nil=>cases e
  |cons y r=>cases e;exact IT x
 |lst n i=>intro Q E h;have hI:=lQ x.st;refine aq x.st λa h1 h2=>?_;refine um e λl h3 e=>?_;refine um e λy h4 e=>?_;cases e;rw[cQ] at h4;refine ll (R.list h3 h1) λO items n' z=>?_;refine aq (z.all.get h4) λxv k1 k2=>?_;exact wpAny_pyNext_list_item h2 z.at_.isList (by simpa using k1) λh' i' hs=>h xv _ (om hs _) (zm hs hI k2) (cH.mk ⟨a,h1,i'⟩ x.new x.out)
 |dct n i sz ep=>intro Q E h;have hI:=lQ x.st;refine aq x.st λa h1 h2=>?_;refine ub e λl h3 e=>?_;refine ur e λh4 e=>?_;refine us h4 λh4 h5=>?_;refine um (jR e) λy h6 e=>?_;cases e;cases bV h4;cases bV h5;rw[cQ] at h6;refine il (R.dictAt h3 h1) λO lO z=>?_;refine ue (z.get i y h6) λval k=>?_;rw[<- z.len] at h2;refine wpAny_pyNext_dict_item (knd:=kS V) h2 z.at_ k.get λkey h' ny i' hs=>?_;refine ue (Value.isStrOf_shape (x:=V.tx y.1) ny) λt aa=>?_;subst aa;rw[z.len] at i';exact h _ _ (om hs _) (.str k.ok) (cH.mk ⟨a,h1,i'⟩ x.new x.out)
 |vals n i sz ep=>intro Q E h;have hI:=lQ x.st;refine aq x.st λa h1 h2=>?_;refine ub e λl h3 e=>?_;refine ur e λh4 e=>?_;refine us h4 λh4 h5=>?_;refine um (jR e) λy h6 e=>?_;cases e;cases bV h4;cases bV h5;rw[cQ] at h6;refine il (R.dictAt h3 h1) λO lO z=>?_;refine ue (z.get i y h6) λval k=>?_;rw[<- z.len] at h2;refine wpAny_pyNext_values_item (knd:=kS V) h2 z.at_ k.get λh' i' hs=>?_;rw[z.len] at i';exact h _ _ (om hs _) (zm hs hI k.val) (cH.mk ⟨a,h1,i'⟩ x.new x.out)
def IU(R:aZ V J H s.heap)(hh:A.handled=none)(x:cH V J s.heap I src)(e:src.next H=some none):
  ∀Q E,(∀s',ei I s s'->Q none s')->wpAny (model V.prog V.w) A (pyNext (.ref I)) Q E s:=by
 intro Q E h;have fin:∀h':Heap,Heap.ExtBut I s.heap h'->Q none {s with heap:=h'}:=λh' k=>h _ (ei.mk (λb o hb e=>k b o hb e) rfl rfl);cases src with
 |fix l=>
  cases l with
  |cons y r=>cases e
  |nil=>
   have xs:Fw V J s.heap I []:=x.st;cases xs with
   |lst a items n i y=>exact wpAny_pyNext_list_end hh y.it y.at_.isList (by simpa using Br y.all) fin
   |tup a items n i y=>exact wpAny_pyNext_tuple_end hh y.it ⟨_,y.at_,rfl,_,rfl⟩ (by simpa using Br y.all) fin
   |dF z c n y e'=>
    cases n with
    |succ n=>cases e'
    |zero=>exact wpAny_pyNext_range_end hh y (Int.le_refl 0) fin
   |cE b t i m y=>
    have y2:=y.is;have y1:=y.enc;cases m with
    |cons=>cases y2
    |nil=>exact KBw.next_end hh y.it (by simpa using Br (List.map_eq_nil_iff.mp y1)) fin
   |str y0 t i m y=>
    have y2:=y.is;have y1:=y.enc;cases m with
    |cons=>cases y2
    |nil=>exact wpAny_pyNext_ascii_end hh y.it (by simpa using Br y1) fin
 |lst n i=>refine aq x.st λa h1 h2=>?_;refine um e λl h3 e=>?_;have e:=Option.map_eq_none_iff.mp e;rw[cQ,ui] at e;refine ll (R.list h3 h1) λO items n' z=>?_;exact wpAny_pyNext_list_end hh h2 z.at_.isList (by simpa[z.all.length] using e) fin
 |dct n i sz ep=>refine aq x.st λa h1 h2=>?_;refine ub e λl h3 e=>?_;refine ur e λh4 e=>?_;refine us h4 λh4 h5=>?_;cases bV h4;cases bV h5;have e:=Option.map_eq_none_iff.mp (jR e);rw[cQ,ui] at e;refine il (R.dictAt h3 h1) λO lO z=>?_;rw[<- z.len] at h2 e;exact wpAny_pyNext_dict_end (knd:=kS V) hh h2 z.at_ (ui.mpr e) fin
 |vals n i sz ep=>refine aq x.st λa h1 h2=>?_;refine ub e λl h3 e=>?_;refine ur e λh4 e=>?_;refine us h4 λh4 h5=>?_;cases bV h4;cases bV h5;have e:=Option.map_eq_none_iff.mp (jR e);rw[cQ,ui] at e;refine il (R.dictAt h3 h1) λO lO z=>?_;rw[<- z.len] at h2 e;exact wpAny_pyNext_values_end (knd:=kS V) hh h2 z.at_ (ui.mpr e) fin
def yU(a b c:Int):Prop:=(a.natAbs<=1000000)/\(b.natAbs<=1000000)/\(0<c)/\(c.natAbs<=1000000)
section
variable {b1 b2 b3}(x:yU b1 b2 b3)
def yU.mk:=fq (yU b1 b2 b3) rfl
end
def TV{a b c:Int}(h:oy a b c=true):yU a b c:=by refine pH h λh1 h2 h3 h4=>?_;rw[rD] at h3;exact(yU.mk (gN h1) (gN h2) (of_decide_eq_true h3) (gN h4))
def HS(a b c:Int):pU a b c=if a<b then((b-a-1)/c+1).toNat else 0:=by
 unfold pU;rw[rD];by_cases h:a<b
 ·rw[decide_eq_true h,if_pos h]
 ·rw[decide_eq_false h,if_neg h]
def TU{a b c:Int}(h:oy a b c=true):Builtin.Range.small a b c=true/\Builtin.Range.rangeSize a b c=(pU a b c:Int):=by
 obtain⟨h1,h2,h3,h4⟩:=TV h;have pos:a<b->0<=b-a-1:=λk=>by rw[Int.sub_sub];exact Int.sub_nonneg_of_le k
 have div:a<b->0<=(b-a-1)/c+1:=λk=>Int.add_nonneg (Int.ediv_nonneg (pos k) (Int.le_of_lt h3)) (by decide);have h5:Builtin.Range.rangeSize a b c=(pU a b c:Int):=by
  rw[HS];unfold Builtin.Range.rangeSize;rw[if_pos h3];split
  ·exact(Int.toNat_of_nonneg (div ‹_›)).symm
  ·rfl
 have hb:(pU a b c:Int)<=((3000000:Nat):Int):=by
  rw[HS];by_cases k:a<b
  ·rw[if_pos k,Int.toNat_of_nonneg (div k)];refine sC (Int.add_le_add_right (Int.ediv_le_self _ (pos k)) 1) ?_;rw[Int.sub_add_cancel];refine sC Int.le_natAbs (nO.mpr (aM (Int.natAbs_sub_le b a) (aM (Nat.add_le_add h2 h1) (by decide))))
  ·rw[if_neg k];exact nO.mpr (jP _)
 have f:∀i:Int,i.natAbs<=3000000->Builtin.Range.rangeFitsLong i=true:=by intro i hi;unfold Builtin.Range.rangeFitsLong;simp;exact⟨sC (by decide:_<=-((3000000:Nat):Int)) (Int.neg_le_of_neg_le (sC (by rw[<- Int.natAbs_neg];exact Int.le_natAbs) (nO.mpr hi))),Int.lt_of_le_of_lt (sC Int.le_natAbs (nO.mpr hi)) (by decide)⟩
 refine⟨?_,h5⟩;unfold Builtin.Range.small;rw[h5,f a (by exact B5 ‹_›),f b (by exact B5 ‹_›),f c (by exact B5 ‹_›),f ((pU a b c:Nat):Int) (nO.mp hb),if_pos h3,f (b+(c-1)) (aM (Int.natAbs_add_le ..) (aM (Nat.add_le_add h2 (aM (Int.natAbs_sub_le c 1) (zc h4 1))) (by decide)))];simp
def aeK(V:Cf)(A:Around)(J:Ph)(s:Shared)(v:Value)(src:bJ):Prop:=∀Q E,(∀o,kh o->cH V J (s.heap.push o) s.heap.objs.size src->Q (.ref s.heap.objs.size) {s with heap:=s.heap.push o})->wpAny (model V.prog V.w) A (pyIter v) Q E s
def JQ(R:aZ V J H s.heap)(ok:eg V){v:Value}{x:AV}(hx:VR V J s.heap v x)(e:eS x H=some src):aeK V A J s v src:=by
 intro Q E h;have out:=R.fresh (bf s.heap.objs.size);have low:=R.base;have G:∀o,ax s {s with heap:=s.heap.push o}:=λo=>ax.push s o s.toks;cases x with
 |tup l=>obtain rfl:=sj e;refine cO hx λa items n aa y=>?_;clear hx;subst aa;exact wpAny_pyIter_tuple ⟨_,y.at_,rfl,_,rfl⟩ (h _ ⟨_,_,rfl,by decide,rfl⟩ (cH.mk (.tup _ _ _ 0 (nL.mk ⟨_,cY _ rfl,rfl,rfl⟩ ((G _).keep _ _ y.at_) y.out ((G _).jW y.all))) low out))
 |lst l=>obtain rfl:=sj e;refine cO hx λa items n aa y=>?_;clear hx;subst aa;exact wpAny_pyIter_list y.at_.isList (h _ ⟨_,_,rfl,by decide,rfl⟩ (cH.mk (.lst _ _ _ 0 (nM.mk ⟨_,cY _ rfl,rfl,rfl⟩ ((G _).keep _ _ y.at_) y.out ((G _).jW y.all))) low out))
 |cE l=>obtain rfl:=sj e;refine bB hx λb t aa y o=>?_;clear hx;subst aa;exact KBw.pyIter_bytes (h _ ⟨_,_,rfl,by decide,rfl⟩ (cH.mk (.cE b t 0 l (oY.mk ⟨_,cY _ rfl,rfl,rfl⟩ y rfl)) low out))
 |str l=>
  obtain rfl:=sj e;refine aq hx λt aa o=>?_;clear hx;subst aa;have asc:(V.tx l).cps.all (·<128)=true:=by show((V.enc l).toArray).all _=true;rw[List.all_toArray,iH];intro c hc;refine aq (bW.mp hc) λe he aa=>?_;subst aa;have:=o.sign e he;simp;exact FI ‹_›
  exact wpAny_pyIter_ascii asc (h _ ⟨_,_,rfl,by decide,rfl⟩ (cH.mk (.str (V.tx l) t 0 l (nK.mk ⟨_,cY _ rfl,rfl,rfl⟩ rfl rfl o.sign)) low out))
 |dF a b c=>obtain rfl:=sj e;refine Gx hx λA' t u w aa y O z=>?_;clear hx;subst aa;refine ua (TU z) λz1 z2=>?_;refine wpAny_pyIter_range y z1 (h _ ⟨_,_,rfl,by decide,rfl⟩ (cH.mk (.dF _ _ _ ?_ rfl) low out));rw[<- z2];exact cY _ rfl
 |ref n=>
  have e:(match bx H n with
   |some _=>some (.lst n 0)
   |none=>(cD H n).map λr=>.dct n 0 r.2.length r.1)=some src:=e
  refine aq (ik hx rfl) λp aa hp=>?_;subst aa;cases hl:bx H n with
  |some l=>rw[hl] at e;obtain rfl:=sj e;refine ll (R.list hl hp) λpe items n' z=>?_;exact wpAny_pyIter_list z.at_.isList (h _ ⟨_,_,rfl,by decide,rfl⟩ (cH.mk ⟨p.1,pe▸hp,⟨_,cY _ rfl,rfl,rfl⟩⟩ low out))
  |none=>rw[hl] at e;refine um e λr h1 aa=>?_;subst aa;refine il (R.dictAt h1 hp) λpe lO z=>?_;refine wpAny_pyIter_dict (knd:=kS V) (xH R hp pe ok.big) z.at_ (h _ ⟨_,_,rfl,by decide,rfl⟩ (cH.mk ⟨p.1,pe▸hp,⟨_,cY _ rfl,rfl,?_⟩⟩ low out));rw[z.len];rfl
 |vals n=>refine um e λr h1 aa=>?_;subst aa;refine qR hx λb a d' aa hp hv ho=>?_;clear hx;subst aa;refine il (R.dictAt h1 hp) λpe lO z=>?_;refine wpAny_pyIter_values (knd:=kS V) hv z.at_ (h _ ⟨_,_,rfl,by decide,rfl⟩ (cH.mk ⟨a,pe▸hp,⟨_,cY _ rfl,rfl,?_⟩⟩ low out));rw[z.len];rfl
 |_=>exact aR e
end
section
variable {V:Cf}{G:Fm}{J:Ph}{s:Shared}{U:aC}{H:Hp}{d:Nat}{q:Bool}
variable {E:Value->Shared->Prop}{I:Addr}{v:Value}
set_option backward.match.sparseCases true in
def WL{M:Model}{A:Around}{Q:Unit->Shared->Prop}{tg:Expr}(hI:∃o,s.heap.get? I=some o/\kh o)(h:Q () s):wpAny M A (letOwnedTupleGo tg (.ref I) v) Q E s:=by
 obtain⟨o,e,⟨T,vs,h1,h2,h3⟩⟩:=hI;unfold letOwnedTupleGo;have key:wpAny M A (do
   let (.ref r,.ref a):=(Value.ref I,v)|return
   let o <- load r
   match o.cls,o.data with
   |.type n,.fields vs=>
    if["enumerate","zip","dict_itemiterator","dict_reverseitemiterator","odict_iterator","itertools.zip_longest","itertools.pairwise"].contains n&&vs[0]?==some (rawInt a) then
     rule "for.unpacks-the-owned-tuple"
     updateField r 0 .none
   |_,_=>pure ()) Q E s:=by
  cases v with
  |ref a=>
   refine ah (wpAny_load e ?_);rw[h1,h3];have hT:["enumerate","zip","dict_itemiterator","dict_reverseitemiterator","odict_iterator","itertools.zip_longest","itertools.pairwise"].contains T=false:=by unfold vq at h2;simp only[Bool.or_eq_true,beq_iff_eq] at h2;rcases h2 with(((((rfl|rfl)|rfl)|rfl)|rfl)|rfl)|rfl<;>decide
   show wpAny M A (if(_&&_)=true then _ else _) Q E s;rw[hT];exact aH h
  |_=>exact aH h
 cases tg<;>first|exact key|exact aH h
variable {s':Shared}
def ei.trans{ja:Shared}(a:ei I s s')(b:ei I s' ja):ei I s ja:=(ei.mk (λx o hx e=>b.keep x o hx (a.keep x o hx e)) (b.gens.trans a.gens) (b.os.trans a.os))
def ei.vr(k:ei I s s')(hI:∃o,s.heap.get? I=some o/\kh o){x:AV}(r:VR V J s.heap v x):VR V J s'.heap v x:=r.mono (k.ext J) (Ak hI) (Gr.refl ..)
def ei.jW(k:ei I s s')(hI:∃o,s.heap.get? I=some o/\kh o){v:List Value}{x:List AV}(r:aQ V J s.heap v x):aQ V J s'.heap v x:=r.mono (k.ext J) (Ak hI) (Gr.refl ..)
def o7(V:Cf)(d:Nat)(q:Bool)(G:Fm)(J:Ph)(U:aC)(H:Hp)(I:Addr)(l r:List AV)(s:Shared)(xs:List Value)(s':Shared):Prop:=(ao V d q G J U H s')/\(ei I s s')/\(aQ V J s'.heap xs l)/\(cH V J s'.heap I (.fix r))
section
variable {b1 b2 b3 b4 b5 b6 b7 b8 b9 kQ tV tU BJ}(x:o7 b1 b2 b3 b4 b5 b6 b7 b8 b9 kQ tV tU BJ)
def o7.mk:=fq (o7 b1 b2 b3 b4 b5 b6 b7 b8 b9 kQ tV tU BJ) rfl
def o7.pre:=x.1
def o7.but:=x.2.1
def o7.all:=x.2.2.1
def o7.it:=x.2.2.2
end
def aa0(hX:I∉G.X):∀(l r:List AV) (s:Shared) (Q:List Value->Shared->Prop),ao V d q G J U H s->cH V J s.heap I (.fix (l++r)) ->
  (∀xs s',o7 V d q G J U H I l r s xs s'->Q xs s')->wpAny (model V.prog V.w) G.A (draw (.ref I) l.length) Q E s:=by
 intro l
 induction l with
 |nil=>intro r s Q pre x h;exact aH (h [] s (o7.mk pre (ei.mk (λO O O e=>e) rfl rfl) .nil x))
 |cons y l ih=>intro r s Q pre x h;show wpAny _ G.A (pyNext (.ref I)>>=_) Q E s;refine ah (IT x _ _ λxv s1 k1 r1 x1=>?_);exact ah (c8 (ih r s1 _ (pre.it k1 (lQ x.st) x.new x.out hX) x1 λxs s2 w=>aH (h _ s2 (o7.mk w.pre (k1.trans w.but) (.cons (w.but.vr (lQ x1.st) r1) w.all) w.it))))
def Cc(pre:ao V d q G J U H s)(hI:s.heap.objs.size<=I):I∉G.X:=λh=>by refine aq (pre.er.fH I h) λo e O=>?_;exact absurd (fy e) (hZ.mpr hI)
def I2{a:Addr}{o:Obj}(e:s.heap.get? a=some o):a≠s.heap.objs.size:=dU (fy e)
def XM(ok:eg V)(hh:G.A.handled=none)(pre:ao V d q G J U H s){x:AV}{l:List AV}(hx:VR V J s.heap v x)(hl:Bi x=some l){Q:List Value->Shared->Prop}
  (h:∀xs s',ax s s'->aQ V J s'.heap xs l->Q xs s'):wpAny (model V.prog V.w) G.A (unpackItems v l.length none) Q E s:=by
 have key:eS x H=some (.fix l)/\∃T id,s.TypeIs v T/\Slot T "__iter__" id:=by
  cases x with
  |tup=>obtain rfl:=sj hl;refine cO hx λa items n aa y=>?_;clear hx;subst aa;exact⟨rfl,"tuple",_,⟨_,y.at_,rfl⟩,F.slot_tuple_iter⟩
  |lst=>obtain rfl:=sj hl;refine cO hx λa items n aa y=>?_;clear hx;subst aa;exact⟨rfl,"list",_,⟨_,y.at_,rfl⟩,slot_list_iter⟩
  |_=>exact aR hl
 refine Q8 key λhs T id hT sl=>?_;clear key;unfold unpackItems;refine ah ?_;unfold notIterableAtAll;refine ah (wpAny_specialOf hT sl.lookup ?_);refine aH ?_;refine ah (c8 (JQ pre.rel ok hx hs _ _ λo ho x1=>?_));have g:ax s {s with heap:=s.heap.push o}:=ax.push s o s.toks;refine ah (c8 (aa0 (Cc pre (bf _):s.heap.objs.size∉G.X) l [] _ _ (pre.grow g) (by rw[eW];exact x1:cH V J (s.heap.push o) s.heap.objs.size (.fix (l++[]))) λxs s2 w=>?_));rw[if_neg (by rw[w.all.length];exact jQ _)];refine ah (c8 (IU w.pre.rel hh w.it rfl _ _ λs3 k3=>?_));show wpAny _ G.A (pure xs) Q E s3;exact aH (h xs s3 (ax.mk (λb o' e=>k3.keep b o' (I2 e) (w.but.keep b o' (I2 e) (g.keep b o' e))) (k3.gens.trans (w.but.gens.trans g.gens)) (k3.os.trans (w.but.os.trans g.os))) (k3.jW (lQ w.it.st) w.all))
def rY(K:Cx)(x:Str)(k:Nat):Prop:=(pW x=true)/\(K.sc.lookup x=some k)/\(K.kn.lookup x=some .local\/K.kn.lookup x=some .cell)
section
variable {b1 b2 b3}(x:rY b1 b2 b3)
def rY.mk:=lJ (rY b1 b2 b3) rfl
def rY.name:=x.1
def rY.sc:=x.2.1
def rY.kn:=x.2.2
end
def Ce{K:Cx}{c:C}(h:nW K c=true):∃x k p,c=.var x k p/\rY K x k:=by
 cases c with
 |var x k p=>refine jx h λh1 h2 h3=>?_;exact⟨x,k,p,rfl,rY.mk h1 (of_decide_eq_true h2) ((sx.mp h3).imp (λh=>of_decide_eq_true h) λh=>of_decide_eq_true h)⟩
 |_=>exact cR h
def BK(pre:ao V d q G J U H s){c:C}(h:nW G.K c=true){a:AV}(hv:VR V J s.heap v a):ag V G J s (assign (au c) G.env v) (lE c.slot a U H) (λO O O O=>True):=by refine cO (Ce h) λx k p aa w=>?_;subst aa;exact TT.imp (λO O h=>wpAny_assign_Name h) (GU pre w.sc w.kn hv)
def LX{c:C}{K:Cx}{env:Env}(h:nW K c=true)(r:List Expr):assignEach (au c::r) env=(false,assign (au c) env)::assignEach r env:=by refine cO (Ce h) λx k p aa O=>?_;subst aa;rfl
theorem R6:∀(l:List C) (xs:List Value) (vs:List AV) {J:Ph} {U:aC} {H:Hp} {s:Shared},ao V d q G J U H s->(∀c∈l,nW G.K c=true)->aQ V J s.heap xs vs ->
  ag V G J s (assignInOrder ((assignEach (l.map au) G.env).map (·.2)) xs) (sT l vs U H) (λO O O O=>True):=by
 intro l
 induction l with
 |nil=>
  intro xs t_ _ _ _ _ pre _ hr;cases t_ with
  |nil=>subst hr;exact TT.imp (λO O h=>aH h) (TT.now (Nx.refl ..) pre trivial)
  |cons _ _=>exact ag.stuck
 |cons c l ih=>
  intro xs t_ J U H s pre h hr;cases t_ with
  |nil=>exact ag.stuck
  |cons v vs=>obtain⟨x,r,rfl,hx,hr⟩:=hr;have hc:=h c bA;rw[bE,LX hc];show ag V G J s (do holding r (assign (au c) G.env x);assignInOrder ((assignEach (l.map au) G.env).map (·.2)) r) _ _;exact TT.imp (λO O h=>ah (c8 h)) (TT.seq (Nx.refl ..) pre (BK pre hc hx) λO O ρ1 H1 φ1 s1 n1 m1 p1 r1=>TT.last m1 (ih r vs p1 (λc hc=>h c (bS _ hc)) (n1.jW pre.er hr)))
theorem aaB{K:Cx}{env:Env}:∀{l:List C},(∀c∈l,nW K c=true)->(assignEach (l.map au) env).length=l.length/\(assignEach (l.map au) env).findIdx? (·.1)=none:=by
 intro l
 induction l with
 |nil=>intro _;exact⟨rfl,rfl⟩
 |cons c l ih=>intro h;refine ua (ih λc hc=>h c (bS _ hc)) λh1 h2=>?_;rw[bE,LX (h c bA)];exact⟨by simp[h1],by rw[List.findIdx?_cons];simpa using h2⟩
theorem SU:∀(l:List C) (vs:List AV) (U:aC) (H:Hp),l.length≠vs.length->sT l vs U H=.stuck:=by
 intro l
 induction l with
 |nil=>
  intro t_ _ _ h;cases t_ with
  |nil=>exact absurd rfl h
  |cons _ _=>exact rfl
 |cons c l ih=>
  intro t_ U H h;cases t_ with
  |nil=>exact rfl
  |cons v vs=>
   show M.bind (lE c.slot v) (λO=>sT l vs) U H=_;unfold M.bind lE;cases Nat.blt c.slot U.length with
   |true=>exact(λU H=>ih vs U H λq=>h (congrArg (·+1) q)) _ H
   |false=>rfl
def Fg(ok:eg V)(hh:G.A.handled=none)(pre:ao V d q G J U H s){t:C}(h:mJ G.K t=true){a:AV}(hv:VR V J s.heap v a):
  ag V G J s (assign (au t) G.env v) (jr t a U H) (λO O O O=>True):=by
 cases t with
 |var x k p=>exact BK pre (c:=.var x k p) h hv
 |tup l k pos=>
  refine us h λh1 h2=>?_;rw[iH] at h2;refine ua (aaB (env:=G.env) h2) λe1 e2=>?_;show ag V G J s (assign (.Tuple (bN l) k pos) G.env v) ((match Bi a with|some vs=>sT (cs l) vs|none=>M.stuck) U H) _;cases hl:Bi a with
  |none=>exact ag.stuck
  |some vs=>
   rw[DS h1,arm_assign_Tuple];unfold unpack;rw[e1,e2];show ag V G J s _ (sT (cs l) vs U H) _;by_cases hlen:(cs l).length=vs.length
   ·have fin:ag V G J s (do standAt pos;assignInOrder ((assignEach ((cs l).map au) G.env).map (·.2)) (<- holding [v] (unpackItems v vs.length none))) (sT (cs l) vs U H) (λO O O O=>True):=by intro hs;refine ah (fz (ah (c8 (XM ok hh pre hv hl λxs s' g r=>?_))));exact TT.last (g.nx G.X J) (R6 (cs l) xs vs (pre.grow g) h2 r) hs
    rw[hlen];exact fin
   ·rw[SU _ _ _ _ hlen];exact ag.stuck
 |_=>exact cR h
end
section
variable {V:Cf}{G:Fm}{φ₀ J:Ph}{s₀ s:Shared}{U:aC}{H:Hp}{d:Nat}{q:Bool}
def no(_:Value)(_:Shared):Prop:=False
variable {I:Addr}
def Nx.but{X:List Addr}{s':Shared}(n:Nx X φ₀ J s₀ s)(k:ei I s s')(hI:¬ cN s₀.heap I):Nx X φ₀ J s₀ s':=by have ne:∀a,cN s₀.heap a->a≠I:=λa o q=>hI (q▸o);refine(Nx.mk ⟨λa o e h1 h2=>(n.ext.keep a o e h1 h2).trans λo' e'=>.inl (k.keep a _ (ne a ⟨o,e⟩) e')⟩ n.gr (k.gens.trans n.gens) (k.os.trans n.os) (λa ho=>?_));refine ue (n.live a ho) λo' e'=>?_;exact⟨o',k.keep a _ (ne a ho) e'⟩
def qw(s₀:Shared)(G:Fm)(I:Addr):Prop:=¬ cN s₀.heap I/\I∉G.X
variable {Q:Value->Shared->Prop}
def DN(ok:eg V)(pre:ao V d q G J U H s){v:Value}{x:AV}{src:bJ}(hx:VR V J s.heap v x)(e:eS x H=some src){A:Around}{E:Value->Shared->Prop}
  (h:∀I s',ax s s'->cH V J s'.heap I src->qw s G I->Q (.ref I) s'):wpAny (model V.prog V.w) A (pyIter v) Q E s:=
 JQ pre.rel ok hx e _ _ λo O it=>h _ _ (ax.push s o s.toks) it ⟨jH (bf _),Cc pre (bf _)⟩
def aeG(V:Cf)(A:Around)(I:Addr)(tg:C)(QN:Shared->Prop)(Q:Value->Shared->Prop)(s:Shared):Prop:=
 wpAny (model V.prog V.w) A (pyNext (.ref I)) (λr s₁=>match r with
  |none=>QN s₁
  |some v=>wpAny (model V.prog V.w) A (letOwnedTupleGo (au tg) (.ref I) v) (λO s'=>Q v s') no s₁) no s
def GF(n0:Nx G.X φ₀ J s₀ s)(pre:ao V d true G J U H s){src:bJ}{tg:C}(it:cH V J s.heap I src)(hn:qw s₀ G I){o:Option (AV×bJ)}(e:src.next H=some o)
  {QN:Shared->Prop} 
  (h0:o=none->∀s1,ao V d true G J U H s1->Nx G.X φ₀ J s₀ s1->QN s1)
  (h1:∀p,o=some p->∀xv s1,ao V d true G J U H s1->Nx G.X φ₀ J s₀ s1->VR V J s1.heap xv p.1->cH V J s1.heap I p.2->Q xv s1):aeG V G.A I tg QN Q s:=by
 cases o with
 |none=>exact IU pre.rel (pre.hd rfl) it e _ _ λs1 k1=>h0 rfl s1 (pre.it k1 (lQ it.st) it.new it.out hn.2) (n0.but k1 hn.1)
 |some p=>exact VP (v:=p.1) (src':=p.2) pre.rel it e _ _ λxv s1 k1 rv iP=>WL (lQ iP.st) (h1 p rfl xv s1 (pre.it k1 (lQ it.st) it.new it.out hn.2) (n0.but k1 hn.1) rv iP)
def JP{s1:Shared}(hl:∀a,cN s.heap a->cN s1.heap a)(h:qw s1 G I):qw s G I:=⟨λho=>h.1 (hl _ ho),h.2⟩
end
section
def sG(V:Cf)(K:Cx)(t:C):Bool:=match t with
 |.var x k p=>nW K (.var x k p)
 |.tup l k p=>mJ K (.tup l k p)
 |.sub o i _=>wf V o K&&wf V i K&&!rH (au i)
 |.attr o x a _=>wf V o K&&Au V a x
 |_=>false
def Ge(V:Cf)(K:Cx)(t:C):Bool:=match t with
 |.var x k p=>nW K (.var x k p)
 |.attr o x a _=>wf V o K&&Au V a x
 |_=>false
def uD(V:Cf)(K:Cx)(x:Str)(k:Nat):Bool:=pW x&&tC K x .globalImplicit&&decide (V.gl[k]?=some x)
mutual
noncomputable def wH(V:Cf):S->Cx->Bool
 |.asg ts e _,K=>tG ts&&(cs ts).all (sG V K)&&wf V e K&&(Nat.beq (cs ts).length 1||rA (au e))&&Aq (au e)
 |.aug _ t e _,K=>wf V e K&&Ge V K t
 |.expr e _,K=>wf V e K&&rA (au e)
 |.iff t a b _,K=>wf V t K&&eZ V a K&&eZ V b K
 |.gO t a b _,K=>wf V t K&&eZ V a K&&eZ V b K
 |.loop tg it b _,K=>mJ K tg&&wf V it K&&s9 (au it)&&eZ V b K
 |.ret e _,K=>qd e||wf V e K
 |.tri b x k _ h _ _,K=>eZ V b K&&uD V K x k&&eZ V h K&&!(ss h).isEmpty
 |.del o i _ _,K=>wf V o K&&wf V i K
 |.raise x k _ args _ _,K=>uD V K x k&&jU V args K
 |_,_=>true
noncomputable def eZ(V:Cf):S->Cx->Bool
 |.nil,_=>true
 |.cons a r,K=>wH V a K&&eZ V r K
 |_,_=>false
end
variable {V:Cf}{G:Fm}{J:Ph}{s:Shared}{U:aC}{H:Hp}{d:Nat}{q:Bool}{E:Ev}
def Gg{K:Cx}{l:S}:eZ V l K=true->c9 l=(ss l).map wK/\∀c∈ss l,wH V c K=true:=by
 induction l with
 |nil=>exact λO=>⟨rfl,λc h=>nomatch h⟩
 |cons a r _ ih=>
  intro h;refine us h λh1 h2=>?_;refine ua (ih h2) λh3 h4=>?_;exact⟨congrArg (wK a::·) h3,λc hc=>by
   rcases bQ.mp hc with rfl|hc
   ·exact h1
   ·exact h4 c hc⟩
 |_=>exact cR
structure wg(V:Cf):Prop where
 get:∀{d q G J U H s vo ov x a},ao V d q G J U H s->VR V J s.heap vo ov->V.nm[a]?=some x->ag V G J s (getAttr vo x true) (cu (qo V.P a ov) U H) (VR V)
 set:∀{d q G J U H s vo ov x a vv v},ao V d q G J U H s->VR V J s.heap vo ov->VR V J s.heap vv v->V.nm[a]?=some x->ag V G J s (setAttr vo x vv) (gp (pO V.P a ov v) U H) (λO O O O=>True)
structure v3(V:Cf)(E:Ev):Prop extends d5 V E where
 s:∀{d q G J U H s c},ao V d q G J U H s->wH V c G.K=true->ag V G J s (exec (wK c) G.env) (E.s d q c U H) (d7 V)
def Z9(Sd:v3 V E):∀(l:List S) {J:Ph} {U:aC} {H:Hp} {s:Shared},ao V d q G J U H s->(∀c∈l,wH V c G.K=true) ->
  ag V G J s (execs (l.map wK) G.env) (cW (E.s d q) l U H) (d7 V):=by
 intro l
 induction l with
 |nil=>intro _ _ _ _ pre _;exact TT.imp (λO O h=>aH h) (TT.now (Nx.refl ..) pre rfl)
 |cons c l ih=>
  intro J U H s pre h;rw[bE,arm_execs_cons];refine ag.bind pre (Sd.s pre (h c bA)) λf g ρ1 H1 φ1 s1 n1 p1 r1=>?_;cases g with
  |next=>subst r1;exact ih p1 λc hc=>h c (bS _ hc)
  |brk=>subst r1;exact TT.imp (λO O h=>aH h) (TT.now (Nx.refl ..) p1 rfl)
  |cont=>subst r1;exact TT.imp (λO O h=>aH h) (TT.now (Nx.refl ..) p1 rfl)
  |ret v=>refine aq r1 λw aa r=>?_;clear r1;subst aa;exact TT.imp (λO O h=>aH h) (TT.now (Nx.refl ..) p1 ⟨w,rfl,r⟩)
def qm(Sd:v3 V E){l:S}(pre:ao V d q G J U H s)(h:eZ V l G.K=true):ag V G J s (execs (c9 l) G.env) (cW (E.s d q) (ss l) U H) (d7 V):=by refine ua (Gg h) λh1 h2=>?_;rw[h1];exact Z9 Sd _ pre h2
def MV(pre:ao V d q G J U H s){op:Operator}{vx vy:Value}{x y:AV}(hx:VR V J s.heap vx x)(hy:VR V J s.heap vy y):
  ag V G J s (inplaceOp op vx vy) (cu (λO=>tW op x y) U H) (VR V):=ag.opt pre λv e Q E h=>by
 refine ub e λi h1 e=>?_;refine ub e λj h2 e=>?_;refine ue (eG hx h1) λt aa=>?_;subst aa;refine ue (eG hy h2) λu aa=>?_;subst aa;cases op with
 |Add=>obtain rfl:=sj e;exact wpAny_iadd_int (h _ _ (ax.toks ..) (.lit ..))
 |Sub=>obtain rfl:=sj e;exact PyProof.Rows.isub_int (h _ _ (ax.toks ..) (.lit ..))
 |_=>exact aR e
variable {t:C}
def GJ(ok:eg V)(jL:wg V)(Sd:d5 V E)(pre:ao V d q G J U H s)(h:sG V G.K t=true){v:Value}{a:AV}(hv:VR V J s.heap v a):
  ag V G J s (assign (au t) G.env v) (zA V.P (E.e d q) q a t U H) (λO O O O=>True):=by
 cases t with
 |var x k p=>exact BK pre (c:=.var x k p) h hv
 |tup l k pos=>
  cases q with
  |false=>exact ag.stuck
  |true=>exact Fg ok (pre.hd rfl) pre (t:=.tup l k pos) h hv
 |sub o i p=>refine jx h λh1 h2 h3=>?_;show ag V G J s (assign (.Subscript (au o) (au i) p) G.env v) (M.bind (E.e d q o) (λov=>M.bind (E.e d q i) λiv=>gp λH=>qX ov iv a H) U H) _;rw[arm_assign_Subscript];refine TT.imp (λO O h=>ah (c8 h)) (TT.seq (Nx.refl ..) pre (Sd.e pre h1) λov x ρ1 H1 φ1 s1 n1 m1 p1 r1=>?_);refine TT.imp (λO O h=>ah (c8 h)) (TT.seq m1 p1 (Sd.e p1 h2) λiv y ρ2 H2 φ2 s2 n2 m2 p2 r2=>?_);refine TT.imp (λO O h=>ah (fz (ah (c8 (cz h (λO O h'=>wpAny_release h') λO O e=>e))))) (TT.last m2 ?_);exact SW p2 (n2.vr p1.er r1) r2 (n2.vr p1.er (n1.vr pre.er hv))
 |attr o x k p=>refine us h λh1 h2=>?_;show ag V G J s (assign (.Attribute (au o) x p) G.env v) (M.bind (E.e d q o) (λov=>gp λH=>pO V.P k ov a H) U H) _;rw[arm_assign_Attribute];refine TT.imp (λO O h=>ah (c8 h)) (TT.seq (Nx.refl ..) pre (Sd.e pre h1) λov x ρ1 H1 φ1 s1 n1 m1 p1 r1=>?_);refine TT.imp (λO O h=>ah (fz (ah (c8 (cz h (λO O h'=>wpAny_release h') λO O e=>e))))) (TT.last m1 ?_);exact jL.set p1 r1 (n1.vr pre.er hv) (of_decide_eq_true h2)
 |_=>exact cR h
variable {env:Env}
def zk{K:Cx}(h:sG V K t=true)(rest:List Expr):assignEach (au t::rest) env=(false,assign (au t) env)::assignEach rest env:=by cases t<;>first|rfl|exact cR h
theorem GH(ok:eg V)(jL:wg V)(Sd:d5 V E){v:Value}{a:AV}:∀(l:List C) {J:Ph} {U:aC} {H:Hp} {s:Shared},ao V d q G J U H s->(∀t∈l,sG V G.K t=true)->VR V J s.heap v a ->
  ag V G J s (assignAll v ((assignEach (l.map au) G.env).map (·.2))) (wX V.P (E.e d q) q a l U H) (λO O O O=>True):=by
 intro l
 induction l with
 |nil=>intro _ _ _ _ pre _ _;exact TT.imp (λO O h=>aH h) (TT.now (Nx.refl ..) pre trivial)
 |cons t l ih=>
  intro J U H s pre h hv;cases l with
  |nil=>have h1:=h t bA;rw[bE,zk h1];show ag V G J s (assign (au t) G.env v) (M.bind (zA V.P (E.e d q) q a t) (λO=>cj ()) U H) _;exact TT.seq (W:=λO s' Q O=>Q () s') (Nx.refl G.X J s) pre (GJ ok jL Sd pre h1 hv) λO O ρ1 H1 φ1 s1 n1 m1 p1 r1=>TT.now m1 p1 trivial
  |cons t2 l=>have h1:=h t bA;have h2:=h t2 (bS _ bA);rw[bE,zk h1,bE,bE,zk h2];show ag V G J s (do holding [v] (assign (au t) G.env v);assignAll v (assign (au t2) G.env::(assignEach (l.map au) G.env).map (·.2))) (M.bind (zA V.P (E.e d q) q a t) (λO=>wX V.P (E.e d q) q a (t2::l)) U H) _;refine TT.imp (λO O h=>ah (c8 h)) (TT.seq (Nx.refl G.X J s) pre (GJ ok jL Sd pre h1 hv) λO O ρ1 H1 φ1 s1 n1 m1 p1 r1=>TT.last m1 ?_);have:=ih p1 (λc hc=>h c (bS _ hc)) (n1.vr pre.er hv);rw[bE (l:=l),zk h2] at this;exact this
variable {tgs:List Expr}{v:Expr}
def RN(h:Aq v=true):swappedStores tgs v env=pure none:=by
 cases tgs with
 |nil=>rfl
 |cons a r=>cases a<;>first|rfl|(cases r<;>first|rfl|(cases v<;>first|rfl|exact cR h))
def Sw{line:Nat}(h:rA v=true):swapsWithSole tgs v line env=pure false:=by
 cases tgs with
 |nil=>rfl
 |cons t r=>
  cases r with
  |nil=>cases v<;>first|rfl|exact cR h
  |cons=>rfl
variable {pos:Pos}
def HD(ok:eg V)(jL:wg V)(Sd:d5 V E)(pre:ao V d q G J U H s){ts:C}{m:M AV}(h0:tG ts=true)(h1:∀t∈cs ts,sG V G.K t=true)(h2:ag V G J s (eval v G.env) (m U H) (VR V))(h3:swapsWithSole (bN ts) v pos.line G.env=pure false)(h4:Aq v=true):
  ag V G J s (exec (.Assign (bN ts) v pos) G.env) (M.bind m (λv=>M.bind (wX V.P (E.e d q) q v (cs ts)) λO=>cj .next) U H) (d7 V):=by
 rw[arm_exec_Assign,h3,RN h4,DS h0];refine TT.imp (λQ E h=>ah (fz (ah (aH (ah h))))) (TT.seq (Nx.refl ..) pre h2 λa x ρ1 H1 φ1 s1 n1 m1 p1 r1=>?_);refine TT.imp (λQ E h=>ah (aH (ah h))) (TT.seq m1 p1 (GH ok jL Sd (cs ts) p1 h1 r1) λO O ρ2 H2 φ2 s2 n2 m2 p2 r2=>?_);exact TT.imp (λO O h=>aH h) (TT.now m2 p2 rfl)
def Tt(jL:wg V)(Sd:d5 V E)(pre:ao V d q G J U H s){op:Operator}{e:C}(h1:Ge V G.K t=true)(h2:wf V e G.K=true):
  ag V G J s (exec (.AugAssign (au t) op (au e) pos) G.env) (MX V.P E d q op t e U H) (d7 V):=by
 cases t with
 |var x k p=>refine cO (Ce (c:=.var x k p) h1) λx' k' p' q1 w=>?_;cases q1;refine TT.imp (λQ E h=>wpAny_AugAssign_Name h) (TT.seq (Nx.refl ..) pre (Gk pre w.sc (Iz w.name)) λa x ρ1 H1 φ1 s1 n1 m1 p1 r1=>?_);refine TT.seq m1 p1 (Sd.e p1 h2) λb y ρ2 H2 φ2 s2 n2 m2 p2 r2=>?_;refine TT.seq m2 p2 (MV p2 (n2.vr p1.er r1) r2) λc z ρ3 H3 φ3 s3 n3 m3 p3 r3=>?_;exact TT.seq m3 p3 (GU p3 w.sc w.kn r3) λO O ρ4 H4 φ4 s4 n4 m4 p4 r4=>TT.now m4 p4 rfl
 |attr o x a p=>refine us h1 λh3 h4=>?_;have h4:=of_decide_eq_true h4;show ag V G J s (exec (.AugAssign (.Attribute (au o) x p) op (au e) pos) G.env) (MW V.P E d q op o a e U H) (d7 V);rw[arm_exec_AugAssign_2];refine TT.imp (λQ E h=>ah (fz (ah h))) (TT.seq (Nx.refl ..) pre (Sd.e pre h3) λov x ρ1 H1 φ1 s1 n1 m1 p1 r1=>?_);refine TT.imp (λQ E h=>ah (c8 (ah (fz (ah h))))) (TT.seq m1 p1 (jL.get p1 r1 h4) λold y ρ2 H2 φ2 s2 n2 m2 p2 r2=>?_);refine TT.imp (λQ E h=>ah (c8 h)) (TT.seq m2 p2 (Sd.e p2 h2) λb z ρ3 H3 φ3 s3 n3 m3 p3 r3=>?_);refine TT.imp (λQ E h=>ah (fz (wpAny_operateT h))) (TT.seq m3 p3 (MV p3 (n3.vr p2.er r2) r3) λc w ρ4 H4 φ4 s4 n4 m4 p4 r4=>?_);have sX:=n4.vr p3.er (n3.vr p2.er (n2.vr p1.er r1));refine TT.imp (λQ E h=>ah (fz (ah (c8 h)))) (TT.seq m4 p4 (jL.set p4 sX r4 h4) λO O ρ5 H5 φ5 s5 n5 m5 p5 r5=>?_);exact TT.imp (λQ E h=>ah (wpAny_release (aH h))) (TT.now m5 p5 rfl)
 |_=>exact cR h1
def RJ{line:Nat}(h:rA v=true):swapsWith v none line env=pure false:=by cases v<;>first|rfl|exact cR h
def Tr(Sd:d5 V E)(pre:ao V d q G J U H s){e:C}(h:wf V e G.K=true)(h2:rA (au e)=true):
  ag V G J s (exec (.Expr (au e) pos) G.env) (LI E d q e U H) (d7 V):=by
 have hi:interactive G.env=false:=by unfold interactive;rw[pre.er.kind];rfl
 exact TT.imp (λQ E h=>wpAny_Expr_any h hi (RJ h2)) (TT.seq (Nx.refl ..) pre (Sd.e pre h) λO O ρ1 H1 φ1 s1 n1 m1 p1 r1=>TT.now m1 p1 rfl)
def Tp(Sd:v3 V E)(pre:ao V d q G J U H s){a b:S}(h1:wf V t G.K=true)(h2:eZ V a G.K=true)(h3:eZ V b G.K=true):
  ag V G J s (exec (.If (au t) (c9 a) (c9 b) pos) G.env) (Kc E d q t a b U H) (d7 V):=by
 refine TT.imp (λQ E h=>wpAny_If h) (TT.seq (Nx.refl ..) pre (Sd.t pre h1) λc c' ρ1 H1 φ1 s1 n1 m1 p1 r1=>?_);subst r1;cases c
 ·exact TT.last m1 (qm Sd p1 h3)
 ·exact TT.last m1 (qm Sd p1 h2)
def Tn(Sd:d5 V E)(pre:ao V d q G J U H s){e:C}(h:(qd e||wf V e G.K)=true):
  ag V G J s (exec (.Return (sM e) pos) G.env) (HW E d q e U H) (d7 V):=by
 cases e with
 |nil=>exact TT.imp (λO O h=>wpAny_Return_none h) (TT.now (Nx.refl ..) pre ⟨_,rfl,.none⟩)
 |_=>exact TT.imp (λQ E h=>wpAny_Return_some h) (TT.seq (Nx.refl ..) pre (Sd.e pre h) λO O ρ1 H1 φ1 s1 n1 m1 p1 r1=>TT.now m1 p1 ⟨_,rfl,r1⟩)
def Ts(Sd:d5 V E)(pre:ao V d q G J U H s){o i:C}{zH:Pos}(h1:wf V o G.K=true)(h2:wf V i G.K=true):
  ag V G J s (exec (.Delete [.Subscript (au o) (au i) zH] pos) G.env) (Me E d q o i U H) (d7 V):=by
 rw[arm_exec_Delete,arm_deleteEach_cons,arm_deleteEach_nil,arm_delete_Subscript];refine TT.imp (λQ E h=>ah (fz (ah (ah (ah h))))) (TT.seq (Nx.refl ..) pre (Sd.e pre h1) λov x ρ1 H1 φ1 s1 n1 m1 p1 r1=>?_);refine TT.imp (λQ E h=>ah (c8 h)) (TT.seq m1 p1 (Sd.e p1 h2) λiv y ρ2 H2 φ2 s2 n2 m2 p2 r2=>?_);refine TT.imp (λQ E h=>ah (fz (ah (c8 h)))) (TT.seq m2 p2 (abd p2 (n2.vr p1.er r1) r2) λO O ρ3 H3 φ3 s3 n3 m3 p3 r3=>?_);exact TT.imp (λQ E h=>wpAny_release (aH (aH h))) (TT.now m3 p3 rfl)
end
section
def sN(again:Shared->Prop)(Q:Flow->Shared->Prop)(f:Flow)(s:Shared):Prop:=match f with
 |.next=>again s
 |.cont=>again s
 |.brk=>Q .next s
 |.ret v=>Q (.ret v) s
def mX(Q:Flow->Shared->Prop)(r:Result)(s:Shared):Prop:=match r with
 |.ok f=>Q f s
 |.error _=>False
noncomputable def jn(V:Cf)(A:Around)(c:Code)(s:Shared):(Flow->Shared->Prop)->(Value->Shared->Prop)->Prop:=λQ O=>codeAny (model V.prog V.w) A c (mX Q) s
section
variable {prog:Program}{w:World}{A:Around}{s:Shared}
variable {Q:Flow->Shared->Prop}{body:List Stmt}{env:Env}
def QD{test:Expr}{orelse:List Stmt} 
  (turn:wpAny (model prog w) A (isTrue test env (eval test env)) (λb s₂=>
    if b then wpAny (model prog w) A (execs body env) (sN (λs₃=>codeAny (model prog w) A (.whileLoop test body orelse env) (mX Q) s₃) Q) no s₂
    else wpAny (model prog w) A (execs orelse env) Q no s₂) no s):codeAny (model prog w) A (.whileLoop test body orelse env) (mX Q) s:=by
 refine uq ?_;show wpAny _ A ((whileTurn test body orelse env).onRaise (λx=>do noteFrame x env;theTreesLotGoes x)) _ _ s;refine wpAny_noted ?_;unfold whileTurn;refine ah (cz turn (λb s₂ h₂=>?_) λO O h'=>h'.elim);cases b with
 |true=>
  refine ah (cz h₂ (λf s₃ h₃=>?_) λO O h'=>h'.elim);cases f with
  |next=>exact aH ⟨rfl,h₃⟩
  |cont=>exact aH ⟨rfl,h₃⟩
  |brk=>exact aH h₃
  |ret v=>exact aH h₃
 |false=>exact ah (cz h₂ (λf s₃ h₃=>aH h₃) λO O h'=>h'.elim)
noncomputable def ZM(prog:Program)(w:World)(A:Around)(target:Expr)(it:Value)(body:List Stmt)(env:Env)(Q:Flow->Shared->Prop)(v:Value)(s:Shared):Prop:=wpAny (model prog w) A (assign target env v) (λO s₂=>wpAny (model prog w) A (execs body env) (sN (λs₃=>codeAny (model prog w) A (.forLoop target it body [] env) (mX Q) s₃) Q) no s₂) no s
variable {it:Value}
def ZL{target:Expr} 
  (turn:wpAny (model prog w) A (pyNext it) (λr s₁=>match r with
   |none=>Q .next s₁
   |some v=>wpAny (model prog w) A (letOwnedTupleGo target it v) (λO wR=>ZM prog w A target it body env Q v wR) no s₁) no s):
  codeAny (model prog w) A (.forLoop target it body [] env) (mX Q) s:=by
 refine uq ?_;show wpAny _ A ((forTurn target it body [] env).onRaise (λx=>do noteFrame x env;theTreesLotGoes x)) _ _ s;refine wpAny_noted ?_;unfold forTurn;refine ah (fz (ah (wpAny_onRaise (cz turn (λr s₁ h₁=>?_) λO O h'=>h'.elim))));cases r with
 |none=>exact aH ⟨rfl,codeAny_block (wpAny_execs_nil h₁)⟩
 |some v=>
  refine ah (cz h₁ (λO wR D0=>?_) λO O h'=>h'.elim);refine ah (cz D0 (λO s₂ h₂=>ah (cz h₂ (λf s₃ h₃=>?_) λO O h'=>h'.elim)) λO O h'=>h'.elim);cases f with
  |next=>exact aH ⟨rfl,h₃⟩
  |cont=>exact aH ⟨rfl,h₃⟩
  |brk=>exact aH h₃
  |ret v=>exact aH h₃
noncomputable def wO(ifs:List Expr)(env:Env)(b:Bool):Sem Bool:=forIn ifs b λc r=>if r=true then do let ok <- isTrue c env (eval c env);pure (ForInStep.yield ok) else pure (ForInStep.yield r)
structure CT where
 elt:Expr
 tg:Expr
 iter:Expr
 ifs:List Expr
 pre:List Comprehension
 post:List Comprehension
 sc:Scope
 pos:Pos
noncomputable def CT.e(c:CT):Expr:=.ListComp c.elt (c.pre++⟨c.tg,c.iter,c.ifs,0⟩::c.post) c.sc c.pos
noncomputable def CT.code(c:CT)(it acc:Value)(env:Env):Code:=.compLoop c.e c.pre.length it acc env
def CT.at_(c:CT):(c.pre++⟨c.tg,c.iter,c.ifs,0⟩::c.post)[c.pre.length]?=some ⟨c.tg,c.iter,c.ifs,0⟩:=by rw[pG (bf _),Nat.sub_self];rfl
def CT.at1(c:CT):(c.pre++⟨c.tg,c.iter,c.ifs,0⟩::c.post)[c.pre.length+1]?=c.post[0]?:=by rw[pG (i3 _),Nat.succ_sub (bf _),Nat.sub_self];rfl
def Bq(prog:Program)(w:World)(A:Around)(c:CT)(acc:Value)(env:Env)(K:Shared->Prop)(Ex:Value->Shared->Prop)(s:Shared):Prop:=match c.post with
 |[]=>wpAny (model prog w) A (eval c.elt env) (λx s₄=>wpAny (model prog w) A (call (.builtin "list.append") [acc,x]) (λO s₅=>K s₅) Ex s₄) Ex s
 |g::_=>g.is_async=0/\s9 g.iter=true/\wpAny (model prog w) A (eval g.iter env) (λx s₄=>wpAny (model prog w) A (pyIter x) (λit' s₅=>codeAny (model prog w) A (.compStart c.e (c.pre.length+1) it' acc env) (mX λO s₆=>K s₆) s₅) Ex s₄) Ex s
def abq(prog:Program)(w:World)(A:Around)(c:CT)(it acc:Value)(env:Env)(Q:Flow->Shared->Prop)(v:Value)(s:Shared):Prop:=
 wpAny (model prog w) A (assign c.tg env v) (λO s₂=>wpAny (model prog w) A (wO c.ifs env true) (λb s₃=>if b then
   Bq prog w A c acc env (λs₅=>codeAny (model prog w) A (c.code it acc env) (mX Q) s₅) no s₃
  else codeAny (model prog w) A (c.code it acc env) (mX Q) s₃) no s₂) no s
def Rj(c:CT)(it acc:Value)(env:Env):compTurn c.e c.pre.length it acc env=(do
   standAt c.iter.pos
   match <- pyNext it with
   |none=>pure (.done .next)
   |some v=>
    letOwnedTupleGo c.tg it v
    assign c.tg env v
    let mut ok:=true
    for x in c.ifs do
     if ok then ok <- isTrue x env (eval x env)
    if ok then
     match c.post[0]? with
     |some g'=>
      let x <- eval g'.iter env
      standAt g'.iter.pos
      let x <- if g'.is_async != 0 then foldedIterable g'.iter x else foldedSetIterable g'.iter env x
      let _ <- runOwn (.compStart c.e (c.pre.length+1) (<- holding [x] (if g'.is_async != 0 then asyncIter x else pyIter x)) acc env) env
     |none=>(do let _ <- call (.builtin "list.append") [acc,<- eval c.elt env])
    again (.compLoop c.e c.pre.length it acc env)):=by
 rw[<- c.at1];unfold compTurn CT.e;dsimp only;rw[c.at_]
 rfl
def Ar{it':Expr}(h:s9 it'=true)(x:Value):foldedSetIterable it' env x=pure x:=by cases it'<;>first|rfl|exact cR h
def abp{c:CT}{acc:Value} 
  (turn:wpAny (model prog w) A (pyNext it) (λr s₁=>match r with
   |none=>Q .next s₁
   |some v=>wpAny (model prog w) A (letOwnedTupleGo c.tg it v) (λO wR=>abq prog w A c it acc env Q v wR) no s₁) no s):
  codeAny (model prog w) A (c.code it acc env) (mX Q) s:=by
 refine uq ?_;show wpAny _ A ((compTurn c.e c.pre.length it acc env).onRaise (λx=>do noteFrame x env;theTreesLotGoes x)) _ _ s;refine wpAny_noted ?_;rw[Rj];refine ah (fz (ah (cz turn (λr s₁ h₁=>?_) λO O h'=>h'.elim)));cases r with
 |none=>exact aH h₁
 |some v=>
  refine ah (cz h₁ (λO wR D0=>?_) λO O h'=>h'.elim);refine ah (cz D0 (λO s₂ h₂=>?_) λO O h'=>h'.elim);refine ah (cz h₂ (λb s₃ h₃=>?_) λO O h'=>h'.elim);cases b with
  |true=>
   unfold Bq at h₃;cases hp:c.post with
   |nil=>rw[hp] at h₃;refine ah (ah (cz h₃ (λx s₄ h₄=>ah (cz h₄ (λO s₅ h₅=>?_) λO O h'=>h'.elim)) λO O h'=>h'.elim));exact aH (aH ⟨rfl,h₅⟩)
   |cons g r=>
    rw[hp] at h₃;obtain⟨e0,e1,h₃⟩:=h₃;have z:(g.is_async != 0)=false:=by rw[e0];rfl
    refine ah (cz h₃ (λx s₄ h₄=>?_) λO O h'=>h'.elim);rw[z];refine ah (fz (ah (ib (Ar e1 x) (ah (c8 ?_)))));refine cz h₄ (λit' s₅ h₅=>ah (wpAny_runOwn (qI h₅ λr s₆ h₆=>?_))) λO O h'=>h'.elim;cases r with
    |ok f=>exact aH ⟨rfl,h₆⟩
    |error=>exact h₆.elim
  |false=>exact aH ⟨rfl,h₃⟩
def R9{R:Result->Shared->Prop}{c:CT}{acc:Value}(h0:codeAny (model prog w) A (c.code it acc env) R s)
  (h:wpAny (model prog w) A (pyIter it) (λit' s'=>codeAny (model prog w) A (c.code it' acc env) R s') (notedBy (model prog w) A env λx s'=>R (.error x) s') s):
  codeAny (model prog w) A (.compStart c.e c.pre.length it acc env) R s:=by
 refine uq ?_;show wpAny _ _ ((compStart c.e c.pre.length it acc env).onRaise (λx=>do noteFrame x env;standAt theWindowsPlace)) _ _ s;refine wpAny_notedAt ?_;unfold compStart;rw[show(clausesOf c.e)[c.pre.length]?=some ⟨c.tg,c.iter,c.ifs,0⟩ from c.at_];show wpAny _ _ (ask>>=_) _ _ s;refine ah (wpAny_askSetting (wpAny_ite ?_));split
 ·first
   |exact ah (aH (aH (And.intro rfl h0)))
   |exact aH (And.intro rfl h0)
 ·first
   |exact ah (wpAny_rule (ah (fz (ah (cz h (λit' s' h'=>aH (And.intro rfl h')) λO O x=>x)))))
   |(refine ah (wpAny_rule ?_);show wpAny _ _ (standAt c.iter.pos>>=_) _ _ s;exact ah (fz (ah (cz h (λit' s' h'=>aH (And.intro rfl h')) λO O x=>x))))
def Ru{M:Model}{Q:Bool->Shared->Prop}{E:Value->Shared->Prop}(env:Env)(h:Q false s):∀l:List Expr,wpAny M A (wO l env false) Q E s:=by
 intro cs
 induction cs with
 |nil=>exact aH h
 |cons c cs ih=>show wpAny M A (forIn (c::cs) false _) Q E s;rw[wq];exact ah (aH (ih))
end
variable {V:Cf}{G:Fm}{φ₀ J:Ph}{s₀ s:Shared}{U:aC}{H:Hp}{d:Nat}{q:Bool}{E:Ev}
variable {β:Type}
def aac{a:β}{ρ':aC}{H':Hp}:l6 V G J s (.ok a ρ' H':dG β)=no:=by
 funext v s'
 exact propext ⟨λh=>h.not nofun,False.elim⟩
variable {α:Type}
def TT.yL{W:(α->Shared->Prop)->(Value->Shared->Prop)->Prop}{m:M β}{R:Ph->Heap->α->β->Prop}(x:TT V G J s W (m U H) R)(hs:M.calm m U H≠.stuck):W (kH V G J s (M.calm m U H) R) no:=by
 unfold M.calm at hs⊢;cases e:m U H with
 |ok a ρ' H'=>rw[e] at x;have:=x nofun;rwa[aac] at this
 |exc=>rw[e] at hs;exact absurd rfl hs
 |stuck=>rw[e] at hs;exact absurd rfl hs
structure yT(V:Cf)(E:Ev):Prop extends v3 V E where
 w:∀{d q G J U H s t b e},ao V d q G J U H s->wf V t G.K=true->eZ V b G.K=true->eZ V e G.K=true ->
  TT V G J s (jn V G.A (.whileLoop (au t) (c9 b) (c9 e) G.env) s) (E.w d q t b e U H) (d7 V)
 f:∀{d G φ₀ J U H s₀ s src b tg I},Nx G.X φ₀ J s₀ s->qw s₀ G I->ao V d true G J U H s->cH V J s.heap I src->mJ G.K tg=true->eZ V b G.K=true ->
  TT V G φ₀ s₀ (jn V G.A (.forLoop (au tg) (.ref I) (c9 b) [] G.env) s) (E.f d true tg src b U H) (d7 V)
def GD{W:(Flow->Shared->Prop)->Shared->Prop}{again:M Fl}{f:Flow}{g:Fl}(m:Nx G.X φ₀ J s₀ s)(p:ao V d q G J U H s)(r:d7 V J s.heap f g)(go:TT V G φ₀ s₀ (λQ O=>W Q s) (again U H) (d7 V)):
  TT V G φ₀ s₀ (λQ O=>sN (W Q) Q f s) (wL again g U H) (d7 V):=by
 cases g with
 |next=>subst r;exact go
 |cont=>subst r;exact go
 |brk=>subst r;exact TT.now m p rfl
 |ret v=>obtain⟨w,rfl,r⟩:=r;exact TT.now m p ⟨w,rfl,r⟩
variable {b:S}
def QI(Sd:yT V E)(pre:ao V d q G J U H s){t:C}{e:S}(h1:wf V t G.K=true)(h2:eZ V b G.K=true)(h3:eZ V e G.K=true):
  TT V G J s (jn V G.A (.whileLoop (au t) (c9 b) (c9 e) G.env) s) (GX E d q t b e U H) (d7 V):=λhs=>QD (TT.yL (W:=λQ Ex=>wpAny (model V.prog V.w) G.A (isTrue (au t) G.env (eval (au t) G.env)) (λc s₂=>
   if c then wpAny (model V.prog V.w) G.A (execs (c9 b) G.env) (sN (λs₃=>jn V G.A (.whileLoop (au t) (c9 b) (c9 e) G.env) s₃ Q no) Q) Ex s₂
   else wpAny (model V.prog V.w) G.A (execs (c9 e) G.env) Q Ex s₂) Ex s)
  (TT.seq (Nx.refl ..) pre (Sd.t pre h1) λc c' ρ1 H1 φ1 s1 n1 m1 p1 r1=>by
   subst r1;cases c with
   |false=>exact TT.last m1 (qm Sd.tov3 p1 h3)
   |true=>
    refine TT.seq (W:=λf s₃ Q O=>sN (λs₃=>jn V G.A (.whileLoop (au t) (c9 b) (c9 e) G.env) s₃ Q no) Q f s₃) m1 p1 (qm Sd.tov3 p1 h2) λf g ρ2 H2 φ2 s2 n2 m2 p2 r2=>?_;exact GD (W:=λQ s₃=>jn V G.A (.whileLoop (au t) (c9 b) (c9 e) G.env) s₃ Q no) m2 p2 r2 λhs=>qI (Sd.w p2 h1 h2 h3 hs) λr s' h=>by
     cases r with
     |ok f=>exact kH.up m2 h
     |error=>exact h) hs)
variable {I:Addr}{src:bJ}{tg:C}
def Z1(ok:eg V)(Sd:yT V E)(n0:Nx G.X φ₀ J s₀ s)(hI:qw s₀ G I)(pre:ao V d true G J U H s)(it:cH V J s.heap I src)(h1:mJ G.K tg=true)(h2:eZ V b G.K=true):
  TT V G φ₀ s₀ (jn V G.A (.forLoop (au tg) (.ref I) (c9 b) [] G.env) s) (pL E d true tg src b U H) (d7 V):=by
 intro hs;refine ZL ?_;unfold pL at hs⊢;cases e:src.next H with
 |none=>rw[e] at hs;exact absurd rfl hs
 |some r=>
  rw[e] at hs;refine GF n0 pre it hI e (λho s1 p1 n1=>?_) λp ho xv s1 p1 m1 rv iP=>?_
  ·subst ho;exact⟨.next,U,H,J,rfl,p1.rV n1,rfl⟩
  ·subst ho;refine TT.yL (W:=λQ Ex=>wpAny (model V.prog V.w) G.A (assign (au tg) G.env xv) (λO s₂=>wpAny (model V.prog V.w) G.A (execs (c9 b) G.env) (sN (λs₃=>jn V G.A (.forLoop (au tg) (.ref I) (c9 b) [] G.env) s₃ Q no) Q) Ex s₂) Ex s1) ?_ hs;refine TT.seq m1 p1 (Fg ok (p1.hd rfl) p1 h1 rv) λO O ρ2 H2 φ2 s2 n2 m2 p2 r2=>?_;refine TT.seq (W:=λf s₃ Q O=>sN (λs₃=>jn V G.A (.forLoop (au tg) (.ref I) (c9 b) [] G.env) s₃ Q no) Q f s₃) m2 p2 (qm Sd.tov3 p2 h2) λf g ρ3 H3 φ3 s3 n3 m3 p3 r3=>?_;exact GD (W:=λQ s₃=>jn V G.A (.forLoop (au tg) (.ref I) (c9 b) [] G.env) s₃ Q no) m3 p3 r3 λhs=>Sd.f m3 hI p3 ((iP.mono n2.ext p1.er.fH n2.gr hI.2).mono n3.ext p2.er.fH n3.gr hI.2) h1 h2 hs
def Mj{c:Code}{m:M Fl}{Ex:Value->Shared->Prop}(x:TT V G φ₀ s₀ (jn V G.A c s) (m U H) (d7 V))(hs:M.calm m U H≠.stuck):
  codeAny (model V.prog V.w) G.A c (λr s'=>match r with|.ok f=>kH V G φ₀ s₀ (M.calm m U H) (d7 V) f s'|.error e=>Ex e s') s:=
 qI (TT.yL x hs) λr s' h=>by
  cases r with
  |ok f=>exact h
  |error=>exact h.elim
variable {pos:Pos}
def Th(Sd:yT V E)(pre:ao V d q G J U H s){t:C}{e:S}(h1:wf V t G.K=true)(h2:eZ V b G.K=true)(h3:eZ V e G.K=true):
  ag V G J s (exec (.While (au t) (c9 b) (c9 e) pos) G.env) (M.calm (E.w d q t b e) U H) (d7 V):=λhs=>wpAny_While (Mj (Sd.w pre h1 h2 h3) hs)
def Tq(ok:eg V)(Sd:yT V E)(pre:ao V d true G J U H s){it:C}(h1:mJ G.K tg=true)(h2:wf V it G.K=true)(h3:s9 (au it)=true)(h4:eZ V b G.K=true):
  ag V G J s (exec (.For (au tg) (au it) (c9 b) [] pos) G.env) (Ju E d true tg it b U H) (d7 V):=by
 refine TT.imp (λQ Ex h=>wpAny_For h (Ar h3)) (TT.seq (Nx.refl ..) pre (Sd.e pre h2) λv x ρ1 H1 φ1 s1 n1 m1 p1 r1=>?_);intro hs;unfold AH at hs⊢;cases lU:eS x H1 with
 |none=>rw[lU] at hs;exact absurd rfl hs
 |some src=>rw[lU] at hs;refine DN ok p1 r1 lU λI s2 g nj hI=>?_;exact Mj (Sd.f (m1.trans (g.nx G.X φ1)) (JP m1.live hI) (p1.grow g) nj h1 h4) hs
def Rt(Sd:d5 V E):∀(l:List C) {J:Ph} {U:aC} {H:Hp} {s:Shared},ao V d q G J U H s->(∀c∈l,jt V G.K c) ->
  ag V G J s (wO (l.map au) G.env true) (uG (E.t d q) true l U H) (λO O a b=>a=b):=by
 intro l
 induction l with
 |nil=>intro _ _ _ _ pre _;exact TT.imp (λO O h=>aH h) (TT.now (Nx.refl ..) pre rfl)
 |cons c l ih=>
  intro J U H s pre h;unfold wO;rw[bE,wq];refine TT.imp (λO O h=>ah (ah h)) (TT.seq (Nx.refl ..) pre (Sd.t pre (h c bA).wf) λb c' ρ1 H1 φ1 s1 n1 m1 p1 r1=>?_);subst r1;cases b with
  |true=>exact TT.imp (λO O h=>aH h) (TT.last m1 (ih p1 λc hc=>h c (bS _ hc)))
  |false=>exact TT.imp (λO O h=>aH (Ru G.env h _)) (TT.now m1 p1 rfl)
variable {k:Nat}{D:Addr}
def ad8(ok:eg V)(pre:ao V d q G J U H s){v:Value}{x:AV}(hk:J[k]?=some (D,D))(hv:VR V J s.heap v x):
  ag V G J s (call (.builtin "list.append") [.ref D,v]) (gp (tX k x) U H) (λO O O O=>True):=ag.wJ λH' e=>by
 refine ub e λl h1 e=>?_;have key:ve 0 k l [x] H=some (.none,H'):=by show aI _ (some _)=_;refine ur e λh2 e=>?_;obtain rfl:=sj e;rw[h2];rfl
 have:=Jc pre hk h1 (aQ.cons hv .nil) key;intro _;refine cz (this nofun) (λa s' bU=>i7 bU λb ρ' H'' φ' e f O=>?_) λO O h=>h.not nofun;cases e;exact⟨(),_,_,φ',rfl,f,trivial⟩
structure v9(V:Cf)(E:Ev):Prop extends yT V E where
 cp:∀{d G φ₀ J U H s₀ s src ifs elt k tg I D it' pr sc pos},Nx G.X φ₀ J s₀ s->qw s₀ G I->ao V d true G J U H s->cH V J s.heap I src->J[k]?=some (D,D) ->
  mJ G.K tg=true->jU V ifs G.K=true->wf V elt G.K=true ->
  TT V G φ₀ s₀ (jn V G.A (CT.code ⟨au elt,au tg,it',bN ifs,pr,iT (bN elt),sc,pos⟩ (.ref I) (.ref D) G.env) s) (E.cp d tg src ifs elt k U H) (λO O f O=>f=.next)
abbrev Bz(elt tg ifs:C)(it':Expr)(pr:List Comprehension)(sc:Scope)(pos:Pos):CT:=⟨au elt,au tg,it',bN ifs,pr,iT (bN elt),sc,pos⟩
variable {f:Hp->Option α}
def Ui{v:α}(e:f H=some v):cu f U H=.ok v U H:=by unfold cu;rw[e]
def Uh(e:f H=none):cu f U H=.stuck:=by unfold cu;rw[e]
def Fh{γ:Type}(m:M α)(f:α->M β)(g:β->M γ):M.bind (M.bind m f) g=M.bind m λx=>M.bind (f x) g:=by
 funext U H
 unfold M.bind;cases m U H<;>rfl
def Hw{A:Around}(x:Fv V J s.heap I src){Q:Value->Shared->Prop}{E:Value->Shared->Prop}(h:Q (.ref I) s):wpAny (model V.prog V.w) A (pyIter (.ref I)) Q E s:=by
 cases src with
 |fix l=>
  cases x with
  |lst a items n i x=>exact wpAny_pyIter_listiter x.it h
  |tup a items n i x=>exact wpAny_pyIter_tupleiter x.it h
  |dF z c n x _=>exact wpAny_pyIter_rangeiter x h
  |cE b t i m x=>exact KBw.pyIter_self x.it h
  |str y t i m x=>exact wpAny_pyIter_striter_ascii x.it h
 |lst n i=>refine aq x λa O h1=>?_;clear x;exact wpAny_pyIter_listiter h1 h
 |dct n i sz ep=>refine aq x λa O h1=>?_;clear x;exact wpAny_pyIter_keyiter h1 h
 |vals n i sz ep=>refine aq x λa O h1=>?_;clear x;exact wpAny_pyIter_valiter h1 h
def Lf{K:Cx}{c:C}(h:As c=true)(hw:wf V c K=true):iT (bN c)=[]:=by cases c<;>first|rfl|exact cR h|exact cR hw
def aaz{c:C}(h:As c=true):vO E d c k=M.bind (E.e d true c) λx=>gp (tX k x):=by cases c<;>first|rfl|exact cR h
def Zu(c:C):As c=true\/∃tg it e,c=.gen tg it e:=by cases c<;>first|exact .inl rfl|exact .inr ⟨_,_,_,rfl⟩
variable {it':Expr}{pr:List Comprehension}{sc:Scope}
def abj{wN nj e:C}{ifs:List Expr}{el:Expr}(e1:iT (bN e)=[]):
  CT.e ⟨el,au tg,it',ifs,pr,iT (bN (.gen wN nj e)),sc,pos⟩=CT.e ⟨el,au wN,au nj,bN .nil,pr++[⟨au tg,it',ifs,0⟩],iT (bN e),sc,pos⟩:=by
 unfold CT.e;dsimp only;rw[e1,eX];rfl
def aax(ok:eg V)(Sd:v9 V E){ifs elt:C}{again:M Unit}{W:Shared->(Flow->Shared->Prop)->Prop}
  (n:Nx G.X φ₀ J s₀ s) (pre:ao V d true G J U H s) (hD:J[k]?=some (D,D)) (h3:wf V elt G.K=true)
  (go:∀ρ' H' φ' s',Nx G.X J φ' s s'->ao V d true G φ' ρ' H' s'->TT V G φ₀ s₀ (λQ O=>W s' Q) (again ρ' H') (λO O f O=>f=.next)):
  TT V G φ₀ s₀ (λQ Ex=>Bq V.prog V.w G.A ⟨au elt,au tg,it',bN ifs,pr,iT (bN elt),sc,pos⟩ (.ref D) G.env (λs'=>W s' Q) Ex s) (M.bind (vO E d elt k) (λO=>again) U H) (λO O f O=>f=.next):=by
 rcases Zu elt with hg|hg
 ·rw[Lf hg h3,aaz hg,Fh];refine TT.seq n pre (Sd.e pre h3) λx y ρ4 H4 φ4 s4 n4 m4 p4 r4=>?_;exact TT.seq m4 p4 (ad8 ok p4 (n4.gr.get hD) r4) λO O ρ5 H5 φ5 s5 n5 m5 p5 r5=>go _ _ _ _ (n4.trans n5) p5
 ·refine iJ hg λwN nj e r_=>?_;subst r_;refine zo h3 λZh Zg Zf K5 Ze h36=>?_;have e1:iT (bN e)=[]:=Lf Ze K5;show TT V G φ₀ s₀ _ (M.bind (M.bind (E.e d true nj) _) _ U H) _;rw[Fh];refine TT.imp (λO O h=>⟨rfl,Zf,h⟩) ?_;refine TT.seq (W:=λx s₄ Q Ex=>wpAny (model V.prog V.w) G.A (pyIter x) (λXQ s₅=>codeAny (model V.prog V.w) G.A (.compStart (CT.e ⟨au e,au tg,it',bN ifs,pr,iT (bN (.gen wN nj e)),sc,pos⟩) (pr.length+1) XQ (.ref D) G.env) (mX λO s₆=>W s₆ Q) s₅) Ex s₄) n pre (Sd.e pre Zg) λv x ρ1 H1 φ1 s1 n1 m1 p1 r1=>?_;intro hs;rw[Fh] at hs⊢;cases lU:eS x H1 with
  |none=>exact absurd (vX (Uh (f:=λH=>eS x H) lU)) hs
  |some src=>
   have e2:Hb x ρ1 H1=.ok src ρ1 H1:=Ui (f:=λH=>eS x H) lU;rw[tS e2] at hs⊢;refine DN ok p1 r1 lU λI s2 g JU hI=>?_;have el:pr.length+1=(pr++[(⟨au tg,it',bN ifs,0⟩:Comprehension)]).length:=by rw[bF];rfl
   rw[abj e1,el];have fin:=qI ((Sd.cp (it':=au nj) (ifs:=.nil) (elt:=e) (pr:=pr++[⟨au tg,it',bN ifs,0⟩]) (sc:=sc) (pos:=pos) (n1.trans (g.nx G.X φ1)) (JP n1.live hI) (p1.grow g) JU (n1.gr.get hD) Zh rfl K5) λz=>hs (vX z)) (R':=mX λO s₆=>W s₆ (kH V G φ₀ s₀ (M.bind (E.cp d wN src .nil e k) (λO=>again) ρ1 H1) λO O f O=>f=.next)) λr s' h=>by
    cases r with
    |ok f=>refine i7 h λb ρ' H' φ' e1 f1 O=>?_;rw[tS e1] at hs;show W s' _;rw[tS e1];exact go _ _ _ _ f1.nx (f1.pre pre) hs
    |error=>exact h.elim
   exact R9 fin (Hw JU.st fin)
def ab3(ok:eg V)(Sd:v9 V E){ifs elt:C}(n0:Nx G.X φ₀ J s₀ s)(hI:qw s₀ G I)
  (pre:ao V d true G J U H s) (it:cH V J s.heap I src) (hD:J[k]?=some (D,D)) (h1:mJ G.K tg=true) (h2:jU V ifs G.K=true) (h3:wf V elt G.K=true):
  TT V G φ₀ s₀ (jn V G.A (CT.code ⟨au elt,au tg,it',bN ifs,pr,iT (bN elt),sc,pos⟩ (.ref I) (.ref D) G.env) s) (sS E d tg src ifs elt k U H) (λO O f O=>f=.next):=by
 intro hs;refine abp ?_;unfold sS at hs⊢;cases e:src.next H with
 |none=>rw[e] at hs;exact absurd rfl hs
 |some r=>
  rw[e] at hs;refine GF n0 pre it hI e (λho s1 p1 n1=>?_) λp ho xv s1 p1 m1 rv iP=>?_
  ·subst ho;exact⟨(),U,H,J,rfl,p1.rV n1,rfl⟩
  ·subst ho;refine ua (uC h2) λe2 vF=>?_;refine TT.yL (W:=λQ Ex=>wpAny (model V.prog V.w) G.A (assign (au tg) G.env xv) (λO s₂=>wpAny (model V.prog V.w) G.A (wO (bN ifs) G.env true) (λb s₃=>if b then
     Bq V.prog V.w G.A (Bz elt tg ifs it' pr sc pos) (.ref D) G.env (λs₅=>jn V G.A ((Bz elt tg ifs it' pr sc pos).code (.ref I) (.ref D) G.env) s₅ Q no) Ex s₃
     else jn V G.A ((Bz elt tg ifs it' pr sc pos).code (.ref I) (.ref D) G.env) s₃ Q no) Ex s₂) Ex s1) ?_ hs
   refine TT.seq m1 p1 (Fg ok (p1.hd rfl) p1 h1 rv) λO O ρ2 H2 φ2 s2 n2 m2 p2 r2=>?_;refine TT.seq m2 p2 (by rw[e2];exact Rt Sd.tod5 (cs ifs) p2 vF) λb c' ρ3 H3 φ3 s3 n3 m3 p3 r3=>?_;subst r3;have JT:=(iP.mono n2.ext p1.er.fH n2.gr hI.2).mono n3.ext p2.er.fH n3.gr hI.2;have Ew:=n3.gr.get (n2.gr.get hD);cases b with
   |false=>exact λhs=>Sd.cp m3 hI p3 JT Ew h1 h2 h3 hs
   |true=>exact aax (W:=λs₅ Q=>jn V G.A (CT.code ⟨au elt,au tg,it',bN ifs,pr,iT (bN elt),sc,pos⟩ (.ref I) (.ref D) G.env) s₅ Q no) ok Sd m3 p3 Ew h3 λρ4 H4 φ4 s4 n4 p4=>Sd.cp (m3.trans n4) hI p4 (JT.mono n4.ext p3.er.fH n4.gr hI.2) (n4.gr.get Ew) h1 h2 h3
end
section
variable {V:Cf}{G:Fm}{φ₀ J:Ph}{s₀ s:Shared}{U:aC}{H:Hp}{d:Nat}{q:Bool}{E:Ev}
noncomputable def g9(cells:List (Str×Addr)):List (Str×NameKind)->List (Str×Addr)->List (Str×Addr)
 |[],acc=>acc
 |(x,k)::r,acc=>g9 cells r (if k=.free then(x,(cells.lookup x).getD 0)::acc else acc)
def BB(cells:List (Str×Addr))(x:Str)(k:NameKind)(r:List (Str×NameKind))(acc:List (Str×Addr)):g9 cells ((x,k)::r) acc=g9 cells r (if k=.free then(x,(cells.lookup x).getD 0)::acc else acc):=rfl
variable {names:List (Str×NameKind)}
def abz{env:Env}(h:∀p∈names,p.2=.free->∃c,env.cells.lookup p.1=some c):∀acc:List (Str×Addr),
  (forIn names acc λp cs=>if p.2==.free then(do let c <- cellOf env p.1;pure (ForInStep.yield ((p.1,c)::cs))) else pure (ForInStep.yield cs):Sem (List (Str×Addr)))=pure (g9 env.cells names acc):=by
 induction names with
 |nil=>intro acc;rfl
 |cons p r ih=>
  intro acc;obtain⟨x,k⟩:=p;have ih:=ih (λp hp=>h p (bS _ hp));rw[wq];by_cases hk:k=.free
  ·subst hk;refine ue (h (x,.free) bA rfl) λc hc=>?_;have e1:cellOf env x=pure c:=by unfold cellOf;rw[hc]
   simp only[beq_self_eq_true,if_true,e1,pure_bind];rw[ih];rw[BB,if_pos rfl,hc];rfl
  ·have:(k==NameKind.free)=false:=by simpa using hk
   simp only[this,Bool.false_eq_true,if_false,pure_bind];rw[ih];rw[BB,if_neg hk]
variable {sc:Scope}
def aby{env:Env}(h:∀p∈sc.names,p.2=.free->∃c,env.cells.lookup p.1=some c):closureFor sc env=pure (g9 env.cells sc.names []):=by
 have:=abz h [];unfold closureFor
 first
  |exact this
  |(show(forIn sc.names [] _>>=λcs=>pure cs)=_;rw[bind_pure];exact this)
theorem abC(cells:List (Str×Addr)):∀(names:List (Str×NameKind)) (acc:List (Str×Addr)) (x:Str) (c:Addr),(g9 cells names acc).lookup x=some c ->
  acc.lookup x=some c\/((x,NameKind.free)∈names/\(cells.lookup x).getD 0=c):=by
 intro names
 induction names with
 |nil=>intro acc x c h;exact .inl h
 |cons p_ r ih=>
  obtain⟨y,k⟩:=p_;intro acc x c h;rw[BB] at h;rcases ih _ x c h with h|⟨h1,h2⟩
  ·by_cases hk:k=.free
   ·rw[if_pos hk,iI] at h;cases hx:x==y with
    |true=>
     rw[hx] at h;have:x=y:=by simpa using hx
     subst this;obtain rfl:=sj h;exact .inr ⟨hk▸bA,rfl⟩
    |false=>rw[hx] at h;exact .inl h
   ·rw[if_neg hk] at h;exact .inl h
  ·exact .inr ⟨bS _ h1,h2⟩
theorem abB(cells:List (Str×Addr)):∀(names:List (Str×NameKind)) (acc:List (Str×Addr)) (x:Str),((x,NameKind.free)∈names\/(acc.lookup x).isSome=true)->∃c,(g9 cells names acc).lookup x=some c:=by
 intro names
 induction names with
 |nil=>
  intro acc x h;rcases h with h|h
  ·cases h
  ·exact sy.mp h
 |cons p_ r ih=>
  obtain⟨y,k⟩:=p_;intro acc x h;rw[BB];refine ih _ x ?_;by_cases hk:k=.free
  ·rw[if_pos hk,iI];cases hx:x==y with
   |true=>exact .inr rfl
   |false=>
    rcases h with h|h
    ·rcases bQ.mp h with h|h
     ·cases h;simp at hx
     ·exact .inl h
    ·exact .inr h
  ·rw[if_neg hk];rcases h with h|h
   ·rcases bQ.mp h with h|h
    ·cases h;exact absurd rfl hk
    ·exact .inl h
   ·exact .inr h
noncomputable def xl(env:Env)(x:Str)(k:NameKind):NameKind:=if(k==NameKind.free&&env.scope.kind==.function&&env.kindOf x==some .cell) then .cell else k
theorem T9(env:Env):∀(names:List (Str×NameKind)) (x:Str),
  (names.map λ(n,k)=>if(k==NameKind.free&&env.scope.kind==.function&&env.kindOf n==some .cell) then(n,NameKind.cell) else(n,k)).lookup x=(names.lookup x).map (xl env x):=by
 intro names
 induction names with
 |nil=>intro x;exact rfl
 |cons p_ r ih=>
  obtain⟨y,k⟩:=p_;intro x;have hd:(match(y,k) with|(n,k)=>if(k==NameKind.free&&env.scope.kind==.function&&env.kindOf n==some .cell) then(n,NameKind.cell) else(n,k))=(y,xl env y k):=by unfold xl;dsimp only;cases (k==NameKind.free&&env.scope.kind==.function&&env.kindOf y==some .cell)<;>rfl
  rw[bE];rw[hd,iI,iI];cases hx:x==y with
  |true=>
   have:x=y:=by simpa using hx
   subst this
   rfl
  |false=>exact(ih x)
noncomputable def Tg(K:Cx)(ts:List (Str×Nat))(p:Str×NameKind):Option (Str×Nat):=if p.2=.local\/p.2=.cell then(ts.lookup p.1).map (p.1,·) else if p.2=.free then(K.sc.lookup p.1).map (p.1,·) else none
inductive aeH(K:Cx)(ts:List (Str×Nat))(names:List (Str×NameKind))(x:Str)(k:Nat):Prop where
 |own (kd:NameKind) (m:(x,kd)∈names) (h:kd=.local\/kd=.cell) (e:ts.lookup x=some k)
 |free (m:(x,NameKind.free)∈names) (e:K.sc.lookup x=some k)
def ZT{f:Str×NameKind->Option (Str×Nat)}{p:Str×NameKind}{r:List (Str×NameKind)}{x:Str}{k:Nat}(h:((p::r).filterMap f).lookup x=some k):(r.filterMap f).lookup x=some k\/f p=some (x,k):=by
 cases e:f p with
 |none=>rw[List.filterMap_cons_none e] at h;exact .inl h
 |some b=>
  rw[List.filterMap_cons_some e,iI] at h;cases hx:x==b.1 with
  |false=>rw[hx] at h;exact .inl h
  |true=>
   rw[hx] at h;have:x=b.1:=by simpa using hx
   subst this;obtain rfl:=sj h;exact .inr rfl
theorem CC(K:Cx)(ts:List (Str×Nat)):∀(names:List (Str×NameKind)) (x:Str) (k:Nat),(names.filterMap (Tg K ts)).lookup x=some k->aeH K ts names x k:=by
 intro names
 induction names with
 |nil=>intro x k h;exact aR h
 |cons p_ r ih=>
  obtain⟨y,kd⟩:=p_;intro x k h;rcases ZT h with h|h
  ·cases ih x k h with
   |own kd m h e=>exact .own kd (bS _ m) h e
   |free m e=>exact .free (bS _ m) e
  ·by_cases h1:kd=.local\/kd=.cell
   ·refine um ((if_pos h1).symm.trans h) λj hj e=>?_;cases e;exact .own kd bA h1 hj
   ·by_cases h2:kd=.free
    ·refine aq (wj.mp (((if_neg h1).trans (if_pos h2)).symm.trans h)) λj hj e=>?_;cases e;exact .free (h2▸bA) hj
    ·cases ((if_neg h1).trans (if_neg h2)).symm.trans h
def WM{l:List (Str×Nat)}(h:(l.map (·.2)).Nodup){x y:Str}{k:Nat}:l.lookup x=some k->l.lookup y=some k->x=y:=by
 induction l with
 |nil=>intro h1;exact aR h1
 |cons p r ih=>
  intro h1 h2;rw[bE,ie] at h;rw[iI] at h1 h2;have mem:∀{z:Str},r.lookup z=some k->k∈r.map (·.2):=λhz=>pq (f:=(·.2)) (jw hz);cases hx:x==p.1<;>cases hy:y==p.1<;>rw[hx] at h1<;>rw[hy] at h2
  ·exact ih h.2 h1 h2
  ·obtain rfl:=sj h2;exact absurd (mem h1) h.1
  ·obtain rfl:=sj h1;exact absurd (mem h2) h.1
  ·have a:x=p.1:=by simpa using hx
   have b:y=p.1:=by simpa using hy
   rw[a,b]
def EY:∀(ts:List Nat) (U:aC) (k:Nat),(k∈ts->∀v,(jo ts U)[k]?≠some (some v))/\(k∉ts->(jo ts U)[k]?=U[k]?):=by
 intro ts
 induction ts with
 |nil=>intro U k;exact⟨λh=>(nomatch h),λO=>rfl⟩
 |cons t ts ih=>
  intro U k;show(_->∀v,(jo ts (ai U none t))[k]?≠_)/\(_->(jo ts (ai U none t))[k]?=_);rw[sL];refine ua (ih (U.set t none) k) λh1 h2=>?_;rw[bQ,not_or];refine⟨λhk v e=>?_,λbU=>ua bU λht hk=>(h2 hk).trans (pA (fi ht))⟩;by_cases hm:k∈ts
  ·exact h1 hm v e
  ·have:=hk.resolve_right hm;subst this;rw[h2 hm] at e;by_cases hl:k<U.length
   ·rw[uh hl] at e;cases e
   ·rw[ze (by simpa using hl)] at e;exact aR e
def iC(K:Cx)(sc:Scope)(nms:List (Str×Nat))(ts:List Nat):Prop:=(sc.kind=.function)/\(∀p∈sc.names,sc.names.lookup p.1=some p.2)/\(∀p∈sc.names,p.2=.free->∃k,K.sc.lookup p.1=some k/\k∉ts/\(K.kn.lookup p.1=some .cell\/K.kn.lookup p.1=some .free))/\(∀p∈nms,p.2∈ts)/\(((l7 K sc.names nms).sc.map (·.2)).Nodup)
section
variable {b1 b2 b3 b4}(x:iC b1 b2 b3 b4)
def iC.mk:=lI (iC b1 b2 b3 b4) rfl
def iC.kind:=x.1
def iC.look:=x.2.1
def iC.free:=x.2.2.1
def iC.GI:=x.2.2.2.1
def iC.nodup:=x.2.2.2.2
end
variable {nms:List (Str×Nat)}{ts:List Nat}
def Tf{K:Cx}(hc:Mu K sc nms ts=true):iC K sc nms ts:=by
 refine pH hc λYL ym Kk YH=>?_;rw[iH] at ym Kk;refine(iC.mk (of_decide_eq_true YL) (λp hp=>of_decide_eq_true (nF (ym p hp)).1) (λp hp hk=>?_) (λp hp=>by simpa using Kk p hp) (of_decide_eq_true YH))
 ·have:=(nF (ym p hp)).2;unfold Mv at this;rw[hk] at this;refine us this λa b=>?_;cases hl:K.sc.lookup p.1 with
  |none=>rw[hl] at a;cases a
  |some k=>rw[hl] at a;exact⟨k,rfl,by simpa using (a:(!ts.contains k)=true),(sx.mp b).imp (λh=>of_decide_eq_true h) λh=>of_decide_eq_true h⟩
def iC.cells{K:Cx}(w:iC G.K sc nms ts)(er:bX V G J U s.heap):∀p∈sc.names,p.2=.free->∃c,G.env.cells.lookup p.1=some c:=λp hp hk=>by refine gP (w.free p hp hk) λk a O b=>?_;refine ct (er.nE p.1 k a b) λc ov x=>?_;exact⟨c,x.look⟩
def abm{M:Model}{A:Around}{E:Value->Shared->Prop}{gl:Addr}{cl:List (Str×Addr)}{qual:Str}{outer:Env}{Q:Env->Shared->Prop}
  (hQ:Q {scope:=sc,locals:=s.heap.objs.size,globals:=gl,cells:=cellsFrom (s.heap.objs.size+1) sc.names cl,qual,func:=none,code:=outer.code,frame:=outer.frame,builtins:=outer.builtins} {s with heap:=pushCells (s.heap.push {cls:=.type "dict",data:=.dict #[]}) sc.names}):
  wpAny M A (newFunctionEnv sc gl cl [] qual none .none (some outer)) Q E s:=by
 simp only[newFunctionEnv,Option.isSome_some,if_true];refine ah (wpAny_alloc ?_);refine ah (wpAny_layCells _ (λname kind cells=>by cases YM:kind==NameKind.cell<;>simp[YM]) _ _ _ _ ?_);rw[show({s with heap:=s.heap.push {cls:=.type "dict",data:=.dict #[]}}:Shared).heap.objs.size=s.heap.objs.size+1 from pf ..];exact ah (aH (aH hQ))
inductive Np(names:List (Str×NameKind))(n:Nat)(acc:List (Str×Addr))(h:Heap)(x:Str)(c:Addr):Prop where
 |old (e:acc.lookup x=some c) (m:(x,NameKind.cell)∉names)
 |new (m:(x,NameKind.cell)∈names) (le:n<=c) (cell:h.IsCell c none)
theorem MF:∀(names:List (Str×NameKind)) (h:Heap) (acc:List (Str×Addr)) {x:Str} {c:Addr},(cellsFrom h.objs.size names acc).lookup x=some c->Np names h.objs.size acc (pushCells h names) x c:=by
 intro names
 induction names with
 |nil=>intro h acc x c e;exact .old e nofun
 |cons p_ r gH=>
  obtain⟨y,k⟩:=p_;intro h acc x c e;unfold cellsFrom at e;unfold pushCells;by_cases hk:(k==NameKind.cell)=true
  ·rw[if_pos hk] at e⊢;have oK:k=.cell:=by simpa using hk
   subst oK;have sz:(h.push {cls:=.type "cell",data:=.cell none}).objs.size=h.objs.size+1:=pf ..;have ih:=gH (h.push {cls:=.type "cell",data:=.cell none}) ((y,h.objs.size)::acc) (x:=x) (c:=c) (by rw[sz];exact e);cases ih with
   |new m le cell=>exact .new (bS _ m) (by rw[sz] at le;exact nR le) cell
   |old e2 m=>
    rw[iI] at e2;cases hx:x==y with
    |true=>
     rw[hx] at e2;have:x=y:=by simpa using hx
     subst this;obtain rfl:=sj e2;exact .new bA (bf _) ⟨_,pushCells_keeps r _ _ _ (cY _ rfl),rfl⟩
    |false=>
     rw[hx] at e2;refine .old e2 λhm=>?_;rcases bQ.mp hm with h1|h1
     ·cases h1;simp at hx
     ·exact m h1
  ·rw[if_neg hk] at e⊢;cases gH h acc e with
   |new m le cell=>exact .new (bS _ m) le cell
   |old e m=>
    refine .old e λhm=>?_;rcases bQ.mp hm with h1|h1
    ·cases h1;simp at hk
    ·exact m h1
theorem ME:∀(names:List (Str×NameKind)) (n:Nat) (acc:List (Str×Addr)) (x:Str),((x,NameKind.cell)∈names\/∃c,acc.lookup x=some c)->∃c,(cellsFrom n names acc).lookup x=some c:=by
 intro names
 induction names with
 |nil=>
  intro n acc x h;rcases h with h|h
  ·cases h
  ·exact h
 |cons p_ r ih=>
  obtain⟨y,k⟩:=p_;intro n acc x h;unfold cellsFrom;by_cases hk:(k==NameKind.cell)=true
  ·rw[if_pos hk];refine ih _ _ x ?_;rw[iI];cases hx:x==y with
   |true=>exact .inr ⟨_,rfl⟩
   |false=>
    rcases h with h|h
    ·rcases bQ.mp h with h|h
     ·cases h;simp at hx
     ·exact .inl h
    ·exact .inr h
  ·rw[if_neg hk];refine ih _ _ x ?_;rcases h with h|h
   ·rcases bQ.mp h with h|h
    ·cases h;simp at hk
    ·exact .inl h
   ·exact .inr h
def ab0(names:List (Str×NameKind))(h:Heap):(cellsFrom h.objs.size names []).Pairwise λx y=>x.2≠y.2:=(cellsFrom_ok names h 0 [] ⟨λO O hm=>(nomatch hm),List.Pairwise.nil⟩ (jP _)).apart
theorem abZ:∀(names:List (Str×NameKind)) (n:Nat) (acc:List (Str×Addr)),cellsFrom n names acc=cellsFrom n names []++acc:=by
 intro names
 induction names with
 |nil=>intro n acc;exact rfl
 |cons p_ r ih=>
  obtain⟨y,k⟩:=p_;intro n acc;unfold cellsFrom;cases k==NameKind.cell with
  |true=>show cellsFrom (n+1) r ((y,n)::acc)=cellsFrom (n+1) r [(y,n)]++acc;rw[ih _ ((y,n)::acc),ih _ [(y,n)],eX];rfl
  |false=>exact ih n acc
noncomputable def BE(names:List (Str×NameKind))(cells:List (Str×Addr)):List Addr:=names.filterMap λp=>if p.2=.cell then cells.lookup p.1 else none
def I8{cells:List (Str×Addr)}{a:Addr}(h:a∈BE names cells):∃x,(x,NameKind.cell)∈names/\cells.lookup x=some a:=by
 refine aq (qF.mp h) λp hp e=>?_;obtain⟨x,k⟩:=p
 set_option tactic.hygienic true in split at e
 ·rename_i hk;have hk:k=.cell:=hk;subst hk;exact⟨x,hp,e⟩
 ·exact aR e
def abo(R0:V.h₀.objs.size<=s.heap.objs.size)(er:bX V G J U s.heap)(hφ:∀b,s.heap.objs.size<=b->b∉J.map (·.2))(w:iC G.K sc nms ts){h:Heap}{cenv:Env}
  (eh:h=pushCells (s.heap.push {cls:=.type "dict",data:=.dict #[]}) sc.names)
  (e1:cenv.scope=relabel sc G.env) (e2:cenv.locals=s.heap.objs.size) (e3:cenv.globals=G.env.globals) (e4:cenv.builtins=G.env.builtins) (e5:cenv.cells=cellsFrom (s.heap.objs.size+1) sc.names (g9 G.env.cells sc.names [])):
  bX V ⟨l7 G.K sc.names nms,G.A,cenv,s.heap.objs.size::BE sc.names cenv.cells⟩ J (jo ts U) h:=by
 have ir:(s.heap.push {cls:=.type "dict",data:=.dict #[]}).objs.size=s.heap.objs.size+1:=pf ..;have DM:∀a o,s.heap.get? a=some o->(s.heap.push {cls:=.type "dict",data:=.dict #[]}).get? a=some o:=λa o e=>ij _ e;have keep:∀a o,s.heap.get? a=some o->h.get? a=some o:=λa o e=>by rw[eh];exact pushCells_keeps _ _ a o (DM a o e)
 have ns:h.Ns s.heap.objs.size λO=>none:=by rw[eh];exact(Heap.Ns.new s.heap (.type "dict")).keeps (pushCells_keeps _ _)
 have at_:∀{x c},cenv.cells.lookup x=some c->Np sc.names (s.heap.objs.size+1) (g9 G.env.cells sc.names []) h x c:=λ{x c} hl=>by rw[e5,<- ir] at hl;have:=MF _ _ _ hl;rw[ir,<- eh] at this;exact this
 have cells:=w.cells (K:=G.K) er;have kindOf:∀x,cenv.kindOf x=(sc.names.lookup x).map (xl G.env x):=by intro x;unfold Env.kindOf;rw[e1];exact T9 G.env sc.names x
 have DC:∀(x:Str) (k1:NameKind),(x,k1)∈sc.names->∀k2,sc.names.lookup x=some k2->k1=k2:=λx k1 hm k2 h2=>jR ((w.look _ hm).symm.trans h2);refine mR (id ns) λoC es ep eC dC rC=>?_;have clo:∀z c,(g9 G.env.cells sc.names []).lookup z=some c->(z,NameKind.free)∈sc.names/\G.env.cells.lookup z=some c:=λz c hz=>by
  rcases abC G.env.cells sc.names [] z c hz with u|⟨a1,a2⟩
  ·exact aR u
  ·refine ue (cells _ a1 rfl) λcx Ek=>?_;rw[Ek] at a2⊢;exact⟨a1,congrArg some a2⟩
 have own:∀a∈s.heap.objs.size::BE sc.names cenv.cells,s.heap.objs.size<=a/\∃o,h.get? a=some o/\oW o:=λa ha=>by
  rcases bQ.mp ha with rfl|ha
  ·exact⟨bf _,oC,eC,.inl ⟨es,ep,dC⟩⟩
  ·refine aq (I8 ha) λx hm hl=>?_;cases at_ hl with
   |old e m=>exact absurd hm m
   |new m le cell=>refine aq cell λo e hd=>?_;clear cell;exact⟨nR le,o,e,.inr (.inl ⟨_,hd⟩)⟩
 refine(bX.mk (by show cenv.scope.kind=_;rw[e1];exact w.kind) (e3.trans er.rM) (e4.trans er.rU) (λa ha=>(own a ha).2) (λa ha=>aM R0 (own a ha).1) (λa ha=>hφ a (own a ha).1) (by show cenv.locals∈_;rw[e2];exact bA) (λx hx=>?_) ⟨λO=>none,by show h.Ns cenv.locals _;rw[e2];exact ns,kg.mk (λx O hk=>?_) (λx k hx hk dd hd=>?_)⟩ (λx k hx hk=>?_) (λx y c hx hy=>?_) (λx y k hx hy=>WM w.nodup hx hy) (λx k hx=>?_))
 ·have hx:sc.names.lookup x=some .globalImplicit:=hx;show cenv.kindOf x=_;rw[kindOf,hx];rfl
 ·have hk:sc.names.lookup x=some .local:=hk;show cenv.kindOf x=_;rw[kindOf,hk];rfl
 ·have hk:sc.names.lookup x=some .local:=hk;cases CC G.K nms sc.names x k hx with
  |own kd a _ b=>exact absurd hd ((EY ts U k).1 (w.GI (x,k) (jw b)) dd)
  |free a b=>cases DC x _ a _ hk
 ·have hk:sc.names.lookup x=some .cell\/sc.names.lookup x=some .free:=hk;cases CC G.K nms sc.names x k hx with
  |own kd a Eb b=>
   have hc:sc.names.lookup x=some .cell:=by
    rcases hk with hk|hk
    ·exact hk
    ·have:=DC x _ a _ hk;subst this;rcases Eb with z|z<;>cases z
   have hm:=jw hc;refine ue (ME sc.names (s.heap.objs.size+1) (g9 G.env.cells sc.names []) x (.inl hm)) λc oL=>?_;rw[<- e5] at oL;cases at_ oL with
   |old e m=>exact absurd hm m
   |new m le cell=>
    have kd:cenv.kindOf x=some .cell:=by rw[kindOf,hc];rfl
    refine⟨c,none,gn.mk oL (.inl kd) cell ?_ (hφ c (nR le)) (aM R0 (nR le)) (λO=>⟨bS _ (qF.mpr ⟨(x,.cell),hm,?_⟩),kd⟩) (λdd hd=>absurd hd ((EY ts U k).1 (w.GI (x,k) (jw b)) dd))⟩
    ·show c≠cenv.locals;rw[e2];exact dM le
    ·exact(if_pos rfl).trans oL
  |free a b=>
   refine gP (w.free _ a rfl) λk' h1 h2 h3=>?_;rw[b] at h1;obtain rfl:=sj h1;have hl:sc.names.lookup x=some .free:=w.look _ a;refine ct (er.nE x k b h3) λc ov g=>?_;refine ue (abB G.env.cells sc.names [] x (.inl a)) λc0 YY=>?_;refine ue (ME sc.names (s.heap.objs.size+1) (g9 G.env.cells sc.names []) x (.inr ⟨c0,YY⟩)) λc' rI=>?_;rw[<- e5] at rI;have YX:c'=c:=by
    cases at_ rI with
    |new m _ _=>cases DC x _ m _ hl
    |old e m=>have:=(clo x c' e).2;rw[g.look] at this;exact(jR this).symm
   subst YX;refine aq (id g.cell) λoc ec dc=>?_;refine⟨c',ov,gn.mk rI ?_ ⟨oc,keep _ _ ec,dc⟩ ?_ g.out g.low (λz=>?_) (λdd hd=>?_)⟩
   ·show cenv.kindOf x=_\/cenv.kindOf x=_;rw[kindOf,hl];unfold xl;by_cases q:(NameKind.free==NameKind.free&&G.env.scope.kind==.function&&G.env.kindOf x==some .cell)=true
    ·exact .inl (congrArg some (if_pos q))
    ·exact .inr (congrArg some (if_neg q))
   ·show _≠cenv.locals;rw[e2];intro z;exact absurd (fy ec) (by rw[z];exact jQ _)
   ·have z:sc.names.lookup x=some .cell:=z;rw[hl] at z;cases z
   ·rw[(EY ts U k).2 h2] at hd;refine aq (g.val dd hd) λv e' r=>?_;exact⟨v,e',(λr=>r.mono (X:=[]) ⟨λa o e O O=>.inl (keep a o e)⟩ (d3.nil _) (Gr.refl ..):∀{v:Value} {d:AV},VR V J s.heap v d->VR V J h v d) r⟩
 ·have hx:cenv.cells.lookup x=some c:=hx;have hy:cenv.cells.lookup y=some c:=hy;have old:∀{z},(g9 G.env.cells sc.names []).lookup z=some c->cN s.heap c:=λ{z} hz=>by refine ua (clo z c hz) λa1 a2=>?_;refine gP (w.free _ a1 rfl) λk' h1 h2 h3=>?_;refine ct (er.nE z k' h1 h3) λc2 ov g=>?_;rw[g.look] at a2;obtain rfl:=sj a2;refine aq g.cell λoc ec O=>?_;exact⟨oc,ec⟩
  have fresh:∀{z},s.heap.objs.size+1<=c->(g9 G.env.cells sc.names []).lookup z=some c->False:=λle hz=>jH (nR le) (old hz);cases at_ hx with
  |old ex mx=>
   cases at_ hy with
   |old ey my=>exact er.apart x y c (clo x c ex).2 (clo y c ey).2
   |new my le _=>exact(fresh le ex).elim
  |new mx le _=>
   cases at_ hy with
   |old ey my=>exact(fresh le ey).elim
   |new my _ _=>
    rw[e5,abZ,<- ir] at hx hy;have inl:∀{z},(cellsFrom (s.heap.push {cls:=.type "dict",data:=.dict #[]}).objs.size sc.names []++g9 G.env.cells sc.names []).lookup z=some c->(z,c)∈cellsFrom (s.heap.push {cls:=.type "dict",data:=.dict #[]}).objs.size sc.names []:=λ{z} hz=>by
     rw[List.lookup_append] at hz;cases ha:(cellsFrom (s.heap.push {cls:=.type "dict",data:=.dict #[]}).objs.size sc.names []).lookup z with
     |some c'=>rw[ha] at hz;obtain rfl:=sj hz;exact jw ha
     |none=>rw[ha] at hz;exact(fresh le hz).elim
    exact name_of_addr (ab0 sc.names (s.heap.push {cls:=.type "dict",data:=.dict #[]})) (inl hx) (inl hy)
 ·cases CC G.K nms sc.names x k hx with
  |own kd a Eb b=>
   rcases Eb with rfl|rfl
   ·exact .inl (w.look _ a)
   ·exact .inr (.inl (w.look _ a))
  |free a b=>exact .inr (.inr (w.look _ a))
def ao.but{C:Addr}{s':Shared}(pre:ao V d q G J U H s)(k:ei C s s')(hI:∃m,s.heap.Ns C m)(hn:V.h₀.objs.size<=C)(hφ:C∉J.map (·.2))(hX:C∉G.X)(hF:BP G.A C):ao V d q G J U H s':=by refine i7 hI λm o es ep e hd O=>?_;clear hI;exact pre.MT k ⟨o,e,.inl ⟨es,ep,hd⟩,λv hv=>by rw[hd] at hv;cases hv⟩ (pre.fr.but k.keep hF) hn hφ hX
end
section
variable {V:Cf}{G:Fm}{φ₀ J:Ph}{s₀ s:Shared}{U:aC}{H:Hp}{d:Nat}{q:Bool}{E:Ev}
def kj(V:Cf)(d:Nat)(G:Fm)(J:Ph)(s:Shared)(U:aC)(H':Hp)(k:Nat)(D C:Addr)(s':Shared)(φ':Ph):Prop:=(Nx G.X J φ' s s')/\(ao V d true G φ' U H' s')/\(φ'[k]?=some (D,D))/\(∃m,s'.heap.Ns C m)/\(V.h₀.objs.size<=C)/\(C∉φ'.map (·.2))/\(C∉G.X)/\(¬ cN s.heap C)/\(BP G.A C)
section
variable {b1 b2 b3 b4 b5 b6 b7 b8 b9 kQ tV tU}(x:kj b1 b2 b3 b4 b5 b6 b7 b8 b9 kQ tV tU)
def kj.mk:=λm1 m2 m3 m4 m5 m6 m7 m8 m9=>(⟨m1,m2,m3,m4,m5,m6,m7,m8,m9⟩:kj b1 b2 b3 b4 b5 b6 b7 b8 b9 kQ tV tU)
def kj.nx:=x.1
def kj.pre:=x.2.1
def kj.val:=x.2.2.1
def kj.ns:=x.2.2.2.1
def kj.low:=x.2.2.2.2.1
def kj.out:=x.2.2.2.2.2.1
def kj.nX:=x.2.2.2.2.2.2.1
def kj.new:=x.2.2.2.2.2.2.2.1
def kj.IP:=x.2.2.2.2.2.2.2.2
end
def oU(V:Cf)(K:Cx)(elt tg ifs:C)(sc:Scope):Prop:=(iC K sc (mT tg elt) (slots tg elt))/\(mJ (l7 K sc.names (mT tg elt)) tg=true)/\(wf V elt (l7 K sc.names (mT tg elt))=true)/\(jU V ifs (l7 K sc.names (mT tg elt))=true)
section
variable {b1 b2 b3 b4 b5 b6}(x:oU b1 b2 b3 b4 b5 b6)
def oU.mk:=fq (oU b1 b2 b3 b4 b5 b6) rfl
def oU.sU:=x.1
def oU.Rq:=x.2.1
def oU.aay:=x.2.2.1
def oU.Yl:=x.2.2.2
end
def vW(G:Fm)(sc:Scope)(C:Addr):Env:={scope:=relabel sc G.env,locals:=C,globals:=G.env.globals,cells:=cellsFrom (C+1) sc.names (g9 G.env.cells sc.names []),qual:=G.env.qual,func:=none,code:=G.env.code,frame:=G.env.frame,builtins:=G.env.builtins}
def cX(G:Fm)(sc:Scope)(C:Addr):List Addr:=C::BE sc.names (vW G sc C).cells
variable {sc:Scope}
def ab4(h:Heap):∀a∈cX G sc h.objs.size,h.objs.size<=a:=λa ha=>by
 rcases bQ.mp ha with rfl|ha
 ·exact bf _
 ·refine aq (I8 ha) λx hm hl=>?_;have ir:(h.push {cls:=.type "dict",data:=.dict #[]}).objs.size=h.objs.size+1:=pf ..;have hl:(cellsFrom (h.objs.size+1) sc.names (g9 G.env.cells sc.names [])).lookup x=some a:=hl;rw[<- ir] at hl;cases MF _ _ _ hl with
  |old e m=>exact absurd hm m
  |new m le cell=>rw[ir] at le;exact nR le
variable {elt tg ifs:C}
def Mh(ok:eg V)(Sd:v9 V E)(pre:ao V d true G J U H s){v:Value}{x:AV}{src:bJ}{it':Expr}{pos:Pos}{H':Hp}{ρ':aC}
  (hv:VR V J s.heap v x) (lU:eS x H=some src) (w:oU V G.K elt tg ifs sc)
  (he:E.cp d tg src ifs elt H.length (jo (slots tg elt) U) (H++[.list []])=.ok () ρ' H') {RR:Value->Addr->Result->Shared->Prop} {Ex:Value->Shared->Prop}
  (h:∀D C s' φ',kj V d G J s U H' H.length D C s' φ'->RR (.ref D) C (.ok .next) s'):
  wpAny (model V.prog V.w) G.A (pyIter v) (λit s₂=>wpAny (model V.prog V.w) G.A (newList []) (λacc s₃=>wpAny (model V.prog V.w) G.A (newFunctionEnv sc G.env.globals (g9 G.env.cells sc.names []) [] G.env.qual none .none (some G.env)) (λcenv s₄=>codeAny (model V.prog V.w) G.A (.compStart (.ListComp (au elt) (⟨au tg,it',bN ifs,0⟩::iT (bN elt)) sc pos) 0 it acc {cenv with scope:=relabel sc G.env}) (RR acc cenv.locals) s₄) Ex s₃) Ex s₂) Ex s:=by
 refine DN ok pre hv lU λI s1 g1 iP hI=>?_;have p1:=pre.grow g1;refine wpAny_newList ?_ (by simp);generalize Ed:({s1 with heap:=s1.heap.push {cls:=.type "list",data:=.seq ([]:List Value).toArray}}:Shared)=s2;have g2:ax s1 s2:=by rw[<- Ed];exact ax.push s1 _ s1.toks
 have Eu:¬ cN s1.heap s1.heap.objs.size:=jH (bf _);have eD:IsL s2.heap s1.heap.objs.size ([]:List Value).toArray 0:=by rw[<- Ed];exact IsL.new ..
 have Zw:s2.heap.objs.size=s1.heap.objs.size+1:=by rw[<- Ed];simp
 generalize K3:s1.heap.objs.size=D at *;have qf:Gr J (J++[(D,D)]) s1.heap:=Gr.push J (D,D) Eu;have zY:aZ V (J++[(D,D)]) (H++[.list []]) s2.heap:=p1.rel.push g2.keep (aW K3) ⟨_,eD⟩ (g2.at p1.rel) ⟨[],0,mn.mk rfl eD .nil (jP _)⟩;refine abm ?_;generalize Kn:({s2 with heap:=pushCells (s2.heap.push {cls:=.type "dict",data:=.dict #[]}) sc.names}:Shared)=s4;have e4:s4.heap=pushCells (s2.heap.push {cls:=.type "dict",data:=.dict #[]}) sc.names:=by rw[<- Kn]
 have JK:∀a o,s2.heap.get? a=some o->s4.heap.get? a=some o:=λa o e=>by rw[e4];exact pushCells_keeps _ _ a o (ij _ e)
 have g4:ax s2 s4:=by rw[<- Kn] at JK⊢;exact(ax.mk JK rfl rfl)
 have Za:=ab4 (G:=G) (sc:=sc) s2.heap;have Ey:s1.heap.objs.size<=s2.heap.objs.size:=by rw[Zw,K3];exact i3 _
 have K4:¬ cN s.heap s2.heap.objs.size:=λho=>jH Ey (g1.live _ ho);have hCφ:=zY.fresh (bf s2.heap.objs.size);have EO:=abo (s:=s2) (cenv:=vW G sc s2.heap.objs.size) zY.base (p1.er.mono (g2.ext [] J) qf) (λb hb=>zY.fresh hb) w.sU e4 rfl rfl rfl rfl rfl;have hk:(J++[(D,D)])[H.length]?=some (D,D):=by rw[<- pre.rel.len,pG (bf _)];simp
 have KW:∀a∈cX G sc s2.heap.objs.size,s1.heap.objs.size<=a:=λa ha=>aM Ey (Za a ha);have EO:bX V ⟨l7 G.K sc.names (mT tg elt),G.A,vW G sc s2.heap.objs.size,cX G sc s2.heap.objs.size⟩ (J++[(D,D)]) (jo (slots tg elt) U) s4.heap:=EO;generalize hCC:s2.heap.objs.size=C at *;have pC:ao V d true ⟨l7 G.K sc.names (mT tg elt),G.A,vW G sc C,cX G sc C⟩ (J++[(D,D)]) (jo (slots tg elt) U) (H++[.list []]) s4:=(ao.mk (zY.grow g4) EO pre.room pre.hd ⟨((p1.fr.mono (g2.ext [] J) qf (λO ha=>nomatch ha)).grow g4).fr⟩)
 have eU:cH V (J++[(D,D)]) s4.heap I src:=iP.mono ((g2.trans g4).ext G.X J) p1.er.fH qf hI.2;have Zc:qw s ⟨l7 G.K sc.names (mT tg elt),G.A,vW G sc C,cX G sc C⟩ I:=⟨hI.1,λhm=>aq (lQ iP.st) λo e O=>absurd (fy e) (hZ.mpr (KW I hm))⟩;have key:=Sd.cp (it':=it') (pr:=[]) (sc:=sc) (pos:=pos) (((g1.trans g2).trans g4).nx (cX G sc C) (J++[(D,D)])) Zc pC eU hk w.Rq w.Yl w.aay;rw[he] at key;have loop:codeAny (model V.prog V.w) G.A (CT.code (Bz elt tg ifs it' [] sc pos) (.ref I) (.ref D) (vW G sc C)) (RR (.ref D) C) s4:=by
  refine qI (key nofun) λr s' hr=>?_;cases r with
  |error=>exact hr.elim
  |ok f=>
   refine i7 hr λb ρ'' H'' φ' e f' aa=>?_;clear hr;subst aa;cases e;have n':=f'.nx;have ne:∀a o,s.heap.get? a=some o->a≠D/\a∉cX G sc C:=λa o e=>⟨λq=>Eu ⟨o,q▸g1.keep a o e⟩,λq=>absurd (fy (g1.keep a o e)) (hZ.mpr (KW a q))⟩;have ex:∀Y,dD Y J s.heap s'.heap:=λY=>⟨λa o e ha O=>n'.ext.keep a o e (by rw[eB,ko,not_or];exact⟨ha,by simpa using (ne a o e).1⟩) (ne a o e).2⟩
   have K9:Gr J φ' s.heap:=(Gr.push J (D,D) λho=>Eu (g1.live _ ho)).trans n'.gr λO h=>h;have mC:C∈cX G sc C:=bA;refine aq f'.er.ns λm hm O=>?_;exact h D _ s' φ' (kj.mk (Nx.mk (ex G.X) K9 n'.gens n'.os n'.live) (ao.mk f'.rel (pre.er.mono (ex []) K9) pre.room pre.hd ⟨f'.fr.fr⟩) (n'.gr.get hk) ⟨m,hm⟩ (f'.er.sF C mC) (f'.er.qN C mC) (Cc p1 Ey) K4 (pre.fr.VM K4))
 exact codeAny_compStart_list loop (Hw eU.st loop)
def HC{C:Addr}{h':Heap}(hs:Heap.SameBut C s.heap h'):ei C s {s with heap:=h'}:=(ei.mk (λb o hb e=>(hs.2 b hb).trans e) rfl rfl)
def Gf{it:C}{p:Pos}(h:wf V (.comp elt tg it ifs sc p) G.K=true):wf V it G.K=true/\s9 (au it)=true/\oU V G.K elt tg ifs sc:=by refine zo h λh1 h2 h3 h4 h5 h6=>?_;exact⟨h1,h2,oU.mk (Tf h3) h4 h5 h6⟩
variable {nms:List (Str×Nat)}
def iC.Mp{ts:List Nat}(w:iC G.K sc nms ts)(er:bX V G J U s.heap):closureFor sc G.env=pure (g9 G.env.cells sc.names []):=aby (w.cells (K:=G.K) er)
def iC.locs{K:Cx}{ts:List Nat}(w:iC K sc nms ts):∀x∈sc.names,x.2=.local->sc.names.lookup x.1=some .local:=λx hx hl=>hl▸w.look x hx
def Mi{x:AV}(hs:tP E d elt tg ifs x U H≠.stuck):∃src ρ' H',eS x H=some src/\E.cp d tg src ifs elt H.length (jo (slots tg elt) U) (H++[.list []])=.ok () ρ' H'/\tP E d elt tg ifs x U H=.ok (.ref H.length) U H':=by
 unfold tP at hs⊢;cases lU:eS x H with
 |none=>rw[lU] at hs;exact absurd rfl hs
 |some src=>
  rw[lU] at hs;dsimp only at hs⊢;cases he:E.cp d tg src ifs elt H.length (jo (slots tg elt) U) (H++[.list []]) with
  |exc=>rw[he] at hs;exact absurd rfl hs
  |stuck=>rw[he] at hs;exact absurd rfl hs
  |ok u ρ' H'=>exact⟨src,ρ',H',rfl,he,rfl⟩
def LZ(ok:eg V)(Sd:v9 V E)(pre:ao V d q G J U H s){it:C}{p:Pos}(hw:wf V (.comp elt tg it ifs sc p) G.K=true):
  ag V G J s (eval (.ListComp (au elt) (⟨au tg,au it,bN ifs,0⟩::iT (bN elt)) sc p) G.env) (vT E d q elt tg it ifs U H) (VR V):=by
 cases q with
 |false=>exact ag.stuck
 |true=>refine zt (Gf hw) λh1 h2 w=>?_;rw[eval_ListComp];refine TT.imp (λQ Ex h=>wpAny_comprehension_free (use:=none) rfl (Ar h2) (w.sU.Mp pre.er) w.sU.kind w.sU.locs h) (TT.seq (Nx.refl ..) pre (Sd.e pre h1) λv x ρ1 H1 φ1 s1 n1 m1 p1 r1=>?_);intro hs;refine mR (Mi hs) λsrc ρ' H' e1 e2 e3=>?_;rw[e3];refine Mh ok Sd p1 r1 e1 w e2 λD C s' φ' c=>?_;refine⟨_,c.ns.choose_spec,λh' gV=>?_⟩;have k:=HC gV;exact⟨_,_,_,φ',rfl,(c.pre.but k c.ns c.low c.out c.nX c.IP).rV (m1.trans (c.nx.but k c.new)),VR.ref c.val⟩
def Tv(ok:eg V)(jL:wg V)(Sd:v9 V E)(pre:ao V d true G J U H s){t it:C}{p zH:Pos}(ht:sG V G.K t=true)(hw:wf V (.comp elt tg it ifs sc p) G.K=true)
  (Yu:swapsWithSole [au t] (.ListComp (au elt) (⟨au tg,au it,bN ifs,0⟩::iT (bN elt)) sc p) zH.line G.env=pure true):
  ag V G J s (exec (.Assign [au t] (.ListComp (au elt) (⟨au tg,au it,bN ifs,0⟩::iT (bN elt)) sc p) zH) G.env) (M.bind (vT E d true elt tg it ifs) (λv=>M.bind (wX V.P (E.e d true) true v [t]) λO=>cj .next) U H) (d7 V):=by
 refine zt (Gf hw) λh1 h2 w=>?_;have assoc:∀{α β γ:Type} (m:M α) (f:α->M β) (g:β->M γ) (U:aC) (H:Hp),M.bind (M.bind m f) g U H=M.bind m (λx=>M.bind (f x) g) U H:=by intro α β γ m f g U H;unfold M.bind;cases m U H<;>rfl
 show ag V G J s _ (M.bind (M.bind (E.e d true it) (tP E d elt tg ifs)) _ U H) _;rw[assoc,arm_exec_Assign,Yu,arm_evalThenUse_ListComp];refine TT.imp (λQ Ex h=>ah (fz (ah (aH (ah (ah (wpAny_comprehension_free (use:=some λv=>assignAll v ((assignEach [au t] G.env).map (·.2))) rfl (Ar h2) (w.sU.Mp pre.er) w.sU.kind w.sU.locs h))))))) ?_;refine TT.seq (Nx.refl ..) pre (Sd.e pre h1) λv x ρ1 H1 φ1 s1 n1 m1 p1 r1=>?_;intro hs;refine mR (Mi λz=>hs (vX z)) λsrc ρ' H' e1 e2 e3=>?_;rw[tS e3] at hs⊢;refine Mh ok Sd p1 r1 e1 w e2 λD C s' φ' c=>?_;refine cz ((GH ok jL Sd.tod5 [t] c.pre (λt' h=>by rw[fW.mp h];exact ht) (VR.ref c.val)) λz=>hs (vX z)) (λO ja hr=>?_) λex ja hr=>?_
 ·refine i7 hr λb ρ2 H2 φ2 e f O=>?_;clear hr;rw[tS e];have n2:=f.nx;refine ue c.ns λm hm=>?_;have Kx:ja.heap.Ns C m:=jv.ns hm λo e=>n2.ext.keep C o e c.out c.nX;refine⟨m,Kx,λh' gV=>aH (aH ?_)⟩;have k:=HC gV;exact⟨.next,ρ2,H2,φ2,rfl,((f.pre c.pre).but k ⟨m,Kx⟩ c.low (n2.gr.not (cO hm λo O O e O=>⟨o,e⟩) c.out:C∉φ2.map (·.2)) c.nX c.IP).rV (m1.trans ((c.nx.trans n2).but k c.new)),rfl⟩
 ·refine i7 hr λk ρ2 H2 φ2 e f UT=>?_;clear hr;rw[MQ e];exact⟨k,ρ2,H2,φ2,rfl,f.up (m1.trans c.nx),UT.low (m1.trans c.nx).live⟩
end
section
variable {V:Cf}{G:Fm}{φ₀ J:Ph}{s₀ s:Shared}{U:aC}{H:Hp}{d:Nat}{q:Bool}{E:Ev}
variable {v:Value}
def abr(pre:ao V d q G J U H s){x:AV}{l:List AV}(hx:VR V J s.heap v x)(hl:qY H x=some l):
  ∀(Q:List Value->Shared->Prop) (E:Value->Shared->Prop),(∀xs s',ax s s'->aQ V J s'.heap xs l->Q xs s')->wpAny (model V.prog V.w) G.A (notIterableAtAll v) (λb s₁=>b=false/\wpAny (model V.prog V.w) G.A (collect v) Q E s₁) E s:=by
 intro Q E h;refine zr (QM pre.rel hx hl) λa items n T x=>?_;rw[x.eq];obtain⟨id,sl⟩:∃id,Slot T "__iter__" id:=by
  rcases x.ty with rfl|rfl
  ·exact⟨_,slot_list_iter⟩
  ·exact⟨_,F.slot_tuple_iter⟩
 unfold notIterableAtAll;refine ah (wpAny_specialOf ⟨_,x.at_,rfl⟩ sl.lookup (aH ⟨rfl,?_⟩));exact wpAny_collect_seq a x.ty x.at_ rfl rfl (λh' k=>h _ _ (ax.mk k rfl rfl) (x.all.mono (X:=[]) ⟨λa o e O O=>.inl (k a o e)⟩ (d3.nil _) (Gr.refl ..))) (by rw[dj,x.all.length];exact i8 x.len)
def G4(pre:ao V d q G J U H s)(n0:Nx G.X φ₀ J s₀ s){x:AV}{α:Type}{g:List Value->α}{R:Ph->Heap->α->List AV->Prop}(hx:VR V J s.heap v x)(hR:∀J h xs l,aQ V J h xs l->R J h (g xs) l):
  TT V G φ₀ s₀ (λQ E=>StarOf (model V.prog V.w) G.A E v (λvs s₂=>Q (g vs) s₂) s) (cu (λH=>qY H x) U H) R:=by
 intro hs;unfold cu at hs⊢;dsimp only at hs⊢;cases hl:qY H x with
 |none=>rw[hl] at hs;exact absurd rfl hs
 |some l=>exact abr pre hx hl _ _ λxs s' gr r=>⟨l,U,H,J,rfl,(pre.grow gr).rV (n0.trans (gr.nx G.X J)),hR _ _ _ _ r⟩
variable {pos:Pos}
def Sm(Sd:d5 V E):∀(m l:List C) {J:Ph} {U:aC} {H:Hp} {s:Shared},ao V d q G J U H s->kU V G.K l m ->
  ag V G J s (spliced (backTo pos (starEach (l.map au) G.env))) (gZ (E.e d q) l U H) (aQ V):=by
 intro m
 induction m with
 |nil=>
  intro l J U H s pre w;rcases w.is with rfl|⟨a,p,rfl,h⟩
  ·exact TT.imp (λO O h=>aH h) (TT.now (Nx.refl ..) pre .nil)
  ·show ag V G J s (spliced ((true,do let v <- eval (au a) G.env;standAt pos;pure v)::[])) (M.bind (E.e d q a) (λv=>cu λH=>qY H v) U H) _;refine TT.imp (λQ Ex h=>ks_spliced h) (TT.seq (Nx.refl ..) pre (Sd.e pre h) λv x ρ1 H1 φ1 s1 n1 m1 p1 r1=>?_);exact TT.imp (λQ Ex h=>cz h (λb s₂ hb=>⟨hb.1,cz hb.2 (λxs s₃ hx=>Calls.spliced_nil (by rw[eW];exact hx)) λO O e=>e⟩) λO O e=>e) (G4 (g:=id) p1 m1 r1 λO O O O h=>h)
 |cons c m ih=>
  intro l J U H s pre w;obtain⟨l',rfl,w'⟩:∃l',l=c::l'/\kU V G.K l' m:=by
   have all:∀x∈m,jt V G.K x/\x.kB=none:=λx hx=>w.all x (bS _ hx);rcases w.is with rfl|⟨a,p,rfl,h⟩
   ·exact⟨m,rfl,kU.mk all (.inl rfl)⟩
   ·exact⟨m++[.star a p],rfl,kU.mk all (.inr ⟨a,p,rfl,h⟩)⟩
  refine ua (w.all c bA) λhc hn=>?_;rw[bE,wZ hc.plain,LM _ _ hn];refine TT.imp (λO O h=>Calls.spliced_cons h) (TT.seq (Nx.refl ..) pre (Sd.e pre hc.wf) λv x ρ1 H1 φ1 s1 n1 m1 p1 r1=>?_);exact TT.seq m1 p1 (ih l' p1 w') λvs xs ρ2 H2 φ2 s2 n2 m2 p2 r2=>TT.now m2 p2 (.cons (n2.vr p1.er r1) r2)
def qz(V:Cf)(J:Ph)(h:Heap)(a:Args)(xs:List AV):Prop:=(a.kw=[])/\(aQ V J h a.pos xs)
section
variable {b1 b2 b3 b4 b5}(x:qz b1 b2 b3 b4 b5)
def qz.mk:=jI (qz b1 b2 b3 b4 b5) rfl
def qz.kw:=x.1
def qz.all:=x.2
end
variable {f:Value}
def yQ(Sd:d5 V E)(pre:ao V d q G J U H s){l:C}(h:nY V l G.K=true):
  ag V G J s (evalArgs f true (backTo pos (starEach (bN l) G.env)) []) (gZ (E.e d q) (cs l) U H) (qz V):=by
 refine il (Cg h) λe m w=>?_;rw[e];generalize cs l=l at w;cases m with
 |cons c m=>
  have key:=Sm Sd (pos:=pos) (c::m) l pre w;obtain⟨l',rfl⟩:∃l',l=c::l':=by
   rcases w.is with rfl|⟨a,p,rfl,h⟩
   ·exact⟨_,rfl⟩
   ·exact⟨_,rfl⟩
  refine ua (w.all c bA) λhc hn=>?_;rw[bE,wZ hc.plain] at key⊢;refine TT.imp (λQ Ex h=>Calls.evalArgs_plain h) (λhs=>cz (key hs) (λvs s' hr=>?_) λO O e=>e);refine i7 hr λb ρ' H' φ' e f' r4=>?_;clear hr;exact⟨b,ρ',H',φ',e,f',qz.mk rfl r4⟩
 |nil=>
  rcases w.is with rfl|⟨a,p,rfl,h⟩
  ·exact TT.imp (λO O h=>evalArgs_nil3 h) (TT.now (Nx.refl ..) pre (qz.mk rfl .nil))
  ·show ag V G J s (evalArgs f true [(true,do let v <- eval (au a) G.env;standAt pos;pure v)] []) (M.bind (E.e d q a) (λv=>cu λH=>qY H v) U H) _;refine TT.imp (λQ Ex h=>ks_lone h) (TT.seq (Nx.refl ..) pre (Sd.e pre h) λv x ρ1 H1 φ1 s1 n1 m1 p1 r1=>?_);exact G4 (g:=λvs=>(⟨vs,[]⟩:Args)) p1 m1 r1 λO O O O h=>(qz.mk rfl h)
def yM(Q:Value->Shared->Prop)(Ex:Value->Shared->Prop)(r:Result)(s:Shared):Prop:=match r with
 |.ok (.ret v)=>Q v s
 |.ok _=>False
 |.error e=>Ex e s
def uc(V:Cf)(G:Fm)(J:Ph)(s:Shared)(vf:Value)(vs:List Value)(r:dG AV):Prop:=TT V G J s (λQ Ex=>codeAny (model V.prog V.w) G.A (.call vf ⟨vs,[]⟩) (yM Q Ex) s) r (VR V)
variable {vs:List Value}{Q Ex:Value->Shared->Prop}
def BC{M:Model}{A:Around}(h:codeAny M A (.call f ⟨vs,[]⟩) (yM Q Ex) s):wpAny M A (call f vs) Q Ex s:=wpAny_call (qI h λr s' z=>by rcases r with e|(_|_|_|_)<;>first|exact z|exact z.elim)
def uc.tri{vf:Value}{r:dG AV}(x:uc V G J s vf vs r):ag V G J s (call vf vs) r (VR V):=λhs=>BC (x hs)
structure mj(V:Cf)(E:Ev):Prop extends v9 V E where
 yA:∀{d G J U H s vf k fd vs xs},ao V d true G J U H s->V.P.gt[k]?=some (.fn fd)->V.gv k=some vf->aQ V J s.heap vs xs->uc V G J s vf vs (E.call d (.glob k) xs U H)
 rho:∀{d k fd xs U H v ρ' H'},V.P.gt[k]?=some (.fn fd)->E.call d (.glob k) xs U H=.ok v ρ' H'->ρ'=U
 call:∀{d G J U H s vf fv vs xs},ao V d true G J U H s->VR V J s.heap vf fv->aQ V J s.heap vs xs->ag V G J s (call vf vs) (E.call d fv xs U H) (VR V)
variable {env:Env}
def ab2{f':Expr}{es:List Expr}(h:Dh f'=true):eval (.Call f' es [] pos) env=(do callWith pos (<- eval f' env) [] (backTo pos (starEach es env)) []):=by cases f'<;>first|rfl|exact cR h
def yv(ok:Ok V)(R:aZ V J H s.heap):V.fr.In s.heap:=ok.ZG.keeps R.keep
def Fq(k:Keeper):Prop:=k=Keeper.frame\/k=Keeper.machine\/k=Keeper.boundFrame
def JJ{M:Model}(ok:Ok V){k:Nat}(h:V.gv k=some v):∀hp:Heap,V.fr.In hp->∃kp,Fq kp/\Looks M hp (keeperOf v) kp:=by
 intro hp X;rcases ok.keeps k v h with⟨id,rfl⟩|⟨T,rfl⟩|hk
 ·exact⟨.machine,.inr (.inl rfl),.now⟩
 ·exact⟨.machine,.inr (.inl rfl),.now⟩
 ·exact keeps_K hk hp X
def Fc{M:Model}{A:Around}{P:Heap->Prop}{first:List Value}{args:List (Bool×Sem Value)} 
  (hk:∀h,P h->∃k,Fq k/\Looks M h (keeperOf f) k)
  (h:wpAny M A (evalArgs f true args []) (λa s₁=>P s₁.heap/\wpAny M A (call f (first++a.pos) a.kw) Q Ex s₁) Ex s):wpAny M A (callWith pos f first args []) Q Ex s:=by
 cases oG:args.any (·.1) with
 |true=>exact ks_call oG hk h
 |false=>exact callWith_of (by rw[oG];rfl) hk h
structure aeJ(V:Cf)(G:Fm)(J:Ph)(s:Shared)(vf:Value)(P:Heap->Prop):Prop where
 is:∀h,P h->∃k,Fq k/\Looks (model V.prog V.w) h (keeperOf vf) k
 on:∀{d q ρ2 H2 φ2 s2},Nx G.X J φ2 s s2->ao V d q G φ2 ρ2 H2 s2->P s2.heap
def Xy(ok:Ok V)(pre:ao V d q G J U H s){vf:Value}{fv:AV}(hx:VR V J s.heap vf fv)(hc:tR fv=true):∃P,aeJ V G J s vf P:=by
 cases fv with
 |glob k=>exact⟨λh=>V.fr.In h,JJ ok hx,λO p2=>yv ok p2.rel⟩
 |cP m=>refine mQ hx λb a dd o aa x=>?_;clear hx;subst aa;refine⟨λh=>h.get? b=some o,λh hb=>⟨.machine,.inr (.inl rfl),(Looks.ld (part:=none) hb).andThen ?_⟩,λn2 p2=>n2.ext.get pre.er.fH x.get x.out (.mk' x.cls (by decide) (by rw[x.data];simp) (by rw[x.data];simp))⟩;obtain⟨c,dct,dt,sl⟩:=o;have e3:=x.cls;have e4:=x.data;dsimp only at e3 e4;subst e3;subst e4;exact .now
 |_=>exact cR hc
def aaR(ok:Ok V)(Sd:mj V E)(pre:ao V d q G J U H s){f args:C}(hf:Dh (au f)=true)(h1:wf V f G.K=true)(h2:nY V args G.K=true):
  ag V G J s (eval (.Call (au f) (bN args) [] pos) G.env) (MH E d q f args U H) (VR V):=by
 rw[ab2 hf];refine ag.bind pre (Sd.e pre h1) λvf fv ρ1 H1 φ1 s1 n1 p1 r1=>?_;cases hc:tR fv with
 |false=>exact ag.stuck
 |true=>
  cases q with
  |false=>exact ag.stuck
  |true=>refine ue (Xy ok p1 r1 hc) λP kp=>?_;refine TT.imp (λQ Ex h=>Fc (first:=[]) kp.is h) (TT.seq (Nx.refl ..) p1 (yQ Sd.tod5 p1 h2) λa xs ρ2 H2 φ2 s2 n2 m2 p2 r2=>?_);intro hs;refine⟨kp.on n2 p2,?_⟩;rw[r2.kw];exact TT.last m2 (Sd.call p2 (n2.vr p1.er r1) r2.all) hs
def MU{o:Expr}{attr:Str}{whole:Sem Value}(h:Ag o=true):attributeBase o attr env whole=whole:=by
 cases o with
 |Call f as ks p=>cases f<;>first|rfl|(cases as<;>first|rfl|(cases ks<;>first|rfl|exact cR h))
 |_=>rfl
def V6{o':Expr}{name:Str}{apos:Pos}{es:List Expr}(h:Ag o'=true):eval (.Call (.Attribute o' name apos) es [] pos) env=(do
  let ov <- eval o' env
  standAt apos.atName
  methodCall o' name apos pos env ov es.length (backTo pos (starEach es env)) []):=by
 rw[arm_eval_Call,MU h];rfl
theorem C6{pos:Pos}{env:Env}:∀{m:List C},(∀c∈m,jt V G.K c)->(backTo pos (starEach (m.map au) env)).all (!·.1)=true/\(backTo pos (starEach (m.map au) env)).any (·.1)=false:=by
 intro m
 induction m with
 |nil=>intro _;exact⟨rfl,rfl⟩
 |cons c m ih=>intro h;rw[bE,wZ (h c bA).plain];refine ua (ih λc hc=>h c (bS _ hc)) λa b=>?_;exact⟨by simpa using a,by simpa using b⟩
theorem Sf{pos:Pos}{env:Env}{a:C}{p:Pos}:∀{m:List C},(∀c∈m,jt V G.K c)->(backTo pos (starEach ((m++[C.star a p]).map au) env)).all (!·.1)=false:=by
 intro m
 induction m with
 |nil=>intro _;exact rfl
 |cons c m ih=>
  intro h;rw[List.cons_append,bE,wZ (h c bA).plain];have:=ih λc hc=>h c (bS _ hc)
  simpa using this
def Y3{m:List C}{a:C}{p:Pos}:vD (m++[.star a p])=true:=by unfold vD;rw[List.any_append];exact sx.mpr (.inr rfl)
def oX(V:Cf)(H:Hp)(ov:AV)(m k nn c:Nat)(cd:CD)(fs:List (Option AV)):Prop:=(ov=.ref nn)/\(H[nn]?=some (.inst c fs))/\(V.P.gt[c]?=some (.cl cd))/\(cd.meths.lookup m=some k)
section
variable {b1 b2 b3 b4 b5 b6 b7 b8 b9}(x:oX b1 b2 b3 b4 b5 b6 b7 b8 b9)
def oX.mk:=fq (oX b1 b2 b3 b4 b5 b6 b7 b8 b9) rfl
def oX.ov:=x.1
def oX.at_:=x.2.1
def oX.cls:=x.2.2.1
def oX.Dq:=x.2.2.2
end
def nJ(s:Shared)(vo:Value)(mk:MK):Prop:=(s.TypeIs vo (Du mk))/\(∀a,vo=.ref a->∃o,s.heap.get? a=some o/\o.dict=none)
section
variable {b1 b2 b3}(x:nJ b1 b2 b3)
def nJ.mk:=jI (nJ b1 b2 b3) rfl
def nJ.ty:=x.1
def nJ.Di:=x.2
end
def EX{c:Nat}{cd:CD}{P:bP}(h:l8 P c=some cd):P.gt[c]?=some (.cl cd):=by
 refine ub h λg h1 h2=>?_;rw[cQ] at h1;cases g with
 |cl=>obtain rfl:=sj h2;exact h1
 |_=>exact aR h2
noncomputable def XS(m:MK):Bool:=match m with|.user _=>true|_=>false
def Aw{m:MK}(h:XS m=false)(k:Nat):m≠.user k:=λe=>by rw[e] at h;exact Bool.noConfusion h
def Xv(R:aZ V J H s.heap){vo:Value}{ov:AV}{m:Nat}{mk:MK}(hv:VR V J s.heap vo ov)(h:kK V.P ov m H=some mk):
  (∃k nn c cd fs,mk=.user k/\oX V H ov m k nn c cd fs)\/((∀k,mk≠.user k)/\nJ s vo mk):=by
 cases ov with
 |str l=>obtain rfl:=sj h;refine aq hv λt aa O=>?_;clear hv;subst aa;exact .inr ⟨Aw rfl,nJ.mk (typeIs_str _ _ _) nofun⟩
 |ref nn=>
  refine ub h λo h1 h2=>?_;rw[cQ] at h1;refine aq (ik hv rfl) λp aa hp=>?_;subst aa;have r:=R.at h1 hp;cases o with
  |inst c fs=>refine ub h2 λcd h3 h2=>?_;refine um h2 λk h4 aa=>?_;subst aa;exact .inl ⟨k,nn,c,cd,fs,rfl,oX.mk rfl h1 (EX h3) h4⟩
  |list l=>obtain rfl:=sj h2;refine ct r λitems n x=>?_;clear r;exact .inr ⟨Aw rfl,nJ.mk ⟨_,x.eq▸x.at_,rfl⟩ (λa e=>by cases e;exact⟨_,x.eq▸x.at_,rfl⟩)⟩
  |dict ep l=>obtain rfl:=sj h2;refine ue r λes x=>?_;clear r;exact .inr ⟨Aw rfl,nJ.mk ⟨_,x.eq▸x.at_,rfl⟩ (λa e=>by cases e;exact⟨_,x.eq▸x.at_,rfl⟩)⟩
  |set l=>obtain rfl:=sj h2;refine ua r λe x=>?_;clear r;exact .inr ⟨Aw rfl,nJ.mk (e▸x.set.typeIs) (e▸x.set.noDict)⟩
  |_=>exact aR h2
 |_=>exact aR h
def V8(ok:Ok V)(Sd:d5 V E)(pre:ao V d q G J U H s){vo:Value}{ov:AV}{m:Nat}{mk:MK}{args:C}{o':Expr}{name:Str}{apos:Pos}(hv:VR V J s.heap vo ov)(kb:nJ s vo mk)
  (hn:vd mk m=true->name=Ay m) (h2:nY V args G.K=true) (hl:(apos.endLine==pos.line)=true) (rL:(cs args).length<30):
  ag V G J s (methodCall o' name apos pos G.env vo (bN args).length (backTo pos (starEach (bN args) G.env)) []) (AA E d q mk ov m args U H) (VR V):=by
 unfold AA;cases hm:vd mk m with
 |false=>exact ag.stuck
 |true=>
  cases oG:vD (cs args) with
  |true=>exact ag.stuck
  |false=>
   have mf:=Wt hm;have hn:=hn hm;subst hn;refine il (Cg h2) λe mm w=>?_;have e':cs args=mm:=by
    rcases w.is with e|⟨a,p,e,_⟩
    ·exact e
    ·rw[e,Y3] at oG;cases oG
   have pl:=C6 (V:=V) (G:=G) (pos:=pos) (env:=G.env) (m:=mm) λc hc=>(w.all c hc).1;rw[<- e',<- e] at pl;have yj:methodCallForm (bN args).length (backTo pos (starEach (bN args) G.env)) []=true:=by unfold methodCallForm;rw[pl.1,e,aJ];simp;exact rL
   unfold methodCall;rw[yj];refine TT.imp (λQ Ex h=>ah (c8 (getMethod_builtin kb.ty mf.plain mf.slot mf.ty kb.Di (ah (ib (by unfold methodCallPos;simp[hl]:methodCallPos true o' G.env apos pos=pure pos) (Calls.callWith_builtin pl.2 h)))))) (TT.seq (Nx.refl ..) pre (yQ Sd pre h2) λa xs ρ1 H1 φ1 s1 n1 m1 q1 r1=>?_);rw[r1.kw];exact TT.last m1 (V7 q1 ok.toeg (n1.vr pre.er hv) r1.all)
end
theorem Qo(L:List (Str×Value)):∀(ns:List Str) (vs:List Value),ns.Nodup->ns.length<=vs.length->(∀n∈ns,L.lookup n=(ns.zip vs).lookup n)->ns.filterMap (λn=>(L.lookup n).map (n,·))=ns.zip vs:=by
 intro ns
 induction ns with
 |nil=>intro _ _ _ _;simp
 |cons n ns gH=>
  intro t_ hd h hL;cases t_ with
  |nil=>simp at h
  |cons v vs=>
   rw[ie] at hd;have ih:=gH vs hd.2 (by simpa using h) (λx hx=>by
    rw[hL x (bS _ hx),wB,iI];have d8:(x==n)=false:=by
     simp only[beq_eq_false_iff_ne]
     rintro rfl
     exact hd.1 hx
    rw[d8])
   have e1:L.lookup n=some v:=by rw[hL n bA];simp
   rw[wB,wC];rw[e1];show(n,v)::_=_;rw[ih]
def Qp(ns:List Str)(vs:List Value)(hd:ns.Nodup)(h:ns.length<=vs.length):ns.filterMap (λn=>((ns.zip vs).lookup n).map (n,·))=ns.zip vs:=Qo _ ns vs hd h λO O=>rfl
theorem Qn:∀(ns:List Str) (vs:List Value),ns.length<=vs.length->∀n∈ns,((ns.zip vs).lookup n).isNone=false:=by
 intro ns
 induction ns with
 |nil=>intro _ _ n h;cases h
 |cons m ns ih=>
  intro t_ h n hn;cases t_ with
  |nil=>simp at h
  |cons v vs=>
   rw[wB,iI];cases e:n==m with
   |true=>rfl
   |false=>
    rcases bQ.mp hn with rfl|hn
    ·simp at e
    ·exact ih vs (by simpa using h) n hn
variable {A:Around}{s:Shared}{E:Value->Shared->Prop}
def vp{α:Type}{M:Model}{Q:α->Shared->Prop}{c:Prop}[Decidable c]{t e:Sem α}(h:¬c)(x:wpAny M A e Q E s):wpAny M A (if c then t else e) Q E s:=by rw[if_neg h];exact x
def ZK{α β:Type}{M:Model}{Q:β->Shared->Prop}{L:List α}{b:β}{f:α->β->Sem (ForInStep β)}(h:L=[])(x:Q b s):wpAny M A (forIn L b f) Q E s:=by subst h;exact aH x
variable {Q:List (Str×Value)->Shared->Prop}{kd:List (Option Expr)}
def MP{M:Model}{fd:FuncData}{as:List Arg}{va:Option Arg}{df:List Expr}{vals:List Value}
  (hp:fd.params={posonlyargs:=[],args:=as,vararg:=va,kwonlyargs:=[],kw_defaults:=kd,kwarg:=none,defaults:=df}) (hd:fd.defaults=.none) (hn:(as.map (·.arg)).Nodup) (hl:as.length<=vals.length)
  (Yt:va=none->vals.length=as.length)
  (h:match va with
   |none=>Q ((as.map (·.arg)).zip vals) s
   |some a=>(vals.drop as.length).length<=sizeLine/\Q ((as.map (·.arg)).zip vals++[(a.arg,.ref s.heap.objs.size)]) {s with heap:=s.heap.push {cls:=.type "tuple",data:=.seq (vals.drop as.length).toArray}}):
  wpAny M A (bindArgs fd ⟨vals,[]⟩) Q E s:=by
 have A0:(as.map (·.arg)).length<=vals.length:=by rw[aJ];exact hl
 obtain⟨f1,f2,f3,f4,f5,f6,f7,f8,f9,Z6,Z5,yC,vJ,Z4,Z3⟩:=fd;dsimp only at hp hd;subst hp hd;have names:(as.map (·.arg)++([]:List Str)).filterMap (λn=>((((as.map (·.arg)).zip vals)).lookup n).map (n,·))=(as.map (·.arg)).zip vals:=by rw[eW];exact Qp _ _ hn A0
 unfold bindArgs;refine ah (aH ?_);refine ah (ib (a:=none) rfl ?_);refine vp (show ¬ (decide (vals.length>(as.map (·.arg)).length)&&va.isNone)=true from ?_) ?_
 ·cases va with
  |none=>rw[Yt rfl,aJ];simp
  |some=>simp
 refine vp (λrI=>?_) ?_
 ·have hc:∀k,(!(List.filter (λn=>(List.lookup n ((as.map (·.arg)).zip vals)).isNone) (List.take k (as.map (·.arg)))).isEmpty)=true->False:=λk hc=>by
   rw[show List.filter (λn=>(List.lookup n ((as.map (·.arg)).zip vals)).isNone) (List.take k (as.map (·.arg)))=[] from by rw[List.filter_eq_nil_iff];intro n dZ;rw[Qn _ vals A0 n (List.mem_of_mem_take dZ)];simp] at hc
   cases hc
  exact hc _ rI
 refine ah (ZK (show List.zip _ (List.drop _ [])=[] by rw[List.drop_nil,List.zip_nil_right]) ?_);refine ah (aH ?_);refine vp qE ?_;cases va with
 |none=>exact aH (show Q ((as.map (·.arg)++([]:List Str)).filterMap (λn=>((((as.map (·.arg)).zip vals)).lookup n).map (n,·))) s by rw[names];exact h)
 |some a=>
  refine ah (wx (aH ?_) ?_)
  ·show Q ((as.map (·.arg)++([]:List Str)).filterMap (λn=>((((as.map (·.arg)).zip vals)).lookup n).map (n,·))++[(a.arg,.ref s.heap.objs.size)]) {s with heap:=s.heap.push {cls:=.type "tuple",data:=.seq (vals.drop (as.map (·.arg)).length).toArray}};rw[names,aJ];exact h.2
  ·show(vals.drop (as.map (·.arg)).length).toArray.size<=sizeLine;rw[aJ,dj];exact h.1
def adl{M:Model}{fd:FuncData}{x y:Arg}{df:List Expr}{v dv:Value}{T:Addr}{o:Obj}{k:Nat}
  (hp:fd.params={posonlyargs:=[],args:=[x,y],vararg:=none,kwonlyargs:=[],kw_defaults:=kd,kwarg:=none,defaults:=df}) (hd:fd.defaults=.ref T) (ho:s.heap.get? T=some o) (hs:o.data=.seq #[dv] k) (hn:x.arg≠y.arg)
  (h:Q [(x.arg,v),(y.arg,dv)] s):wpAny M A (bindArgs fd ⟨[v],[]⟩) Q E s:=by
 have d8:(y.arg==x.arg)=false:=by simpa using fi hn
 have e2:(forIn [(y.arg,dv)] [(x.arg,v)] λ(x:Str×Value) (r:List (Str×Value))=>if(List.lookup x.fst r).isNone=true then pure (ForInStep.yield (r++[(x.fst,x.snd)])) else pure (ForInStep.yield r):Sem (List (Str×Value)))=pure [(x.arg,v),(y.arg,dv)]:=by
  rw[wq];have:(List.lookup y.arg [(x.arg,v)]).isNone=true:=by simp[iI,d8]
  simp only[this,if_true,pure_bind];rw[List.forIn_nil]
  rfl
 have e3:List.filterMap (λn=>Option.map (λx=>(n,x)) (List.lookup n [(x.arg,v),(y.arg,dv)])) [x.arg,y.arg]=[(x.arg,v),(y.arg,dv)]:=by simp[wC,iI,d8]
 obtain⟨f1,f2,f3,f4,f5,f6,f7,f8,f9,Z6,Z5,yC,vJ,Z4,Z3⟩:=fd;dsimp only at hp hd;subst hp hd;unfold bindArgs;refine ah (aH ?_);refine ah (wpAny_seqItems ho hs ?_);refine vp (λh=>qE h) ?_;refine vp (show ¬ (!(List.filter (λn=>(List.lookup n [(x.arg,v)]).isNone) [x.arg]).isEmpty)=true by simp[sk,iI]) ?_;refine ah (ib e2 ?_);refine ah (aH ?_);refine vp qE ?_;exact aH (show Q (List.filterMap (λn=>Option.map (λx=>(n,x)) (List.lookup n [(x.arg,v),(y.arg,dv)])) [x.arg,y.arg]) s by rw[e3];exact h)
noncomputable def s7:Nat->List Str->List (Str×Nat)
 |_,[]=>[]
 |k,x::r=>(x,k)::s7 (k+1) r
def rP(names:List (Str×NameKind))(ps:List Str):Cx where
 sc:=s7 0 (ps++(names.filterMap λp=>if(p.2=.local\/p.2=.cell)/\p.1∉ps then some p.1 else none))
 kn:=names
def An:∀(l:List Str) (k:Nat) {x:Str} {j:Nat},(s7 k l).lookup x=some j->k<=j/\l[j-k]?=some x:=by
 intro r
 induction r with
 |nil=>intro _ _ _ h;exact aR h
 |cons y r ih=>
  intro k x j h;rw[show s7 k (y::r)=(y,k)::s7 (k+1) r from rfl,iI] at h;cases e:x==y with
  |true=>
   rw[e] at h;obtain rfl:=sj h;have:x=y:=by simpa using e
   subst this;exact⟨bf _,by simp⟩
  |false=>
   rw[e] at h;refine ua (ih (k+1) h) λh1 h2=>?_;refine⟨by exact Nu ‹_›,?_⟩;have:j-k=(j-(k+1))+1:=RV h1;rw[this]
   simpa using h2
def VB{l:List Str}{k:Nat}{x y:Str}{j:Nat}(h1:(s7 k l).lookup x=some j)(h2:(s7 k l).lookup y=some j):x=y:=by have a:=(An l k h1).2;have b:=(An l k h2).2;rw[a] at b;exact jR b
def adm(kindOf:Str->Option NameKind):∀(ns:List Str) (vs:List Value) (m:Str->Option Value),ns.Nodup->∀(i:Nat) (x:Str) (v:Value),ns[i]?=some x->vs[i]?=some v->kindOf x=some .local->bindL kindOf (ns.zip vs) m x=some v:=by
 have keep:∀(l:List (Str×Value)) (m:Str->Option Value) (x:Str),x∉l.map (·.1)->bindL kindOf l m x=m x:=by
  intro l
  induction l with
  |nil=>intro m x _;rfl
  |cons p r ih=>
   intro m x hx;rw[bE,bQ,not_or] at hx;unfold bindL;rw[ih _ x hx.2];by_cases q:kindOf p.1=some .local
   ·rw[if_pos q];exact if_neg hx.1
   ·rw[if_neg q]
 intro ns
 induction ns with
 |nil=>intro vs m _ i x v h;simp at h
 |cons y r ih=>
  intro vs m hn i x v h1 h2 hk;cases vs with
  |nil=>simp at h2
  |cons w vs=>
   rw[ie] at hn;rw[wB];unfold bindL;cases i with
   |zero=>simp at h1 h2;subst h1;subst h2;rw[keep _ _ y (λhm=>by refine aq (bW.mp hm) λp hp e=>?_;exact hn.1 (e▸(List.of_mem_zip hp).1)),if_pos hk,if_pos rfl]
   |succ i=>simp at h1 h2;exact ih vs _ hn.2 i x v h1 h2 hk
def adn(kindOf:Str->Option NameKind):∀(ns:List Str) (vs:List Value) (m:Str->Option Value),ns.Nodup->∀(i:Nat) (x:Str) (v:Value),ns[i]?=some x->vs[i]?=some v->kindOf x≠some .local->bindC kindOf (ns.zip vs) m x=some v:=by
 have keep:∀(l:List (Str×Value)) (m:Str->Option Value) (x:Str),x∉l.map (·.1)->bindC kindOf l m x=m x:=by
  intro l
  induction l with
  |nil=>intro m x _;rfl
  |cons p r ih=>
   intro m x hx;rw[bE,bQ,not_or] at hx;unfold bindC;rw[ih _ x hx.2];by_cases q:kindOf p.1=some .local
   ·rw[if_pos q]
   ·rw[if_neg q];exact if_neg hx.1
 intro ns
 induction ns with
 |nil=>intro vs m _ i x v h;simp at h
 |cons y r ih=>
  intro vs m hn i x v h1 h2 hk;cases vs with
  |nil=>simp at h2
  |cons w vs=>
   rw[ie] at hn;rw[wB];unfold bindC;cases i with
   |zero=>simp at h1 h2;subst h1;subst h2;rw[keep _ _ y (λhm=>by refine aq (bW.mp hm) λp hp e=>?_;exact hn.1 (e▸(List.of_mem_zip hp).1)),if_neg hk,if_pos rfl]
   |succ i=>simp at h1 h2;exact ih vs _ hn.2 i x v h1 h2 hk
theorem Fb:∀(names:List (Str×NameKind)) (k:Nat) (acc:List (Str×Addr)) (x:Str),((x,NameKind.cell)∈names\/(acc.lookup x).isSome=true)->((cellsFrom k names acc).lookup x).isSome=true:=by
 intro names
 induction names with
 |nil=>
  intro _ acc x h;rcases h with h|h
  ·cases h
  ·exact h
 |cons p_ r ih=>
  obtain⟨y,kd⟩:=p_;intro k acc x h;unfold cellsFrom;by_cases hk:kd=.cell
  ·subst hk;rw[if_pos (by simp)];refine ih (k+1) _ x ?_;rw[iI];cases e:x==y with
   |true=>exact .inr rfl
   |false=>
    rcases h with h|h
    ·rcases bQ.mp h with h|h
     ·cases h;simp at e
     ·exact .inl h
    ·exact .inr h
  ·rw[if_neg (by simpa using hk)];refine ih k acc x ?_;rcases h with h|h
   ·rcases bQ.mp h with h|h
    ·cases h;exact absurd rfl hk
    ·exact .inl h
   ·exact .inr h
section
variable {V:Cf}{G:Fm}{φ₀ J:Ph}{s₀ s:Shared}{U:aC}{H:Hp}{d:Nat}{q:Bool}{E:Ev}
noncomputable def Lp(k:NameKind):Bool:=match k with
 |.local=>true
 |.cell=>true
 |.globalImplicit=>true
 |_=>false
def E7(sc:Scope)(ps:List Str):Bool:=
 decide (sc.kind=.function)&&decide ps.Nodup&&sc.names.all (λp=>decide (sc.names.lookup p.1=some p.2)&&Lp p.2) &&
 ps.all (λx=>decide (sc.names.lookup x=some .local)||decide (sc.names.lookup x=some .cell))&&!sc.isCoroutine&&!sc.isGenerator
def kZ(sc:Scope)(ps:List Str):Prop:=(sc.kind=.function)/\(ps.Nodup)/\(∀p∈sc.names,sc.names.lookup p.1=some p.2)/\(∀p∈sc.names,Lp p.2=true)/\(∀x∈ps,sc.names.lookup x=some .local\/sc.names.lookup x=some .cell)/\(sc.isCoroutine=false)/\(sc.isGenerator=false)
section
variable {b1 b2}(x:kZ b1 b2)
def kZ.mk:=Dt (kZ b1 b2) rfl
def kZ.kind:=x.1
def kZ.nodup:=x.2.1
def kZ.names:=x.2.2.1
def kZ.kinds:=x.2.2.2.1
def kZ.ps:=x.2.2.2.2.1
def kZ.co:=x.2.2.2.2.2.1
def kZ.gen:=x.2.2.2.2.2.2
end
def Lo{sc:Scope}{ps:List Str}(h:E7 sc ps=true):kZ sc ps:=by refine zo h λh1 h2 h3 h4 h5 h6=>?_;rw[iH] at h3 h4;exact(kZ.mk (of_decide_eq_true h1) (of_decide_eq_true h2) (λp hp=>of_decide_eq_true (nF (h3 p hp)).1) (λp hp=>(nF (h3 p hp)).2) (λx hx=>(sx.mp (h4 x hx)).imp (λh=>of_decide_eq_true h) λh=>of_decide_eq_true h) (jf h5) (jf h6))
noncomputable def yy(sc:Scope)(env:Env)(K:Cx)(A:Around):Fm:=⟨K,A,env,env.locals::sc.names.filterMap λp=>env.cells.lookup p.1⟩
variable {A:Around}
def Ln(R:aZ V J H s.heap){sc:Scope}{ps:List Str}(w:kZ sc ps){vs:List Value}{ds:List AV}(hv:aQ V J s.heap vs ds)(hl:ps.length=vs.length){k:Nat}{qual:Str}{a:Addr}{code:Value}{s':Shared}{env:Env} 
  (he:env=newEnv sc s.heap.objs.size mainGlobals (cellsFrom (s.heap.objs.size+1) sc.names []) qual (some a) code none builtinsNs)
  (x:InCallC s env.locals (bindL env.kindOf (ps.zip vs) λO=>none) env.cells (bindC env.kindOf (ps.zip vs) λO=>none) s'):
  bX V (yy sc env (rP sc.names ps) A) J (ds.map some++List.replicate k none) s'.heap/\ax s s':=by
 have e2:env.locals=s.heap.objs.size:=by rw[he];rfl
 have e5:env.cells=cellsFrom (s.heap.objs.size+1) sc.names []:=by rw[he];rfl
 have kindOf:∀y,env.kindOf y=sc.names.lookup y:=λy=>by rw[he];rfl
 refine ct x.toInCall.same λhh tk Kp=>?_;have g:ax s s':=(ax.mk x.toInCall.keep (by rw[Kp]) (by rw[Kp]));have ns:=x.toInCall.ns;have M7:∀y c,env.cells.lookup y=some c->s.heap.objs.size<c:=λy c h=>e2▸x.above y c (jw h);have base:=R.base;have DV:∀b∈(env.locals::sc.names.filterMap λp=>env.cells.lookup p.1),s.heap.objs.size<=b/\∃o,s'.heap.get? b=some o/\oW o:=λb hb=>by
  rcases bQ.mp hb with rfl|hb
  ·refine mR ns λo es ep e hd O=>?_;clear ns;exact⟨aW e2.symm,o,e,.inl ⟨es,ep,hd⟩⟩
  ·refine aq (qF.mp hb) λp hp hy=>?_;refine aq (x.cell p.1 b hy) λo e hd=>?_;exact⟨fG (M7 p.1 b hy),o,e,.inr (.inl ⟨_,hd⟩)⟩
 have val:∀(y:Str) (j:Nat) (dd:AV),(rP sc.names ps).sc.lookup y=some j->(ds.map some++List.replicate k none)[j]?=some (some dd)->∃v,ps[j]?=some y/\vs[j]?=some v/\VR V J s'.heap v dd:=by
  intro y j dd hy hd;have hj:j<ds.length:=by refine Nat.lt_of_not_le λYP=>?_;rw[pG (by simpa using YP)] at hd;have:=jS hd;rw[List.mem_replicate] at this;exact aR this.2.symm
  rw[wk (by simpa using hj),qD] at hd;refine um hd λd' Ej e=>?_;obtain rfl:=sj e;refine aq (hv.get Ej) λv h1 h2=>?_;have YO:j<ps.length:=by rw[hl,hv.length];exact hj
  have:=(An _ 0 hy).2;rw[Nat.sub_zero,wk YO] at this;exact⟨v,this,h1,g.vr h2⟩
 refine⟨(bX.mk (by show env.scope.kind=_;rw[he];exact w.kind) (by show env.globals=_;rw[he];rfl) (by show env.builtins=_;rw[he];rfl) (λb hb=>(DV b hb).2) (λb hb=>aM base (DV b hb).1) (λb hb=>R.fresh (DV b hb).1) bA (λy hy=>?_) ⟨_,ns,kg.mk (λy O hk=>?_) (λy j hy hk dd hd=>?_)⟩ (λy j hy hk=>?_) (λy z c hy hz=>name_of_addr x.apart (jw hy) (jw hz)) (λy z j hy hz=>VB hy hz) (λy j hy=>?_)),g⟩
 ·show env.kindOf y=_;rw[kindOf];exact hy
 ·show env.kindOf y=_;rw[kindOf];exact hk
 ·refine gP (val y j dd hy hd) λv h1 h2 h3=>?_;exact⟨v,adm _ ps vs _ w.nodup j y v h1 h2 (by rw[kindOf];exact hk),h3⟩
 ·have oK:sc.names.lookup y=some .cell\/sc.names.lookup y=some .free:=hk;have hk:sc.names.lookup y=some .cell:=by
   rcases oK with hk|hk
   ·exact hk
   ·cases w.kinds _ (jw hk)
  refine ue (sy.mp (Fb sc.names (s.heap.objs.size+1) [] y (.inl (jw hk)))) λc oL=>?_;rw[<- e5] at oL;have iu:=M7 y c oL;refine⟨c,_,gn.mk oL (.inl (by show env.kindOf y=_;rw[kindOf];exact hk)) (x.cell y c oL) (by show c≠env.locals;rw[e2];exact dM iu) (R.fresh (fG iu)) (aM base (fG iu)) (λO=>⟨bS _ (qF.mpr ⟨(y,.cell),jw hk,oL⟩),by show env.kindOf y=_;rw[kindOf];exact hk⟩) (λdd hd=>?_)⟩;refine gP (val y j dd hy hd) λv h1 h2 h3=>?_;exact⟨v,adn _ ps vs _ w.nodup j y v h1 h2 (by rw[kindOf,hk];simp),h3⟩
 ·have:=jS (An _ 0 hy).2;rcases ko.mp this with h|h
  ·rcases w.ps y h with h|h
   ·exact .inl h
   ·exact .inr (.inl h)
  ·refine aq (qF.mp h) λp hp e=>?_
   set_option tactic.hygienic true in split at e
   ·rename_i hk;obtain rfl:=sj e;have:=w.names p hp;rcases hk.1 with hk|hk
    ·exact .inl (this.trans (by rw[hk]))
    ·exact .inr (.inl (this.trans (by rw[hk])))
   ·exact aR e
def kX(cL:FuncData)(fd:FD)(as:List Arg)(va:Option Arg)(kd:List (Option Expr))(df:List Expr):Prop:=(cL.params={posonlyargs:=[],args:=as,vararg:=va,kwonlyargs:=[],kw_defaults:=kd,kwarg:=none,defaults:=df})/\((as.map (·.arg)++va.toList.map (·.arg)).Nodup)/\(fd.npar=as.length)/\(fd.va=va.isSome)
section
variable {b1 b2 b3 b4 b5 b6}(x:kX b1 b2 b3 b4 b5 b6)
def kX.mk:=fq (kX b1 b2 b3 b4 b5 b6) rfl
def kX.ps:=x.1
def kX.nodup:=x.2.1
def kX.npar:=x.2.2.1
def kX.va:=x.2.2.2
end
def mw(V:Cf)(J:Ph)(s:Shared)(names:List Str)(ρ':aC)(s1:Shared)(vs:List Value)(ds:List AV)(k:Nat):Prop:=(ax s s1)/\(aQ V J s1.heap vs ds)/\(names.length=vs.length)/\(ρ'=ds.map some++List.replicate k none)
section
variable {b1 b2 b3 b4 b5 b6 b7 b8 b9}(x:mw b1 b2 b3 b4 b5 b6 b7 b8 b9)
def mw.mk:=fq (mw b1 b2 b3 b4 b5 b6 b7 b8 b9) rfl
def mw.grow:=x.1
def mw.all:=x.2.1
def mw.len:=x.2.2.1
def mw.rho:=x.2.2.2
end
def adj(R:aZ V J H s.heap){M:Model}{Q:List (Str×Value)->Shared->Prop}{Ex:Value->Shared->Prop}{cL:FuncData}{fd:FD}{as:List Arg}{va:Option Arg}{kd:List (Option Expr)}{df:List Expr}{vals:List Value}{ds:List AV}{ρ':aC}
  (w:kX cL fd as va kd df) (hd:cL.defaults=.none) (h3:fd.dflt=[]) (hv:aQ V J s.heap vals ds) (e:kP fd ds=some ρ')
  (h:∀s1 vs vP k,mw V J s (as.map (·.arg)++va.toList.map (·.arg)) ρ' s1 vs vP k->Q ((as.map (·.arg)++va.toList.map (·.arg)).zip vs) s1):
  wpAny M A (bindArgs cL ⟨vals,[]⟩) Q Ex s:=by
 have hn:=(sm.mp w.nodup).1;have h1:=w.npar;unfold kP at e;rw[w.va,h3] at e;cases va with
 |none=>
  refine ur e λhc e=>?_;obtain rfl:=sj e;rw[eW] at h;have hc:=bV hc;have hlen:vals.length=as.length:=by rw[hv.length,<- h1];exact hc
  exact MP w.ps hd hn (aW hlen.symm) (λO=>hlen) (by
   have:=h s vals ds (fd.xG-fd.npar) (mw.mk (ax.refl _) hv (by simp[hlen]) rfl)
   simpa using this)
 |some a=>
  refine ur e λhc e=>?_;obtain rfl:=sj e;refine us hc λhc A8=>?_;have hc:=gN hc;have A8:=gN A8;have hlen:as.length<=vals.length:=by rw[hv.length,<- h1];exact hc
  refine MP w.ps hd hn hlen (λz=>nomatch z) ⟨?_,?_⟩
  ·rw[qC,hv.length];exact aM (nU _ _) (i8 A8)
  ·have g:ax s {s with heap:=s.heap.push {cls:=.type "tuple",data:=.seq (vals.drop as.length).toArray}}:=ax.push s _ s.toks;have nt:VR V J (s.heap.push {cls:=.type "tuple",data:=.seq (vals.drop as.length).toArray}) (.ref s.heap.objs.size) (.tup (ds.drop as.length)):=IX R g (n:=0) (cY _ rfl) (hv.drop _) (aM (by rw[qC];exact nU ..) A8)
   have:=h _ (vals.take as.length++[.ref s.heap.objs.size]) (ds.take as.length++[.tup (ds.drop as.length)]) (fd.xG-fd.npar-1)
    (mw.mk g (((g.jW hv).take _).append (.cons nt .nil)) (by rw[bF,bF,aJ,ux,wo hlen];rfl) (by rw[h1];simp))
   have ez:(as.map (·.arg)++(some a).toList.map (·.arg)).zip (vals.take as.length++[.ref s.heap.objs.size])=(as.map (·.arg)).zip vals++[(a.arg,.ref s.heap.objs.size)]:=by
    rw[List.zip_append (by rw[aJ,ux,wo hlen])]
    congr 1
    have:∀(l:List Str) (vs:List Value),l.zip (vs.take l.length)=l.zip vs:=by
     intro l
     induction l with
     |nil=>exact λvs=>rfl
     |cons x r ih=>intro vs;cases vs with
      |nil=>rfl
      |cons v vs=>exact congrArg (List.cons (x,v)) (ih vs)
    have h':=this (as.map (·.arg)) vals;rwa[aJ] at h'
   rw[ez] at this;exact this
variable {h:Heap}
def dB.list(F:dB V G J h):∃l,G.A.frames=some l/\fT V l J h:=qR F.fr λd0 outer L a1 a2 a3 a4=>⟨_,a1,a4⟩
variable {l:List Env}{cenv:Env}
def fT.deeper{L:Addr}{m:Str->Option Value}(F:fT V l J h)(hA:A.frames=some l)(hk:cenv.scope.kind≠.module)(hf:cenv.frame=some L)(hn:h.Ns L m)(h0:V.h₀.get? L=none)(hφ:L∉J.map (·.2)){K:Cx}{X:List Addr}:
  dB V ⟨K,A.deeper cenv,cenv,X⟩ J h:=by
 refine mR (id hn) λo es ep e hd O=>?_;refine⟨cenv,l,L,Around.frames_deeper hA,hf,hf,Heap.FunFrames.cons hk hf hn h0 F.vG,λL' iS=>?_,λL' iS=>?_⟩<;>rw[wC,hf] at iS
 ·rcases bQ.mp iS with rfl|iS
  ·exact hφ
  ·exact F.out L' iS
 ·rcases bQ.mp iS with rfl|iS
  ·exact⟨o,e,es,ep,hd⟩
  ·exact F.dct L' iS
def dB.tail{K:Cx}{X:List Addr}(F:dB V ⟨K,A.deeper cenv,cenv,X⟩ J h)(hA:A.frames=some l):fT V l J h:=by
 refine qR F.fr λd0 outer L a1 a2 a3 a4=>?_;have a1:(A.deeper cenv).frames=_:=a1;rw[Around.frames_deeper hA] at a1;cases a1;have sub:∀L'∈l.filterMap (·.frame),L'∈(cenv::l).filterMap (·.frame):=λL' iS=>by
  cases h:cenv.frame with
  |none=>rw[List.filterMap_cons_none h];exact iS
  |some x=>rw[List.filterMap_cons_some h];exact bS _ iS
 exact(fT.mk a4.vG.2.2 (λL' iS=>a4.out L' (sub L' iS)) (λL' iS=>a4.dct L' (sub L' iS)))
def dB.back{φ':Ph}{h':Heap}(F:dB V G J h)(hA:G.A.frames=some l)(F':fT V l φ' h'):dB V G φ' h':=by refine qR F.fr λd0 outer L a1 a2 a3 a4=>?_;rw[hA] at a1;obtain rfl:=sj a1;exact⟨d0,outer,L,hA,a2,a3,F'⟩
def HP(h:kW A (d+1)):kW (A.deeper cenv) d/\A.depth<recursionLimit:=by
 obtain⟨h1,h2⟩:=h;refine⟨(kW.mk ?_ ?_),by exact NT ‹_›⟩
 ·show A.depth+1+8*d+8<recursionLimit;exact FC ‹_›
 ·show A.units+3+100*d+100<cLine;exact NK ‹_›
end
section
variable {V:Cf}{G:Fm}{φ₀ J:Ph}{s₀ s:Shared}{U:aC}{H:Hp}{d:Nat}{q:Bool}{E:Ev}
def d6(V:Cf)(J:Ph)(h₁:Heap)(Y:List Addr)(s s':Shared):Prop:=(dD Y J s.heap s'.heap)/\(∀a∈Y,∃o,s.heap.get? a=some o/\ki o)/\(∀a∈Y,iD V J h₁ a)/\(∀a o,V.h₀.get? a=some o->s'.heap.get? a=some o)/\(∀p∈J,s'.heap.get? p.2=s.heap.get? p.2)/\(s'.gens=s.gens)/\(s'.os=s.os)/\(∀a,cN s.heap a->cN s'.heap a)
section
variable {b1 b2 b3 b4 b5 b6}(x:d6 b1 b2 b3 b4 b5 b6)
def d6.mk:=I4 (d6 b1 b2 b3 b4 b5 b6) rfl
def d6.ext:=x.1
def d6.fH:=x.2.1
def d6.new:=x.2.2.1
def d6.Xz:=x.2.2.2.1
def d6.same:=x.2.2.2.2.1
def d6.gens:=x.2.2.2.2.2.1
def d6.os:=x.2.2.2.2.2.2.1
def d6.live:=x.2.2.2.2.2.2.2
end
variable {h₁:Heap}{Y:List Addr}{s':Shared}
def d6.Gd(x:d6 V J h₁ Y s s'):d3 Y s.heap:=λa ha=>aq (x.fH a ha) λo e h=>⟨o,e,.inr (.inr (.inr h))⟩
def d6.nf(x:d6 V J h₁ Y s s'){a:Addr}{o:Obj}(e:s.heap.get? a=some o)(h:∀vs,o.data≠.fields vs):a∉Y:=λha=>by refine aq (x.fH a ha) λo' e' w=>?_;rw[e] at e';obtain rfl:=sj e';refine ue w.data λvs hv=>?_;exact h vs hv
def d6.rel(x:d6 V J h₁ Y s s')(R:aZ V J H s.heap):aZ V J H s'.heap:=R.mono x.ext x.Gd x.Xz x.same
def d6.fr(x:d6 V J h₁ Y s s')(F:dB V G J s.heap):dB V G J s'.heap:=F.mono x.ext (Gr.refl ..) λa ha o e bU=>ct bU λes n hd=>absurd ha (x.nf e λvs h=>by rw[hd] at h;cases h)
def ao.note(pre:ao V d q G J U H s)(x:d6 V J h₁ Y s s')(Y9:∀a∈G.X,a∉Y):ao V d q G J U H s':=
 (ao.mk (x.rel pre.rel) (pre.er.DL x.ext x.Gd (Gr.refl ..) λa o ha e hφ=>x.ext.keep a o e hφ (by
  rcases ha with ha|⟨v,ha⟩
  ·exact Y9 a ha
  ·exact x.nf e λvs h=>by rw[ha] at h;cases h)) pre.room pre.hd (x.fr pre.fr))
def Nx.note{X:List Addr}{φ₁:Ph}{ja:Shared}(nx:Nx X J φ₁ s s')(nt:d6 V φ₁ s.heap Y s' ja):Nx X J φ₁ s ja:=by refine(Nx.mk ⟨λa o eo u1 u2=>?_⟩ nx.gr (nt.gens.trans nx.gens) (nt.os.trans nx.os) (λa u=>nt.live a (nx.live a u)));exact(nx.ext.keep a o eo u1 u2).trans λo' w=>nt.ext.keep a o' w (nx.gr.not ⟨o,eo⟩ u1) (λhm=>(nt.new a hm).new ⟨o,eo⟩:a∉Y)
variable {Ex:Value->Shared->Prop}{outer:List Env}
def Zz{M:Model}{A:Around}{env:Env}{d0:Env}{L:Addr}{base:Heap}{Q:Value->Shared->Prop}(tL:A.frames=some (d0::outer))(hl:s.heap.FunFrames base (d0::outer))(hf:d0.frame=some L)(he:env.frame=some L)
  (h:∀h',Heap.SlotsOnly ((d0::outer).filterMap (·.frame)) s.heap h'->Q (.ref L) {s with heap:=h'}):wpAny M A (PySem.frameOf env) Q Ex s:=by
 unfold PySem.frameOf;refine ah (wpAny_frameEnvs tL ?_);have YT:((d0::outer).dropWhile λx=>x.frame != env.frame)=d0::outer:=by simp[List.dropWhile,hf,he]
 rw[YT];unfold frameObject;refine ah (ah (wpAny_readyFrames_fun hl λh₁ vA=>aH ?_));rw[hf];exact aH (h h₁ vA)
variable {vs:Array Value}
def aaa{k:Nat}{o:Obj}(hc:o.cls=LK V k)(hd:o.data=.fields vs):ki o:=by
 refine(ki.mk ⟨vs,hd⟩ (λT hT=>?_));rw[hc] at hT;cases k with
 |zero=>cases hT;rfl
 |succ k=>cases hT
def qt(l:List Env)(e:Addr)(oe:Obj)(vs:Array Value)(s:Shared)(h':Heap)(T:Addr)(oT:Obj)(ts:Array Value):Prop:=(∀b o,b≠e->s.heap.get? b=some o->h'.get? b=some o\/(b∈l.filterMap (·.frame)/\∃sl,h'.get? b=some {o with slots:=sl}))/\(s.heap.objs.size<=T)/\(h'.get? e=some {oe with data:=.fields (vs.setIfInBounds 1 (.ref T))})/\(nG h' T oT ts)
section
variable {b1 b2 b3 b4 b5 b6 b7 b8 b9}(x:qt b1 b2 b3 b4 b5 b6 b7 b8 b9)
def qt.mk:=fq (qt b1 b2 b3 b4 b5 b6 b7 b8 b9) rfl
def qt.keep:=x.1
def qt.new:=x.2.1
def qt.exc:=x.2.2.1
def qt.tb:=x.2.2.2
end
variable {Q:Unit->Shared->Prop}
def IJ{M:Model}{A:Around}{env:Env}{d0:Env}{L e:Addr}{base:Heap}{oe:Obj}{head:Value}{Y8:Bool}(tL:A.frames=some (d0::outer))(hl:s.heap.FunFrames base (d0::outer))(hf:d0.frame=some L)(YS:env.frame=some L)
  (he:s.heap.get? e=some oe) (hd:oe.data=.fields vs) (ir:1<vs.size)
  (h:∀h' T oT ts,qt (d0::outer) e oe vs s h' T oT ts->Q () {s with heap:=h'}):
  wpAny M A (do let a <- PySem.frameOf env;let pl <- entryPlaceOf L Y8;let b <- EntryCells.newEntry head a .none (rawInt L) .none pl;setField (.ref e) 1 b) (λO s'=>wpAny M A (setFlight (.ref e) none) Q Ex s') Ex s:=by
 have YR:e∉(d0::outer).filterMap (·.frame):=λhm=>by refine Q9 (hl.mem hm) λO o ho yg=>?_;rw[he] at ho;injection ho with ho;subst ho;exact yg vs hd
 refine ah (Zz tL hl hf YS λh₁ vA=>?_);refine ah (wpAny_entryPlaceOf λpl AY=>?_);unfold EntryCells.newEntry newFields;refine ah (wx ?_ (AY.sizeOk5 _ _ _ _ _));have KH:h₁.get? e=some oe:=(vA.2.1 e YR).trans he;generalize A5:([head,.ref L,.none,rawInt L,.none]++(if pl.isEmpty then List.replicate 6 Value.none else pl)).toArray=fs;have Lh:3<fs.size:=by rw[<- A5];simp only[dj,bF,i5,List.length_nil];exact NQ
 generalize D6:({cls:=.type "traceback",dict:=none,data:=.fields fs}:Obj)=tb;have KG:=ij (h:=h₁) tb KH;refine uk KG hd ir ?_;have KY:h₁.objs.size≠e:=dM (fy KH);have YQ:Obj.mapFields (·.setIfInBounds 1 (Value.ref h₁.objs.size)) oe={oe with data:=.fields (vs.setIfInBounds 1 (.ref h₁.objs.size))}:=by
  obtain⟨c,dct,dt,sl⟩:=oe;dsimp only at hd;subst hd
  rfl
 have KD:((h₁.push tb).update e (Obj.mapFields (·.setIfInBounds 1 (Value.ref h₁.objs.size)))).get? e=some {oe with data:=.fields (vs.setIfInBounds 1 (.ref h₁.objs.size))}:=(qG _ KG (zd (wA hd _))).trans (by rw[YQ])
 have KX:((h₁.push tb).update e (Obj.mapFields (·.setIfInBounds 1 (Value.ref h₁.objs.size)))).get? h₁.objs.size=some tb:=(pE _ _ (fi KY)).trans (cY h₁ (by rw[<- D6];rfl:tb.isFreed=false))
 unfold setFlight;refine ah (qH KD rfl (x:=.ref h₁.objs.size) (by simp[ir]) ?_);rw[if_pos (show(Value.ref h₁.objs.size != Value.none)=true from by simp)];have Ei:tb.data=.fields fs:=by rw[<- D6]
 refine uk KX Ei Lh ?_;refine h _ h₁.objs.size _ _ (qt.mk (λb o YZ hb=>?_) (aW vA.1.symm) ?_ (nG.mk (qG _ KX (zd (wA Ei _))) (wA Ei _) ?_ ?_))
 ·refine ue (vA.2.2 b o hb) λsl Kl=>?_;have Y0:h₁.objs.size≠b:=dM (fy Kl);have up:∀{o'},h₁.get? b=some o'->(((h₁.push tb).update e (Obj.mapFields (·.setIfInBounds 1 (Value.ref h₁.objs.size)))).update h₁.objs.size (Obj.mapFields (·.setIfInBounds 3 (none.getD Value.none)))).get? b=some o':=λhk=>by rw[pE _ _ Y0,pE _ _ (fi YZ)];exact ij _ hk
  by_cases KO:b∈(d0::outer).filterMap (·.frame)
  ·exact .inr ⟨KO,sl,up Kl⟩
  ·exact .inl (up ((vA.2.1 b KO).trans hb))
 ·rw[pE _ _ KY];exact KD
 ·rw[Obj.cls_mapFields,<- D6]
 ·simp[Lh]
def II(R:aZ V J H s.heap){l:List Env}(F:fT V l J s.heap){h':Heap} 
  (kp:∀b o,b∉Y->s.heap.get? b=some o->h'.get? b=some o\/(b∈l.filterMap (·.frame)/\∃sl,h'.get? b=some {o with slots:=sl}))
  (y1:∀a∈Y,∃o,s.heap.get? a=some o/\ki o) (y2:∀a∈Y,iD V J h₁ a) (y3:∀a∈Y,cN h' a):d6 V J h₁ Y s {s with heap:=h'}:=by
 refine(d6.mk ⟨λa o e O hY=>?_⟩ y1 y2 (λa o e=>?_) (λp hp=>?_) rfl rfl (λa bU=>ue bU λo e=>?_))
 ·rcases kp a o hY e with z|⟨hm,sl,z⟩
  ·exact .inl z
  ·refine aq (F.dct a hm) λo' e' w=>?_;rw[e] at e';obtain rfl:=sj e';exact .inr ⟨w,sl,z⟩
 ·rcases kp a o (λhm=>(y2 a hm).h0 ⟨o,e⟩) (R.keep a o e) with z|⟨hm,_⟩
  ·exact z
  ·rw[(F.vG.mem hm).1] at e;exact aR e
 ·refine ue (R.live p hp) λo e=>?_;rcases kp p.2 o (λhm=>(y2 _ hm).out (pq hp)) e with z|⟨hm,_⟩
  ·exact z.trans e.symm
  ·exact absurd (pq hp) (F.out _ hm)
 ·by_cases hm:a∈Y
  ·exact y3 a hm
  ·rcases kp a o hm e with z|⟨_,sl,z⟩
   ·exact⟨_,z⟩
   ·exact⟨_,z⟩
def rB{e a:Addr}(h:a∈[e]):a=e:=fW.mp h
def IH{M:Model}(R:aZ V J H s.heap)(F:dB V G J s.heap)(hl:∀a,cN h₁ a->cN s.heap a){v:Value}{k:Nat}(x:o6 V J h₁ s.heap v k) 
  (h:∀Y s',d6 V J h₁ Y s s'->o6 V J h₁ s'.heap v k->Q () s'):wpAny M G.A (noteFrame v G.env) (λO s'=>wpAny M G.A (setFlight v none) Q Ex s') Ex s:=by
 obtain⟨e,oe,vs,rfl,x⟩:=x;obtain⟨d0,outer,L,a1,a2,a3,FL⟩:=F.fr;have ex:ki oe:=aaa x.cls x.data;have fresh:∀T,s.heap.objs.size<=T->iD V J h₁ T/\T≠e:=λT hT=>⟨(iD.mk (jH (aM R.base hT)) (R.fresh hT) (λo=>jH hT (hl _ o))),λq=>absurd (fy x.get) (hZ.mpr (q▸hT))⟩
 unfold noteFrame;simp only[a2];have done:∀{h' T oT ts},1<vs.size->s.heap.objs.size<=T->h'.get? e=some {oe with data:=.fields (vs.setIfInBounds 1 (.ref T))}->nG h' T oT ts->o6 V J h₁ h' (.ref e) k:=λ{h' T oT ts} sz k2 k3 tb=>⟨e,_,_,rfl,k6.mk k3 x.cls rfl x.new (.inr ⟨T,oT,ts,by simp[sz],(fresh T k2).2,(fresh T k2).1,tb⟩)⟩
 rcases x.tb with ht|⟨T,oT,ts,b1,b3,bn,b⟩
 ·refine ah (qH x.get x.data ht ?_);rw[if_neg (by decide)];have sz:=(wm.mp ht).1;refine IJ a1 FL.vG a3 a2 x.get x.data sz λh' T oT ts n=>h [e] _ (II R FL (λb o hb=>n.keep b o λq=>hb (fW.mpr q)) (λa ha=>?_) (λa ha=>?_) λa ha=>?_) (done sz n.new n.exc n.tb)
  ·rw[rB ha];exact⟨oe,x.get,ex⟩
  ·rw[rB ha];exact x.new
  ·rw[rB ha];exact⟨_,n.exc⟩
 ·refine ah (qH x.get x.data b1 ?_);rw[if_pos (show(Value.ref T != Value.none)=true from by simp)];refine ah (qH b.get b.data b.zero ?_);rw[if_neg (show ¬ ((Value.none==rawInt L)=true) from by simp[rawInt])];refine ah (uk b.get b.data (wm.mp b.zero).1 ?_);have other:∀b,b≠T->(s.heap.update T (Obj.mapFields (·.setIfInBounds 3 Value.none))).get? b=s.heap.get? b:=λb hb=>pE _ _ (fi hb);have hT:(s.heap.update T (Obj.mapFields (·.setIfInBounds 3 Value.none))).get? T=some (Obj.mapFields (·.setIfInBounds 3 Value.none) oT):=qG _ b.get (zd (wA b.data _));have VL:∀c o,s.heap.get? c=some o->(∀vs,o.data≠.fields vs)->c≠T:=λc o hb yg q=>by rw[q,b.get] at hb;injection hb with hb;subst hb;exact yg ts b.data
  have wU:=(wm.mp b1).1;refine IJ a1 (FL.vG.of_keeps λb o hb yg=>⟨o,(other b (VL b o hb yg)).trans hb,rfl⟩) a3 a2 ((other e (fi b3)).trans x.get) x.data wU
   λh' T' oT' ts' n=>h [e,T] _ (II R FL (λb o hb hg=>?_) (λa ha=>?_) (λa ha=>?_) λa ha=>?_) (done wU ((Heap.size_update ..:(s.heap.update T (Obj.mapFields (·.setIfInBounds 3 Value.none))).objs.size=s.heap.objs.size)▸n.new) n.exc n.tb)
  ·rw[bQ,fW,not_or] at hb;exact n.keep b o hb.1 ((other b hb.2).trans hg)
  ·rcases bQ.mp ha with rfl|ha
   ·exact⟨oe,x.get,ex⟩
   ·rw[rB ha];exact⟨oT,b.get,ki.mk ⟨ts,b.data⟩ (λT hT=>by rw[b.cls] at hT;cases hT;rfl)⟩
  ·rcases bQ.mp ha with rfl|ha
   ·exact x.new
   ·rw[rB ha];exact bn
  ·rcases bQ.mp ha with rfl|ha
   ·exact⟨_,n.exc⟩
   ·rw[rB ha];rcases n.keep T _ b3 hT with z|⟨_,sl,z⟩
    ·exact⟨_,z⟩
    ·exact⟨_,z⟩
end
section
variable {V:Cf}{G:Fm}{φ₀ J:Ph}{s₀ s:Shared}{U:aC}{H:Hp}{d:Nat}{q:Bool}{E:Ev}
noncomputable def rn(as:List Arg)(va:Option Arg):List Str:=as.map (·.arg)++va.toList.map (·.arg)
inductive Fy(V:Cf)(cL:FuncData)(fd:FD)(as:List Arg)(va:Option Arg):Prop where
 |none (h:cL.defaults=.none) (e:fd.dflt=[])
 |one (x y:Arg) (T:Addr) (oT:Obj) (m:Nat) (h1:as=[x,y]) (h2:va=Option.none) (h3:fd.dflt=[.none]) (h4:cL.defaults=.ref T) (h5:V.h₀.get? T=some oT) (h6:oT.data=.seq #[.none] m)
def hM(V:Cf)(k:Nat)(fd:FD)(a:Addr)(o:Obj)(cL:FuncData)(as:List Arg)(va:Option Arg)(kd:List (Option Expr))(df:List Expr):Prop:=(V.gv k=some (.ref a))/\(V.h₀.get? a=some o)/\(o.data=.func cL)/\(cL.body=.stmts (c9 fd.body))/\(V.h₀.CodeRec cL.code cL.qualname)/\(cL.closure=[])/\(cL.globals=mainGlobals)/\(cL.builtins=builtinsNs)/\(cL.params={posonlyargs:=[],args:=as,vararg:=va,kwonlyargs:=[],kw_defaults:=kd,kwarg:=none,defaults:=df})/\(E7 cL.scope (rn as va)=true)/\(fd.npar=as.length)/\(fd.va=va.isSome)/\(Fy V cL fd as va)/\(eZ V fd.body (rP cL.scope.names (rn as va))=true)
section
variable {b1 b2 b3 b4 b5 b6 b7 b8 b9 kQ}(x:hM b1 b2 b3 b4 b5 b6 b7 b8 b9 kQ)
def hM.mk:=λm1 m2 m3 m4 m5 m6 m7 m8 m9 qc qb xS xR Dv=>(⟨m1,m2,m3,m4,m5,m6,m7,m8,m9,qc,qb,xS,xR,Dv⟩:hM b1 b2 b3 b4 b5 b6 b7 b8 b9 kQ)
def hM.gv:=x.1
def hM.get:=x.2.1
def hM.data:=x.2.2.1
def hM.body:=x.2.2.2.1
def hM.code:=x.2.2.2.2.1
def hM.Mq:=x.2.2.2.2.2.1
def hM.rM:=x.2.2.2.2.2.2.1
def hM.rU:=x.2.2.2.2.2.2.2.1
def hM.ps:=x.2.2.2.2.2.2.2.2.1
def hM.sc:=x.2.2.2.2.2.2.2.2.2.1
def hM.npar:=x.2.2.2.2.2.2.2.2.2.2.1
def hM.Gm:=x.2.2.2.2.2.2.2.2.2.2.2.1
def hM.dflt:=x.2.2.2.2.2.2.2.2.2.2.2.2.1
def hM.wf:=x.2.2.2.2.2.2.2.2.2.2.2.2.2
end
def Nn(V:Cf)(k:Nat)(fd:FD):Prop:=∃a o cL as va kd df,hM V k fd a o cL as va kd df
structure BR(V:Cf):Prop extends Ok V where
 lim:V.h₀.NoLimit
 fns:∀k fd,V.P.gt[k]?=some (.fn fd)->Nn V k fd
def MO(R:aZ V J H s.heap){M:Model}{A:Around}{Q:List (Str×Value)->Shared->Prop}{Ex:Value->Shared->Prop}{cL:FuncData}{fd:FD}{as:List Arg}{va:Option Arg}{kd:List (Option Expr)}{df:List Expr}{vals:List Value}{ds:List AV}{ρ':aC}
  (w:kX cL fd as va kd df) (YV:Fy V cL fd as va) (hv:aQ V J s.heap vals ds) (e:kP fd ds=some ρ')
  (h:∀s1 vs vP k,mw V J s (rn as va) ρ' s1 vs vP k->Q ((rn as va).zip vs) s1):
  wpAny M A (bindArgs cL ⟨vals,[]⟩) Q Ex s:=by
 cases YV with
 |none hd h3=>exact adj R w hd h3 hv e h
 |one x y T oT m h1 h2 h3 hd hT hs=>
  subst h1;subst h2;unfold kP at e;rw[w.va,h3] at e;obtain⟨hc,e⟩:=zX e;obtain rfl:=sj e;have hc:=bV hc;rw[w.npar] at hc;cases ds with
  |nil=>cases hc
  |cons a ds=>
   cases ds with
   |cons=>cases hc
   |nil=>
    obtain⟨v,r,rfl,hv,rfl⟩:=hv;refine adl w.ps hd (R.keep _ _ hT) hs (λq=>?_) ?_
    ·have hn:=w.nodup;rw[bE,bE,q] at hn;exact(ie.mp hn).1 (by simp)
    ·exact h s [v,.none] [a,.none] (fd.xG-fd.npar) (mw.mk (ax.refl _) (.cons hv (.cons .none .nil)) rfl rfl)
def Nx.drop{Y:List Addr}{φ':Ph}{s1 s2:Shared}(g:ax s s1)(nx:Nx Y J φ' s1 s2)(hY:∀a∈Y,¬ cN s.heap a):Nx [] J φ' s s2:=by refine(Nx.mk ⟨λa o e h1 O=>nx.ext.keep a o (g.keep a o e) h1 λhm=>hY a hm ⟨o,e⟩⟩ ?_ (nx.gens.trans g.gens) (nx.os.trans g.os) (λa h=>nx.live a (g.live a h)));refine aq nx.gr.pre λr aa hr=>?_;subst aa;exact⟨r,rfl,λp hp ho=>hr p hp (g.live _ ho)⟩
def Nx.VO{X:List Addr}{φ':Ph}{s':Shared}(nx:Nx [] J φ' s s'):Nx X J φ' s s':=(Nx.mk nx.ext.IS nx.gr nx.gens nx.os nx.live)
def ao.back{φ':Ph}{s':Shared}{H':Hp}{l:List Env}(pre:ao V d q G J U H s)(nx:Nx [] J φ' s s')(rel:aZ V φ' H' s'.heap)(hA:G.A.frames=some l)(F:fT V l φ' s'.heap):dI V G J s φ' U H' s':=(dI.mk nx.VO rel (pre.er.mono nx.ext nx.gr) (pre.fr.back hA F))
def ZP(ok:BR V)(Sd:mj V E)(pre:ao V (d+1) true G J U H s){k:Nat}{fd:FD}{vf:Value}{vs:List Value}{xs:List AV}{ρ':aC}(hk:V.P.gt[k]?=some (.fn fd))(hg:V.gv k=some vf)(hv:aQ V J s.heap vs xs)(hb:kP fd xs=some ρ'):
  uc V G J s vf vs (qi U (cW (E.s d true) (ss fd.body) ρ' H)):=by
 refine Q4 (ok.fns k fd hk) λa o cL as va kd df f=>?_;rw[f.gv] at hg;obtain rfl:=sj hg;have sc:=Lo f.sc;have wb:=f.wf;have rm:=λcenv=>HP (cenv:=cenv) pre.room;have par:kX cL fd as va kd df:=(kX.mk f.ps sc.nodup f.npar f.Gm);have bn:=λ{M:Model} {A:Around} {Q:List (Str×Value)->Shared->Prop} {Ex:Value->Shared->Prop} h=>MO (M:=M) (A:=A) (Q:=Q) (Ex:=Ex) pre.rel par f.dflt hv hb h;refine aq pre.fr.list λl hA FL=>?_;generalize rn as va=ps at *;intro hs;refine(codeAny_call_function (rm G.env).2 (pre.rel.keep _ _ f.get) f.data sc.co sc.gen f.body (f.code.keeps pre.rel.keep) (bn λs1 Ci ds1 j b=>?_));rw[f.Mq,f.rM,f.rU];refine wpAny_newFunctionEnv_cells sc.kind (λx hx=>?_) λcenv he s2 x=>⟨ok.lim.keeps λc o e=>x.toInCall.keep c o (b.grow.keep c o (pre.rel.keep c o e)),codeAny_func ?_⟩
 ·rcases sc.ps x.1 (List.of_mem_zip (show(x.1,x.2)∈ps.zip Ci from hx)).1 with h|h
  ·exact .inl h
  ·exact .inr ⟨h,Fb _ _ _ _ (.inl (jw h))⟩
 have R1:=pre.rel.grow b.grow;have eL:cenv.locals=s1.heap.objs.size:=by rw[he];rfl
 have eF:cenv.frame=some cenv.locals:=by rw[he];rfl
 have eK:cenv.scope=cL.scope:=by rw[he];rfl
 refine ua (Ln (k:=j) (A:=G.A.deeper cenv) R1 sc b.all b.len he x) λer qf=>?_;have gr:=b.grow.trans qf;have fresh:∀c∈(yy cL.scope cenv (rP cL.scope.names ps) (G.A.deeper cenv)).X,¬ cN s.heap c:=λc hc ho=>by
  have le:s1.heap.objs.size<=c:=by
   rcases bQ.mp hc with rfl|hc
   ·exact aW eL.symm
   ·refine aq (qF.mp hc) λp hp e=>?_;have:=x.above p.1 c (jw e);rw[eL] at this;exact fG this
  exact jH le (b.grow.live _ ho)
 have C2:ao V d true (yy cL.scope cenv (rP cL.scope.names ps) (G.A.deeper cenv)) J ρ' H s2:=(ao.mk (R1.grow qf) (b.rho▸er) ((rm cenv).1) pre.hd ((pre.fr.grow gr).list.elim λl' h=>by rw[hA] at h;obtain rfl:=sj h.1;exact h.2.deeper hA (by rw[eK,sc.kind];simp) eF x.toInCall.ns (Heap.get?_none_of_le (er.sF _ er.kJ)) (er.qN _ er.kJ)))
 have T:=qm Sd.tov3 (l:=fd.body) C2 wb;unfold qi at hs⊢;cases hr:cW (E.s d true) (ss fd.body) ρ' H with
 |stuck=>rw[hr] at hs;exact absurd rfl hs
 |ok fl ρ3 H3=>
  rw[hr] at T hs;refine cz (T nofun) (λf s3 h=>?_) λe s3 h=>h.not nofun;refine i7 h λb' ρ4 H4 φ3 e a hR=>?_;clear h;cases e;have back:=pre.back (a.nx.drop gr fresh) a.rel hA (a.fr.tail hA);cases fl with
  |ret v=>refine aq hR λw aa r=>?_;clear hR;subst aa;exact⟨v,U,H3,φ3,rfl,back,r⟩
  |next=>subst hR;exact⟨.none,U,H3,φ3,rfl,back,.none⟩
  |_=>exact absurd rfl hs
 |exc y ρ3 H3=>rw[hr] at T hs;refine cz (T nofun) (λf s3 h=>h.not nofun) λe s3 h=>?_;obtain⟨y',ρ4,H4,φ3,e',a,ex⟩:=h;cases e';have ID:=a.nx.drop gr fresh;refine ah (IH (h₁:=s.heap) a.rel a.fr (λa h=>ID.live a h) (ex.low gr.live) λY s4 nt ex4=>?_);exact⟨y,U,H3,φ3,rfl,pre.back (ID.note nt) (nt.rel a.rel) hA ((nt.fr a.fr).tail hA),ex4⟩
end
end
section
open PySem.W PyProof.Rows Builtin Builtin.ObjectAttr Builtin.Getset_descriptor
section
variable {V:Cf}{G:Fm}{A:Around}{φ₀ J:Ph}{s₀ s:Shared}{U:aC}{H:Hp}{d:Nat}{q:Bool}{E:Ev}
def mv(V:Cf)(c:Nat)(j:Nat)(x:Str)(p:Addr):Prop:=(findIn V.fr (.ref (V.clsAt c)) x=some (some (.ref p)))/\(slotIn V.fr p (V.clsAt c)=some j)/\(typeIn V.fr (.ref p)=some (.type "member_descriptor"))/\(specialIn V.fr (.ref p) "__get__"=some (some (.builtin "member_descriptor.__get__")))/\(takesIn V.fr (.ref p)=some true)
section
variable {b1 b2 b3 b4 b5}(x:mv b1 b2 b3 b4 b5)
def mv.mk:=lI (mv b1 b2 b3 b4 b5) rfl
def mv.find:=x.1
def mv.slot:=x.2.1
def mv.ty:=x.2.2.1
def mv.get:=x.2.2.2.1
def mv.takes:=x.2.2.2.2
end
def iE(V:Cf)(c:Nat)(cd:CD)(m k:Nat)(x:Str)(f:Addr)(fd:FD):Prop:=(V.P.gt[k]?=some (.fn fd))/\(fnIn V.fr f=true)/\(V.nm[m]?=some x)/\(findIn V.fr (.ref (V.clsAt c)) x=some (some (.ref f)))/\(typeIn V.fr (.ref f)=some (.type "function"))/\(V.gv k=some (.ref f))/\(specialIn V.fr (.ref f) "__get__"=some (some (.builtin "function.__get__")))/\(takesIn V.fr (.ref f)=some false)/\(∀a∈cd.bD,V.nm[a]?≠some x)/\(copiedNames.contains x=false)/\(cd.slots=false)
section
variable {b1 b2 b3 b4 b5 b6 b7 b8}(x:iE b1 b2 b3 b4 b5 b6 b7 b8)
def iE.mk:=λm1 m2 m3 m4 m5 m6 m7 m8 m9 qc qb=>(⟨m1,m2,m3,m4,m5,m6,m7,m8,m9,qc,qb⟩:iE b1 b2 b3 b4 b5 b6 b7 b8)
def iE.gt:=x.1
def iE.fn:=x.2.1
def iE.nm:=x.2.2.1
def iE.find:=x.2.2.2.1
def iE.ty:=x.2.2.2.2.1
def iE.gv:=x.2.2.2.2.2.1
def iE.get:=x.2.2.2.2.2.2.1
def iE.takes:=x.2.2.2.2.2.2.2.1
def iE.VI:=x.2.2.2.2.2.2.2.2.1
def iE.VV:=x.2.2.2.2.2.2.2.2.2.1
def iE.IE:=x.2.2.2.2.2.2.2.2.2.2
end
def o3(V:Cf)(c:Nat)(cd:CD)(f:Addr)(fd:FD):Prop:=(V.P.gt[cd.init]?=some (.fn fd))/\(findIn V.fr (.ref (V.clsAt c)) "__init__"=some (some (.ref f)))/\(typeIn V.fr (.ref f)=some (.type "function"))/\(V.gv cd.init=some (.ref f))
section
variable {b1 b2 b3 b4 b5}(x:o3 b1 b2 b3 b4 b5)
def o3.mk:=fq (o3 b1 b2 b3 b4 b5) rfl
def o3.gt:=x.1
def o3.find:=x.2.1
def o3.ty:=x.2.2.1
def o3.gv:=x.2.2.2
end
def gm(V:Cf)(c:Nat)(cd:CD):Prop:=(V.gv c=some (.ref (V.clsAt c)))/\(makesIn V.fr (V.clsAt c)=true)/\(∃f fd,o3 V c cd f fd)/\(findIn V.fr (.ref (V.clsAt c)) "__getattribute__"=some (some (.builtin "object.__getattribute__")))/\(findIn V.fr (.ref (V.clsAt c)) "__getattr__"=some none)/\(findIn V.fr (.ref (V.clsAt c)) "__setattr__"=some (some (.builtin "object.__setattr__")))/\(plainOver V.fr (V.clsAt c)=true)/\(∃k,clsIn V.fr (V.clsAt c)=some k/\k.hasDict=!cd.slots)/\(cd.bD.length<=100)/\(cd.bD.Nodup)/\(∀a∈cd.bD,∀b∈cd.bD,∀x,V.nm[a]?=some x->V.nm[b]?=some x->a=b)/\(∀a∈cd.bD,∃x,V.nm[a]?=some x)/\(cd.slots=false->∀a∈cd.bD,∀x,V.nm[a]?=some x->findIn V.fr (.ref (V.clsAt c)) x=some none)/\(cd.slots=true->∀j a,cd.bD[j]?=some a->∀x,V.nm[a]?=some x->∃p,mv V c j x p)/\(∀m k,cd.meths.lookup m=some k->∃x f fd,iE V c cd m k x f fd)
section
variable {b1 b2 b3}(x:gm b1 b2 b3)
def gm.mk:=λm1 m2 m3 m4 m5 m6 m7 m8 m9 qc qb xS xR Dv Wv=>(⟨m1,m2,m3,m4,m5,m6,m7,m8,m9,qc,qb,xS,xR,Dv,Wv⟩:gm b1 b2 b3)
def gm.Zm:=x.1
def gm.makes:=x.2.1
def gm.init:=x.2.2.1
def gm.A4:=x.2.2.2.1
def gm.Ef:=x.2.2.2.2.1
def gm.Km:=x.2.2.2.2.2.1
def gm.over:=x.2.2.2.2.2.2.1
def gm.DO:=x.2.2.2.2.2.2.2.1
def gm.Lz:=x.2.2.2.2.2.2.2.2.1
def gm.Di:=x.2.2.2.2.2.2.2.2.2.1
def gm.inj:=x.2.2.2.2.2.2.2.2.2.2.1
def gm.nms:=x.2.2.2.2.2.2.2.2.2.2.2.1
def gm.Lx:=x.2.2.2.2.2.2.2.2.2.2.2.2.1
def gm.Lr:=x.2.2.2.2.2.2.2.2.2.2.2.2.2.1
def gm.Dq:=x.2.2.2.2.2.2.2.2.2.2.2.2.2.2
end
structure o9(V:Cf):Prop extends BR V where
 cls:∀c cd,V.P.gt[c]?=some (.cl cd)->gm V c cd
 handed:∀k v,V.gv k=some v->handedIn v=true
variable {h:Heap}
def Gj(ok:o9 V){v:Value}{a:AV}(hx:VR V J h v a):handedIn v=true:=by
 cases a with
 |none=>subst hx;rfl
 |bool=>subst hx;rfl
 |int=>refine ue hx λO aa=>?_;clear hx;subst aa;rfl
 |str=>refine aq hx λO aa O=>?_;clear hx;subst aa;rfl
 |cE=>refine dN hx λO O aa O=>?_;clear hx;subst aa;rfl
 |tup=>refine cO hx λO O O aa O=>?_;clear hx;subst aa;rfl
 |lst=>refine cO hx λO O O aa O=>?_;clear hx;subst aa;rfl
 |dF=>refine mQ hx λO O O O aa O=>?_;clear hx;subst aa;rfl
 |ref=>refine dN hx λO O aa O=>?_;clear hx;subst aa;rfl
 |glob k=>exact ok.handed k _ hx
 |cP=>refine mQ hx λO O O O aa O=>?_;clear hx;subst aa;rfl
 |vals=>refine cO hx λO O O aa O=>?_;clear hx;subst aa;rfl
 |uY=>refine ct hx λO O aa=>?_;clear hx;subst aa;rfl
variable {m:Str->Option Value}
def WO{a:Addr}(x:h.Ns1 a m):∃o,h.get? a=some o/\∀y,lookIn y o=some (m y):=by
 refine Gy x λo es ep e hd hk hu hm=>?_;clear x;refine⟨o,e,λy=>?_⟩;have h1:=hm y;unfold lookIn;rw[hd];dsimp only;unfold nsFind findBy at h1;rw[<- Array.find?_toList] at h1;have hr:(es.toList.any (·.refKey))=false:=by rw[List.any_eq_false];intro en he;refine ct (hk en (Array.mem_toList_iff.mp he)) λnn t YK=>?_;simp[DictEntry.refKey,YK]
 cases hf:es.toList.find? (λe=>e.key.isStr y) with
 |some en=>rw[hf] at h1;simp only[Option.map_some] at h1;rw[<- h1]
 |none=>rw[hf] at h1;simp only[Option.map_none] at h1;rw[<- h1];simp[hr]
structure Fx(V:Cf)(J:Ph)(h:Heap)(vo:Value)(nn c:Nat)(fs:List (Option AV))(cd:CD)(p:Addr×Addr)(ox od:Obj):Prop where
 gt:V.P.gt[c]?=some (.cl cd)
 cls:gm V c cd
 len:fs.length=cd.bD.length
 eq:vo=.ref p.1
 ph:J[nn]?=some p
 inst:InstAt h p.1 ox (V.clsAt c) (some od)
 fr:V.fr.In h
 slo:cd.slots=true->∃dx sl,ox={cls:=.ref (V.clsAt c),dict:=some dx,data:=.plain,slots:=sl}/\mq V J h p c fs dx sl
 dct:cd.slots=false->∃m,mu V J h p c cd.bD fs m/\∀y,lookIn y od=some (m y)
variable {nn c:Nat}{fs:List (Option AV)}{vo:Value}
def DU(ok:o9 V)(R:aZ V J H s.heap)(hv:VR V J s.heap vo (.ref nn))(hH:H[nn]?=some (.inst c fs)):∃cd p ox od,Fx V J s.heap vo nn c fs cd p ox od:=by
 refine aq (ik hv rfl) λp aa hp=>?_;subst aa;refine ue (R.at hH hp) λcd r=>?_;have X:=yv ok.toBR.toOk R;cases hs:cd.slots with
 |true=>refine ct (r.slo hs) λdx sl y=>?_;refine ue (R.live _ y.dct) λod ho=>?_;exact⟨cd,p,_,od,r.cls,ok.cls c cd r.cls,r.len,rfl,hp,⟨y.eq▸y.get,rfl,rfl,ho⟩,X,λO=>⟨dx,sl,rfl,y⟩,λh=>by rw[hs] at h;cases h⟩
 |false=>refine ue (r.dct hs) λm y=>?_;refine aq (WO y.ns) λod ho vB=>?_;exact⟨cd,p,_,od,r.cls,ok.cls c cd r.cls,r.len,rfl,hp,⟨y.get,rfl,rfl,ho⟩,X,λh=>(by rw[hs] at h;cases h),λO=>⟨m,y,vB⟩⟩
def Lw(a:Nat):∀l:List Nat,gz l a=l.idxOf a:=by
 intro l
 induction l with
 |nil=>exact rfl
 |cons x l ih=>
  show(match Nat.beq x a with|true=>0|false=>gz l a+1)=_;rw[List.idxOf_cons,ih];cases h:Nat.beq x a with
  |true=>rw[show(x==a)=true from by rw[beq_iff_eq];exact bV h];rfl
  |false=>rw[show(x==a)=false from by rw[beq_eq_false_iff_ne];exact Nat.ne_of_beq_eq_false h];rfl
variable {a:Nat}
def DX{l:List Nat}(h:l.idxOf a<l.length):l[l.idxOf a]?=some a:=by rw[pF h,List.getElem_idxOf]
def ad2(ok:o9 V)(pre:ao V d q G J U H s){x:Str}{v:AV}{cd:CD}(hv:VR V J s.heap vo (.ref nn))(hH:H[nn]?=some (.inst c fs))(hc:V.P.gt[c]?=some (.cl cd))
  (hx:V.nm[a]?=some x) (hf:fs[cd.bD.idxOf a]?=some (some v)):fS V G J s (getAttr vo x true) v:=by
 intro Q Ex h;refine zr (DU ok pre.rel hv hH) λMG p ox od m=>?_;have:=m.gt;rw[hc] at this;cases this;have C:=m.cls;have hj:=DX (l:=cd.bD) (a:=a) (by rw[<- m.len];exact(mG.mp hf).1);rw[m.eq];refine aq C.DO λk hk hd=>?_;cases hs:cd.slots with
 |true=>refine dN (m.slo hs) λdx sl aa y=>?_;subst aa;refine ue (C.Lr hs _ a hj x hx) λpp f=>?_;refine aq (y.fld _ v hf) λval g1 g2=>?_;exact get_bind m.fr m.inst C.A4 (findObj_data (by rw[hk];rfl) f.find f.get f.takes) C.Ef (wpAny_call (slot_get (s:={s with toks:=s.toks+1}) m.fr m.inst f.slot (by show(sl[_]?).join=_;rw[g1];rfl) (handed_on (Gj ok g2) (h val _ (ax.toks s _) g2))))
 |false=>
  refine aq (m.dct hs) λmm y vB=>?_;rw[hs] at hd;refine bB (y.fld.some _ a v hj hf) λx' val hy m1 m2=>?_;rw[hx] at hy;obtain rfl:=sj hy;have Eg:findObj V.fr (V.clsAt c) (some od) x=some (.value val):=by
   unfold findObj;rw[hk,pj,C.Lx hs a (jS hj) x hx,pj];dsimp only;rw[pj,pj];dsimp only;unfold W.ownOf;rw[hd];show(lookIn x od).bind _=_;rw[vB,m1]
   rfl
  exact get_value m.fr m.inst C.A4 Eg (Gj ok m2) (h val _ (ax.toks s _) m2)
noncomputable abbrev zM(i:Nat)(v:Value)(o:Obj):Obj:={o with slots:=(o.slots++Array.replicate (i+1-o.slots.size) none).setIfInBounds i (some v)}
variable {ox:Obj}
def SF{prog:Program}{w:World}{R:Result->Shared->Prop}{fr:Frag}{x C p:Addr}{od:Option Obj}{v:Value}{i:Nat}(XX:fr.In s.heap)(I:InstAt s.heap x ox C od)(hp:slotIn fr p C=some i)(hi:i<1000)
  (h:R (.ok (.ret .none)) {s with heap:=s.heap.update x (zM i v)}):
  codeAny (model prog w) A (.call (.builtin "member_descriptor.__set__") ⟨[.ref p,.ref x,v],[]⟩) R s:=by
 obtain⟨nm,tn,owner,behind,tb,dd,sl,cd,ho,hc,hm,hb,rfl⟩:=slot_of XX hp;obtain⟨hh,g,dr,t,os⟩:=s;have L0:=I.type (M:=model prog w);have L1:=looks_mroIn (M:=model prog w) XX hm;have L2:Looks (model prog w) hh (Slots.slotNamesOf (.ref C)) cd.slotNames:=(looks_clsIn XX hc).andThen .now;have hx:=I.at_;dsimp only at ho hx L0 L1;have f0:=looks_field (M:=model prog w) ho 0 (v:=.str nm tn) rfl;have f1:=looks_field (M:=model prog w) ho 1 (v:=owner) rfl;have f3:=looks_field (M:=model prog w) ho 3 (v:=.builtin "proto.slot#set") rfl;have f4:=looks_field (M:=model prog w) ho 4 (v:=.int behind tb) rfl;have f5:Looks (model prog w) hh (descrItself (.ref p)) [.ref p]:=((Looks.ld (part:=none) ho).andThen .now).andThen (Looks.of_pure (by kernel_rfl));refine codeAny_call_builtin KF.slot_mset.plain KF.entry_mset (KF.slot_mset.check _ _ _ _ _ _ _ _ ⟨_,ho,rfl⟩ (KF.args_mset _ _ _) ?_);unfold Builtin.«member_descriptor.__set__» descrSet descrStoreThrough descrCheckInstance descrNameAndClass isInstance
 repeat lk
 refine⟨Code.quiet_builtin _ (by decide +kernel),codeAny_builtin KF.entry_slotset ?_⟩;unfold Builtin.«proto.slot#set» Slots.target
 repeat lk
 rw[if_neg hb];refine aH (ah ?_);unfold setSlotAt;dsimp only;rw[if_neg (by rw[sizeLine_eq];exact Nat.not_le_of_lt (nP hi (by decide)))];exact wpAny_updatePart hx (aH h)
def W2{α:Type}[DecidableEq α]:∀(l L:List α),l.Nodup->(∀x∈l,x∈L)->l.length<=L.length:=by
 intro t
 induction t with
 |nil=>intro _ _ _;exact jP _
 |cons x t ih=>intro L hn hs;rw[ie] at hn;have a:=ih (L.erase x) hn.2 λy hy=>(List.mem_erase_of_ne (show y≠x from λq=>hn.1 (q▸hy))).mpr (hs y (bS _ hy));rw[List.length_erase_of_mem (hs x bA)] at a;have:=List.length_pos_of_mem (hs x bA);rw[i5];exact aM (si a) (aW (pn this))
noncomputable def vN(en:DictEntry):Str:=match en.key with|.str nn _=>nn|_=>⟨#[]⟩
def VE{a:Addr}(x:h.Ns1 a m){L:List Str}(hL:∀y v,m y=some v->y∈L):∃o es ep,h.get? a=some o/\o.data=.dict es ep/\es.size<=L.length:=by
 refine Gy x λo es ep e hd hk hu hm=>?_;clear x;have hf:∀en∈es.toList,en.key.isStr (vN en)=true:=λen he=>by refine ct ((λen he=>hk en (Array.mem_toList_iff.mp he):∀en∈es.toList,∃nn t,en.key=.str nn t) en he) λnn t hq=>?_;unfold vN;rw[hq];exact beq_self_eq_true nn
 have nd:(es.toList.map vN).Nodup:=by unfold List.Nodup;rw[List.pairwise_map];refine(List.Pairwise.and_mem.mp hu).imp λ{a b} ⟨ha,hb,r⟩ e=>?_;exact r (vN a) (hf a ha) (e▸hf b hb)
 have sub:∀y∈es.toList.map vN,y∈L:=λy hy=>by
  refine aq (bW.mp hy) λen he aa=>?_;subst aa;have:(nsFind es (vN en)).isSome=true:=by unfold nsFind findBy;rw[Option.isSome_map,Array.find?_isSome];exact⟨en,Array.mem_toList_iff.mp he,hf en he⟩
  refine ue (sy.mp this) λv hv=>?_;exact hL _ v ((hm _).symm.trans hv)
 refine⟨o,es,ep,e,hd,?_⟩;have:=W2 _ L nd sub;rwa[aJ,pz] at this
variable {p:Addr×Addr}
def UZ(ok:o9 V)(pre:ao V d q G J U H s){vv:Value}{x:Str}{v:AV}{cd:CD}{od:Obj}(m:Fx V J s.heap vo nn c fs cd p ox od)(hw:VR V J s.heap vv v)(hx:V.nm[a]?=some x)(hf:cd.bD.idxOf a<fs.length)(hs:cd.slots=true):
  ag V G J s (setAttr (.ref p.1) x vv) (.ok () U (ai H (.inst c (fs.set (cd.bD.idxOf a) (some v))) nn)) (λO O O O=>True):=by
 have C:=m.cls;refine dN (m.slo hs) λdx sl aa y=>?_;subst aa;have few:cd.bD.idxOf a<1000:=by have:=C.Lz;have:=m.len;exact NV ‹_› ‹_› ‹_›
 refine ue (C.Lr hs _ a (DX (l:=cd.bD) (a:=a) (m.len▸hf)) x hx) λpp f=>?_;generalize cd.bD.idxOf a=j at *;have ht:takerIn V.fr (V.clsAt c) x=some (some (.ref pp)):=by unfold takerIn;rw[f.find,pj];dsimp only;rw[f.takes];rfl
 have gV:Heap.SameBut p.2 s.heap (s.heap.update p.1 (zM j vv)):=by rw[y.eq];exact⟨Heap.size_update ..,λb hb=>pE _ _ (fi hb)⟩
 have hn:(s.heap.update p.1 (zM j vv)).get? p.2=some (zM j vv {cls:=.ref (V.clsAt c),dict:=some dx,data:=.plain,slots:=sl}):=by rw[y.eq];exact qG _ y.get rfl
 refine ag.put pre m.ph λQ Ex h=>set_plain m.fr m.inst C.Km (osa_descr (s:={s with toks:=s.toks+1}) KF.slot_mset m.fr m.inst C.over ht f.ty (SF (s:={s with toks:=s.toks+1}) m.fr m.inst f.slot few ?_));refine h () _ (ju.mk gV rfl rfl) ⟨cd,kY.mk m.gt (by rw[List.length_set];exact m.len) (λO=>⟨dx,_,mq.mk y.eq hn y.dct (λi u hu=>?_)⟩) (λh=>by rw[hs] at h;cases h)⟩ ⟨_,hn⟩ trivial;by_cases bY:j=i
 ·subst bY;rw[uh hf] at hu;cases hu;refine⟨vv,?_,hw.put m.ph gV⟩;rw[Array.getElem?_setIfInBounds_self_of_lt];rw[Array.size_append,Array.size_replicate];exact Nat.sub_le_iff_le_add'.mp (bf _)
 ·rw[pA bY] at hu;refine aq (y.fld i u hu) λval g1 g2=>?_;refine⟨val,?_,g2.put m.ph gV⟩;rw[Array.getElem?_setIfInBounds_ne bY,Array.getElem?_append_left (wm.mp g1).1];exact g1
def U2(ok:o9 V)(pre:ao V d q G J U H s){vv:Value}{x:Str}{v:AV}{cd:CD}{od:Obj}(m:Fx V J s.heap vo nn c fs cd p ox od)(hw:VR V J s.heap vv v)(hx:V.nm[a]?=some x)(hf:cd.bD.idxOf a<fs.length)(hs:cd.slots=false):
  ag V G J s (setAttr (.ref p.1) x vv) (.ok () U (ai H (.inst c (fs.set (cd.bD.idxOf a) (some v))) nn)) (λO O O O=>True):=by
 have C:=m.cls;have hj:=DX (l:=cd.bD) (a:=a) (m.len▸hf);have hm:=jS hj;refine aq (m.dct hs) λmm y vB=>?_;refine aq C.DO λk hk hd=>?_;rw[hs] at hd;generalize cd.bD.idxOf a=j at *;refine ag.put pre m.ph λQ Ex h=>set_plain m.fr m.inst C.Km (osa_open (s:={s with toks:=s.toks+1}) m.fr m.inst C.over (by unfold takerIn;rw[C.Lx hs a hm x hx];rfl:takerIn V.fr (V.clsAt c) x=some none) λb=>?_);have names:∀y' u,(if y'=x then some vv else mm y')=some u->∃b∈cd.bD,V.nm[b]?=some y':=λy' u hu=>by
  by_cases q:y'=x
  ·subst q;exact⟨a,hm,hx⟩
  ·rw[if_neg q] at hu;exact y.fld.name y' u hu
 dsimp only;refine ah (aH (ah (ah (wpAny_loadPart y.get (ah ((looks_clsIn m.fr hk _ _ _ _ (λO O e=>e) ?_)))))));rw[hd];refine aH (a:=some p.2) (ah (aH (ah ?_)));refine wpAny_nsSet1 (s:={s with toks:=s.toks+1}) y.ns λh' dZ gV=>?_;obtain⟨o',es,ep,Ku,Ej,hz⟩:=VE (L:=cd.bD.filterMap λa=>V.nm[a]?) dZ λy' u hu=>aq (names y' u hu) λb hb e=>qF.mpr ⟨b,hb,e⟩;have Kg:es.size<=100:=aM hz (aM (List.length_filterMap_le ..) C.Lz);refine ah (wpAny_lookBehind Ku (by rw[Ej];exact pastItsLine_dict (by rw[sizeLine_eq];exact Of ‹_›)) ?_);have AW:h'.get? p.1=some (instObj (V.clsAt c) p.2):=(gV.2 p.1 λq=>y.out (q▸pq (jS m.ph))).trans y.get;have vr:∀{u:Value} {w:AV},VR V J s.heap u w->VR V J h' u w:=λr=>r.put m.ph gV;have other:∀{i b:Nat} {y':Str},cd.bD[i]?=some b->j≠i->V.nm[b]?=some y'->y'≠x:=λhb bY hy q=>by subst q;have:=C.inj _ (jS hb) a hm _ hy hx;subst this;exact bY ((List.getElem?_inj (mG.mp hj).1 C.Di).mp (hj.trans hb.symm))
 refine aH ?_;refine h () _ (ju.mk gV rfl rfl) ⟨cd,kY.mk m.gt (by rw[List.length_set];exact m.len) (λh=>(by rw[hs] at h;cases h)) (λO=>⟨_,mu.mk y.out AW dZ ⟨names,λi b hb qe=>?_,λi b w hb qe=>?_⟩⟩)⟩ ⟨_,Ku⟩ trivial
 ·by_cases bY:j=i
  ·subst bY;rw[uh hf] at qe;cases qe
  ·rw[pA bY] at qe;obtain⟨y',hy,V4⟩:=y.fld.none i b hb qe;exact⟨y',hy,(if_neg (other hb bY hy)).trans V4⟩
 ·by_cases bY:j=i
  ·subst bY;rw[hj] at hb;obtain rfl:=sj hb;rw[uh hf] at qe;cases qe;exact⟨x,vv,hx,if_pos rfl,vr hw⟩
  ·rw[pA bY] at qe;obtain⟨y',val,hy,m1,m2⟩:=y.fld.some i b w hb qe;exact⟨y',val,hy,(if_neg (other hb bY hy)).trans m1,vr m2⟩
def zK:Slot "list_iterator" "__getattribute__" "object.__getattribute__":=.of (owner:="object") (n:="__getattribute__") (by rw[typeLookup_type,zb];kernel_rfl) (by decide +kernel) (by decide +kernel) (by decide +kernel) (.inl (by decide +kernel)) (by rw[isSubtype_type];kernel_rfl)
def aav:entryFor table "object.__getattribute__"=some Builtin.«object.__getattribute__»:=entryFor_of_tree (by kernel_rfl)
def ad7(a b:Value):argsOk "object.__getattribute__" ⟨[a,b],[]⟩:=by unfold argsOk;kernel_rfl
def zu:typeOf (.builtin "list_iterator.__next__")=pure (.type "wrapper_descriptor"):=by show builtinType _=_;rw[builtinType_eq_fast];kernel_rfl
def Cw:Slot "wrapper_descriptor" "__get__" "wrapper_descriptor.__get__":=.of (owner:="wrapper_descriptor") (n:="__get__") (by rw[typeLookup_type,zb];kernel_rfl) (by decide +kernel) (by decide +kernel) (by decide +kernel) (by first|exact .inl (by decide +kernel)|exact .inr (by decide +kernel)) (by rw[isSubtype_type];kernel_rfl)
def aau:entryFor table "wrapper_descriptor.__get__"=some Builtin.«wrapper_descriptor.__get__»:=entryFor_of_tree (by kernel_rfl)
def ad6(a b c:Value):argsOk "wrapper_descriptor.__get__" ⟨[a,b,c],[]⟩:=by unfold argsOk;kernel_rfl
def QF:typeLookup (.type "wrapper_descriptor") "__set__"=pure none:=by rw[typeLookup_type,zb];kernel_rfl
def QG:typeLookup (.type "wrapper_descriptor") "__delete__"=pure none:=by rw[typeLookup_type,zb];kernel_rfl
def Zt{prog:Program}{w:World}{I:Addr}{vs:Array Value}{sl:Array (Option Value)}{Q:Value->Shared->Prop}{Ex:Value->Shared->Prop}(e:s.heap.get? I=some {cls:=.type "list_iterator",dict:=none,data:=.fields vs,slots:=sl})
  (h:Q (.ref s.heap.objs.size) {s with heap:=s.heap.push {cls:=.type "method-wrapper",data:=.fields #[.builtin "list_iterator.__next__",.ref I]},toks:=s.toks+1}):
  wpAny (model prog w) A (getAttr (.ref I) "__next__" true) Q Ex s:=by
 have T0:Looks (model prog w) s.heap (typeOf (.ref I)) (.type "list_iterator"):=(Looks.ld e).andThen .now;have G:∀(s':Shared) (Q':Option Value->Shared->Prop) (E':Value->Shared->Prop) (A':Around),Q' (some (.builtin "wrapper_descriptor.__get__")) s'->wpAny (model prog w) A' (specialOf (.builtin "list_iterator.__next__") "__get__") Q' E' s':=λs' Q' E' A' h=>by unfold specialOf;exact ah (ib zu (ib Cw.lookup h))
 refine ah (wpAny_mkText (c8 (ah (T0 _ _ _ _ (λO O e=>e) (ah (ib zK.lookup ?_))))));dsimp only;rw[if_neg (by decide)];unfold getAttrByItsOwn;refine ah (aH (ah (wpAny_attempt (c8 ?_))));unfold callGetattribute;rw[if_neg (by decide)];unfold boundAndCalled;refine ah (ib (zK.bind _) ?_);show wpAny _ _ (call (.builtin "object.__getattribute__") [.ref I,.str _ s.toks]) _ _ _;refine wpAny_call (codeAny_call_builtin zK.plain aav (zK.check _ _ _ _ _ _ _ _ ⟨_,e,rfl⟩ (ad7 _ _) ?_));refine ah (aH (ah (aH (ah (T0 _ _ _ _ (λO O e=>e) ?_)))));have TS:∀(s':Shared) (Q':Bool->Shared->Prop) (E':Value->Shared->Prop) (A':Around),Q' false s'->wpAny (model prog w) A' (takesStores (.builtin "list_iterator.__next__")) Q' E' s':=λs' Q' E' A' h=>by unfold takesStores specialOf;refine ah (ah (ib zu (ib QF ?_)));rw[if_neg (by decide)];exact ah (ah (ib zu (ib QG (aH h))))
 refine ah ?_;unfold Builtin.ObjectAttr.find;refine ah (ib slot_listiter_next.lookup ?_);refine ah (G _ _ _ _ (ah ?_));show wpAny _ _ (do if <- takesStores (.builtin "list_iterator.__next__") then pure (some (Value.builtin "wrapper_descriptor.__get__",Value.builtin "list_iterator.__next__")) else pure none) _ _ _;refine ah (TS _ _ _ _ (aH ?_));unfold ownThenClass inOwnDict ObjectAttr.ownDict instanceDict;dsimp only;refine ah (ah (ah (wpAny_loadPart e ?_)));dsimp only;refine ah (wpAny_loadPart e ?_);dsimp only;rw[if_pos (by decide)];refine aH (aH ?_);dsimp only;unfold copiedAttributeGuard;dsimp only;rw[if_neg (by decide +kernel)];refine ah (aH (ah (wpAny_rule (aH ?_))));dsimp only;unfold bindTo;dsimp only;refine ah (c8 (wpAny_call (codeAny_call_builtin Cw.plain aau (Cw.check _ _ _ _ _ _ _ _ ?_ (ad6 _ _ _) ?_))))
 ·exact zu
 obtain⟨hh,g,dr,t,os⟩:=s;unfold Builtin.«wrapper_descriptor.__get__»
 repeat lk
 exact h
def Fj(ok:o9 V):wg V where
 get:=λ{d q G J U H s vo ov x a} pre hv hx=>ag.opt pre λv e=>by
  refine ub e λnn h1 e=>?_;refine ub e λo h2 e=>?_;rw[cQ] at h2;have Kj:VR V J s.heap vo (.ref nn):=by cases ov<;>first|(cases h1;exact hv)|exact aR h1
  cases o with
  |inst c fs=>refine ub e λcd h3 e=>?_;refine ub e λr h4 e=>?_;have e:r=some v:=e;subst e;rw[cQ,Lw] at h4;exact ad2 ok pre Kj h2 (EX h3) hx h4
  |iter m i=>refine ur e λh3 e=>?_;obtain rfl:=sj e;cases bV h3;have:=ok.nms 9 (by decide) (by decide);rw[hx] at this;obtain rfl:=sj this;refine aq (ik Kj rfl) λp aa hp=>?_;subst aa;refine ct (pre.rel.at h2 hp) λqq sl y=>?_;intro Q Ex h;exact Zt (y.eq▸y.get) (h _ _ ((ax.push s _ _)) ⟨_,_,_,_,rfl,nH.mk hp (cY _ rfl) rfl rfl (pre.rel.fresh (bf _))⟩)
  |_=>exact aR e
 set:=λ{d q G J U H s vo ov x a vv v} pre hv hw hx=>ag.wJ λH' e=>by
  refine ub e λnn h1 e=>?_;refine ub e λr h2 e=>?_;refine ub e λcd h3 e=>?_;refine ur e λh4 e=>?_;obtain rfl:=sj e;rw[Lw] at h4⊢;have h4:=bG.mp h4;refine zr (DU ok pre.rel (by cases ov<;>first|(cases h1;exact hv)|exact aR h1:VR V J s.heap vo (.ref nn)) (X5 h2)) λMG p ox od m=>?_;have:=m.gt;rw[EX h3] at this;cases this;rw[m.eq,sL (some v)];cases hs:cd.slots with
  |true=>exact UZ ok pre m hw hx h4 hs
  |false=>exact U2 ok pre m hw hx h4 hs
end
end
section
open PySem.W PyProof.Rows Builtin
section
variable {V:Cf}{G:Fm}{A:Around}{φ₀ J:Ph}{s₀ s:Shared}{U:aC}{H:Hp}{d:Nat}{q:Bool}{E:Ev}
def ac6(it:Value):checkBoundCall "list_iterator.__next__" ⟨[it],[]⟩=pure ():=by
 unfold checkBoundCall
 kernel_rfl
def UU{as:Args}:(Code.builtin "list_iterator.__next__" as).quiet=true:=Code.quiet_builtin _ (by decide +kernel)
variable {Q Ex:Value->Shared->Prop}
def IC{b I l:Addr}{i:Nat}{o:Obj}{oi ol:Obj}{items:Array Value}{nl:Nat}{prog:Program}{w:World}(hb:s.heap.get? b=some o)(hc:o.cls=.type "method-wrapper")(hd:o.data=.fields #[.builtin "list_iterator.__next__",.ref I])
  (ho:s.heap.get? I=some oi) (KI:oi.data=.fields #[.ref l,.int i 0]) (YF:s.heap.get? l=some ol) (YU:ol.data=.seq items nl)
  (h:wpAny (model prog w) A.in1 (match items[i]? with
   |some x=>do setField (.ref I) 1 (rawInt ((i:Int)+1));ret x
   |none=>do setField (.ref I) 0 .none;raiseNew (<- newExc (.type "StopIteration") [])) (λfin s'=>match fin with|.done (.ret v)=>Q v s'|_=>False) Ex s):
  wpAny (model prog w) A (call (.ref b) []) Q Ex s:=by
 refine wpAny_call (uq ?_);show wpAny _ A.in1 (callAny (.ref b) ⟨[],[]⟩) _ _ s;unfold callAny;refine ah (wpAny_load hb ?_);rw[hd,hc];dsimp only;rw[if_pos (by decide)];rw[show(#[Value.builtin "list_iterator.__next__",Value.ref I]:Array Value)[0]?=some (.builtin "list_iterator.__next__") from rfl,show(#[Value.builtin "list_iterator.__next__",Value.ref I]:Array Value)[1]?=some (.ref I) from rfl];dsimp only;rw[if_pos (by decide)];refine ah (ib (ac6 _) (aH ⟨UU,codeAny_builtin entry_listiter_next ?_⟩));rw[Around.under_plainId slot_listiter_next.plain];show wpAny _ _ (field (.ref I) 0>>=_) _ _ s;refine ah (qH ho KI (x:=.ref l) rfl ?_);show wpAny _ _ (if(Value.ref l==Value.none)=true then _ else _) _ _ s;rw[if_neg (show ¬ ((Value.ref l==Value.none)=true) from qE)];show wpAny _ _ (field (.ref I) 1>>=_) _ _ s;refine ah (qH ho KI (x:=.int i 0) rfl ?_);show wpAny _ _ (seqItems? (.ref l)>>=_) _ _ s;refine ah (wpAny_seqItems YF YU ?_);simp only[Int.toNat_natCast];cases hx:items[i]? with
 |some x=>rw[hx] at h;refine cz h (λfin s' z=>?_) λO O z=>z;rcases fin with(_|_|_|_)|_<;>first|exact z|exact z.elim
 |none=>rw[hx] at h;refine ah (wpAny_rule (cz h (λfin s' z=>?_) λO O z=>z));rcases fin with(_|_|_|_)|_<;>first|exact z|exact z.elim
variable {vf:Value}
def VA(pre:ao V d true G J U H s){nn m i:Nat}{l:List AV}(hv:VR V J s.heap vf (.cP nn))(hH:H[nn]?=some (.iter m i))(hm:bx H m=some l):
  ag V G J s (call vf []) ((match l[i]? with|some v=>.ok v U (ai H (.iter m (i+1)) nn)|none=>.exc 0 U (ai H .dead nn)):dG AV) (VR V):=by
 refine mQ hv λb a d' o aa x=>?_;clear hv;subst aa;refine ct (pre.rel.at hH x.ph) λqq sl y=>?_;have eq:a=d':=y.eq;subst eq;refine ll (pre.rel.list hm y.ph) λO items nl z=>?_;have gV:∀f,Heap.SameBut a s.heap (s.heap.update a f):=λf=>nS ..;cases hl:l[i]? with
 |some v=>refine aq (z.all.get hl) λw hw r=>?_;refine ag.put pre x.ph λQ Ex h=>IC x.get x.cls x.data y.get rfl z.at_ rfl ?_;rw[show items.toArray[i]?=some w by simpa using hw];refine ah (uk y.get rfl (by simp) (aH ?_));have hn:=qG (Obj.mapFields (·.setIfInBounds 1 (rawInt ((i:Int)+1)))) y.get rfl;exact h w _ (ju.mk (gV _) rfl rfl) ⟨qq,sl,oZ.mk rfl y.ph (hn.trans rfl)⟩ ⟨_,hn⟩ (r.put x.ph (gV _))
 |none=>
  intro _;have hx:items.toArray[i]?=none:=by
   have:items.length<=i:=by rw[z.all.length];exact ui.mp hl
   simpa using this
  refine IC x.get x.cls x.data y.get rfl z.at_ rfl ?_;rw[hx];refine ah (uk y.get rfl (by simp) ?_);refine ah ?_;simp only[newExc,newTuple];refine ah (wx ?_ (by size_fits));refine ah (m:=firstArgMember _ _) (ib (a:=Value.none) (by first|rfl|(simp only[firstArgMember];rfl)) ?_);refine wx ?_ (by size_fits);simp -iota only[raiseNew];refine ah (wpAny_handled ?_);rw[show G.A.in1.handled=none from pre.hd rfl];refine ah (aH (wpAny_throw ?_));have hn:=qG (Obj.mapFields (·.setIfInBounds 0 Value.none)) y.get rfl;have R1:aZ V J (H.set nn .dead) (s.heap.update a (Obj.mapFields (·.setIfInBounds 0 Value.none))):=pre.rel.put x.ph (gV _) trivial ⟨_,hn⟩;have E1:=vK x.ph (gV (Obj.mapFields (·.setIfInBounds 0 Value.none))) [];have lv:=xb (gV (Obj.mapFields (·.setIfInBounds 0 Value.none))) ⟨_,hn⟩;have sz:(s.heap.update a (Obj.mapFields (·.setIfInBounds 0 Value.none))).objs.size=s.heap.objs.size:=Heap.size_update ..;rw[sL];generalize s.heap.update a (Obj.mapFields (·.setIfInBounds 0 Value.none))=hu at *;generalize hto:({cls:=.type "tuple",dict:=none,data:=.seq ([]:List Value).toArray}:Obj)=to;have g1:ax {s with heap:=hu} {s with heap:=hu.push to}:=ax.push {s with heap:=hu} _ s.toks;have g2:∀eo,ax {s with heap:=hu} {s with heap:=(hu.push to).push eo}:=λeo=>g1.trans (ax.push {s with heap:=hu.push to} eo s.toks);have E2:∀eo,dD [] J s.heap ((hu.push to).push eo):=λeo=>E1.trans ((g2 eo).ext [] J) (Gr.refl ..);have le:s.heap.objs.size<=(hu.push to).objs.size:=by rw[pf,sz];exact i3 _
  exact⟨0,U,_,J,rfl,(dI.mk (Nx.mk ((E2 _).IS) (Gr.refl ..) rfl rfl (λa' h=>(g2 _).live a' (lv a' h))) (R1.grow (g2 _)) (pre.er.mono (E2 _) (Gr.refl ..)) (pre.fr.mono (E2 _) (Gr.refl ..) λO ha=>nomatch ha)),
   _,_,_,rfl,k6.mk (cY _ rfl) rfl rfl (iD.mk (jH (aM pre.rel.base le)) (pre.rel.fresh le) (jH le)) (.inl rfl)⟩
def Rv(C:Addr)(rest:List Value):(Code.builtin "type.__call__" ⟨.ref C::rest,[]⟩).weight=1:=by kernel_rfl
def Rw(C:Addr)(rest:List Value):(Code.builtin "type.__call__" ⟨.ref C::rest,[]⟩).cUnits=1:=by kernel_rfl
def Rx(C:Addr)(rest:List Value):(Code.builtin "type.__call__" ⟨.ref C::rest,[]⟩).envs=[]:=by kernel_rfl
noncomputable def zw(A:Around)(C:Addr)(rest:List Value):Around:=A.under (.builtin "type.__call__" ⟨.ref C::rest,[]⟩)
def wQ(G:Fm)(C:Addr)(rest:List Value):Fm:=⟨G.K,zw G.A C rest,G.env,G.X⟩
def GN(C:Addr)(rest:List Value):(zw A C rest).frames=A.frames:=by show pushEnvs (Code.builtin "type.__call__" ⟨.ref C::rest,[]⟩).envs A.frames=_;rw[Rx];rfl
def bX.fm{h:Heap}{A':Around}(R:bX V G J U h):bX V ⟨G.K,A',G.env,G.X⟩ J U h:=(bX.mk R.kind R.rM R.rU R.fH R.sF R.qN R.kJ R.Ba (aq R.ns λm a b=>⟨m,a,kg.mk b.kind b.val⟩) (λx k h1 h2=>ct (R.nE x k h1 h2) λc ov w=>⟨c,ov,gn.mk w.look w.kind w.cell w.loc w.out w.low w.own w.val⟩) R.apart R.inj R.zS)
variable {rest:List Value}
def dB.tc{h:Heap}{C:Addr}(F:dB V (wQ G C rest) J h):dB V G J h:=by refine cO F.fr λd0 outer L a1 r=>?_;exact⟨d0,outer,L,(GN C rest).symm.trans a1,r⟩
def ao.under(pre:ao V (d+1) q G J U H s)(C:Addr)(rest:List Value):ao V d q (wQ G C rest) J U H s:=by
 refine(ao.mk pre.rel pre.er.fm (kW.mk ?_ ?_) pre.hd ?_)
 ·show G.A.depth+(Code.builtin "type.__call__" ⟨.ref C::rest,[]⟩).weight+_+_<_;rw[Rv];have:=pre.room.depth;exact FC ‹_›
 ·show G.A.units+(Code.builtin "type.__call__" ⟨.ref C::rest,[]⟩).cUnits+_+_<_;rw[Rw];have:=pre.room.units;exact NJ ‹_›
 ·refine cO pre.fr.fr λd0 outer L a1 r=>?_;exact⟨d0,outer,L,(GN C rest).trans a1,r⟩
def dI.tc{C:Addr}{φ':Ph}{ρ':aC}{H':Hp}{s':Shared}(a:dI V (wQ G C rest) J s φ' ρ' H' s'):dI V G J s φ' ρ' H' s':=(dI.mk a.nx a.rel (bX.fm (G:=wQ G C rest) (A':=G.A) a.er) a.fr.tc)
def ao.push{p:Addr×Addr}{o:AO}{s':Shared}(pre:ao V d q G J U H s)(g:ax s s')(h1:s.heap.objs.size<=p.2)(h2:∃o,s'.heap.get? p.2=some o)(ho:OR V (J++[p]) s'.heap p o):ao V d q G (J++[p]) U (H++[o]) s'/\Nx G.X J (J++[p]) s s':=
 have gr:Gr J (J++[p]) s.heap:=Gr.push J p (jH h1)
 ⟨(ao.mk (pre.rel.push g.keep h1 h2 (g.at pre.rel) ho) (pre.er.mono (g.ext [] J) gr) pre.room pre.hd (pre.fr.mono (g.ext [] J) gr λO ha=>nomatch ha)),Nx.mk (g.ext G.X J) gr g.gens g.os g.live⟩
variable {vs:List Value}
def Mn(pre:ao V d true G J U H s){s1:Shared}{φ1:Ph}{C x:Addr}{k:Nat}{r:dG AV} 
  (p1:Nx G.X J φ1 s s1) (hx:∃d,φ1[k]?=some (x,d)) (hr:tQ U k r≠.stuck) (hρ:∀v ρ' H',r=.ok v ρ' H'->ρ'=U) (T:uc V (wQ G C rest) φ1 s1 vf vs r):
  codeAny (model V.prog V.w) (zw G.A C rest) (.call vf ⟨vs,[]⟩) (InitBack x (yM (kH V G J s (tQ U k r) (VR V)) (l6 V G J s (tQ U k r)))) s1:=by
 cases r with
 |stuck=>exact absurd rfl hr
 |exc=>exact absurd rfl hr
 |ok v ρ' H'=>
  cases v with
  |none=>
   have:=hρ _ _ _ rfl;subst this;refine qI (T nofun) λrr s' z=>?_
   set_option tactic.hygienic true in rcases rr with e|(_|_|_|_)
   ·exact z.not nofun
   all_goals first|exact z.elim|skip
   rename_i v;obtain⟨b,ρ2,H2,φ2,e,a,hR⟩:=z;cases e;subst hR;obtain⟨dd,hx⟩:=hx;exact⟨rfl,_,_,_,φ2,rfl,a.tc.up p1,VR.ref (a.nx.gr.get hx)⟩
  |_=>exact absurd rfl hr
variable {cd:CD}
def IW:(cd.bD.map λO=>(none:Option AV)).length=cd.bD.length:=aJ ..
def IV{j:Nat}{v:AV}(h:(cd.bD.map λO=>(none:Option AV))[j]?=some (some v)){p:Prop}:p:=by rw[qD] at h;refine um h λO O h=>?_;exact aR h
def abx(ok:o9 V)(Sd:mj V E)(pre:ao V d true G J U H s){c:Nat}{xs:List AV}(hc:V.P.gt[c]?=some (.cl cd))(hg:V.gv c=some vf)(hv:aQ V J s.heap vs xs):
  ag V G J s (call vf vs) (vV E d c cd xs U H) (VR V):=by
 cases d with
 |zero=>exact ag.stuck
 |succ d=>
 have C:=ok.cls c cd hc;rw[C.Zm] at hg;obtain rfl:=sj hg;refine ct C.init λfI fd i=>?_;have XX:=yv ok.toBR.toOk pre.rel;have pu:=pre.under (V.clsAt c) vs;have gd:ax s {s with heap:=s.heap.push emptyDict}:=ax.push s emptyDict s.toks;have Lg:ax {s with heap:=s.heap.push emptyDict} {s with heap:=(s.heap.push emptyDict).push (instObj (V.clsAt c) s.heap.objs.size)}:=ax.push {s with heap:=s.heap.push emptyDict} _ s.toks;have wU:(s.heap.push emptyDict).objs.size=s.heap.objs.size+1:=pf ..;have ed:((s.heap.push emptyDict).push (instObj (V.clsAt c) s.heap.objs.size)).get? s.heap.objs.size=some emptyDict:=ij _ (cY _ rfl);have ex:((s.heap.push emptyDict).push (instObj (V.clsAt c) s.heap.objs.size)).get? (s.heap.objs.size+1)=some (instObj (V.clsAt c) s.heap.objs.size):=by rw[<- wU];exact cY _ rfl
 have make:∀{Q Ex},codeAny (model V.prog V.w) (zw G.A (V.clsAt c) vs) (.call (.ref fI) ⟨.ref (s.heap.objs.size+1)::vs,[]⟩) (InitBack (s.heap.objs.size+1) (yM Q Ex)) {s with heap:=(s.heap.push emptyDict).push (instObj (V.clsAt c) s.heap.objs.size)} ->
   wpAny (model V.prog V.w) G.A (call (.ref (V.clsAt c)) vs) Q Ex s:=λ{Q Ex} h=>by
  obtain⟨hh,g,dr,t,os⟩:=s;exact BC (make_core (makes_of XX C.makes) (looks_findIn XX i.find) (λself=>bind_fn XX self i.ty) (.inl rfl) h)
 show ag V G J s _ ((match cd.slots with
  |true=>tQ U (H.length+1) (E.call d (.glob cd.init) (.ref (H.length+1)::xs) U (H++[.dead,.inst c (cd.bD.map λO=>none)]))
  |false=>tQ U H.length (E.call d (.glob cd.init) (.ref H.length::xs) U (H++[.inst c (cd.bD.map λO=>none)]))):dG AV) _
 cases hs:cd.slots with
 |true=>
  intro d8;refine ua (pu.push (p:=(s.heap.objs.size,s.heap.objs.size)) (o:=.dead) gd (bf _) ⟨_,cY _ rfl⟩ trivial) λpd nd=>?_;obtain⟨px,nx⟩:=pd.push (p:=(s.heap.objs.size+1,s.heap.objs.size+1)) (o:=.inst c (cd.bD.map λO=>none)) Lg (aW wU) ⟨_,ex⟩
   ⟨cd,kY.mk hc IW (λO=>⟨_,_,mq.mk rfl ex (nT _ (mE _ bA)) (λj v h=>IV h)⟩) (λh=>by rw[hs] at h;cases h)⟩
  have nn:=nd.trans nx;rw[eX] at px nn;have hx:(J++([(s.heap.objs.size,s.heap.objs.size)]++[(s.heap.objs.size+1,s.heap.objs.size+1)]))[H.length+1]?=some (s.heap.objs.size+1,s.heap.objs.size+1):=by rw[<- pre.rel.len,pG (by exact yY)];simp
  rw[eX] at px;exact make (Mn pre nn ⟨_,hx⟩ d8 (λv ρ' H' h=>Sd.rho i.gt h) (Sd.yA px i.gt i.gv (.cons (VR.ref hx) (nn.jW pu.er hv))))
 |false=>
  intro d8;obtain⟨px,nn⟩:=pu.push (p:=(s.heap.objs.size+1,s.heap.objs.size)) (o:=.inst c (cd.bD.map λO=>none)) (gd.trans Lg) (bf _) ⟨_,ed⟩
   ⟨cd,kY.mk hc IW (λh=>(by rw[hs] at h;cases h)) (λO=>⟨λO=>none,mu.mk (by
    intro hm;rw[eB,ko] at hm;rcases hm with hm|hm
    ·exact pre.rel.fresh (i3 _) hm
    ·simp at hm) ex (Heap.Ns1.of_empty ⟨_,_,_,ed,rfl,λe he=>by simp at he,λO=>rfl⟩) ⟨λy val h=>(nomatch h),λj a hj O=>ue (C.nms a (jS hj)) λx hx=>⟨x,hx,rfl⟩,λj a v hj hf=>IV hf⟩⟩)⟩
  have hx:(J++[(s.heap.objs.size+1,s.heap.objs.size)])[H.length]?=some (s.heap.objs.size+1,s.heap.objs.size):=by rw[<- pre.rel.len,pG (bf _)];simp
  exact make (Mn pre nn ⟨_,hx⟩ d8 (λv ρ' H' h=>Sd.rho i.gt h) (Sd.yA px i.gt i.gv (.cons (VR.ref hx) (nn.jW pu.er hv))))
def ac7{b f x:Addr}{prog:Program}{w:World}(hb:s.heap.get? b=some (methodObj (.ref f) (.ref x)))
  (h:codeAny (model prog w) A (.call (.ref f) ⟨.ref x::vs,[]⟩) (yM Q Ex) s):wpAny (model prog w) A (call (.ref b) vs) Q Ex s:=by
 refine BC (uq ?_);show wpAny _ A.in1 (callAny (.ref b) ⟨vs,[]⟩) _ _ s;unfold callAny;refine ah (wpAny_load hb ?_);dsimp only;rw[if_pos (by decide)];rw[show(#[Value.ref f,Value.ref x]:Array Value)[0]?=some (.ref f) from rfl,show(#[Value.ref f,Value.ref x]:Array Value)[1]?=some (.ref x) from rfl];dsimp only;exact aH ⟨rfl,h⟩
def QV(ok:o9 V)(Sd:mj V E)(pre:ao V d true G J U H s){vo:Value}{ov:AV}{nn c m k:Nat}{fs:List (Option AV)}{args:C}{o':Expr}{name:Str}{apos pos:Pos}(hv:VR V J s.heap vo ov)(ku:oX V H ov m k nn c cd fs)
  (hn:V.nm[m]?=some name) (h2:nY V args G.K=true) (hl:(apos.endLine==pos.line)=true) (rL:(cs args).length<30):
  ag V G J s (methodCall o' name apos pos G.env vo (bN args).length (backTo pos (starEach (bN args) G.env)) []) (I5 E d true k ov args U H) (VR V):=by
 have e1:=ku.ov;subst e1;refine zr (DU ok pre.rel hv ku.at_) λMG p ox od mt=>?_;have:=mt.gt;rw[ku.cls] at this;cases this;have C:=mt.cls;refine iJ (C.Dq m k ku.Dq) λx f fd w=>?_;have:=w.nm;rw[hn] at this;obtain rfl:=sj this;refine aq (mt.dct w.IE) λmm y vB=>?_;have Kv:lookIn name od=some none:=by
  rw[vB];cases hq:mm name with
  |none=>rfl
  |some v=>refine aq (y.fld.name name v hq) λa ha e=>?_;exact absurd e (w.VI a ha)
 rw[mt.eq] at hv⊢;show ag V G J s _ (M.bind (gZ (E.e d true) (cs args)) (λvs=>E.call d (.glob k) (.ref nn::vs)) U H) _;unfold methodCall;refine il (Cg h2) λe ms wa=>?_;have plain:=λc hc=>(wa.all c hc).1;rcases wa.is with e'|⟨a,pa,e',_⟩
 ·have pl:=C6 (V:=V) (G:=G) (pos:=pos) (env:=G.env) (m:=ms) plain;rw[<- e',<- e] at pl;have yj:methodCallForm (bN args).length (backTo pos (starEach (bN args) G.env)) []=true:=by unfold methodCallForm;rw[pl.1,e,aJ];simp;exact rL
  rw[yj];refine TT.imp (λQ Ex h=>ah (c8 (method_fn mt.fr mt.inst C.A4 C.Ef w.find w.ty (show(lookIn name od).map (·.isSome)=some false by rw[Kv];rfl) (ah (ib (by unfold methodCallPos;simp[hl]:methodCallPos true o' G.env apos pos=pure pos) (Fc (JJ ok.toBR.toOk w.gv) h)))))) (TT.seq (Nx.refl ..) pre (yQ Sd.tod5 pre h2) λa xs ρ1 H1 φ1 s1 n1 k1 q1 g1=>?_);intro hs;refine⟨yv ok.toBR.toOk q1.rel,?_⟩;rw[g1.kw];exact TT.last k1 (Sd.call q1 (n1.vr pre.er (w.gv:VR V J s.heap (.ref f) (.glob k))) (.cons (n1.vr pre.er hv) g1.all)) hs
 ·have p1:=Sf (V:=V) (G:=G) (pos:=pos) (env:=G.env) (a:=a) (p:=pa) (m:=ms) plain;rw[<- e',<- e] at p1;have yj:methodCallForm (bN args).length (backTo pos (starEach (bN args) G.env)) []=false:=by unfold methodCallForm;rw[p1];rfl
  rw[yj];refine aq C.DO λkk hk hd=>?_;rw[w.IE] at hd;have Eg:findObj V.fr (V.clsAt c) (some od) name=some (.bind (.builtin "function.__get__") (.ref f)):=by
   unfold findObj;rw[hk,pj,w.find,pj];dsimp only;rw[w.get,pj];dsimp only;rw[w.takes,pj];dsimp only;unfold W.ownOf;rw[hd];show(lookIn name od).bind _=_;rw[Kv,w.VV]
   rfl
  have g:ax s {s with heap:=s.heap.push (methodObj (.ref f) (.ref p.1)),toks:=s.toks+1}:=ax.push s _ _;have C3:=pre.grow g;have eb:(s.heap.push (methodObj (.ref f) (.ref p.1))).get? s.heap.objs.size=some (methodObj (.ref f) (.ref p.1)):=cY _ rfl;refine TT.imp (W:=λQ Ex=>wpAny (model V.prog V.w) G.A (callWith pos (.ref s.heap.objs.size) [] (backTo pos (starEach (bN args) G.env)) []) Q Ex {s with heap:=s.heap.push (methodObj (.ref f) (.ref p.1)),toks:=s.toks+1}) (λQ Ex h=>?_) ?_
  ·refine ah (c8 ?_);show wpAny _ _ (do pure (<- getAttr (.ref p.1) name true,([]:List Value))) _ _ _;refine ah (get_bind mt.fr mt.inst C.A4 Eg C.Ef (wpAny_call (fn_get (s:={s with toks:=s.toks+1}) mt.fr w.ty ?_)));exact handed_on rfl (aH (ah (ib (by unfold methodCallPos;simp:methodCallPos false o' G.env apos pos=pure pos) h)))
  refine TT.imp (λQ Ex h=>Fc (first:=[]) (P:=MethP V.fr s.heap.objs.size f (.ref p.1)) (keeps_M w.fn) h)
   (TT.seq (s:={s with heap:=s.heap.push (methodObj (.ref f) (.ref p.1)),toks:=s.toks+1}) (g.nx G.X J) C3 (yQ Sd.tod5 C3 h2) λa xs ρ1 H1 φ1 s1 n1 k1 q1 g1=>?_)
  intro hs;have LW:s1.heap.get? s.heap.objs.size=some (methodObj (.ref f) (.ref p.1)):=n1.ext.get C3.er.fH eb (pre.rel.fresh (bf s.heap.objs.size)) (.mk' (T:="method") rfl (by decide) (by simp) (by simp));refine⟨⟨LW,yv ok.toBR.toOk q1.rel⟩,?_⟩;rw[g1.kw];refine ac7 LW (qI (Sd.yA q1 w.gt w.gv (.cons (k1.vr pre.er hv) g1.all) hs) λrr s' z=>?_);rcases rr with e|(_|_|_|_)
  ·exact l6.up k1 z
  all_goals first|exact z.elim|exact kH.up k1 z
end
section
variable {V:Cf}{G:Fm}{φ₀ J:Ph}{s₀ s:Shared}{U:aC}{H:Hp}{d:Nat}{q:Bool}{E:Ev}
noncomputable def yN:List Value:=[.type "ValueError",.type "Exception",.type "BaseException",.type "object"]
structure Ni(V:Cf)(k:Nat)(nm q:Str)(N:Addr)(bs:List Value)(hdct sn sub ab col dd k0 k1 k2 k3 k5:_)(mN:Str->Option Value):Prop where
 get:V.h₀.get? (V.clsAt k)=some (excClassObj nm q (V.clsAt k) N bs yN hdct sn sub ab col dd k0 k1 k2 k3 k5 "ValueError.__new__")
 ns:V.h₀.Ns N mN
 init:mN "__init__"=none
inductive BS(V:Cf)(k:Nat):Nat->Prop where
 |stop (h:V.gv k=some (.type "StopIteration")):BS V k 0
 |own (h:V.gv k=some (.ref (V.clsAt k))) (x:∃nm q N bs hdct sn sub ab col dd k0 k1 k2 k3 k5 mN,Ni V k nm q N bs hdct sn sub ab col dd k0 k1 k2 k3 k5 mN):BS V k (k+1)
structure rX(V:Cf):Prop extends o9 V where
 exc:∀k x,V.P.gt[k]?=some (.exc x)->BS V k x
variable {k x:Nat}
def rX.gv(ok:rX V)(hk:V.P.gt[k]?=some (.exc x)):∃v,V.gv k=some v:=by
 cases ok.exc k x hk with
 |stop h=>exact⟨_,h⟩
 |own h _=>exact⟨_,h⟩
variable {nx:Str}{np:Pos}{v:Value}{A:Around}
def LJ(ok:rX V)(pre:ao V d q G J U H s)(h1:uD V G.K nx k=true)(hk:V.P.gt[k]?=some (.exc x))(hv:V.gv k=some v):
  ∀Q Ex,Q v s->wpAny (model V.prog V.w) A (eval (.Name nx np) G.env) Q Ex s:=by
 intro Q Ex h;refine jx h1 λh2 h4 h3=>?_;refine aq (Lb pre ok.toBQ (of_decide_eq_true h4) (of_decide_eq_true h3)) λw hw hl=>?_;have:=hw _ hk;have:V.gv k=some w:=this;rw[hv] at this;obtain rfl:=sj this;exact wpAny_Name (hl Q Ex h A) (Dd h2)
def QE{K:Cx}{l:C}:jU V l K=true->nY V l K=true:=by
 induction l with
 |nil=>exact λO=>rfl
 |cons a r _ ih=>intro h;refine jx h λh1 h2 h3=>?_;show(wf V a K&&match a.kB with|some _=>qd r|none=>u9 (au a)&&nY V r K)=true;rw[G5 h1,h2,h1,ih h3];rfl
 |_=>exact cR
def To(ok:rX V)(Sd:d5 V E)(pre:ao V d q G J U H s){args:C}{Mg pos:Pos}(h1:uD V G.K nx k=true)(h2:jU V args G.K=true):
  ag V G J s (exec (.Raise (some (.Call (.Name nx np) (bN args) [] Mg)) none pos) G.env) (Ih V.P E d q k args U H) (d7 V):=by
 cases q with
 |false=>exact ag.stuck
 |true=>
  show ag V G J s _ ((match ae V.P.gt k with
   |some (.exc x)=>match x with
    |0=>M.stuck
    |x+1=>M.bind (gZ (E.e d true) (cs args)) λvs=>match Nat.ble vs.length 100 with|true=>EI (x+1)|false=>M.stuck
   |_=>M.stuck) U H) _
  rw[cQ];cases hk:V.P.gt[k]? with
  |none=>exact ag.stuck
  |some g=>
   cases g with
   |exc x=>
    cases ok.exc k x hk with
    |stop=>exact ag.stuck
    |own hg x=>
     obtain⟨nm,q,N,bs,hdct,sn,sub,ab,col,dd,k0,k1,k2,k3,k5,mN,x⟩:=x;refine ua (uC h2) λe0 h3=>?_;have AY:=(C6 (V:=V) (G:=G) (pos:=Mg) (env:=G.env) h3).2;rw[<- e0] at AY;refine TT.imp (λQ Ex h=>wpAny_Raise_call_sub (nm:=nm) (q:=q) (C:=V.clsAt k) (N:=N) (bs:=bs) (hdct:=hdct) (sn:=sn) (sub:=sub) (ab:=ab) (col:=col) (dd:=dd) (k0:=k0) (k1:=k1) (k2:=k2) (k3:=k3) (k5:=k5) PySem.F.excBase_ValueError (pre.hd rfl) AY x.init (LJ ok pre h1 hk hg _ _ ⟨rfl,h⟩)) (TT.seq (Nx.refl ..) pre (yQ Sd pre (QE h2)) λa xs ρ1 H1 φ1 s1 n1 m1 p1 r1=>?_);intro hs;cases hb:Nat.ble xs.length 100 with
     |false=>rw[hb] at hs;exact absurd rfl hs
     |true=>
      refine⟨r1.kw,?_,p1.rel.keep _ _ x.get,x.ns.keeps p1.rel.keep,λh' e mk=>?_⟩
      ·rw[r1.all.length];exact aM (gN hb) (by decide)
      ·obtain⟨t,e1,e2,e3⟩:=mk.there;have g:ax s1 {s1 with heap:=h'}:=ax.mk mk.keeps rfl rfl;have no:¬ cN s1.heap e:=λ⟨o,eo⟩=>by rw[mk.new] at eo;exact aR eo
       exact⟨k+1,ρ1,H1,φ1,rfl,(p1.grow g).rV (m1.trans (g.nx G.X φ1)),e,_,_,rfl,k6.mk e1 rfl rfl (iD.mk (λ⟨o,eo⟩=>no ⟨o,p1.rel.keep _ o eo⟩) (p1.rel.out no) (λo=>no (m1.live _ o))) (.inl rfl)⟩
   |_=>exact ag.stuck
def d6.none(R:aZ V J H s.heap)(h₁:Heap):d6 V J h₁ [] s s:=(d6.mk (dD.refl ..) (λa h=>(by cases h)) (λa h=>(by cases h)) R.keep (λO O=>rfl) rfl rfl (λO h=>h))
variable {Ex:Value->Shared->Prop}
def ZV{M:Model}(R:aZ V J H s.heap){h₁:Heap}(x:o6 V J h₁ s.heap v k){Q:Unit->Shared->Prop} 
  (h:∀Y s',d6 V J h₁ Y s s'->Q () s'):wpAny M A (setFlight v none) Q Ex s:=by
 obtain⟨e,oe,vs,rfl,x⟩:=x;unfold setFlight;rcases x.tb with ht|⟨T,oT,ts,b1,b3,bn,b⟩
 ·refine ah (qH x.get x.data ht ?_);rw[if_neg (by decide)];exact aH (h [] s (d6.none R h₁))
 ·refine ah (qH x.get x.data b1 ?_);rw[if_pos (show(Value.ref T != Value.none)=true from by simp)];refine uk b.get b.data (wm.mp b.zero).1 ?_;have other:∀b,b≠T->(s.heap.update T (Obj.mapFields (·.setIfInBounds 3 Value.none))).get? b=s.heap.get? b:=λb hb=>pE _ _ (fi hb);have hT:=qG (Obj.mapFields (·.setIfInBounds 3 Value.none)) b.get (zd (wA b.data _));refine h [T] _ (d6.mk ⟨λa o e' h1 h2=>.inl ((other a λq=>h2 (fW.mpr q)).trans e')⟩ (λa ha=>?_) (λa ha=>?_) (λa o e'=>?_) (λp hp=>?_) rfl rfl (λa bU=>ue bU λo e'=>?_))
  ·rw[rB ha];exact⟨oT,b.get,ki.mk ⟨ts,b.data⟩ (λS hS=>by rw[b.cls] at hS;cases hS;rfl)⟩
  ·rw[rB ha];exact bn
  ·exact(other a λq=>bn.h0 ⟨o,q▸e'⟩).trans (R.keep a o e')
  ·exact other _ λq=>bn.out (q▸pq hp)
  ·by_cases q:a=T
   ·rw[q];exact⟨_,hT⟩
   ·exact⟨o,(other a q).trans e'⟩
noncomputable def Az(G:Fm)(e:Value):Fm:=⟨G.K,G.A.mark (some e),G.env,G.X⟩
def ao.mark(pre:ao V d q G J U H s)(e:Value):ao V d false (Az G e) J U H s:=(ao.mk pre.rel pre.er.fm (kW.mk pre.room.depth pre.room.units) (λh=>nomatch h) ⟨pre.fr.fr⟩)
def dI.unmark{e:Value}{φ':Ph}{ρ':aC}{H':Hp}{s':Shared}(a:dI V (Az G e) J s φ' ρ' H' s'):dI V G J s φ' ρ' H' s':=(dI.mk a.nx a.rel (bX.fm (G:=Az G e) (A':=G.A) a.er) ⟨a.fr.fr⟩)
def Wm(ok:rX V)(R:aZ V J H s.heap)(hk:V.P.gt[k]?=some (.exc x)){c:Value}{h₁:Heap}(hx:o6 V J h₁ s.heap v x)(hg:V.gv k=some c){M:Model}{Q:Bool->Shared->Prop}(h:Q true s):
  wpAny M A (excMatches v c) Q Ex s:=by
 refine cO hx λe oe vs aa x=>?_;clear hx;subst aa;cases ok.exc k _ hk with
 |stop g1=>rw[hg] at g1;obtain rfl:=sj g1;exact wpAny_excMatches_type ⟨oe,x.get,x.cls⟩ (by rw[isSubtype_type];kernel_rfl) (by rw[isSubtype_type];kernel_rfl) isSubtype_stop h
 |own g1 y=>obtain⟨nm,q,N,bs,hdct,sn,sub,ab,col,dd,k0,k1,k2,k3,k5,mN,y⟩:=y;rw[hg] at g1;obtain rfl:=sj g1;obtain⟨hh,g,dr,t,os⟩:=s;exact wpAny_excMatches_sub_self (R.keep _ _ y.get) x.get x.cls (by decide) h
def Rm(P:bP)(E:Ev)(d:Nat)(k:Nat)(h:S)(r:dG Fl):dG Fl:=match r with
 |.ok f ρ' H'=>.ok f ρ' H'
 |.exc x ρ' H'=>vE P E d k h x ρ' H'
 |.stuck=>.stuck
variable {h:S}
def Y5(ok:rX V)(Sd:v3 V E)(pre:ao V d true G J U H s){hp:Pos}(h2:uD V G.K nx k=true)(h3:eZ V h G.K=true)(h4:(ss h).isEmpty=false)(hk:V.P.gt[k]?=some (.exc x))
  {e:Value} {s1:Shared} {φ1:Ph} {ρ1:aC} {H1:Hp} (x1:o6 V φ1 s.heap s1.heap e x) (a:dI V G J s φ1 ρ1 H1 s1) {R:dG Fl} (eR:M.calm (cW (E.s d false) (ss h)) ρ1 H1=R) (d8:R≠.stuck):
  wpAny (model V.prog V.w) G.A (noteFrame e G.env) (λO s₂=>wpAny (model V.prog V.w) G.A (setFlight e none) (λO s₃=>wpAny (model V.prog V.w) G.A (handleBy e G.env [.ExceptHandler (some (.Name nx np)) none (c9 h) hp]) (kH V G J s R (d7 V)) (l6 V G J s R) s₃) (l6 V G J s R) s₂) (l6 V G J s R) s1:=by
 refine IH a.rel a.fr a.nx.live x1 λY s2 nt x2=>?_;have apart:∀{Y:List Addr} {s' ja:Shared},d6 V φ1 s.heap Y s' ja->∀a∈G.X,a∉Y:=λnt a ha hY=>(pre.er.fH a ha).elim λo eo=>(nt.new a hY).new ⟨o,eo.1⟩;have p2:=(a.pre pre).note nt (apart nt);have n2:=a.nx.note nt;clear a x1 pre;refine ue (ok.gv hk) λcv KJ=>?_;obtain⟨h0,hs,KL⟩:∃h0 hs,c9 h=h0::hs:=by
  rw[(Gg h3).1];cases Yv:ss h with
  |nil=>rw[Yv] at h4;cases h4
  |cons c r=>exact⟨_,_,rfl⟩
 have vr:∃ea,e=.ref ea:=x2.imp λO y=>dN y λO O q O=>q;refine ue vr λea aa=>?_;clear vr;subst aa;rw[KL];refine wpAny_handleBy_cons (codeAny_handlers_test (LJ ok p2 h2 hk KJ _ _ (Wm ok p2.rel hk x2 KJ ?_))) (λq=>nomatch q);refine codeAny_handlers_suite (ZV p2.rel x2 λY' s3 Dg=>?_);subst eR;rw[<- KL];exact cz (TT.yL (TT.last (G:=Az G (.ref ea)) (φ₀:=J) (s₀:=s) (n2.note Dg) (qm Sd ((p2.note Dg (apart Dg)).mark (.ref ea)) h3)) d8) (λf s4 bU=>i7 bU λb ρ' H' φ' e a r=>⟨b,ρ',H',φ',e,a.unmark,r⟩) λO O z=>z.elim
def Y6{ρ1:aC}{H1:Hp}(d8:vE V.P E d k h x ρ1 H1≠.stuck):V.P.gt[k]?=some (.exc x)/\M.calm (cW (E.s d false) (ss h)) ρ1 H1=vE V.P E d k h x ρ1 H1:=by
 unfold vE at d8⊢;rw[cQ] at d8⊢;cases hk:V.P.gt[k]? with
 |none=>rw[hk] at d8;exact absurd rfl d8
 |some ge=>
  rw[hk] at d8;cases ge with
  |exc y=>
   dsimp only at d8⊢;cases Kh:Nat.beq y x with
   |false=>rw[Kh] at d8;exact absurd rfl d8
   |true=>exact⟨by rw[bV Kh],rfl⟩
  |_=>exact absurd rfl d8
def Ti(ok:rX V)(Sd:v3 V E)(pre:ao V d q G J U H s){b:S}{hp pos:Pos}(h1:eZ V b G.K=true)(h2:uD V G.K nx k=true)(h3:eZ V h G.K=true)(h4:(ss h).isEmpty=false):
  ag V G J s (exec (.Try (c9 b) [.ExceptHandler (some (.Name nx np)) none (c9 h) hp] [] [] pos) G.env) (uH V.P E d q b k h U H) (d7 V):=by
 cases q with
 |false=>exact ag.stuck
 |true=>
 show ag V G J s _ (Rm V.P E d k h (cW (E.s d true) (ss b) U H)) (d7 V);have T:=qm Sd pre h1;generalize cW (E.s d true) (ss b) U H=r at T⊢;intro d8;refine wpAny_Try_except ?_;cases r with
 |stuck=>exact absurd rfl d8
 |ok fl ρ1 H1=>
  refine cz (T nofun) (λf s1 z=>?_) λe s1 z=>z.not nofun;cases f with
  |next=>exact aH z
  |_=>exact z
 |exc x ρ1 H1=>
  have hh:=Y6 d8;refine cz (T nofun) (λf s1 z=>z.not nofun) λe s1 z=>?_;refine i7 z λy' ρ2 H2 φ1 e' a x1=>?_;clear z;injection e' with q1 q2 q3
  subst q1 q2 q3;exact Y5 ok Sd pre h2 h3 h4 hh.1 x1 a hh.2 d8
end
section
variable {V:Cf}{G:Fm}{A:Around}{φ₀ J:Ph}{s₀ s:Shared}{U:aC}{H:Hp}{d:Nat}{q:Bool}{E:Ev}
noncomputable def yO(b:BI):Value:=match b with
 |.len=>.builtin "len"
 |.abs=>.builtin "abs"
 |.divmod=>.builtin "divmod"
 |.min=>.builtin "min"
 |.sorted=>.builtin "sorted"
 |.chr=>.builtin "chr"
 |.iter=>.builtin "iter"
 |.range=>.type "range"
 |.int=>.type "int"
 |.tuple=>.type "tuple"
 |.bool=>.type "bool"
 |.set=>.type "set"
 |.max=>.builtin "max"
def fS.tri{t:Sem Value}{b:AV}(pre:ao V d q G J U H s)(m:fS V G J s t b):ag V G J s t (.ok b U H) (VR V):=ag.quiet pre m
def adC(pre:ao V d q G J U H s)(ok:eg V){v:Value}{x:AV}{k:Nat}(hx:VR V J s.heap v x)(e:Jy x H=some k)(hk:k<=az):fS V G J s (call (.builtin "len") [v]) (.int k):=by
 intro Q Ex h;have f:=vH hk;have g:ax s {s with toks:=s.toks+1+1}:=ax.toks ..;have sz:∀{n:Nat} {t:Tok} {s':Shared},n=k->VR V J s'.heap (.int (n:Int) t) (.int k):=λh=>h▸.lit _ _;cases x with
 |lst l=>
  obtain rfl:=sj e;refine cO hx λa items n aa y=>?_;clear hx;subst aa;have z:items.toArray.size=l.length:=by rw[dj,y.all.length]
  exact Calls.call_len_list ⟨_,y.at_,rfl,_,rfl⟩ (by rw[z];exact f) (h _ _ g (sz z))
 |tup l=>
  obtain rfl:=sj e;refine cO hx λa items n aa y=>?_;clear hx;subst aa;have z:items.toArray.size=l.length:=by rw[dj,y.all.length]
  exact PyProof.Rows.len_tuple ⟨_,y.at_,rfl,_,rfl⟩ (by rw[z];exact f) (h _ _ g (sz z))
 |str l=>
  obtain rfl:=sj e;refine aq hx λt aa o=>?_;clear hx;subst aa;have z:(V.tx l).length=l.length:=by show(V.enc l).toArray.size=_;rw[dj,rS]
  exact len_str (by rw[z];simpa using f) (h _ _ g (sz z))
 |ref nn=>
  refine aq (ik hx rfl) λp aa hp=>?_;subst aa;have e:(match bx H nn with
   |some l=>some l.length
   |none=>(cD H nn).map λr=>r.2.length)=some k:=e
  cases hl:bx H nn with
  |some l=>
   rw[hl] at e;obtain rfl:=sj e;refine ll (pre.rel.list hl hp) λpe items n y=>?_;have z:items.toArray.size=l.length:=by rw[dj,y.all.length]
   exact Calls.call_len_list ⟨_,y.at_,rfl,_,rfl⟩ (by rw[z];exact f) (h _ _ g (sz z))
  |none=>rw[hl] at e;refine um e λr h1 aa=>?_;subst aa;refine il (pre.rel.dictAt h1 hp) λpe lO y=>?_;exact call_len_dict (xH pre.rel hp pe ok.big) y.at_.dictOf (by rw[y.len];exact f) (h _ _ g (sz y.len))
 |_=>exact aR e
variable {b:Int}{t:Tok}
def HR{a c:Int}{u v:Tok}{s':Shared}(pre:ao V d q G J U H s)(h:IsRange s'.heap s.heap.objs.size a b c t u v)(ok:oy a b c=true):VR V J s'.heap (.ref s.heap.objs.size) (.dF a b c):=⟨_,_,_,_,rfl,h,pre.rel.fresh (bf _),ok⟩
def adA(pre:ao V d q G J U H s)(ok:oy 0 b 1=true):fS V G J s (call (.type "range") [.int b t]) (.dF 0 b 1):=λQ Ex h=>call_range_1 (h _ _ (ax.push s _ _) (HR pre (IsRange.new ..) ok))
def adz(pre:ao V d q G J U H s){a:Int}{u:Tok}(ok:oy a b 1=true):fS V G J s (call (.type "range") [.int a t,.int b u]) (.dF a b 1):=λQ Ex h=>call_range_2 (h _ _ (ax.push s _ _) (HR pre (IsRange.new ..) ok))
def adF(pre:ao V d q G J U H s){a:Int}{u:Tok}(hb:b≠0)(hs:b.natAbs<2^200):fS V G J s (call (.builtin "divmod") [.int a t,.int b u]) (.tup [.int (a.fdiv b),.int (a.fmod b)]):=λQ Ex h=>divmod_int hb (h _ _ (ax.push s _ _) (.tup (items:=[.int (a.fdiv b) s.toks,.int (a.fmod b) (s.toks+1)]) (Sq.mk (cY _ rfl) (pre.rel.fresh (bf _)) (.cons (.lit ..) (.cons (.lit ..) .nil)) (show 2<=az by decide)))) (.inl (PyProof.noPylong_of_log2 (Hf hs)))
def adG{c:Nat}(h1:c<16):fS V G J s (call (.builtin "chr") [.int (65+c:Nat) t]) (.str [c]):=λQ Ex h=>P.chr_of_int (by simp;exact⟨Int.add_nonneg (by decide) (kq c),show((65+c:Nat):Int)<=((1114111:Nat):Int) from nO.mpr (aM (mB (fG h1) 65) (by decide))⟩) (h _ _ (ax.toks s _) (VR.str (V:=V) (l:=[c]) (.one h1)))
def adI{i:Int}:fS V G J s (call (.builtin "abs") [.int i t]) (.int (if i<0 then -i else i)):=λQ Ex h=>call_abs_int λu tk=>h _ _ (ax.toks s _) (.lit ..)
def adE{i:Int}:fS V G J s (call (.type "int") [.int i t]) (.int i):=λQ Ex h=>call_int_int (h _ _ (ax.refl s) (.lit ..))
def ady(pre:ao V d q G J U H s):ag V G J s (call (.type "set") []) (.ok (.ref H.length) U (H++[.set []])) (VR V):=
 ag.fresh pre λQ Ex h=>call_set_0 λled=>h _ _ (s.heap.objs.size,s.heap.objs.size) (ax.push s _ _) (bf _) ⟨_,cY _ rfl⟩
  ⟨rfl,⟨_,#[],0,_,cY _ rfl,⟨rfl,rfl,rfl⟩,rfl,(λe he=>nomatch he),(λk=>Iff.intro (λh=>nomatch h) (λbU=>aq bU λe he O=>nomatch he)),by decide,rfl,rfl⟩⟩ (xp J _ pre.rel.len)
variable {p:Addr×Addr}{l:List AV}
def adD(pre:ao V d q G J U H s){nn:Nat}(hp:J[nn]?=some p)(hl:bx H nn=some l):
  ag V G J s (call (.builtin "iter") [.ref p.1]) (.ok (.ref H.length) U (H++[.iter nn 0])) (VR V):=by
 refine ll (pre.rel.list hl hp) λpe items n y=>?_;refine ag.fresh pre λQ Ex h=>Calls.call_function_entry (id:="iter") (by decide +kernel) (by decide +kernel) (entryFor_of_tree (b:=Builtin.«iter») (by kernel_rfl)) (by unfold argsOk;kernel_rfl) ?_;unfold Builtin.«iter»;refine ah (ib (show someArgs "iter" 1 2 ⟨[.ref p.1],[]⟩=pure [.ref p.1] from rfl) ?_);refine ah (wpAny_pyIter_list ⟨_,y.at_,rfl,_,rfl⟩ (aH ⟨_,rfl,?_⟩));refine h _ _ (s.heap.objs.size,s.heap.objs.size) (ax.push s _ _) (bf _) ⟨_,cY _ rfl⟩ ⟨p,_,oZ.mk rfl ?_ (cY _ rfl)⟩ (xp J _ pre.rel.len);rw[wk (mG.mp hp).1];exact hp
def adw(pre:ao V d q G J U H s){v:Value}{x:AV}(hx:VR V J s.heap v x)(e:cG H x=some l):fS V G J s (call (.type "tuple") [v]) (.tup l):=by intro Q Ex h;refine iJ (lg pre.rel hx e) λa items n y=>?_;rw[y.eq];refine call_tuple_list ⟨_,y.at_,rfl,_,rfl⟩ (λh' hk=>?_) (i8 y.small);have g:ax s {s with heap:=h'.push {cls:=.type "tuple",data:=.seq items.toArray}}:=(ax.mk (λb o e=>ij _ (hk b o e)) rfl rfl);refine h _ _ g (.tup (Sq.mk (cY _ rfl) (λhm=>?_) (g.jW y.all) y.len));refine aq (bW.mp hm) λp hp e'=>?_;refine ue (pre.rel.live p hp) λo eo=>?_;exact absurd (fy (hk _ _ eo)) (by rw[e'];exact jQ _)
def ade(l:Addr)(items:Array Value):Meets (Builtin.«bool.__new__» ⟨[.type "bool",.ref l],[]⟩) (λO R s=>s.heap.IsList l items/\(items.size:Int)<2^63/\R (.ok (.ret (.bool (!items.isEmpty)))) {s with toks:=s.toks+1+1}):=
 Meets.of_wp λprog w A R s hs=>by
  obtain⟨hl,A6,hs⟩:=hs;obtain⟨hp,g,d,tk,os⟩:=s;have f1:=F.conv_sub_bool
  repeat (any_goals (first|assumption|(with_reducible refine wpAny_truthy_list hl A6 ?_)|wp_step))
  all_goals first|exact⟨_,rfl,hs⟩|exact hs|skip
def adH(pre:ao V d q G J U H s){nn:Nat}(hp:J[nn]?=some p)(hl:bx H nn=some l):fS V G J s (call (.type "bool") [.ref p.1]) (.bool (!l.isEmpty)):=by intro Q Ex h;refine ll (pre.rel.list hl hp) λpe items n y=>?_;refine call_bool_1 (ade p.1 items.toArray) ⟨⟨_,y.at_,rfl,_,rfl⟩,vH y.small,rfl,h _ _ (ax.toks s _) ?_⟩;rw[J0 y.all];exact .bool _
end
section
variable {V:Cf}{G:Fm}{A:Around}{φ₀ J:Ph}{s₀ s:Shared}{U:aC}{H:Hp}{d:Nat}{q:Bool}{E:Ev}
def X2{h:Heap}:∀{l:List AV} {vs:List Value} {ns:List Int},aQ V J h vs l->lS l=some ns->vs.length=ns.length/\∀(i:Nat) (v:Value),vs[i]?=some v->∃t,v=.int (ns.getD i 0) t:=by
 intro l
 induction l with
 |nil=>intro _ _ r e;subst r;obtain rfl:=sj e;exact⟨rfl,λi v h=>aR h⟩
 |cons x l ih=>
  intro _ _ r e;refine bB r λv r' q hv hr=>?_;clear r;subst q;refine ub e λi h1 e=>?_;refine um e λns h2 aa=>?_;subst aa;refine ue (eG hv h1) λt aa=>?_;subst aa;refine ua (ih hr h2) λhl ha=>?_;refine⟨congrArg (·+1) hl,λj w hw=>?_⟩;cases j with
  |zero=>exact⟨t,(sj hw).symm⟩
  |succ j=>exact ha j w hw
def Wl(x:Int):∀(l:List Int) (b:Int),oB (l++[x]) b=if oB l b<x then x else oB l b:=by
 intro l
 induction l with
 |nil=>intro b;show(match gb b x with|true=>x|false=>b)=if b<x then x else b;rw[rD];by_cases h:b<x<;>simp[h]
 |cons y l ih=>intro b;exact ih _
def adv{val:Nat->Int}{y:Int}{ys:List Int}(h0:val 0=y)(h:∀i,i<ys.length->val (i+1)=ys.getD i 0):∀k,k<=ys.length->val (argBest (λi j=>decide (val i>val j)) k)=oB (ys.take k) y:=by
 intro k
 induction k with
 |zero=>intro _;exact h0
 |succ k ih=>
  intro hk;have e:=ih (nR hk);have hx:=h k hk;have ht:ys.take (k+1)=ys.take k++[ys.getD k 0]:=by rw[List.take_add_one,k8,pF hk];rfl
  rw[ht,Wl,<- e,<- hx];show val (if decide (val (k+1)>val (argBest _ k))=true then k+1 else argBest _ k)=_;by_cases c:val (argBest (λi j=>decide (val i>val j)) k)<val (k+1)
  ·rw[if_pos (decide_eq_true c),if_pos c]
  ·rw[if_neg (by rw[decide_eq_false c];exact qE),if_neg c]
def adB(pre:ao V d true G J U H s){v:Value}{x:AV}{l:List AV}{y:Int}{ys:List Int}(hx:VR V J s.heap v x)(hl:cG H x=some l)(hn:lS l=some (y::ys)):fS V G J s (call (.builtin "max") [v]) (.int (oB ys y)):=by
 intro Q Ex hq;refine iJ (lg pre.rel hx hl) λa items nn z=>?_;refine ua (X2 z.all hn) λhlen KP=>?_;rw[z.eq];have hI:s.heap.IsList a items.toArray:=⟨_,z.at_,rfl,_,rfl⟩;have iu:a<s.heap.objs.size:=fy z.at_;have sz:items.toArray.size=ys.length+1:=by rw[dj,hlen];rfl
 refine call_max_walk (wpAny_pyIter_list hI ⟨_,_,_,_,_,_,_,rfl,Walks.list (A:=G.A.in1) (pre.hd rfl) _ a (dU iu) items.toArray,⟨⟨_,cY _ rfl,rfl,rfl⟩,hI.push _⟩,λb hb=>?_,by rw[sz];exact qL _,
  CmpOf.ints_gt ((y::ys).getD · 0) (λi w hw=>KP i w (by rw[<- pB];exact hw)),λw h' tk hP hk=>?_⟩)
 ·show b<(s.heap.push _).objs.size;rw[pf];rcases bQ.mp hb with rfl|hb
  ·exact wt _
  ·rw[fW.mp hb];exact Nat.lt_succ_of_lt iu
 ·refine ue (KP _ w (by rw[<- pB];exact hP)) λt aa=>?_;subst aa;have key:=adv (val:=λi=>(y::ys).getD i 0) (ys:=ys) rfl (λi O=>rfl) ys.length (bf _);rw[List.take_length] at key;rw[sz] at *;refine hq _ _ (ax.mk (λb o e=>hk b o (λhm=>?_) (ij _ e)) rfl rfl) ⟨t,congrArg (Value.int · t) key⟩;rw[fW.mp hm] at e;exact absurd (fy e) (jQ _)
def GC(pre:ao V d true G J U H s){va vb:Value}{a b:List Nat}(ha:VR V J s.heap va (.str a))(hb:VR V J s.heap vb (.str b)):
  fS V G J s (call (.builtin "min") [va,vb]) (.str (match bu b a with|true=>b|false=>a))/\fS V G J s (call (.builtin "max") [va,vb]) (.str (match bu a b with|true=>b|false=>a)):=by
 refine aq ha λt aa oa=>?_;clear ha;subst aa;refine aq hb λu aa ob=>?_;clear hb;subst aa;generalize AX:(#[.str (V.tx a) t,.str (V.tx b) u]:Array Value)=vs;have hT:(s.heap.push {cls:=.type "tuple",data:=.seq #[.str (V.tx a) t,.str (V.tx b) u]}).IsTuple s.heap.objs.size vs:=⟨_,cY _ rfl,rfl,0,by rw[AX]⟩;have sz:(s.heap.push {cls:=.type "tuple",data:=.seq #[.str (V.tx a) t,.str (V.tx b) u]}).objs.size=s.heap.objs.size+1:=pf ..;have hn:vs.size=2:=by rw[<- AX];rfl
 have at_:∀(i:Nat) (v:Value),vs[i]?=some v->∃t,v=.str (V.tx (match i with|0=>a|_=>b)) t:=λi v h=>by
  rw[<- AX] at h
  match i,h with
  |0,h=>exact⟨t,(sj h).symm⟩
  |1,h=>exact⟨u,(sj h).symm⟩
 have less:∀x y:List Nat,decide ((V.tx x).cps.toList<(V.tx y).cps.toList)=bu x y:=λx y=>by
  rw[pg,decide_eq_true_iff]
  simpa[Cf.tx] using Bp x y
 have old:∀{h':Heap} {o:Obj},(∀c o',c∉[s.heap.objs.size+1]->((s.heap.push {cls:=.type "tuple",data:=.seq #[.str (V.tx a) t,.str (V.tx b) u]}).push o).get? c=some o'->h'.get? c=some o')->∀c o',s.heap.get? c=some o'->h'.get? c=some o':=λhk c o' e=>by refine hk c o' (λhm=>?_) (ij _ (ij _ e));rw[fW.mp hm] at e;exact absurd (fy e) (hZ.mpr (i3 _))
 have room:∀c∈[(s.heap.push {cls:=.type "tuple",data:=.seq #[.str (V.tx a) t,.str (V.tx b) u]}).objs.size,s.heap.objs.size],∀o,c<((s.heap.push {cls:=.type "tuple",data:=.seq #[.str (V.tx a) t,.str (V.tx b) u]}).push o).objs.size:=λc hc o=>by
  rw[pf,sz];rcases bQ.mp hc with rfl|hc
  ·rw[sz];exact wt _
  ·rw[fW.mp hc];exact Nat.lt_succ_of_lt (wt _)
 have pick:∀{c:Bool} {v:Value} {bt:Nat->Nat->Bool},bt 1 0=c->vs[argBest bt (vs.size-1)]?=some v->VR V J s.heap v (.str (match c with|true=>b|false=>a)):=λ{c v bt} e h=>by
  rw[hn] at h;have h:vs[if bt 1 0=true then 1 else 0]?=some v:=h;rw[e,<- AX] at h;cases c with
  |true=>exact⟨u,(sj h).symm,ob⟩
  |false=>exact⟨t,(sj h).symm,oa⟩
 refine⟨λQ Ex hq=>call_min_two (wpAny_pyIter_tuple hT ⟨_,[_,s.heap.objs.size],[_],_,_,_,λi j=>bu (match i with|0=>a|_=>b) (match j with|0=>a|_=>b),rfl,Walks.tuple (A:=G.A.in1) (pre.hd rfl) _ s.heap.objs.size (by rw[sz];exact dU (wt _)) vs,
  ⟨⟨_,cY _ rfl,rfl,rfl⟩,hT.push _⟩,λc hc=>room c hc _,by rw[hn];decide,λi j vi vj s Q E hi hj hQ=>?_,λv h' tk hP hk=>?_⟩),
  λQ Ex hq=>call_max_two (wpAny_pyIter_tuple hT ⟨_,[_,s.heap.objs.size],[_],_,_,_,λi j=>bu (match j with|0=>a|_=>b) (match i with|0=>a|_=>b),rfl,Walks.tuple (A:=G.A.in1) (pre.hd rfl) _ s.heap.objs.size (by rw[sz];exact dU (wt _)) vs,
  ⟨⟨_,cY _ rfl,rfl,rfl⟩,hT.push _⟩,λc hc=>room c hc _,by rw[hn];decide,λi j vi vj s Q E hi hj hQ=>?_,λv h' tk hP hk=>?_⟩)⟩
 ·refine ue (at_ i vi hi) λt1 aa=>?_;subst aa;refine ue (at_ j vj hj) λt2 aa=>?_;subst aa;exact P.lt_str (by rw[less];exact hQ)
 ·have g:ax s {s with heap:=h',toks:=tk}:=ax.mk (old (by rw[<- sz];exact hk)) rfl rfl;exact hq _ _ g (g.vr (pick rfl hP))
 ·refine ue (at_ i vi hi) λt1 aa=>?_;subst aa;refine ue (at_ j vj hj) λt2 aa=>?_;subst aa;exact P.gt_str (by rw[less];exact hQ)
 ·have g:ax s {s with heap:=h',toks:=tk}:=ax.mk (old (by rw[<- sz];exact hk)) rfl rfl;exact hq _ _ g (g.vr (pick rfl hP))
end
section
variable {V:Cf}{G:Fm}{A:Around}{φ₀ J:Ph}{s₀ s:Shared}{U:aC}{H:Hp}{d:Nat}{q:Bool}{E:Ev}
def WE(x:List Nat)(xs:List (List Nat))(y:List Nat)(ys:List (List Nat)):kI (x::xs) (y::ys)=(match ak x y with|true=>kI xs ys|false=>bu x y):=rfl
def Jh{l:List Value}{i:Nat}{v:Value}(h:l.toArray[((i:Nat):Int).toNat]?=some v):i+1<=l.length:=by rw[pB] at h;exact(mG.mp h).1
def WC(V:Cf)(J:Ph)(l b:Addr)(items gw:List Value)(n n2:Nat):∀(xs ys:List (List Nat)) (i:Nat),i<=items.length->i<=gw.length ->
  Meets (Builtin.«list.__eq__.loop» ⟨[.ref l,.ref b,rawInt i,rawInt 0],[]⟩) (λA R s=>A.units+60<cLine/\IsL s.heap l items.toArray n/\IsL s.heap b gw.toArray n2 /\
   aQ V J s.heap (items.drop i) (xs.map .str)/\aQ V J s.heap (gw.drop i) (ys.map .str)/\R (.ok (.ret (.bool (kI xs ys)))) s):=by
 intro xs
 induction xs with
 |nil=>
  intro ys i j1 j2 prog w A R s h;obtain⟨hp,g,d,tk,os⟩:=s;obtain⟨hu,hl,hb,rx,ry,h⟩:=h;have e1:items.length<=i:=List.drop_eq_nil_iff.mp rx;have hy:=ry.length;rw[qC,aJ] at hy;wp_walk using jT hl,jT hb;rw[show items.toArray[((i:Nat):Int).toNat]?=none by rw[pB];exact ze e1];wp_walk using jT hl,jT hb;show R (.ok (.ret (.bool (decide (items.toArray.size<gw.toArray.size))))) _;rw[dj,dj,ic e1 j1];rw[show decide (i<gw.length)=kI [] ys by
   cases ys with
   |nil=>exact decide_eq_false λk=>absurd (Nat.sub_pos_of_lt k) (by rw[hy];exact jQ _)
   |cons=>exact decide_eq_true (Nat.lt_of_sub_pos (by rw[hy];exact qL _))]
  exact h
 |cons x xs ih=>
  intro ys i j1 j2 prog w A R s h;obtain⟨hp,g,d,tk,os⟩:=s;obtain⟨hu,hl,hb,rx,ry,h⟩:=h;refine bB rx λv rv aa hx Yp=>?_;have A2:items.toArray[((i:Nat):Int).toNat]?=some v:=by rw[pB,<- List.head?_drop];show(items.drop i).head?=_;rw[aa];rfl
  have gW:items.drop (i+1)=rv:=by rw[<- List.tail_drop,aa];rfl
  have hc:((i:Int)+1)=((i+1:Nat):Int):=rfl;cases ys with
  |nil=>wp_walk using jT hl,jT hb;rw[A2,show gw.toArray[((i:Nat):Int).toNat]?=none by rw[pB];exact ze (List.drop_eq_nil_iff.mp ry)];wp_walk using jT hl,jT hb;show R (.ok (.ret (.bool (decide (items.toArray.size<gw.toArray.size))))) _;rw[dj,dj,decide_eq_false (wu (aM (List.drop_eq_nil_iff.mp ry) j1))];exact h
  |cons y ys=>
   refine bB ry λu ru ow hy Yn=>?_;have Ec:gw.toArray[((i:Nat):Int).toNat]?=some u:=by rw[pB,<- List.head?_drop];show(gw.drop i).head?=_;rw[ow];rfl
   have hd2:gw.drop (i+1)=ru:=by rw[<- List.tail_drop,ow];rfl
   rw[WE] at h;wp_walk using jT hl,jT hb;rw[A2,Ec];refine ct (tD 3 hx rfl) λD as y1=>?_;refine ct (tD 3 hy rfl) λD' bs y2=>?_;refine ah (SeqAt.eqBoolOverData _ _ _ _ _ _ _ _ _ _ _ _ y1.rd y2.rd y1.hB y2.hB (cU (mB (aM (Nat.min_le_left ..) y1.deep) _) (Gb hu)) ?_);rw[yD y1.pd y2.pd (rfl:c6 (.str x) (.str y)=some (ak x y))];cases hq:ak x y with
   |true=>rw[hq] at h;wp_walk;rw[hc];exact⟨plainId_quiet zh _,codeAny_builtin MeetsSeq3.entry_eq_loop (by rw[Around.under_plainId zh _];exact ih ys (i+1) (Jh A2) (Jh Ec) prog w A R _ ⟨hu,hl,hb,by rw[gW];exact Yp,by rw[hd2];exact Yn,h⟩)⟩
   |false=>rw[hq] at h;wp_walk using jT hl,jT hb;rw[A2,Ec];exact ah (Dx hx hy rfl _ _ (aH h))
def WV(V:Cf)(J:Ph)(l b:Addr)(items gw:List Value)(n n2:Nat)(xs ys:List (List Nat)):
  Meets (Builtin.«list.__lt__» ⟨[.ref l,.ref b],[]⟩) (λA R s=>A.units+60<cLine/\IsL s.heap l items.toArray n/\IsL s.heap b gw.toArray n2 /\
   aQ V J s.heap items (xs.map .str)/\aQ V J s.heap gw (ys.map .str)/\R (.ok (.ret (.bool (kI xs ys)))) s):=by
 intro prog w A R s h;obtain⟨hp,g,d,tk,os⟩:=s;obtain⟨hu,hl,hb,rx,ry,h⟩:=h;have f3:=AutoSeq1.sub_list_list;wp_walk using jT hl,jT hb;exact⟨plainId_quiet zh _,codeAny_builtin MeetsSeq3.entry_eq_loop (by rw[Around.under_plainId zh _];exact WC V J l b items gw n n2 xs ys 0 (jP _) (jP _) prog w A R _ ⟨hu,hl,hb,rx,ry,h⟩)⟩
def Xw{prog:Program}{w:World}(hu:A.units+64<cLine){vx vy:Value}{xs ys:List (List Nat)}(hx:VR V J s.heap vx (.lst (xs.map .str)))(hy:VR V J s.heap vy (.lst (ys.map .str))){Q:Bool->Shared->Prop}{E:Value->Shared->Prop}
  (h:Q (kI xs ys) s):wpAny (model prog w) A (keyLt' oneType' vx vy) Q E s:=by
 refine cO hx λa i1 n1 aa f1=>?_;clear hx;subst aa;refine cO hy λb i2 n2 aa f2=>?_;clear hy;subst aa;rw[keyLt'_oneType,oneLt'_eq];simp only[if_true];refine ah (wpAny_cRoomFor (cU (eE _ _) hu) ?_);refine ah (wpAny_callSpecialIfBound?_slot (T:="list") ⟨_,f1.at_,rfl⟩ F.slot_list_lt (call_meets F.slot_list_lt ⟨_,f1.at_,rfl⟩ F.entry_list_lt (F.args_list_lt_2 _ _) (WV V J a b i1 i2 n1 n2 xs ys) ⟨cU (mB (by decide) _) hu,f1.at_,f2.at_,f1.all,f2.all,?_⟩));exact wpAny_truthy_bool h
def ad5{α:Type}{cmp:Nat->Nat->(Bool->Shared->Prop)->Shared->Prop}{aX:Nat->Nat->Bool}{n:Nat}(hc:∀i j,i<n->j<n->∀C:Bool->Shared->Prop,C (aX i j) s->cmp i j C s){Q:α->Shared->Prop}:
  ∀(t:KasT α) (a:α),l9 aX n t=some a->Q a s->t.kasWp cmp Q s:=by
 intro t
 induction t with
 |ret b=>intro a e h;obtain rfl:=sj e;exact h
 |ask i j k ih=>
  intro a e h;have e:(match Nat.blt i n&&Nat.blt j n with|true=>l9 aX n (k (aX i j))|false=>none)=some a:=e;cases hb:Nat.blt i n&&Nat.blt j n with
  |false=>rw[hb] at e;exact aR e
  |true=>rw[hb] at e;refine us hb λh1 h2=>?_;exact hc i j (bG.mp h1) (bG.mp h2) _ (ih _ a e h)
variable {vs:List Value}
def Va{h:Heap}{l:List AV}(x:aQ V J h vs l):∀{is:List Nat} {r:List AV},rq l is=some r->aQ V J h (is.map λi=>vs.getD i Value.none) r/\r.length=is.length:=by
 intro is
 induction is with
 |nil=>intro r e;obtain rfl:=sj e;exact⟨.nil,rfl⟩
 |cons i is ih=>intro r e;refine ub e λa h1 e=>?_;refine um e λr h2 aa=>?_;subst aa;rw[cQ] at h1;refine aq (x.get h1) λv hv ra=>?_;refine ua (ih h2) λy z=>?_;exact⟨.cons (by show VR V J h (vs.getD i Value.none) a;rw[k8,hv];exact ra) y,congrArg (·+1) z⟩
def Gz:∀{l:List AV} {ts:List (List (List Nat))},pI l=some ts->l=ts.map λt=>.lst (t.map .str):=by
 have one:∀{l:List AV} {t:List (List Nat)},lq l=some t->l=t.map .str:=by
  intro l
  induction l with
  |nil=>intro _ e;obtain rfl:=sj e;rfl
  |cons x l ih=>
   intro _ e;refine ub e λi e1 e=>um e λns e2 aa=>?_;subst aa;rw[ih e2];cases x with
   |str=>obtain rfl:=sj e1;rfl
   |_=>exact aR e1
 intro l
 induction l with
 |nil=>intro _ e;obtain rfl:=sj e;rfl
 |cons x l ih=>
  intro _ e;refine ub e λl' e1 e=>ub e λt e2 e=>um e λts e3 aa=>?_;subst aa;rw[ih e3];cases x with
  |lst=>obtain rfl:=sj e1;rw[one e2];rfl
  |_=>exact aR e1
def WU{prog:Program}{w:World}(hu:A.units+64<cLine){a:Addr}{l r:List AV}{ts:List (List (List Nat))}{n:Nat}{P:Fin->Shared->Prop}{E:Value->Shared->Prop}
  (ho:s.heap.get? a=some (seqObj "list" vs.toArray n)) (hv:∀h',(∀b o,b≠a->s.heap.get? b=some o->h'.get? b=some o)->aQ V J h' vs l) (ht:pI l=some ts) (kM:vs.length<64) (hr:n9 ts l=some r)
  (h:∀out:List Value,(∀h',aQ V J h' vs l->aQ V J h' out r)->P (.done (.ret .none)) {s with heap:=sortedHeap s.heap a vs out.toArray}):
  wpAny (model prog w) A (Builtin.«list.sort» ⟨[.ref a],[]⟩) P E s:=by
 have el:=Gz ht;have hn:vs.length=ts.length:=by rw[(hv s.heap λO O O e=>e).length,el,aJ]
 rw[list_sort_plain];have ha:a<s.heap.objs.size:=fy ho;refine ah (listItems_at ho rfl ?_);refine ah (listUpdate_at ho rfl ?_);obtain⟨e1,Kt⟩:∃e1,(s.heap.update a (Obj.mapSeq λO=>#[])).get? a=some (seqObj "list" #[] e1):=⟨_,get?_update_seq ho (λO=>#[])⟩;refine ah (seqEpoch_at Kt rfl ?_);refine ah (wpAny_newTuple ?_);refine ah (wpAny_newList ?_);refine c8 ?_;have AZ:(((s.heap.update a (Obj.mapSeq λO=>#[])).push (seqObj "tuple" vs.toArray 0)).push (seqObj "list" #[] 0)).get? a=some (seqObj "list" #[] e1):=ij _ (ij _ Kt);have keep:∀b o,b≠a->s.heap.get? b=some o->(((s.heap.update a (Obj.mapSeq λO=>#[])).push (seqObj "tuple" vs.toArray 0)).push (seqObj "list" #[] 0)).get? b=some o:=λb o hb e=>ij _ (ij _ ((pE _ _ (fi hb)).trans e));have v6:=hv _ keep;show wpAny (model prog w) A _ P E {s with heap:=((s.heap.update a (Obj.mapSeq λO=>#[])).push (seqObj "tuple" vs.toArray 0)).push (seqObj "list" #[] 0)};dsimp only;have fM:vs.length<=sizeLine:=aM (fG kM) (by decide);have sz:vs.toArray.size=vs.length:=dj ..;cases hb:Nat.blt ts.length 2 with
 |true=>
  have h2:vs.toArray.size<2:=by rw[sz,hn];exact bG.mp hb
  rw[if_pos h2,if_pos h2];refine ah (aH ?_);rw[StateT.run_pure];refine ah (aH ?_);dsimp only;refine ah (seqEpoch_at AZ rfl ?_);refine ah (listUpdate_at AZ rfl ?_ (hsz2:=by rw[Array.size_map];show(pairsOf vs).size<=_;rw[pairsOf_size];exact wz fM));simp only[bne_self_eq_false,Bool.false_eq_true,if_false];refine aH ?_;have er:r=l:=by unfold n9 at hr;rw[hb] at hr;exact(sj hr).symm
  have:=h vs λh' x=>er▸x;have ep:(arrOf (SortSt.mk' general' (vs.toArray.zip vs.toArray) #[] 7 none)).map (·.2)=vs.toArray:=by show(pairsOf vs).map (·.2)=_;apply Array.toList_inj.mp;rw[Array.toList_map,pairsOf_toList,List.map_snd_zip (bf _)]
  rw[ep];exact this
 |false=>
  have h2:2<=vs.length:=by rw[hn];exact hZ.mp λk=>by rw[bG.mpr k] at hb;cases hb
  have Kw:¬ vs.toArray.size<2:=by rw[sz];exact hZ.mpr h2
  rw[if_neg Kw,if_neg Kw];unfold n9 at hr;rw[hb] at hr;refine ub hr λp hp hr=>?_;refine ur hr λYA hr=>?_;have each:∀i,i<ts.length->VR V J (((s.heap.update a (Obj.mapSeq λO=>#[])).push (seqObj "tuple" vs.toArray 0)).push (seqObj "list" #[] 0)) (vs.getD i Value.none) (.lst ((ts.getD i []).map .str)):=λi hi=>by
   have e:l[i]?=some (.lst ((ts.getD i []).map .str)):=by rw[el,qD,k8,pF hi];rfl
   refine aq (v6.get e) λv hv rv=>?_;rw[k8,hv];exact rv
  refine ah (kas_kind (T:=.type "list") h2 (λv hm A Q E s' k q=>?_) rfl rfl ?_)
  ·refine ue (List.mem_iff_getElem?.mp hm) λi hi=>?_;have:=each i (by rw[<- hn];exact(mG.mp hi).1);rw[k8,hi] at this;refine cO this λb items nn aa f=>?_;have q1:v=.ref b:=aa;rw[q1];exact wpAny_typeOf ⟨_,k _ _ f.at_,rfl⟩ q
  ·have est:SortSt.mk' oneType' (vs.toArray.zip vs.toArray) #[] 7 none=kas_st oneType' (pairsOf vs) (List.toArray (List.range vs.length)):=by have e:=kas_range (pairsOf vs);rw[pairsOf_size] at e;show SortSt.mk' oneType' (pairsOf vs) #[] 7 none=SortSt.mk' oneType' ((List.toArray (List.range vs.length)).map (kas_item (pairsOf vs))) #[] 7 none;rw[e]
   rw[est];have ask:(kas_sort vs.length).kasWp (kas_cmp prog w A oneType' (pairsOf vs)) (λp' s'=>p'=p/\s'={s with heap:=((s.heap.update a (Obj.mapSeq λO=>#[])).push (seqObj "tuple" vs.toArray 0)).push (seqObj "list" #[] 0)}) {s with heap:=((s.heap.update a (Obj.mapSeq λO=>#[])).push (seqObj "tuple" vs.toArray 0)).push (seqObj "list" #[] 0)}:=by rw[<- kas_ask_eq,hn];exact ad5 (λi j hi hj C hC=>Xw (s:={s with heap:=_}) hu (each i hi) (each j hj) hC) _ p hp ⟨rfl,rfl⟩
   refine ah (cz (kas_runs (Q:=λO pM s'=>arrOf pM=p.map (kas_item (pairsOf vs))/\failedOf pM=none/\s'={s with heap:=((s.heap.update a (Obj.mapSeq λO=>#[])).push (seqObj "tuple" vs.toArray 0)).push (seqObj "list" #[] 0)}) h2 kM (λp' pM s' a1 a2 a3 a4=>⟨by rw[a2,a4.1],a3,a4.2⟩) ask) ?_ λO O e=>e)
   rintro ⟨⟨⟩,pM⟩ s' ⟨Y4,hf,rfl⟩
   dsimp only;have YE:(arrOf pM).map (·.2)=List.toArray (p.toList.map λi=>vs.getD i Value.none):=by apply Array.toList_inj.mp;rw[Y4,Array.map_map,Array.toList_map];exact i6 λi O=>by show(kas_item (pairsOf vs) i).2=_;rw[kas_item_eq]
   have ir:(List.toArray (p.toList.map λi=>vs.getD i Value.none)).size=vs.length:=by rw[dj,aJ,pz,bV YA,hn]
   rw[YE];refine ah (seqEpoch_at AZ rfl ?_);refine ah (listUpdate_at AZ rfl ?_ (hsz2:=by rw[ir];exact wz fM));rw[hf];simp only[bne_self_eq_false,Bool.false_eq_true,if_false];exact aH (h _ λh' x=>(Va x hr).1)
end
section
variable {V:Cf}{G:Fm}{A:Around}{φ₀ J:Ph}{s₀ s:Shared}{U:aC}{H:Hp}{d:Nat}{q:Bool}{E:Ev}
variable {α:Type}
def J5(lt:α->α->Bool)(x y:α)(ys:List α):jj lt x (y::ys)=match lt y x with|true=>y::jj lt x ys|false=>x::y::ys:=rfl
def J4(lt:α->α->Bool)(x:α):∀l,(jj lt x l).Perm (x::l):=by
 intro ys
 induction ys with
 |nil=>exact .refl _
 |cons y ys ih=>
  rw[J5];cases lt y x with
  |true=>exact((ih).cons y).trans (.swap x y ys)
  |false=>exact .refl _
def zF(lt:α->α->Bool):∀l,(cC lt l).Perm l:=by
 intro xs
 induction xs with
 |nil=>exact .refl _
 |cons x xs ih=>exact(J4 lt x _).trans ((ih).cons x)
structure yV{α:Type}(lt:α->α->Bool)(le:α->α->Prop):Prop where
 yes:∀a b,lt a b=true->le a b
 no:∀a b,lt a b=false->le b a
 tr:∀a b c,le a b->le b c->le a c
 as:∀a b,le a b->le b a->a=b
variable {lt:α->α->Bool}{le:α->α->Prop}
def Yb(L:yV lt le)(x:α):∀l:List α,l.Pairwise le->(jj lt x l).Pairwise le:=by
 intro ys
 induction ys with
 |nil=>intro _;exact List.pairwise_singleton ..
 |cons y ys ih=>
  intro h;rw[mA] at h;rw[J5];cases vz:lt y x with
  |true=>
   refine mA.mpr ⟨λz hz=>?_,ih h.2⟩;rcases bQ.mp ((J4 lt x ys).mem_iff.mp hz) with rfl|hz
   ·exact L.yes _ _ vz
   ·exact h.1 _ hz
  |false=>
   refine mA.mpr ⟨λz hz=>?_,mA.mpr h⟩;rcases bQ.mp hz with rfl|hz
   ·exact L.no _ _ vz
   ·exact L.tr _ _ _ (L.no _ _ vz) (h.1 z hz)
def Sj(L:yV lt le):∀l:List α,(cC lt l).Pairwise le:=by
 intro xs
 induction xs with
 |nil=>exact .nil
 |cons x xs ih=>exact Yb L x _ (ih)
def G7(L:yV lt le){l l':List α}(p:l'.Perm l)(h:l'.Pairwise le):l'=cC lt l:=(p.trans (zF lt l).symm).eq_of_pairwise (le:=le) (λa b O O=>L.as a b) h (Sj L l)
def WY:yV gb (·<=·):=⟨λa b h=>Int.le_of_lt (by rw[rD] at h;exact of_decide_eq_true h),λa b h=>Int.not_lt.mp (by rw[rD] at h;exact of_decide_eq_false h),λO O O=>sC,λO O=>Int.le_antisymm⟩
def WX:yV bu (λa b=>V.enc a<=V.enc b):=⟨λa b h=>List.le_of_lt ((Bp a b).mpr h),λa b h=>(λk=>by have:=(Bp (V:=V) a b).mp k;rw[h] at this;cases this),λO O O=>List.le_trans,λO O h1 h2=>LV (List.le_antisymm h1 h2)⟩
theorem T1:∀(r:List Str) (x:Str),risingS x r=true->((x::r).map (·.cps.toList)).Pairwise (·<=·):=by
 intro r
 induction r with
 |nil=>intro x _;simp
 |cons y r gH=>
  intro x h;unfold risingS at h;refine us h λh1 h2=>?_;have ih:=gH y h2;have vz:x.cps.toList<=y.cps.toList:=by
   rw[ltCps_eq] at h1;have:¬ y.cps.toList<x.cps.toList:=by simpa using h1
   exact this
  rw[bE];refine mA.mpr ⟨λz hz=>?_,ih⟩;rw[bE] at hz ih;rcases bQ.mp hz with rfl|hz
  ·exact vz
  ·exact List.le_trans vz ((mA.mp ih).1 z hz)
def Sn{l:List Str}(h:sortedS l=true):(l.map (·.cps.toList)).Pairwise (·<=·):=by
 cases l with
 |nil=>exact .nil
 |cons x r=>exact T1 r x h
theorem Rc{h:Heap}:∀{l:List AV} {vs:List Value} {ts:List (List Nat)},aQ V J h vs l->lq l=some ts->StrsAre vs (ts.map V.tx)/\∀x∈ts,cS V x:=by
 intro l
 induction l with
 |nil=>intro _ _ x e;subst x;obtain rfl:=sj e;exact⟨.nil,λx hx=>nomatch hx⟩
 |cons a l ih=>
  intro _ _ bU e;refine bB bU λv r q x y=>?_;clear bU;refine ub e λi h1 e=>?_;refine um e λms h2 aa=>?_;subst aa;refine aq (qP x h1) λt aa o=>?_;subst aa;refine ua (ih y h2) λh3 h4=>?_;subst q;exact⟨.cons _ _ h3,λz hz=>by
   rcases bQ.mp hz with rfl|hz
   ·exact o
   ·exact h4 z hz⟩
theorem QK{h:Heap}:∀{ts:List (List Nat)} {vs:List Value},StrsAre vs (ts.map V.tx)->(∀x∈ts,cS V x)->aQ V J h vs (ts.map .str):=by
 intro ts
 induction ts with
 |nil=>intro _ e _;cases e;exact .nil
 |cons t ts ih=>
  intro _ e hk;cases e with
  |cons y u r=>exact .cons (.str (hk t bA)) (ih r λx hx=>hk x (bS _ hx))
def Rg{us:List Str}{l:List (List Nat)}(p:us.Perm (l.map V.tx)):∃l':List (List Nat),us=l'.map V.tx/\l'.Perm l:=by
 let g:Str->List Nat:=λx=>x.cps.toList.map (·-65)
 have hg:∀t,g (V.tx t)=t:=λt=>by show(V.enc t).map (·-65)=t;unfold Cf.enc;rw[cI];exact(i6 λc O=>(show 65+c-65=c from Nat.add_sub_cancel_left ..)).trans (List.map_id t)
 refine⟨us.map g,?_,?_⟩
 ·rw[cI];refine((i6 λu hu=>?_).trans (List.map_id us)).symm;refine aq (bW.mp (p.mem_iff.mp hu)) λt O aa=>?_;subst aa;exact congrArg V.tx (hg t)
 ·have:=p.map g;rwa[cI,(i6 λt O=>hg t:l.map (g∘V.tx)=l.map _root_.id),List.map_id] at this
theorem XZ{h:Heap}:∀{l:List AV} {vs:List Value} {ns:List Int},aQ V J h vs l->lS l=some ns->IntsAre vs ns:=by
 intro l
 induction l with
 |nil=>intro _ _ r e;subst r;obtain rfl:=sj e;exact .nil
 |cons x l ih=>intro _ _ bU e;refine bB bU λv r q h1 h2=>?_;clear bU;subst q;refine ub e λi e1 e=>?_;refine um e λns e2 aa=>?_;subst aa;refine ue (eG h1 e1) λt aa=>?_;subst aa;exact .cons i t (ih h2 e2)
variable {vs:List Value}
def Gi{h:Heap}{ns:List Int}(x:IntsAre vs ns):aQ V J h vs (ns.map .int):=by
 induction x with
 |nil=>exact .nil
 |cons i t r ih=>exact .cons (.lit i t) ih
theorem X1:∀{l:List AV} {ns:List Int},lS l=some ns->ns.length=l.length:=by
 intro l
 induction l with
 |nil=>intro _ e;obtain rfl:=sj e;rfl
 |cons x l ih=>intro _ e;exact ub e λi e1 e=>um e λns e2 aa=>by subst aa;exact congrArg (·+1) (ih e2)
theorem Rf:∀{l:List AV} {ns:List (List Nat)},lq l=some ns->ns.length=l.length:=by
 intro l
 induction l with
 |nil=>intro _ e;obtain rfl:=sj e;rfl
 |cons x l ih=>intro _ e;exact ub e λi e1 e=>um e λns e2 aa=>by subst aa;exact congrArg (·+1) (ih e2)
def Vb{l:List α}:∀{is:List Nat} {r:List α},rq l is=some r->r.length=is.length:=by
 intro is
 induction is with
 |nil=>intro r e;obtain rfl:=sj e;rfl
 |cons i is ih=>intro r e;exact ub e λa h1 e=>um e λr h2 aa=>by subst aa;exact congrArg (·+1) (ih h2)
variable {l:List AV}{ts:List (List (List Nat))}
def Rb(h:pI l=some ts):l.length=ts.length:=by rw[Gz h,aJ]
variable {r:List AV}
def Sv(hl:l.length=ts.length)(h:n9 ts l=some r):r.length=l.length:=by
 unfold n9 at h;cases hb:Nat.blt ts.length 2 with
 |true=>rw[hb] at h;obtain rfl:=sj h;rfl
 |false=>rw[hb] at h;refine ub h λp O h=>?_;refine ur h λh1 h=>?_;rw[Vb h,pz,bV h1,hl]
def Ss(hr:jA l=some r):r.length=l.length:=by
 unfold jA at hr;cases hi:lS l with
 |some ns=>rw[hi] at hr;obtain rfl:=sj hr;rw[aJ,(zF _ ns).length_eq,X1 hi]
 |none=>
  rw[hi] at hr;cases ht:lq l with
  |some ts=>rw[ht] at hr;obtain rfl:=sj hr;rw[aJ,(zF _ ts).length_eq,Rf ht]
  |none=>rw[ht] at hr;exact ub hr λts h1 hr=>Sv (Rb h1) hr
variable {Ex:Value->Shared->Prop}
def Su{prog:Program}{w:World}(hu:A.in1.units+64<cLine){Q:Shared->Prop}{D:Addr}{m:Nat}(hD:s.heap.get? D=some (seqObj "list" vs.toArray m))(hv:∀h',(∀b o,b≠D->s.heap.get? b=some o->h'.get? b=some o)->aQ V J h' vs l)(kM:l.length<64)(hr:jA l=some r)
  (h:∀out:List Value,(∀h',aQ V J h' vs l->aQ V J h' out r)->Q {s with heap:=sortedHeap s.heap D vs out.toArray}):
  wpAny (model prog w) A (call (.builtin "list.sort") [.ref D]) (λO s'=>Q s') Ex s:=by
 have D5:=hv s.heap λO O O e=>e;have Ez:vs.length<64:=by rw[D5.length];exact kM
 unfold jA at hr;cases hi:lS l with
 |some ns=>rw[hi] at hr;obtain rfl:=sj hr;refine uw slot_list_sort ⟨_,hD,rfl⟩ entry_list_sort (list_sort_tree hD (XZ D5 hi) Ez λout s8 a1 a2 a3=>⟨_,rfl,?_⟩) (args_list_sort _);have:=h out.toList (λh' O=>G7 WY a2 a3▸Gi a1);rwa[Array.toArray_toList] at this
 |none=>
  rw[hi] at hr;cases ht:lq l with
  |none=>rw[ht] at hr;refine ub hr λts h1 hr=>?_;exact uw slot_list_sort ⟨_,hD,rfl⟩ entry_list_sort (WU hu hD hv h1 Ez hr λout O=>⟨_,rfl,h out O⟩) (args_list_sort _)
  |some ts=>rw[ht] at hr;obtain rfl:=sj hr;refine ua (Rc D5 ht) λhS hk=>?_;refine uw slot_list_sort ⟨_,hD,rfl⟩ entry_list_sort (list_sort_treeK strKind_oneLt hD hS.keysOf (λv₁ v₂ rest e=>keyKind_strs (by rw[<- e];exact hS)) Ez λpM hp hs=>⟨_,rfl,?_⟩) (args_list_sort _);refine gP (sorted_out_str hS hp hs) λss' h1 h2 h3=>?_;refine aq (Rg h2) λl' e1 e2=>?_;subst e1;have e:l'=cC bu ts:=G7 (WX (V:=V)) e2 (by have:=Sn h3;rw[cI] at this;exact List.pairwise_map.mp this);subst e;have:=h ((arrOf pM).map (·.2)).toList (λh' O=>QK h1 λx hx=>hk x ((zF _ ts).mem_iff.mp hx));rwa[Array.toArray_toList] at this
def So{prog:Program}{w:World}(hu:A.in1.units+64<cLine){Q:Value->Shared->Prop}{s1:Shared}(R:aZ V J H s.heap)(g:ax s s1)(hv:aQ V J s1.heap vs l)(kM:l.length<64)(hr:jA l=some r)
  (h:∀D s',ax s s'->VR V J s'.heap (.ref D) (.lst r)->Q (.ref D) s'):
  wpAny (model prog w) A (newList vs) (λL s2=>wpAny (model prog w) A (holding [L] (call (.builtin "list.sort") [L] [])) (λO s3=>Q L s3) Ex s2) Ex s1:=by
 have fM:=fG kM;refine wpAny_newList ?_ (by rw[hv.length];exact aM fM (by decide));have g2:ax s1 {s1 with heap:=s1.heap.push (seqObj "list" vs.toArray 0)}:=ax.push s1 _ s1.toks;have hD:(s1.heap.push (seqObj "list" vs.toArray 0)).get? s1.heap.objs.size=some (seqObj "list" vs.toArray 0):=cY _ rfl;refine c8 (Su (V:=V) (J:=J) hu (s:={s1 with heap:=s1.heap.push (seqObj "list" vs.toArray 0)}) hD (λh' k=>?_) kM hr λout ro=>?_)
 ·exact(@ax.mk s1 {s1 with heap:=h'} (λb o e=>k b o (dU (fy e)) (ij _ e)) rfl rfl:ax s1 {s1 with heap:=h'}).jW hv
 have old:∀b o,s1.heap.get? b=some o->(sortedHeap (s1.heap.push (seqObj "list" vs.toArray 0)) s1.heap.objs.size vs out.toArray).get? b=some o:=λb o e=>(sortedHeap_old (dU (fy e)) (fy (ij _ e))).trans (ij _ e)
 have g4:ax s1 {s1 with heap:=sortedHeap (s1.heap.push (seqObj "list" vs.toArray 0)) s1.heap.objs.size vs out.toArray}:=ax.mk old rfl rfl;have g3:=g.trans g4;refine ue (sortedHeap_at (vs:=vs) (out:=out.toArray) hD) λe he=>?_;refine h _ _ g3 (.lst (Sq.mk he (λhm=>?_) (ro _ (g4.jW hv)) (by rw[Ss hr];exact aM fM (by decide))));refine aq (bW.mp hm) λp hp e'=>?_;refine ue (R.live p hp) λo eo=>?_;exact absurd (fy (g.keep _ _ eo)) (by rw[e'];exact jQ _)
def adx(pre:ao V d true G J U H s){v:Value}{x:AV}(hx:VR V J s.heap v x)(hk:cG H x=some l)(kM:l.length<64)(hr:jA l=some r):fS V G J s (call (.builtin "sorted") [v]) (.lst r):=by intro Q Ex hq;have hu:=pre.room.units;refine Calls.call_function_entry kind_sorted plain_sorted entry_sorted (args_sorted1 _) ?_;unfold Builtin.«sorted»;refine ah (m:=checkCount "sorted" 1 1 _) (aH ?_);refine iJ (lg pre.rel hx hk) λa items nn y=>?_;rw[y.eq];refine ah (collect_list ⟨_,y.at_,rfl,_,rfl⟩ ?_ (by rw[y.all.length];exact aM (fG kM) (by decide)));have g:ax s {s with heap:=(s.heap.push (seqObj "list" #[] 0)).update s.heap.objs.size (Obj.mapSeq (·++items.toArray))}:=(ax.mk (λb o e=>(pE _ _ (dM (fy e))).trans (ij _ e)) rfl rfl);exact ah (cz (So (Q:=λv s'=>Q v s') (Qu hu) pre.rel g (g.jW y.all) kM hr λD s' g r=>hq _ s' g r) (λL s2 h2=>ah (cz h2 (λO s3 h3=>aH ⟨_,rfl,h3⟩) λO O e=>e)) λO O e=>e)
def adu(ok:eg V)(pre:ao V d true G J U H s){b:BI}{vx:Value}{x:AV}{r:AV×Hp}(hx:VR V J s.heap vx x)(e:tT b x H=some r):ag V G J s (call (yO b) [vx]) (.ok r.1 U r.2) (VR V):=by
 cases b with
 |len=>refine ub e λk h1 e=>?_;refine ur e λh2 e=>?_;obtain rfl:=sj e;exact(adC pre ok hx h1 (gN h2)).tri pre
 |abs=>
  refine um e λa h1 aa=>?_;subst aa;refine ue (eG hx h1) λt aa=>?_;subst aa;have:(match gb a 0 with|true=>-a|false=>a)=if a<0 then -a else a:=by
   rw[rD];by_cases h:a<0
   ·rw[decide_eq_true h,if_pos h]
   ·rw[decide_eq_false h,if_neg h]
  show ag V G J s _ (.ok (AV.int (match gb a 0 with|true=>-a|false=>a)) U H) _;rw[this];exact adI.tri pre
 |int=>refine um e λa h1 aa=>?_;subst aa;refine ue (eG hx h1) λt aa=>?_;subst aa;exact adE.tri pre
 |chr=>refine ub e λa h1 e=>?_;refine ub e λn h2 e=>?_;refine ur e λh3 e=>?_;obtain rfl:=sj e;refine us h3 λh3 h4=>?_;have h3:=gN h3;have h4:=bG.mp h4;refine ue (eG hx h1) λt aa=>?_;subst aa;rw[Av h2];obtain⟨c,rfl⟩:∃c,n=65+c:=⟨n-65,(Nat.add_sub_of_le h3).symm⟩;rw[show 65+c-65=c from Nat.add_sub_cancel_left ..];exact(adG (by exact Ov ‹_›)).tri pre
 |max=>
  refine ub e λl h1 e=>?_;refine ub e λns h2 e=>?_;cases ns with
  |nil=>exact aR e
  |cons y ys=>obtain rfl:=sj e;exact(adB pre hx h1 h2).tri pre
 |range=>refine ub e λi h1 e=>?_;refine ur e λh2 e=>?_;refine ue (eG hx h1) λt aa=>?_;subst aa;obtain rfl:=sj e;exact(adA pre h2).tri pre
 |sorted=>refine ub e λl h1 e=>?_;refine ur e λh2 e=>?_;refine um e λw h3 aa=>?_;subst aa;exact(adx pre hx h1 (bG.mp h2) h3).tri pre
 |iter=>refine ub e λn h1 e=>?_;refine um e λl h2 aa=>?_;subst aa;refine aq (ik hx h1) λp aa hp=>?_;subst aa;exact adD pre hp h2
 |tuple=>refine um e λl h1 aa=>?_;subst aa;exact(adw pre hx h1).tri pre
 |bool=>refine ub e λn h1 e=>?_;refine um e λl h2 aa=>?_;subst aa;refine aq (ik hx h1) λp aa hp=>?_;subst aa;exact(adH pre hp h2).tri pre
 |_=>exact aR e
def adt(pre:ao V d true G J U H s){b:BI}{vx vy:Value}{x y:AV}{r:AV×Hp}(hx:VR V J s.heap vx x)(hy:VR V J s.heap vy y)(e:MS b x y H=some r):ag V G J s (call (yO b) [vx,vy]) (.ok r.1 U r.2) (VR V):=by
 cases b with
 |divmod=>refine ub e λa h1 e=>?_;refine ub e λc h2 e=>?_;refine ue (eG hx h1) λt aa=>?_;subst aa;refine ue (eG hy h2) λu aa=>?_;subst aa;refine ur e λh3 e=>?_;obtain rfl:=sj e;refine us h3 λh3 h4=>?_;exact(adF pre (AN (jf h3)) (zJ h4)).tri pre
 |range=>refine ub e λa h1 e=>?_;refine ub e λc h2 e=>?_;refine ue (eG hx h1) λt aa=>?_;subst aa;refine ue (eG hy h2) λu aa=>?_;subst aa;refine ur e λh3 e=>?_;obtain rfl:=sj e;exact(adz pre h3).tri pre
 |min=>
  refine ub e λa h1 e=>?_;refine um e λb h2 aa=>?_;subst aa;cases x with
  |str l=>
   cases y with
   |str m=>obtain rfl:=sj h1;obtain rfl:=sj h2;exact(GC pre hx hy).1.tri pre
   |_=>exact aR h2
  |_=>exact aR h1
 |max=>
  refine ub e λa h1 e=>?_;refine um e λb h2 aa=>?_;subst aa;cases x with
  |str l=>
   cases y with
   |str m=>obtain rfl:=sj h1;obtain rfl:=sj h2;exact(GC pre hx hy).2.tri pre
   |_=>exact aR h2
  |_=>exact aR h1
 |_=>exact aR e
def ads(ok:eg V)(pre:ao V d true G J U H s){b:BI}{args:List AV}(hs:aQ V J s.heap vs args):ag V G J s (call (yO b) vs) (mH (λH=>yP b args H) U H) (VR V):=ag.Cd λr e=>by
 cases args with
 |nil=>
  subst hs;cases b with
  |set=>obtain rfl:=sj e;exact ady pre
  |_=>exact aR e
 |cons x as=>
  obtain⟨vx,r1,rfl,hx,hs⟩:=hs;cases as with
  |nil=>subst hs;exact adu ok pre hx e
  |cons y as=>
   obtain⟨vy,r2,rfl,hy,hs⟩:=hs;cases as with
   |nil=>subst hs;exact adt pre hx hy e
   |cons=>exact aR e
end
section
variable {V:Cf}{G:Fm}{φ₀ J:Ph}{s₀ s:Shared}{U:aC}{H:Hp}{d:Nat}{q:Bool}{E:Ev}
structure nN(V:Cf):Prop extends rX V where
 bis:∀k b,V.P.gt[k]?=some (.bi b)->V.gv k=some (yO b)
variable {xs:List AV}
def BD{k:Nat}{g:GE}(hk:V.P.gt[k]?=some g):wY V.P E d (.glob k) xs U H=oM E d k g xs U H:=by show(match ae V.P.gt k with|some g=>oM E d k g xs|none=>M.stuck) U H=_;rw[cQ,hk]
variable {vs:List Value}
def LC(ok:nN V)(Sd:mj V E)(pre:ao V d true G J U H s){k:Nat}{fd:FD}{vf:Value}(hk:V.P.gt[k]?=some (.fn fd))(hg:V.gv k=some vf)(hv:aQ V J s.heap vs xs):
  uc V G J s vf vs (wY V.P E d (.glob k) xs U H):=by
 rw[BD hk];show uc V G J s vf vs (yx E d fd xs U H);unfold yx;cases d with
 |zero=>exact λh=>absurd rfl h
 |succ d=>
  dsimp only;cases hb:kP fd xs with
  |none=>exact λh=>absurd rfl h
  |some ρ'=>exact ZP ok.toBR Sd pre hk hg hv hb
def T2{P:bP}{k:Nat}{fd:FD}{v:AV}{ρ':aC}{H':Hp}(hk:P.gt[k]?=some (.fn fd))(h:wY P E d (.glob k) xs U H=.ok v ρ' H'):ρ'=U:=by
 have h:(match ae P.gt k with|some g=>oM E d k g xs|none=>M.stuck) U H=.ok v ρ' H':=h;rw[cQ,hk] at h;have h:yx E d fd xs U H=.ok v ρ' H':=h;unfold yx at h;cases d with
 |zero=>cases h
 |succ d=>
  dsimp only at h;cases hb:kP fd xs with
  |none=>rw[hb] at h;cases h
  |some r=>
   rw[hb] at h;dsimp only at h;generalize cW (E.s d true) (ss fd.body) r H=z at h;cases z with
   |ok f ρ1 H1=>cases f<;>first|(cases h;rfl)|cases h
   |exc=>cases h
   |stuck=>cases h
def ab1(ok:nN V)(Sd:mj V E)(pre:ao V d true G J U H s){vf:Value}{fv:AV}(hf:VR V J s.heap vf fv)(hv:aQ V J s.heap vs xs):
  ag V G J s (call vf vs) (wY V.P E d fv xs U H) (VR V):=by
 cases fv with
 |glob k=>
  have hg:V.gv k=some vf:=hf;cases hk:V.P.gt[k]? with
  |none=>show ag V G J s _ ((match ae V.P.gt k with|some g=>oM E d k g xs|none=>M.stuck) U H) _;rw[cQ,hk];exact ag.stuck
  |some g=>
   cases g with
   |fn fd=>exact(LC ok Sd pre hk hg hv).tri
   |cl cd=>rw[BD hk];exact abx ok.too9 Sd pre hk hg hv
   |bi b=>rw[BD hk];have:=ok.bis k b hk;rw[hg] at this;obtain rfl:=sj this;exact ads ok.toeg pre hv
   |_=>rw[BD hk];exact ag.stuck
 |cP m=>
  show ag V G J s _ (s6 m xs U H) _;unfold s6;cases xs with
  |cons=>exact ag.stuck
  |nil=>
   subst hv;dsimp only;cases hi:tE H m with
   |none=>exact ag.stuck
   |some p=>
    dsimp only;cases hl:bx H p.1 with
    |none=>exact ag.stuck
    |some l=>dsimp only;rw[cQ];exact VA pre hf (XK hi) hl
 |_=>exact ag.stuck
def aaJ(ok:nN V)(Sd:mj V E)(pre:ao V d q G J U H s){o args:C}{x:Str}{m:Nat}{ap p:Pos}(h:wf V (.eO o x m args ap p) G.K=true):
  ag V G J s (eval (.Call (.Attribute (au o) x ap) (bN args) [] p) G.env) (Ja V.P E d q o m args U H) (VR V):=by
 refine zo h λh1 hp hn h2 hl rL=>?_;have hn:=of_decide_eq_true hn;have rL:=bG.mp rL;rw[V6 hp];refine ag.bind pre (Sd.e pre h1) λvo ov ρ1 H1 φ1 s1 n1 p1 r1=>?_;refine TT.imp (λQ E h=>ah (fz h)) ?_;cases hk:kK V.P ov m H1 with
 |none=>
  have e:cu (kK V.P ov m) ρ1 H1=.stuck:=by unfold cu;rw[hk]
  rw[vX e];exact ag.stuck
 |some mk=>
  have e:cu (kK V.P ov m) ρ1 H1=.ok mk ρ1 H1:=by unfold cu;rw[hk]
  rw[tS e];rcases Xv p1.rel r1 hk with⟨k,nn,c,cd,fs,rfl,ku⟩|⟨nu,kb⟩
  ·cases q with
   |false=>exact ag.stuck
   |true=>exact QV ok.too9 Sd p1 r1 ku hn h2 hl rL
  ·have T:=V8 (name:=x) ok.toOk Sd.tod5 p1 r1 kb (λhm=>by
    have:m<10/\m≠4:=by
     cases mk with
     |user k=>cases hm
     |list=>have h:=bG.mp (show Nat.blt m 4=true from hm);exact⟨nP h (by decide),dU h⟩
     |dict=>rcases sx.mp (show(Nat.beq m 6||Nat.beq m 7)=true from hm) with h|h<;>cases bV h<;>decide
     |set=>cases bV (show Nat.beq m 8=true from hm);decide
     |str=>cases bV (show Nat.beq m 5=true from hm);decide
    have:=ok.nms m this.1 this.2;rw[hn] at this;exact jR this) h2 hl rL (pos:=p) (o':=au o) (apos:=ap)
   cases mk with
   |user k=>exact absurd rfl (nu k)
   |_=>exact T
def aaF(ok:nN V)(Sd:mj V E)(pre:ao V d q G J U H s){c:C}(h:wf V c G.K=true):ag V G J s (eval (au c) G.env) (G2 V.P E d q c U H) (VR V):=by
 cases c with
 |cst c v k p=>show ag V G J s (eval (.Constant c k p) G.env) (.ok v U H) (VR V);rw[arm_eval_Constant];exact abk pre h
 |var x k p=>exact aaC pre h
 |glob x k p=>exact aaM ok.toOk pre h
 |bin op a b p=>refine us h λh1 h2=>?_;exact aaS Sd.tod5 pre h1 h2
 |neg a p=>exact aaI Sd.tod5 pre h
 |not a p=>exact aaH Sd.tod5 pre h
 |cmp op a b p=>refine jx h λh1 h2 h3=>?_;exact aaQ ok.toeg Sd.tod5 pre h1 h2 (jf h3)
 |fx isAnd l p=>refine ua (uC (l:=l) h) λe h=>?_;have:=L3 Sd.tod5 (pos:=p) (isAnd:=isAnd) (cs l) pre h;rw[<- e] at this;exact this
 |call f args p=>refine pH h λh1 h2 h3 h4=>?_;exact aaR ok.toOk Sd pre h1 h2 h3
 |eO o x m args ap p=>exact aaJ ok Sd pre h
 |attr o x a p=>refine jx h λh1 h2 h3=>?_;refine TT.imp (λO O h=>Attribute_any_ h (by rw[arm_eval_Attribute,MU h2])) (TT.seq (Nx.refl ..) pre (Sd.e pre h1) λvo ov ρ1 H1 φ1 s1 n1 m1 p1 r1=>TT.last m1 ?_);exact(Fj ok.too9).get p1 r1 (of_decide_eq_true h3)
 |sub o i p=>refine jx h λh1 h2 h3=>?_;exact aaE Sd.tod5 pre h1 h2 (jf h3)
 |fN o lo hi sp p=>refine jx h λh1 h2 h3=>?_;exact aaG Sd.tod5 pre h1 h2 h3
 |list l r p=>refine us h λh1 h2=>?_;exact aaK Sd.tod5 pre h1 (gN h2)
 |tup l k p=>refine us h λh1 h2=>?_;exact aaD Sd.tod5 pre h1 (gN h2)
 |dict p=>exact aaO pre
 |dct k v p=>refine us h λh1 h2=>?_;exact aaP Sd.tod5 pre h1 h2
 |fst c k p p'=>exact aaN pre h
 |oF t a b p=>refine jx h λh1 h2 h3=>?_;exact aaL Sd.tod5 pre h1 h2 h3
 |gen=>exact ag.stuck
 |comp elt tg it ifs sc p=>exact LZ ok.toeg Sd.tov9 pre h
 |sH t e p=>refine us h λh1 h2=>?_;refine TT.imp (λO O h=>wpAny_NamedExpr h) (TT.seq (Nx.refl ..) pre (Sd.e pre h2) λvo ov ρ1 H1 φ1 s1 n1 m1 p1 r1=>?_);exact TT.seq m1 p1 (BK p1 h1 r1) λO O ρ2 H2 φ2 s2 n2 m2 p2 r2=>TT.now m2 p2 (n2.vr p1.er r1)
 |_=>exact ag.stuck
def Rz(ok:nN V)(Sd:d5 V E)(pre:ao V d q G J U H s){c:C}(h:wf V c G.K=true):ag V G J s (isTrue (au c) G.env (eval (au c) G.env)) (GY E d q c U H) (λO O a b=>a=b):=by
 have gen:=Ry Sd pre h;cases c with
 |not a p=>exact RD Sd pre h
 |cmp op a b p=>refine jx h λh1 h2 h3=>?_;exact RG ok.toeg Sd pre h1 h2 (jf h3)
 |fx isAnd l p=>refine ua (uC (l:=l) h) λe h=>?_;have:=RH Sd (isAnd:=isAnd) (cs l) pre h;rw[<- e] at this;exact TT.imp (λO O h=>wpAny_isTrue_BoolOp h) this
 |nil=>exact cR h
 |cons=>exact cR h
 |bad=>exact cR h
 |oF=>exact ag.stuck
 |gen=>exact ag.stuck
 |_=>exact gen rfl
def RI{elt tgt:Expr}{gens:List Comprehension}{sc:Scope}{pos:Pos}{line:Nat}{env:Env}:∃b,swapsWithSole [tgt] (.ListComp elt gens sc pos) line env=pure b:=by cases tgt<;>first|exact⟨_,rfl⟩|exact⟨false,rfl⟩
def Vr{ts:C}(h1:tG ts=true)(h2:(cs ts).length=1):∃t,cs ts=[t]/\bN ts=[au t]:=by refine ue (List.length_eq_one_iff.mp h2) λt e=>?_;exact⟨t,e,by rw[DS h1,e];rfl⟩
def abn{e:C}{K:Cx}(h:wf V e K=true):(rA (au e)=true/\qQ E d q e=E.e d q e)\/∃elt tg it ifs sc p,e=.comp elt tg it ifs sc p:=by
 cases e with
 |comp elt tg it ifs sc p=>exact .inr ⟨_,_,_,_,_,_,rfl⟩
 |bad=>exact cR h
 |gen=>exact .inl ⟨(nF h).2,rfl⟩
 |_=>exact .inl ⟨rfl,rfl⟩
def Tu(ok:nN V)(Sd:mj V E)(pre:ao V d q G J U H s){ts e:C}{pos:Pos}(h1:tG ts=true)(h2:∀t∈cs ts,sG V G.K t=true)(h3:wf V e G.K=true)(h4:(Nat.beq (cs ts).length 1||rA (au e))=true)(h5:Aq (au e)=true):
  ag V G J s (exec (.Assign (bN ts) (au e) pos) G.env) (Fn V.P E d q ts e U H) (d7 V):=by
 have jL:=Fj ok.too9;unfold Fn;rcases abn (E:=E) (d:=d) (q:=q) h3 with⟨hc,he⟩|⟨elt,tg,it,ifs,sc,p,rfl⟩
 ·rw[he];exact HD ok.toeg jL Sd.tod5 pre h1 h2 (Sd.e pre h3) (Sw hc) h5
 ·have hl:(cs ts).length=1:=by
   rcases sx.mp h4 with h|h
   ·exact bV h
   ·exact cR h
  refine aq (Vr h1 hl) λt e1 e2=>?_;refine ue (RI (env:=G.env) (elt:=au elt) (tgt:=au t) (gens:=⟨au tg,au it,bN ifs,0⟩::iT (bN elt)) (sc:=sc) (pos:=p) (line:=pos.line)) λb hb=>?_;cases b with
  |false=>exact HD ok.toeg jL Sd.tod5 pre h1 h2 (m:=vT E d q elt tg it ifs) (LZ ok.toeg Sd.tov9 pre h3) (by rw[e2];exact hb) h5
  |true=>
   cases q with
   |false=>exact ag.stuck
   |true=>rw[e1,e2];exact Tv ok.toeg jL Sd.tov9 pre (h2 t (by rw[e1];exact bA)) h3 hb
def Tj(ok:nN V)(Sd:mj V E)(pre:ao V d q G J U H s){c:S}(h:wH V c G.K=true):ag V G J s (exec (wK c) G.env) (GZ V.P E d q c U H) (d7 V):=by
 cases c with
 |asg ts e p=>refine Cm h λh1 h2 h3 h4 h5=>?_;rw[iH] at h2;exact Tu ok Sd pre h1 h2 h3 h4 h5
 |aug op t e p=>refine us h λh1 h2=>?_;exact Tt (Fj ok.too9) Sd.tod5 pre h2 h1
 |expr e p=>refine us h λh1 h2=>?_;exact Tr Sd.tod5 pre h1 h2
 |iff t a b p=>refine jx h λh1 h2 h3=>?_;exact Tp Sd.tov3 pre h1 h2 h3
 |gO t a b p=>refine jx h λh1 h2 h3=>?_;exact Th Sd.toyT pre h1 h2 h3
 |loop tg it b p=>
  refine pH h λh1 h2 h3 h4=>?_;cases q with
  |false=>exact ag.stuck
  |true=>exact Tq ok.toeg Sd.toyT pre h1 h2 h3 h4
 |ret e p=>exact Tn Sd.tod5 pre h
 |brk p=>show ag V G J s (exec (.Break p) G.env) (.ok .brk U H) (d7 V);rw[arm_exec_Break];exact TT.imp (λO O h=>ah (fz (aH h))) (TT.now (Nx.refl ..) pre rfl)
 |cont p=>show ag V G J s (exec (.Continue p) G.env) (.ok .cont U H) (d7 V);rw[arm_exec_Continue];exact TT.imp (λO O h=>ah (fz (aH h))) (TT.now (Nx.refl ..) pre rfl)
 |pass p=>show ag V G J s (exec (.Pass p) G.env) (.ok .next U H) (d7 V);rw[arm_exec_Pass];exact TT.imp (λO O h=>ah (fz (aH h))) (TT.now (Nx.refl ..) pre rfl)
 |tri b x k np hh hp p=>refine pH h λh1 h2 h3 h4=>?_;exact Ti ok.torX Sd.tov3 pre h1 h2 h3 (jf h4)
 |del o i sp p=>refine us h λh1 h2=>?_;exact Ts Sd.tod5 pre h1 h2
 |raise x k np args cp p=>refine us h λh1 h2=>?_;exact To ok.torX Sd.tod5 pre h1 h2
 |_=>exact ag.stuck
def Sz(ok:nN V):∀n,mj V (ev V.P n):=by
 intro n
 induction n with
 |zero=>exact {e:=λO O=>ag.stuck,t:=λO O=>ag.stuck,s:=λO O=>ag.stuck,w:=λO O O O h=>absurd rfl h,f:=λO O O O O O h=>absurd rfl h,cp:=λO O O O O O O O h=>absurd rfl h,yA:=λO O O O h=>absurd rfl h,rho:=λO h=>(nomatch h),call:=λO O O=>ag.stuck}
 |succ n ih=>
  have Sd:=ih;exact {
   e:=λpre h=>aaF ok Sd pre h
   t:=λpre h=>Rz ok Sd.tod5 pre h
   s:=λpre h=>Tj ok Sd pre h
   w:=λpre h1 h2 h3=>QI Sd.toyT pre h1 h2 h3
   f:=λn0 hI pre it h1 h2=>Z1 ok.toeg Sd.toyT n0 hI pre it h1 h2
   cp:=λn0 hI pre it hD h1 h2 h3=>ab3 ok.toeg Sd.tov9 n0 hI pre it hD h1 h2 h3
   yA:=λpre hk hg hv=>LC ok Sd pre hk hg hv
   rho:=λhk h=>T2 hk h
   call:=λpre hf hv=>ab1 ok Sd pre hf hv}
end
noncomputable def Be(h:Heap)(as:List Addr):Frag:=as.filterMap λa=>(h.get? a).map λo=>(a,o)
def ZF(h:Heap):∀as:List Addr,(Be h as).In h:=by
 intro as
 induction as with
 |nil=>intro _ _ e;exact nomatch e
 |cons b as ih=>
  intro a o e;unfold Be at e;rw[wC] at e;cases hb:h.get? b with
  |none=>rw[hb] at e;exact ih a o e
  |some ob=>
   rw[hb] at e;dsimp only[Option.map_some] at e;rw[iI] at e;cases hq:(a==b) with
   |true=>rw[hq] at e;obtain rfl:=sj e;rw[eq_of_beq hq];exact hb
   |false=>rw[hq] at e;exact ih a o e
noncomputable def ob{α:Type}(x:Option α)(f:α->Bool):Bool:=match x with
 |some a=>f a
 |none=>false
noncomputable def tM(h:Heap)(x:Str):Option Value:=match h.nsMap mainGlobals x with
 |some v=>some v
 |none=>h.nsMap builtinsNs x
noncomputable def CR(v:Value):Option Addr:=match v with
 |.ref a=>some a
 |_=>none
noncomputable def J2(v:Value):Option Int:=match v with
 |.int i _=>some i
 |_=>none
noncomputable def Hv(d:Data):Option (Array Value):=match d with
 |.seq l _=>some l
 |_=>none
noncomputable def Lq(d:Data):Option FuncData:=match d with
 |.func f=>some f
 |_=>none
def xq(v:Option Value):Option Addr:=v.bind CR
def pT(v:Option Value):Addr:=(xq v).getD 0
noncomputable def XY(g:GE):Bool:=match g with
 |.cv _=>true
 |_=>false
noncomputable def K7(h:Heap):List Str->List GE->List (Option Value)
 |x::xs,g::gs=>(match XY g with|true=>none|false=>tM h x)::K7 h xs gs
 |_,_=>[]
def V3(h:Heap)(fr:Frag)(p:Str×Str):Option Value:=match findIn fr (.ref (pT (tM h p.1))) p.2 with
 |some v=>v
 |none=>none
structure Tb where
 P:bP
 gl:List Str
 nm:List Str
 ms:List (Str×Str)
 as:List Addr
 pr:Program
def Tb.yo(T:Tb)(h:Heap):List (Option Value):=K7 h T.gl T.P.gt++T.ms.map (V3 h (Be h T.as))
noncomputable def xX(v:Option (Option Value)):Option Value:=match v with
 |some v=>v
 |none=>none
def qa(T:Tb)(w:World)(h:Heap):Cf:={prog:=T.pr,w:=w,h₀:=h,P:=T.P,gl:=T.gl,nm:=T.nm,gv:=λk=>xX (ae (T.yo h) k),clsAt:=λc=>pT (xX (ae (T.yo h) c)),fr:=Be h T.as}
noncomputable def xZ(v:Option (Option Value))(id:String):Bool:=decide (v=some (some (.builtin id)))
def E9(h:Heap)(v:Value)(fd:FD)(as:List Arg)(va:Option Arg):Bool:=match fd.dflt with
 |[]=>decide (v=.none)
 |d::ds=>d.th&&ds.isEmpty&&Nat.beq as.length 2&&va.isNone&&decide ((((CR v).bind h.get?).bind λo=>Hv o.data)=some #[.none])
noncomputable def abI(p:Arguments)(fd:FD):Bool:=p.posonlyargs.isEmpty&&p.kwonlyargs.isEmpty&&p.kwarg.isNone&&Nat.beq fd.npar p.args.length&&decide (fd.va=p.vararg.isSome)
def abU(V:Cf)(fd:FD)(f:FuncData):Bool:=
 V.h₀.codeRecOk f.code f.qualname&&f.closure.isEmpty&&Nat.beq f.globals mainGlobals&&Nat.beq f.builtins builtinsNs&&abI f.params fd&&E7 f.scope (rn f.params.args f.params.vararg) &&
 E9 V.h₀ f.defaults fd f.params.args f.params.vararg&&eZ V fd.body (rP f.scope.names (rn f.params.args f.params.vararg))
def EG(h:Heap)(v:Option Value):Option FuncData:=(xq v).bind λa=>(h.get? a).bind λo=>Lq o.data
def Mz(V:Cf)(k:Nat)(fd:FD):Bool:=ob (EG V.h₀ (V.gv k)) (abU V fd)
def BH(h:Heap)(v:Option Value):FuncBody:=match EG h v with
 |some f=>f.body
 |none=>.stmts []
noncomputable def DT(g:Option GE):Bool:=match g with
 |some (.fn _)=>true
 |_=>false
def DQ(v:Option Value):Bool:=(xq v).isSome
def My(V:Cf)(c:Nat)(cd:CD):Bool:=DT (ae V.P.gt cd.init)&&DQ (V.gv cd.init)&&decide (findIn V.fr (.ref (V.clsAt c)) "__init__"=some (V.gv cd.init))&&decide (typeIn V.fr (.ref (pT (V.gv cd.init)))=some (.type "function"))
def Mx(V:Cf)(c:Nat)(cd:CD)(x:Str)(k:Nat):Bool:=
 DT (ae V.P.gt k)&&DQ (V.gv k)&&fnIn V.fr (pT (V.gv k))&&decide (findIn V.fr (.ref (V.clsAt c)) x=some (V.gv k))&&decide (typeIn V.fr (.ref (pT (V.gv k)))=some (.type "function")) &&
 xZ (specialIn V.fr (.ref (pT (V.gv k))) "__get__") "function.__get__"&&decide (takesIn V.fr (.ref (pT (V.gv k)))=some false)&&cd.bD.all (λa=>!decide (ae V.nm a=some x))&&!copiedNames.contains x&&!cd.slots
noncomputable def E0(V:Cf)(c:Nat)(cd:CD):List (Nat×Nat)->Bool
 |[]=>true
 |p::l=>ob (ae V.nm p.1) (λx=>Mx V c cd x p.2)&&E0 V c cd l
def MA(V:Cf)(c j:Nat)(x:Str):Bool:=ob (xq (xX (findIn V.fr (.ref (V.clsAt c)) x))) λp=>decide (slotIn V.fr p (V.clsAt c)=some j)&&decide (typeIn V.fr (.ref p)=some (.type "member_descriptor"))&&xZ (specialIn V.fr (.ref p) "__get__") "member_descriptor.__get__"&&decide (takesIn V.fr (.ref p)=some true)
noncomputable def E8(V:Cf)(c:Nat):Nat->List Nat->Bool
 |_,[]=>true
 |j,a::l=>ob (ae V.nm a) (MA V c j)&&E8 V c (j+1) l
def Mw(V:Cf)(c a:Nat):Bool:=ob (ae V.nm a) λx=>decide (findIn V.fr (.ref (V.clsAt c)) x=some none)
def abM(K:Frag)(C:Addr)(sl:Bool):Bool:=ob (clsIn K C) λk=>decide (k.hasDict=!sl)
def MC(V:Cf)(c:Nat)(cd:CD):Bool:=
 decide (V.gv c=some (.ref (V.clsAt c)))&&makesIn V.fr (V.clsAt c)&&My V c cd&&xZ (findIn V.fr (.ref (V.clsAt c)) "__getattribute__") "object.__getattribute__"&&decide (findIn V.fr (.ref (V.clsAt c)) "__getattr__"=some none) &&
 xZ (findIn V.fr (.ref (V.clsAt c)) "__setattr__") "object.__setattr__"&&plainOver V.fr (V.clsAt c)&&abM V.fr (V.clsAt c) cd.slots&&Nat.ble cd.bD.length 100&&decide ((cd.bD.map (ae V.nm)).Nodup)&&cd.bD.all (λa=>(ae V.nm a).isSome) &&
 (match cd.slots with|true=>E8 V c 0 cd.bD|false=>cd.bD.all (Mw V c))&&E0 V c cd cd.meths
def Ms(h:Heap)(a:Addr)(dt:Data):Bool:=match dt with
 |.cls cd=>decide (cd.mro=.ref a::yN)&&!cd.hasDel&&h.isNs cd.ns&&decide (h.nsMap cd.ns "__init__"=none)
 |_=>false
def Mr(h:Heap)(a:Addr)(o:Obj):Bool:=decide (o.cls=.type "type")&&Ms h a o.data&&Nat.beq o.slots.toList.length 6&&decide (ae o.slots.toList 4=some (some (.builtin "ValueError.__new__")))
def Mt(V:Cf)(k x:Nat):Bool:=match x with
 |0=>decide (V.gv k=some (.type "StopIteration"))
 |y+1=>Nat.beq y k&&decide (V.gv k=some (.ref (V.clsAt k)))&&ob (V.h₀.get? (V.clsAt k)) (Mr V.h₀ (V.clsAt k))
def E6(V:Cf)(k:Nat)(g:GE):Bool:=match g with
 |.fn fd=>Mz V k fd
 |.cl cd=>MC V k cd
 |.exc x=>Mt V k x
 |.bi b=>decide (V.gv k=some (yO b))
 |.cv _=>true
noncomputable def E4(V:Cf):Nat->List GE->Bool
 |_,[]=>true
 |k,g::l=>E6 V k g&&E4 V (k+1) l
noncomputable def E3(K:Frag)(v:Option Value):Bool:=match v with
 |none=>true
 |some v=>!decide (v=.none)&&handedIn v&&match v with
  |.builtin _=>true
  |.type _=>true
  |v=>keepIn K v
noncomputable def E5(V:Cf):Nat->List Str->Bool
 |_,[]=>true
 |k,x::l=>ob (tM V.h₀ x) (λv=>ob (ae V.P.gt k) λg=>match g with
   |.cv c=>c.int?.isSome&&decide (J2 v=c.int?)
   |_=>decide (V.gv k=some v))&&E5 V (k+1) l
def abJ(nm:List Str)(m:Nat):Bool:=decide (ae nm m=some (Ay m))
def yK(V:Cf)(gvs:List (Option Value)):Bool:=Nat.ble 10 V.h₀.objs.size&&V.h₀.isNs mainGlobals&&V.h₀.isNs builtinsNs&&V.h₀.noLimitOk&&[0,1,2,3,5,6,7,8,9].all (abJ V.nm)&&gvs.all (E3 V.fr)&&E5 V 0 V.gl&&E4 V 0 V.P.gt
noncomputable def qh:List GE->Nat->List (Nat×FD)
 |[],_=>[]
 |g::l,k=>match g with
  |.fn fd=>(k,fd)::qh l (k+1)
  |_=>qh l (k+1)
def Fe(V:Cf):List (Nat×FuncBody):=(qh V.P.gt 0).map λp=>(p.1,BH V.h₀ (V.gv p.1))
section
variable {V:Cf}
def HX{v:Value}{a:Addr}(h:CR v=some a):v=.ref a:=by
 cases v with
 |ref b=>exact congrArg Value.ref (sj h)
 |_=>exact aR h
def CS{v:Option Value}{a:Addr}(h:xq v=some a):v=some (.ref a):=by
 cases v with
 |none=>exact aR h
 |some v=>rw[HX h]
variable {α:Type}
def uF{x:Option α}{f:α->Bool}{G:Prop}(h:ob x f=true)(k:∀a,x=some a->f a=true->G):G:=by
 cases x with
 |none=>exact cR h
 |some a=>exact k a rfl h
def JX{v:Option Value}(h:DQ v=true):v=some (.ref (pT v)):=by refine ue (sy.mp h) λa e=>?_;unfold pT;rw[e];exact CS e
def JZ{g:Option GE}(h:DT g=true):∃fd,g=some (.fn fd):=by
 cases g with
 |none=>exact cR h
 |some g=>cases g<;>first|exact⟨_,rfl⟩|exact cR h
variable {v:Option (Option Value)}
def AQ{id:String}(h:xZ v id=true):v=some (some (.builtin id)):=of_decide_eq_true h
variable {f:FuncData}
def ZR{d:Data}(h:Lq d=some f):d=.func f:=by
 cases d with
 |func g=>exact congrArg Data.func (sj h)
 |_=>exact aR h
def S5{d:Data}{l:Array Value}(h:Hv d=some l):∃m,d=.seq l m:=by
 cases d with
 |seq g m=>exact⟨m,by rw[sj h]⟩
 |_=>exact aR h
def X4{v:Value}{i:Int}(h:J2 v=some i):∃t,v=.int i t:=by
 cases v with
 |int j t=>exact⟨t,by rw[sj h]⟩
 |_=>exact aR h
variable {h:Heap}
def ZZ{v:Option Value}(e:EG h v=some f):∃a o,v=some (.ref a)/\h.get? a=some o/\o.data=.func f:=by refine ub e λa e1 e=>?_;refine ub e λo e2 e=>?_;exact⟨a,o,CS e1,e2,ZR e⟩
def Ri:∀l:List α,l.length=2->∃x y,l=[x,y]
 |[x,y],_=>⟨x,y,rfl⟩
def abV{fd:FD}{as:List Arg}{va:Option Arg}(h:E9 V.h₀ f.defaults fd as va=true):Fy V f fd as va:=by
 unfold E9 at h;cases e:fd.dflt with
 |nil=>rw[e] at h;exact .none (of_decide_eq_true h) e
 |cons d ds=>
  rw[e] at h;refine Cm h λh1 h2 h3 h4 h5=>?_;have e1:d=.none:=by cases d<;>first|rfl|exact cR h1
  have e2:=List.isEmpty_iff.mp h2;subst e1 e2;refine ct (Ri as (bV h3)) λx y e3=>?_;refine ub (of_decide_eq_true h5) λo e5 h5=>?_;refine ub e5 λT e6 e7=>?_;refine ue (S5 h5) λm hd=>?_;exact .one x y T o m e3 (B6.mp h4) e (HX e6) e7 hd
variable {k:Nat}
def abR{fd:FD}(h:Mz V k fd=true)(hb:BH V.h₀ (V.gv k)=.stmts (c9 fd.body)):Nn V k fd:=by
 unfold BH at hb;refine uF h λf e h=>?_
 ·rw[e] at hb;refine bB (ZZ e) λa o e1 e2 e3=>?_;refine Gs h λh1 h2 h3 h4 h5 h6 h7 h8=>?_;refine Cm h5 λp1 p2 p3 p4 p5=>?_;have q1:=List.isEmpty_iff.mp p1;have q2:=List.isEmpty_iff.mp p2;have q3:=B6.mp p3;refine⟨a,o,f,f.params.args,f.params.vararg,f.params.kw_defaults,f.params.defaults,hM.mk e1 e2 e3 hb (.of_ok h1) (List.isEmpty_iff.mp h2) (bV h3) (bV h4) ?_ h6 (bV p4) (of_decide_eq_true p5) (abV h7) h8⟩;generalize f.params=p at *;cases p;dsimp only at q1 q2 q3;rw[q1,q2,q3]
variable {c:Nat}
def abN{cd:CD}(h:My V c cd=true):∃f fd,o3 V c cd f fd:=by refine pH h λh1 h2 h3 h4=>?_;have r:=JX h2;refine ue (JZ h1) λfd e=>?_;exact⟨_,fd,o3.mk (by rw[<- cQ];exact e) (by rw[<- r];exact of_decide_eq_true h3) (of_decide_eq_true h4) r⟩
def abL{m:Nat}{cd:CD}{x:Str}(hx:ae V.nm m=some x)(h:Mx V c cd x k=true):∃x f fd,iE V c cd m k x f fd:=by
 refine QY h λh1 h2 h3 h4 h5 h6 h7 h8 h9 EB=>?_;have r:=JX h2;refine ue (JZ h1) λfd e=>?_;rw[iH] at h8;exact⟨x,_,fd,iE.mk (by rw[<- cQ];exact e) h3 (by rw[<- cQ];exact hx) (by rw[<- r];exact of_decide_eq_true h4) (of_decide_eq_true h5) r (AQ h6) (of_decide_eq_true h7) (
  λa ha=>by rw[<- cQ];exact of_decide_eq_false (jf (h8 a ha))) (jf h9) (jf EB)⟩
theorem abK{c:Nat}{cd:CD}:∀{l:List (Nat×Nat)},E0 V c cd l=true->∀p∈l,∃x f fd,iE V c cd p.1 p.2 x f fd:=by
 intro l
 induction l with
 |nil=>intro _ _ hp;exact nomatch hp
 |cons p l ih=>
  intro h q hq;refine us h λh1 h2=>?_;rcases bQ.mp hq with rfl|hq
  ·exact uF h1 λx hx h1=>abL hx h1
  ·exact ih h2 q hq
def XF{x:Value}(h:xX v=some x):v=some (some x):=by
 cases v with
 |none=>exact aR h
 |some v=>exact congrArg some h
def abT{j:Nat}{x:Str}(h:MA V c j x=true):∃p,mv V c j x p:=by refine uF h λp e0 h=>?_;refine pH h λh1 h2 h3 h4=>?_;exact⟨p,mv.mk (XF (CS e0)) (of_decide_eq_true h1) (of_decide_eq_true h2) (AQ h3) (of_decide_eq_true h4)⟩
theorem abS{c:Nat}:∀{l:List Nat} {i:Nat},E8 V c i l=true->∀j a,l[j]?=some a->∀x,V.nm[a]?=some x->∃p,mv V c (i+j) x p:=by
 intro l
 induction l with
 |nil=>intro _ _ _ _ e _ _;exact nomatch e
 |cons b l ih=>
  intro i h j a e x hx;refine us h λh1 h2=>?_;cases j with
  |zero=>obtain rfl:=sj e;rw[cQ,hx] at h1;exact abT h1
  |succ j=>have:=ih h2 j a e x hx;rwa[uj,Nat.add_comm 1 j] at this
theorem Wa{β:Type}:∀{l:List (Nat×β)} {a:Nat} {b:β},l.lookup a=some b->(a,b)∈l:=by
 intro l
 induction l with
 |nil=>intro _ _ h;exact nomatch h
 |cons p l ih=>
  intro a b h;rw[iI] at h;cases hq:(a==p.1) with
  |true=>rw[hq] at h;obtain rfl:=sj h;rw[eq_of_beq hq];exact bA
  |false=>rw[hq] at h;exact bS _ (ih h)
theorem VK{α β:Type}{f:α->β}:∀{l:List α},(l.map f).Nodup->∀a∈l,∀b∈l,f a=f b->a=b:=by
 intro l
 induction l with
 |nil=>intro _ _ ha _ _ _;exact nomatch ha
 |cons c l ih=>
  intro h a ha b hb e;rw[bE,ie] at h;rcases bQ.mp ha with e1|ha<;>rcases bQ.mp hb with e2|hb
  ·rw[e1,e2]
  ·exact absurd (bW.mpr ⟨b,hb,by rw[<- e,e1]⟩) h.1
  ·exact absurd (bW.mpr ⟨a,ha,by rw[e,e2]⟩) h.1
  ·exact ih h.2 a ha b hb e
theorem VJ{α β:Type}{f:α->β}:∀{l:List α},(l.map f).Nodup->l.Nodup:=by
 intro l
 induction l with
 |nil=>intro _;exact mz
 |cons c l ih=>intro h;rw[bE,ie] at h;exact ie.mpr ⟨λhm=>h.1 (pq hm),ih h.2⟩
def abW{cd:CD}(h:MC V c cd=true):gm V c cd:=by
 refine QX h λh1 h2 h3 h4 h5 h6 h7 h8 h9 EB K6 A9 Zj=>?_;have nd:=of_decide_eq_true EB;rw[iH] at K6;refine(gm.mk (of_decide_eq_true h1) h2 (abN h3) (AQ h4) (of_decide_eq_true h5) (AQ h6) h7 ?_ (gN h9) (VJ nd) (
  λa ha b hb x e1 e2=>VK nd a ha b hb (by rw[cQ,cQ,e1,e2])) (λa ha=>?_) (λhs a ha x hx=>?_) (λhs j a e x hx=>?_) (λm k hm=>abK Zj (m,k) (Wa hm)))
 ·exact uF h8 λk e h8=>⟨k,e,of_decide_eq_true h8⟩
 ·have:=K6 a ha;rw[cQ] at this;exact sy.mp this
 ·rw[hs] at A9;have:=iH.mp A9 a ha;unfold Mw at this;rw[cQ,hx] at this;exact of_decide_eq_true this
 ·rw[hs] at A9;have:=abS A9 j a e x hx;rwa[gA] at this
def vS{n:Nat}:∀{l:List α},l.length=n+1->∃x r,l=x::r/\r.length=n
 |x::r,h=>⟨x,r,rfl,Nat.succ.inj h⟩
variable {l:List (Option Value)}
def abE(h:l.length=6)(e:ae l 4=some (some (.builtin "ValueError.__new__"))):∃k0 k1 k2 k3 k5,l=[k0,k1,k2,k3,some (.builtin "ValueError.__new__"),k5]:=by refine dN (vS h) λk0 l0 aa h0=>?_;subst aa;refine dN (vS h0) λk1 l1 aa h1=>?_;subst aa;refine dN (vS h1) λk2 l2 aa h2=>?_;subst aa;refine dN (vS h2) λk3 l3 aa h3=>?_;subst aa;refine dN (vS h3) λk4 l4 aa h4=>?_;subst aa;refine dN (vS h4) λk5 l5 aa h5=>?_;subst aa;cases List.eq_nil_of_length_eq_zero h5;exact⟨k0,k1,k2,k3,k5,by rw[jR e]⟩
def abG{h₀:Heap}{C:Addr}{dt:Data}(h:Ms h₀ C dt=true):∃cd,dt=.cls cd/\cd.mro=.ref C::yN/\cd.hasDel=false/\h₀.isNs cd.ns=true/\h₀.nsMap cd.ns "__init__"=none:=by
 cases dt with
 |cls cd=>refine pH h λg1 g2 g3 g4=>?_;exact⟨cd,rfl,of_decide_eq_true g1,jf g2,g3,of_decide_eq_true g4⟩
 |_=>exact cR h
def Vx{C:Addr}{o:Obj}{cd:ClassData}{k0 k1 k2 k3 k5:Option Value}(h1:o.cls=.type "type")(h2:o.data=.cls cd)(h3:cd.mro=.ref C::yN)(h4:cd.hasDel=false)(h5:o.slots.toList=[k0,k1,k2,k3,some (.builtin "ValueError.__new__"),k5]):
  o=excClassObj cd.name cd.qualname C cd.ns cd.bases yN cd.hasDict cd.slotNames cd.subclasses cd.abstract cd.collection o.dict k0 k1 k2 k3 k5 "ValueError.__new__":=by
 unfold excClassObj;rw[<- h1,<- h3,<- h4,<- h2,<- h5]
def abF{o:Obj}(ho:V.h₀.get? (V.clsAt k)=some o)(h:Mr V.h₀ (V.clsAt k) o=true):∃nm q N bs hdct sn sub ab col dd k0 k1 k2 k3 k5 mN,Ni V k nm q N bs hdct sn sub ab col dd k0 k1 k2 k3 k5 mN:=by refine pH h λh1 h2 h3 h4=>?_;refine Q5 (abE (bV h3) (of_decide_eq_true h4)) λk0 k1 k2 k3 k5 e=>?_;refine Q7 (abG h2) λcd e2 m1 m2 m3 m4=>?_;refine⟨cd.name,cd.qualname,cd.ns,cd.bases,cd.hasDict,cd.slotNames,cd.subclasses,cd.abstract,cd.collection,o.dict,k0,k1,k2,k3,k5,_,?_,.of_isNs m3,m4⟩;exact ho.trans (congrArg some (Vx (of_decide_eq_true h1) e2 m1 m2 e))
def abH{x:Nat}(h:Mt V k x=true):BS V k x:=by
 cases x with
 |zero=>exact .stop (of_decide_eq_true h)
 |succ y=>refine jx h λh1 h2 h3=>?_;have:=bV h1;subst this;exact uF h3 λo ho h3=>.own (of_decide_eq_true h2) (abF ho h3)
theorem abP:∀{l:List GE} {i:Nat},E4 V i l=true->∀j g,l[j]?=some g->E6 V (i+j) g=true:=by
 intro l
 induction l with
 |nil=>intro _ _ _ _ e;exact nomatch e
 |cons b l ih=>
  intro i h j g e;refine us h λh1 h2=>?_;cases j with
  |zero=>obtain rfl:=sj e;exact h1
  |succ j=>have:=ih h2 j g e;rwa[uj,Nat.add_comm 1 j] at this
def Zr{x:Str}{v:Value}(e:tM h x=some v):h.nsMap mainGlobals x=some v\/(h.nsMap mainGlobals x=none/\h.nsMap builtinsNs x=some v):=by
 unfold tM at e;cases h':h.nsMap mainGlobals x with
 |some v'=>rw[h'] at e;exact .inl e
 |none=>rw[h'] at e;exact .inr ⟨rfl,e⟩
def X3{c:AV}{i:Int}(h:c.int?=some i):c=.int i:=by
 cases c with
 |int j=>exact congrArg AV.int (sj h)
 |_=>exact aR h
theorem abQ:∀{l:List Str} {i:Nat},E5 V i l=true->∀j x,l[j]?=some x->∃v,r9 V (i+j) (V.h₀.nsMap mainGlobals) (V.h₀.nsMap builtinsNs) x v:=by
 intro l
 induction l with
 |nil=>intro _ _ _ _ e;exact nomatch e
 |cons b l ih=>
  intro i h j x e;refine us h λh1 h2=>?_;cases j with
  |zero=>
   obtain rfl:=sj e;refine uF h1 λv hv h1=>⟨v,r9.mk (Zr hv) (λg hg=>?_)⟩;have hg:V.P.gt[i]?=some g:=hg;rw[cQ,hg] at h1;cases g with
   |cv c=>refine us h1 λh1 h3=>?_;refine ue (sy.mp h1) λi' e1=>?_;refine ue (X4 ((of_decide_eq_true h3).trans e1)) λt e2=>?_;intro J h';rw[e2,X3 e1];exact .lit _ _
   |_=>exact(of_decide_eq_true h1:V.gv i=some v)
  |succ j=>have:=ih h2 j x e;rwa[uj,Nat.add_comm 1 j] at this
theorem ZQ:∀{l:List GE} {i j:Nat} {fd:FD},l[j]?=some (.fn fd)->(i+j,fd)∈qh l i:=by
 intro l
 induction l with
 |nil=>exact λe=>aR e
 |cons g l ih=>
  intro i j fd e;cases j with
  |zero=>obtain rfl:=sj e;exact(bA:(i,fd)∈(i,fd)::qh l (i+1))
  |succ j=>
   have:=ih (i:=i+1) (j:=j) e;rw[uj,Nat.add_comm 1 j] at this;cases g with
   |fn f=>exact(bS _ this:_∈(i,f)::qh l (i+1))
   |_=>exact this
def qx(K:Frag)(v:Value):Prop:=(v≠.none)/\(handedIn v=true)/\((∃id,v=.builtin id)\/(∃T,v=.type T)\/keepIn K v=true)
section
variable {b1 b2}(x:qx b1 b2)
def qx.mk:=lJ (qx b1 b2) rfl
def qx.nn:=x.1
def qx.hd:=x.2.1
def qx.kp:=x.2.2
end
def abO{K:Frag}{v:Value}(h:E3 K (some v)=true):qx K v:=by
 unfold E3 at h;refine jx h λh1 h2 h3=>?_;refine(qx.mk (of_decide_eq_false (jf h1)) h2 ?_);cases v with
 |builtin id=>exact .inl ⟨id,rfl⟩
 |type T=>exact .inr (.inl ⟨T,rfl⟩)
 |_=>exact .inr (.inr h3)
def aee{gvs:List (Option Value)}(h:yK V gvs=true)(tL:V.fr.In V.h₀)(Ee:∀k v,V.gv k=some v->some v∈gvs)(hb:Fe V=(qh V.P.gt 0).map λp=>(p.1,.stmts (c9 p.2.body))):nN V:=by
 refine Gs h λh1 h2 h3 h4 h5 h6 h7 h8=>?_;have gt:∀k g,V.P.gt[k]?=some g->E6 V k g=true:=λk g e=>by have:=abP h8 k g e;rwa[gA] at this
 have gv:∀k v,V.gv k=some v->qx V.fr v:=λk v e=>abO (iH.mp h6 _ (Ee k v e));have bod:∀k fd,V.P.gt[k]?=some (.fn fd)->BH V.h₀ (V.gv k)=.stmts (c9 fd.body):=λk fd e=>by have m:=ZQ (i:=0) e;rw[gA] at m;have:=List.map_inj_left.mp hb _ m;exact(sA this).2
 have yp:BQ V:=⟨_,_,.of_isNs h2,.of_isNs h3,λk x e=>by have:=abQ h7 k x e;rwa[gA] at this⟩
 have ok:Ok V:=⟨(⟨gN h1,λk e=>(gv k _ e).nn rfl⟩:eg V),yp,tL,λk v e=>(gv k v e).kp,λm hm h4=>by
  have:m∈[0,1,2,3,5,6,7,8,9]:=by
   have:∀m<10,m≠4->m∈[0,1,2,3,5,6,7,8,9]:=by decide
   exact this m hm h4
  have:=iH.mp h5 m this;rw[<- cQ];exact of_decide_eq_true this⟩
 exact⟨⟨(⟨(⟨ok,(⟨_,.of_isNs (ug.mp h4).1,B6.mp (ug.mp h4).2⟩:V.h₀.NoLimit),λk fd e=>abR (gt k _ e) (bod k fd e)⟩:BR V),λc cd e=>abW (gt c _ e),λk v e=>(gv k v e).hd⟩:o9 V),λk x e=>abH (gt k _ e)⟩,λk b e=>of_decide_eq_true (gt k _ e)⟩
def XG{v:Value}(e:xX (ae l k)=some v):some v∈l:=by
 rw[cQ] at e;cases h:l[k]? with
 |none=>rw[h] at e;exact aR e
 |some w=>rw[h] at e;exact e▸jS h
def abD(T:Tb)(w w':World)(h:Heap)(g:List (Option Value)):yK (qa T w h) g=yK (qa T w' h) g:=by kernel_rfl
def aok(T:Tb){w w':World} 
  (hc:yK (qa T w' h) (T.yo h)=true) (hb:Fe (qa T w' h)=(qh T.P.gt 0).map λp=>(p.1,.stmts (c9 p.2.body))):nN (qa T w h):=
 aee (gvs:=T.yo h) ((abD T w w' h _).trans hc) (ZF h _) (λk v e=>XG e) hb
end
end
section
noncomputable abbrev pw:=PySem.Challenge.pw_ny0272_03
noncomputable def RZ(s:Stmt)(n:Nat):List Stmt:=match s with
 |.If _ a b _=>match n with|0=>a|_=>b
 |.While _ a b _=>match n with|0=>a|_=>b
 |.For _ _ a _ _=>a
 |_=>[]
noncomputable def n8:List Stmt->List Nat->Stmt
 |b,i::r=>match r with
  |[]=>(b[i]?).getD (.Pass ⟨0,0,0,0⟩)
  |j::r=>n8 (RZ ((b[i]?).getD (.Pass ⟨0,0,0,0⟩)) j) r
 |_,[]=>.Pass ⟨0,0,0,0⟩
noncomputable def jk(i:Nat):List Stmt:=match pw.main.body[i]? with
 |some (.FunctionDef _ _ b _ _ _ _ _ _ _)=>b
 |_=>[]
noncomputable def iz(i j:Nat):List Stmt:=match pw.main.body[i]? with
 |some (.ClassDef _ _ _ b _ _ _ _ _ _ _)=>match b[j]? with
  |some (.FunctionDef _ _ b _ _ _ _ _ _ _)=>b
  |_=>[]
 |_=>[]
noncomputable abbrev ps(a b c:Nat):Pos:=⟨a,b,a,c⟩
noncomputable abbrev C.v(x:Str)(k a b c:Nat):C:=.var x k ⟨a,b,a,c⟩
noncomputable abbrev C.g(x:Str)(k a b c:Nat):C:=.glob x k ⟨a,b,a,c⟩
noncomputable abbrev C.u(x:C):C:=.cons x .nil
noncomputable abbrev S.u(x:S):S:=.cons x .nil
noncomputable abbrev C.uv(x:Str)(k a b c:Nat):C:=.u (.v x k a b c)
abbrev C.ci(n:Int)(l a b:Nat):C:=.cst (.int n) (.int n) 0 (ps l a b)
abbrev S.av(x:Str)(k c:Nat)(v:C)(l a b:Nat):S:=.asg (.uv x k l a c) v (ps l a b)
abbrev C.cg(x:Str)(k b:Nat)(v:C)(l a c:Nat):C:=.call (.g x k l a b) v (ps l a c)
abbrev C.sa(x:Str)(n b l a c:Nat):C:=.attr (.v "self" 0 l a b) x n (ps l a c)
abbrev S.em(o:C)(x:Str)(k:Nat)(v:C)(q:Pos)(l a b:Nat):S:=.expr (.eO o x k v q (ps l a b)) (ps l a b)
abbrev S.ec(x:Str)(k b:Nat)(v:C)(l a c:Nat):S:=.expr (.cg x k b v l a c) (ps l a c)
abbrev C.cp(o:CmpOp)(x y:C)(l a b:Nat):C:=.cmp o x y (ps l a b)
abbrev C.sp(x y:C)(l a b:Nat):C:=.sub x y (ps l a b)
abbrev C.bp(o:Operator)(x y:C)(l a b:Nat):C:=.bin o x y (ps l a b)
abbrev S.rp(x:C)(l a b:Nat):S:=.ret x (ps l a b)
abbrev S.ap(x y:C)(l a b:Nat):S:=.asg x y (ps l a b)
abbrev C.tp(x:C)(l a b:Nat):C:=.tup x 0 (ps l a b)
abbrev C.lp(x:C)(l a b:Nat):C:=.list x false (ps l a b)
noncomputable abbrev da:Str:="rest"
noncomputable abbrev fk:Str:="heap"
noncomputable abbrev fj:Str:="node"
noncomputable abbrev i9:Str:="new"
noncomputable abbrev jz:Str:="words"
noncomputable abbrev jZ:Str:="len"
noncomputable abbrev jY:Str:="pos"
noncomputable abbrev kA:Str:="append"
noncomputable abbrev lA:Str:="lays"
noncomputable abbrev lu:Str:="gain"
noncomputable abbrev mU:Str:="_ready_nodes"
noncomputable abbrev n7:Str:="reached"
noncomputable abbrev pK:Str:="length"
noncomputable abbrev qU:Str:="childpos"
noncomputable abbrev qT:Str:="npredecessors"
noncomputable abbrev sP:Str:="_node2info"
noncomputable abbrev uJ:Str:="nodeinfo"
noncomputable abbrev wV:Str:="node2stacki"
noncomputable def f0:FD:=⟨1,false,[],15,(.cons (.av "rows" 1 8 (.cg "_law_rows" 1 20 (.uv "script" 0 280 21 27) 280 11 28) 280 4 28) (.cons (.av jz 2 9 (.comp (.cg "_law_text" 4 22 (.u (.cg "Int2AP" 3 29 (.u (.neg (.cg "_law_number" 2 42 (.uv "row" 13 281 43 46) 281 31 47) (ps 281 30 47))) 281 23 48)) 281 13 49) (.v "row" 13 281 54 57) (.v "rows" 1 281 61 65) .nil ⟨.function,[(".0",.local),("row",.local),("_law_text",.globalImplicit),("Int2AP",.globalImplicit),("_law_number",.globalImplicit)],false,false,[]⟩ (ps 281 12 66)) 281 4 66) (.cons (.iff (.cp .NotEq (.v jz 2 282 7 12) (.comp (.cg "_law_letters" 5 29 (.uv "row" 14 282 30 33) 282 17 34) (.v "row" 14 282 39 42) (.v "rows" 1 282 46 50) .nil ⟨.function,[(".0",.local),("row",.local),("_law_letters",.globalImplicit)],false,false,[]⟩ (ps 282 16 51)) 282 7 51) (.u (.rp (.cst (.bool false) (.bool false) 0 (ps 283 15 20)) 283 8 20)) .nil ⟨282,4,283,20⟩) (.cons (.ap (.u (.tp (.cons (.v n7 3 284 4 11) (.cons (.v lA 4 284 13 17) (.uv "double" 5 284 19 25))) 284 4 25)) (.cg "_law_search" 7 39 (.uv jz 2 284 40 45) 284 28 46) 284 4 46) (.cons (.ap (.u (.tp (.cons (.v "ring" 6 285 4 8) (.cons (.v "told" 7 285 10 14) (.uv "greatest" 8 285 16 24))) 285 4 24)) (.cg "_law_order" 8 37 (.cons (.v n7 3 285 38 45) (.uv lA 4 285 47 51)) 285 27 52) 285 4 52) (.cons (.ap (.u (.tp (.cons (.v "least" 9 286 4 9) (.cons (.v "ends" 10 286 11 15) (.cons (.v "endless" 11 286 17 24) (.uv "deepest" 12 286 26 33)))) 286 4 33)) (.cg "_law_side_by_side" 13 53 (.uv jz 2 286 54 59) 286 36 60) 286 4 60) (.cons (.iff (.fx false (.cons (.cp .NotEq (.v n7 3 287 7 14) (.v "least" 9 287 18 23) 287 7 23) (.cons (.cp .NotEq (.v "double" 5 287 27 33) (.v "ends" 10 287 37 41) 287 27 41) (.u (.cp .NotEq (.v "ring" 6 287 45 49) (.v "endless" 11 287 53 60) 287 45 60)))) (ps 287 7 60)) (.u (.rp (.cst (.bool false) (.bool false) 0 (ps 288 15 20)) 288 8 20)) .nil ⟨287,4,288,20⟩) (.u (.rp (.fx true (.cons (.cp .Eq (.v "told" 7 289 11 15) (.cg "_law_free" 9 28 (.cons (.v n7 3 289 29 36) (.uv lA 4 289 38 42)) 289 19 43) 289 11 43) (.u (.fx false (.cons (.v "ring" 6 289 49 53) (.u (.cp .Eq (.v "greatest" 8 289 57 65) (.v "deepest" 12 289 69 76) 289 57 76))) (ps 289 49 76)))) (ps 289 11 77)) 289 4 77)))))))))⟩
noncomputable def f1:FD:=⟨1,false,[],8,(.cons (.av "drawn" 1 9 (.bp .Add (.fN (.v "script" 0 170 12 18) .nil (.ci 4 170 20 21) (ps 170 19 21) (ps 170 12 22)) (.fN (.lp (.cons (.ci 0 170 26 27) (.cons (.ci 0 170 29 30) (.cons (.ci 9 170 32 33) (.u (.ci 6 170 35 36))))) 170 25 37) (.cg jZ 10 41 (.u (.fN (.v "script" 0 170 42 48) .nil (.ci 4 170 50 51) (ps 170 49 51) (ps 170 42 52))) 170 38 53) .nil (ps 170 38 54) (ps 170 25 55)) 170 12 55) 170 4 55) (.cons (.av "first" 2 9 (.cg "abs" 15 15 (.u (.sp (.v "drawn" 1 171 16 21) (.ci 0 171 22 23) 171 16 24)) 171 12 25) 171 4 25) (.cons (.av "signs" 3 9 (.lp (.cons (.bp .Add (.ci 1 172 13 14) (.bp .Mod (.v "first" 2 172 17 22) (.ci 15 172 25 27) 172 17 27) 172 13 27) (.u (.bp .Add (.ci 1 172 29 30) (.bp .Mod (.bp .Add (.bp .Add (.v "first" 2 172 34 39) (.ci 1 172 42 43) 172 34 43) (.bp .Mod (.bp .FloorDiv (.v "first" 2 172 46 51) (.ci 15 172 55 57) 172 46 57) (.ci 14 172 60 62) 172 46 62) 172 34 62) (.ci 15 172 66 68) 172 33 68) 172 29 68))) 172 12 69) 172 4 69) (.cons (.av "rows" 4 8 (.list .nil true (ps 173 11 13)) 173 4 13) (.cons (.loop (.v "x" 5 174 8 9) (.fN (.v "drawn" 1 174 13 18) (.ci 1 174 19 20) .nil (ps 174 19 21) (ps 174 13 22)) (.cons (.av "row" 6 11 (.comp (.sp (.v "signs" 3 175 15 20) (.bp .Mod (.bp .FloorDiv (.bp .FloorDiv (.cg "abs" 15 24 (.uv "x" 5 175 25 26) 175 21 27) (.ci 4 175 31 32) 175 21 32) (.bp .Pow (.ci 2 175 36 37) (.v "k" 7 175 41 42) 175 36 42) 175 21 42) (.ci 2 175 45 46) 175 21 46) 175 15 47) (.v "k" 7 175 52 53) (.cg "range" 11 62 (.u (.bp .Add (.ci 1 175 63 64) (.bp .Mod (.cg "abs" 15 70 (.uv "x" 5 175 71 72) 175 67 73) (.ci 4 175 76 77) 175 67 77) 175 63 77)) 175 57 78) .nil ⟨.function,[(".0",.local),("k",.local),("abs",.globalImplicit),("signs",.free),("x",.free)],false,false,[]⟩ (ps 175 14 79)) 175 8 79) (.cons (.gO (.cp .In (.v "row" 6 176 14 17) (.v "rows" 4 176 21 25) 176 14 25) (.u (.av "row" 6 15 (.bp .Add (.v "row" 6 177 18 21) (.lp (.u (.sp (.v "signs" 3 177 25 30) (.ci 1 177 31 32) 177 25 33)) 177 24 34) 177 18 34) 177 12 34)) .nil ⟨176,8,177,34⟩) (.u (.em (.v "rows" 4 178 8 12) kA 0 (.uv "row" 6 178 20 23) (ps 178 8 19) 178 8 24)))) ⟨174,4,178,24⟩) (.u (.rp (.v "rows" 4 179 11 15) 179 4 15)))))))⟩
noncomputable def f2:FD:=⟨1,false,[],3,(.cons (.av "number" 1 10 (.ci 0 181 13 14) 181 4 14) (.cons (.loop (.v "figure" 2 182 8 14) (.v "row" 0 182 18 21) (.u (.av "number" 1 14 (.bp .Add (.bp .Mult (.ci 16 183 17 19) (.v "number" 1 183 22 28) 183 17 28) (.v "figure" 2 183 31 37) 183 17 37) 183 8 37)) ⟨182,4,183,37⟩) (.u (.rp (.v "number" 1 184 11 17) 184 4 17))))⟩
def f3:FD:=⟨1,false,[],4,(.cons (.av "val" 1 7 (.cst (.bytes []) (.cE []) 0 (ps 161 10 13)) 161 4 13) (.cons (.av "AP" 2 6 (.cst (.bytes [65,66,67,68,69,70,71,72,73,74,75,76,77,78,79,80]) (.cE [0,1,2,3,4,5,6,7,8,9,10,11,12,13,14,15]) 0 (ps 162 9 28)) 162 4 28) (.cons (.av "num" 0 7 (.cg "int" 17 13 (.u (.cg "abs" 15 17 (.uv "num" 0 163 18 21) 163 14 22)) 163 10 23) 163 4 23) (.cons (.gO (.v "num" 0 164 10 13) (.cons (.ap (.u (.tp (.cons (.v "num" 0 165 8 11) (.uv "mod" 3 165 13 16)) 165 8 16)) (.cg "divmod" 18 25 (.cons (.v "num" 0 165 26 29) (.u (.ci 16 165 31 33))) 165 19 34) 165 8 34) (.u (.av "val" 1 11 (.bp .Add (.fN (.v "AP" 2 166 14 16) (.v "mod" 3 166 17 20) (.bp .Add (.v "mod" 3 166 21 24) (.ci 1 166 27 28) 166 21 28) (ps 166 17 28) (ps 166 14 29)) (.v "val" 1 166 32 35) 166 14 35) 166 8 35))) .nil ⟨164,4,166,35⟩) (.u (.rp (.v "val" 1 167 11 14) 167 4 14))))))⟩
def f4:FD:=⟨1,false,[],2,(.u (.rp (.eO (.cst (.str "") (.str []) 0 (ps 188 11 13)) "join" 5 (.u (.comp (.cg "chr" 19 23 (.uv "octet" 1 188 24 29) 188 20 30) (.v "octet" 1 188 35 40) (.v "word" 0 188 44 48) .nil ⟨.function,[(".0",.local),("octet",.local),("chr",.globalImplicit)],false,false,[]⟩ (ps 188 19 49))) (ps 188 11 18) (ps 188 11 50)) 188 4 50))⟩
def f5:FD:=⟨1,false,[],2,(.u (.rp (.eO (.cst (.str "") (.str []) 0 (ps 186 11 13)) "join" 5 (.u (.comp (.sp (.cst (.str "ABCDEFGHIJKLMNOP") (.str [0,1,2,3,4,5,6,7,8,9,10,11,12,13,14,15]) 0 (ps 186 20 38)) (.v "figure" 1 186 39 45) 186 20 46) (.v "figure" 1 186 51 57) (.v "row" 0 186 61 64) .nil ⟨.function,[(".0",.local),("figure",.local)],false,false,[]⟩ (ps 186 19 65))) (ps 186 11 18) (ps 186 11 66)) 186 4 66))⟩
def f6:FD:=⟨2,false,[],3,(.cons (.iff (.cp .Eq (.fN (.v da 0 190 7 11) .nil (.cg jZ 10 16 (.uv "word" 1 190 17 21) 190 13 22) (ps 190 12 22) (ps 190 7 23)) (.v "word" 1 190 27 31) 190 7 31) (.u (.rp (.tp (.cons (.v da 0 191 16 20) (.cons (.cg jZ 10 25 (.uv "word" 1 191 26 30) 191 22 31) (.cons (.fN (.v da 0 191 33 37) (.cg jZ 10 41 (.uv "word" 1 191 42 46) 191 38 47) .nil (ps 191 38 48) (ps 191 33 49)) (.u (.cst (.bool true) (.bool true) 0 (ps 191 51 55)))))) 191 15 56) 191 8 56)) .nil ⟨190,4,191,56⟩) (.cons (.iff (.cp .Eq (.fN (.v "word" 1 192 7 11) .nil (.cg jZ 10 16 (.uv da 0 192 17 21) 192 13 22) (ps 192 12 22) (ps 192 7 23)) (.v da 0 192 27 31) 192 7 31) (.u (.rp (.tp (.cons (.v da 0 193 16 20) (.cons (.cg jZ 10 25 (.uv da 0 193 26 30) 193 22 31) (.cons (.fN (.v "word" 1 193 33 37) (.cg jZ 10 41 (.uv da 0 193 42 46) 193 38 47) .nil (ps 193 38 48) (ps 193 33 49)) (.u (.cst (.bool true) (.bool true) 0 (ps 193 51 55)))))) 193 15 56) 193 8 56)) .nil ⟨192,4,193,56⟩) (.cons (.av "both" 2 8 (.ci 0 194 11 12) 194 4 12) (.cons (.gO (.cp .Eq (.sp (.v da 0 195 10 14) (.v "both" 2 195 15 19) 195 10 20) (.sp (.v "word" 1 195 24 28) (.v "both" 2 195 29 33) 195 24 34) 195 10 34) (.u (.aug .Add (.v "both" 2 196 8 12) (.ci 1 196 16 17) (ps 196 8 17))) .nil ⟨195,4,196,17⟩) (.u (.rp (.tp (.cons (.v da 0 197 12 16) (.cons (.v "both" 2 197 18 22) (.cons (.cst (.str "") (.str []) 0 (ps 197 24 26)) (.u (.cst (.bool false) (.bool false) 0 (ps 197 28 33)))))) 197 11 34) 197 4 34))))))⟩
noncomputable def f7:FD:=⟨1,false,[],14,(.cons (.av fk 1 8 (.list .nil true (ps 199 11 13)) 199 4 13) (.cons (.av lA 2 8 (.list .nil true (ps 200 11 13)) 200 4 13) (.cons (.av n7 3 11 (.dct (.cst (.str "") (.str []) 0 (ps 201 15 17)) (.ci 0 201 19 20) (ps 201 14 21)) 201 4 21) (.cons (.av "double" 4 10 (.list .nil true (ps 202 13 15)) 202 4 15) (.cons (.loop (.v "k" 5 203 8 9) (.cg "range" 11 18 (.u (.cg jZ 10 22 (.uv jz 0 203 23 28) 203 19 29)) 203 13 30) (.u (.loop (.v "j" 6 204 12 13) (.cg "range" 11 22 (.uv "k" 5 204 23 24) 204 17 25) (.cons (.ap (.u (.tp (.cons (.v da 7 205 12 16) (.cons (.v lu 8 205 18 22) (.cons (.v i9 9 205 24 27) (.uv "fits" 10 205 29 33)))) 205 12 33)) (.cg "_law_lay" 6 44 (.cons (.sp (.v jz 0 205 45 50) (.v "j" 6 205 51 52) 205 45 53) (.u (.sp (.v jz 0 205 55 60) (.v "k" 5 205 61 62) 205 55 63))) 205 36 64) 205 12 64) (.cons (.em (.v lA 2 206 12 16) kA 0 (.u (.tp (.cons (.cst (.str "") (.str []) 0 (ps 206 25 27)) (.cons (.v lu 8 206 29 33) (.cons (.v i9 9 206 35 38) (.uv "fits" 10 206 40 44)))) 206 24 45)) (ps 206 12 23) 206 12 46) (.u (.iff (.v "fits" 10 207 15 19) (.u (.ec "heappush" 20 24 (.cons (.v fk 1 208 25 29) (.u (.tp (.cons (.v lu 8 208 32 36) (.uv i9 9 208 38 41)) 208 31 42))) 208 16 43)) .nil ⟨207,12,208,43⟩)))) ⟨204,8,208,43⟩)) ⟨203,4,208,43⟩) (.cons (.gO (.v fk 1 209 10 14) (.cons (.ap (.u (.tp (.cons (.v pK 11 210 8 14) (.uv da 7 210 16 20)) 210 8 20)) (.cg "heappop" 21 30 (.uv fk 1 210 31 35) 210 23 36) 210 8 36) (.u (.iff (.cp .Eq (.v da 7 211 11 15) (.cst (.str "") (.str []) 0 (ps 211 19 21)) 211 11 21) (.u (.em (.v "double" 4 212 12 18) kA 0 (.uv pK 11 212 26 32) (ps 212 12 25) 212 12 33)) (.u (.iff (.cp .NotIn (.v da 7 213 13 17) (.v n7 3 213 25 32) 213 13 32) (.cons (.ap (.u (.sp (.v n7 3 214 12 19) (.v da 7 214 20 24) 214 12 25)) (.v pK 11 214 28 34) 214 12 34) (.u (.loop (.v "word" 12 215 16 20) (.v jz 0 215 24 29) (.cons (.av "lay" 13 19 (.cg "_law_lay" 6 30 (.cons (.v da 7 216 31 35) (.uv "word" 12 216 37 41)) 216 22 42) 216 16 42) (.cons (.em (.v lA 2 217 16 20) kA 0 (.uv "lay" 13 217 28 31) (ps 217 16 27) 217 16 32) (.u (.iff (.sp (.v "lay" 13 218 19 22) (.ci 3 218 23 24) 218 19 25) (.u (.ec "heappush" 20 28 (.cons (.v fk 1 219 29 33) (.u (.tp (.cons (.bp .Add (.v pK 11 219 36 42) (.sp (.v "lay" 13 219 45 48) (.ci 1 219 49 50) 219 45 51) 219 36 51) (.u (.sp (.v "lay" 13 219 53 56) (.ci 2 219 57 58) 219 53 59))) 219 35 60))) 219 20 61)) .nil ⟨218,16,219,61⟩)))) ⟨215,12,219,61⟩))) .nil ⟨213,8,219,61⟩)) ⟨211,8,219,61⟩))) .nil ⟨209,4,219,61⟩) (.u (.rp (.tp (.cons (.v n7 3 220 12 19) (.cons (.v lA 2 220 21 25) (.u (.fN (.v "double" 4 220 27 33) .nil (.ci 1 220 35 36) (ps 220 34 36) (ps 220 27 37))))) 220 11 38) 220 4 38))))))))⟩
def f8:FD:=⟨2,false,[],20,(.cons (.av "sorter" 2 10 (.cg "TopologicalSorter" 22 30 .nil 222 13 32) 222 4 32) (.cons (.loop (.v da 3 223 8 12) (.v n7 0 223 16 23) (.u (.em (.v "sorter" 2 224 8 14) "add" 8 (.uv da 3 224 19 23) (ps 224 8 18) 224 8 24)) ⟨223,4,224,24⟩) (.cons (.loop (.tp (.cons (.v "old" 4 225 8 11) (.cons (.v lu 5 225 13 17) (.cons (.v i9 6 225 19 22) (.uv "fits" 7 225 24 28)))) 225 8 28) (.v lA 1 225 32 36) (.u (.iff (.cp .NotEq (.v i9 6 226 11 14) (.cst (.str "") (.str []) 0 (ps 226 18 20)) 226 11 20) (.u (.em (.v "sorter" 2 227 12 18) "add" 8 (.cons (.v i9 6 227 23 26) (.uv "old" 4 227 28 31)) (ps 227 12 22) 227 12 32)) .nil ⟨226,8,227,32⟩)) ⟨225,4,227,32⟩) (.cons (.av "ring" 8 8 (.cst (.bool false) (.bool false) 0 (ps 228 11 16)) 228 4 16) (.cons (.tri (.u (.em (.v "sorter" 2 230 8 14) "prepare" 10 .nil (ps 230 8 22) 230 8 24)) "CycleError" 34 (ps 231 11 21) (.u (.av "ring" 8 12 (.cst (.bool true) (.bool true) 0 (ps 232 15 19)) 232 8 19)) ⟨231,4,232,19⟩ ⟨229,4,232,19⟩) (.cons (.av "late" 9 8 (.dict (ps 233 11 13)) 233 4 13) (.cons (.av "told" 10 8 (.list .nil true (ps 234 11 13)) 234 4 13) (.cons (.gO (.eO (.v "sorter" 2 235 10 16) "is_active" 11 .nil (ps 235 10 26) (ps 235 10 28)) (.cons (.av "ready" 11 13 (.eO (.v "sorter" 2 236 16 22) "get_ready" 12 .nil (ps 236 16 32) (ps 236 16 34)) 236 8 34) (.cons (.loop (.v da 3 237 12 16) (.v "ready" 11 237 20 25) (.cons (.em (.v "told" 10 238 12 16) kA 0 (.uv da 3 238 24 28) (ps 238 12 23) 238 12 29) (.u (.ap (.u (.sp (.v "late" 9 239 12 16) (.v da 3 239 17 21) 239 12 22)) (.cg "max" 33 28 (.u (.bp .Add (.lp (.u (.ci 0 239 30 31)) 239 29 32) (.comp (.bp .Add (.eO (.v "late" 9 239 36 40) "get" 6 (.cons (.v "old" 12 239 45 48) (.u (.ci 0 239 50 51))) (ps 239 36 44) (ps 239 36 52)) (.v lu 13 239 55 59) 239 36 59) (.tp (.cons (.v "old" 12 239 64 67) (.cons (.v lu 13 239 69 73) (.cons (.v i9 14 239 75 78) (.uv "fits" 15 239 80 84)))) 239 64 84) (.v lA 1 239 88 92) (.u (.fx true (.cons (.cp .Eq (.v i9 14 239 96 99) (.v da 3 239 103 107) 239 96 107) (.u (.cp .NotEq (.v i9 14 239 112 115) (.cst (.str "") (.str []) 0 (ps 239 119 121)) 239 112 121))) (ps 239 96 121))) ⟨.function,[(".0",.local),("old",.local),(lu,.local),(i9,.local),("fits",.local),("late",.free),(da,.free)],false,false,[]⟩ (ps 239 35 122)) 239 29 122)) 239 25 123) 239 12 123))) ⟨237,8,239,123⟩) (.u (.em (.v "sorter" 2 240 8 14) "done" 13 (.u (.star (.v "ready" 11 240 21 26) (ps 240 20 26))) (ps 240 8 19) 240 8 27)))) .nil ⟨235,4,240,27⟩) (.u (.rp (.tp (.cons (.v "ring" 8 241 12 16) (.cons (.cg "sorted" 14 24 (.uv "told" 10 241 25 29) 241 18 30) (.u (.cg "max" 33 35 (.u (.bp .Add (.lp (.u (.ci 0 241 37 38)) 241 36 39) (.comp (.bp .Add (.eO (.v "late" 9 241 43 47) "get" 6 (.cons (.v "old" 16 241 52 55) (.u (.ci 0 241 57 58))) (ps 241 43 51) (ps 241 43 59)) (.v lu 17 241 62 66) 241 43 66) (.tp (.cons (.v "old" 16 241 71 74) (.cons (.v lu 17 241 76 80) (.cons (.v i9 18 241 82 85) (.uv "fits" 19 241 87 91)))) 241 71 91) (.v lA 1 241 95 99) .nil ⟨.function,[(".0",.local),("old",.local),(lu,.local),(i9,.local),("fits",.local),("late",.free)],false,false,[]⟩ (ps 241 42 100)) 241 36 100)) 241 32 101)))) 241 11 102) 241 4 102))))))))))⟩
def f9:FD:=⟨2,false,[],12,(.cons (.av "left" 2 8 (.comp (.v da 5 243 12 16) (.v da 5 243 21 25) (.v n7 0 243 29 36) .nil ⟨.function,[(".0",.local),(da,.local)],false,false,[]⟩ (ps 243 11 37)) 243 4 37) (.cons (.av "free" 3 8 (.list .nil true (ps 244 11 13)) 244 4 13) (.u (.gO (.cst (.bool true) (.bool true) 0 (ps 245 10 14)) (.cons (.av "goes" 4 12 (.comp (.v da 6 246 16 20) (.v da 6 246 25 29) (.v "left" 2 246 33 37) (.u (.cp .Eq (.comp (.v "old" 7 246 42 45) (.tp (.cons (.v "old" 7 246 50 53) (.cons (.v lu 8 246 55 59) (.cons (.v i9 9 246 61 64) (.uv "fits" 10 246 66 70)))) 246 50 70) (.v lA 1 246 74 78) (.u (.fx true (.cons (.cp .Eq (.v i9 9 246 82 85) (.v da 6 246 89 93) 246 82 93) (.cons (.cp .NotEq (.v i9 9 246 98 101) (.cst (.str "") (.str []) 0 (ps 246 105 107)) 246 98 107) (.u (.cp .In (.v "old" 7 246 113 116) (.v "left" 2 246 120 124) 246 113 124)))) (ps 246 82 125))) ⟨.function,[(".0",.local),("old",.local),(lu,.local),(i9,.local),("fits",.local),("left",.free),(da,.free)],false,false,[]⟩ (ps 246 41 126)) (.lp .nil 246 130 132) 246 41 132)) ⟨.function,[(".0",.local),(da,.cell),(lA,.free),("left",.free)],false,false,[]⟩ (ps 246 15 133)) 246 8 133) (.cons (.iff (.cp .Eq (.v "goes" 4 247 11 15) (.lp .nil 247 19 21) 247 11 21) (.u (.rp (.cg "sorted" 14 25 (.uv "free" 3 248 26 30) 248 19 31) 248 12 31)) .nil ⟨247,8,248,31⟩) (.cons (.em (.v "free" 3 249 8 12) "extend" 3 (.uv "goes" 4 249 20 24) (ps 249 8 19) 249 8 25) (.u (.av "left" 2 12 (.comp (.v da 11 250 16 20) (.v da 11 250 25 29) (.v "left" 2 250 33 37) (.u (.cp .NotIn (.v da 11 250 41 45) (.v "goes" 4 250 53 57) 250 41 57)) ⟨.function,[(".0",.local),(da,.local),("goes",.free)],false,false,[]⟩ (ps 250 15 58)) 250 8 58))))) .nil ⟨245,4,250,58⟩))))⟩
def yC:FD:=⟨2,false,[],8,(.cons (.av "made" 2 8 (.list .nil true (ps 252 11 13)) 252 4 13) (.cons (.loop (.tp (.cons (.v "left" 3 253 8 12) (.uv "right" 4 253 14 19)) 253 8 19) (.v "pairs" 0 253 23 28) (.u (.loop (.v "one" 5 254 12 15) (.oF (.cp .Eq (.v "left" 3 254 28 32) (.cst (.str "") (.str []) 0 (ps 254 36 38)) 254 28 38) (.v jz 1 254 19 24) (.lp (.uv "left" 3 254 45 49) 254 44 50) (ps 254 19 50)) (.u (.loop (.v "two" 6 255 16 19) (.oF (.cp .Eq (.v "right" 4 255 32 37) (.cst (.str "") (.str []) 0 (ps 255 41 43)) 255 32 43) (.v jz 1 255 23 28) (.lp (.uv "right" 4 255 50 55) 255 49 56) (ps 255 23 56)) (.cons (.av "pair" 7 20 (.lp (.cons (.cg "min" 16 27 (.cons (.fN (.v "one" 5 256 28 31) (.ci 1 256 32 33) .nil (ps 256 32 34) (ps 256 28 35)) (.u (.fN (.v "two" 6 256 37 40) (.ci 1 256 41 42) .nil (ps 256 41 43) (ps 256 37 44)))) 256 24 45) (.u (.cg "max" 33 50 (.cons (.fN (.v "one" 5 256 51 54) (.ci 1 256 55 56) .nil (ps 256 55 57) (ps 256 51 58)) (.u (.fN (.v "two" 6 256 60 63) (.ci 1 256 64 65) .nil (ps 256 64 66) (ps 256 60 67)))) 256 47 68))) 256 23 69) 256 16 69) (.u (.iff (.fx true (.cons (.cp .Eq (.sp (.v "one" 5 257 19 22) (.ci 0 257 23 24) 257 19 25) (.sp (.v "two" 6 257 29 32) (.ci 0 257 33 34) 257 29 35) 257 19 35) (.u (.cp .NotIn (.v "pair" 7 257 40 44) (.v "made" 2 257 52 56) 257 40 56))) (ps 257 19 56)) (.u (.em (.v "made" 2 258 20 24) kA 0 (.uv "pair" 7 258 32 36) (ps 258 20 31) 258 20 37)) .nil ⟨257,16,258,37⟩))) ⟨255,12,258,37⟩)) ⟨254,8,258,37⟩)) ⟨253,4,258,37⟩) (.u (.rp (.cg "sorted" 14 17 (.uv "made" 2 259 18 22) 259 11 23) 259 4 23))))⟩
def vJ:FD:=⟨1,false,[],13,(.cons (.av "pairs" 1 9 (.comp (.gen (.v "j" 11 261 65 66) (.cg "range" 11 75 (.uv "k" 10 261 76 77) 261 70 78) (.lp (.cons (.sp (.v jz 0 261 14 19) (.v "j" 11 261 20 21) 261 14 22) (.u (.sp (.v jz 0 261 24 29) (.v "k" 10 261 30 31) 261 24 32))) 261 13 33)) (.v "k" 10 261 38 39) (.cg "range" 11 48 (.u (.cg jZ 10 52 (.uv jz 0 261 53 58) 261 49 59)) 261 43 60) .nil ⟨.function,[(".0",.local),("k",.local),("j",.local),("range",.globalImplicit),(jz,.free)],false,false,[]⟩ (ps 261 12 79)) 261 4 79) (.cons (.av "seen" 2 8 (.list .nil true (ps 262 11 13)) 262 4 13) (.cons (.av "least" 3 9 (.dct (.cst (.str "") (.str []) 0 (ps 263 13 15)) (.ci 0 263 17 18) (ps 263 12 19)) 263 4 19) (.cons (.av "ends" 4 8 (.list .nil true (ps 264 11 13)) 264 4 13) (.cons (.av pK 5 10 (.ci 0 265 13 14) 265 4 14) (.cons (.av "deepest" 6 11 (.ci 0 266 14 15) 266 4 15) (.cons (.gO (.fx true (.cons (.cp .NotEq (.v "pairs" 1 267 10 15) (.lp .nil 267 19 21) 267 10 21) (.u (.cp .NotIn (.v "pairs" 1 267 26 31) (.v "seen" 2 267 39 43) 267 26 43))) (ps 267 10 43)) (.cons (.em (.v "seen" 2 268 8 12) kA 0 (.uv "pairs" 1 268 20 25) (ps 268 8 19) 268 8 26) (.cons (.av "made" 7 12 (.cg "_law_read_on" 12 27 (.cons (.v "pairs" 1 269 28 33) (.uv jz 0 269 35 40)) 269 15 41) 269 8 41) (.cons (.aug .Add (.v pK 5 270 8 14) (.ci 1 270 18 19) (ps 270 8 19)) (.cons (.loop (.tp (.cons (.v "one" 8 271 12 15) (.uv "two" 9 271 17 20)) 271 12 20) (.v "made" 7 271 24 28) (.cons (.av "deepest" 6 19 (.v pK 5 272 22 28) 272 12 28) (.u (.iff (.fx true (.cons (.cp .Eq (.v "one" 8 273 15 18) (.cst (.str "") (.str []) 0 (ps 273 22 24)) 273 15 24) (.u (.cp .Eq (.v "two" 9 273 29 32) (.cst (.str "") (.str []) 0 (ps 273 36 38)) 273 29 38))) (ps 273 15 38)) (.u (.em (.v "ends" 4 274 16 20) kA 0 (.uv pK 5 274 28 34) (ps 274 16 27) 274 16 35)) (.u (.iff (.fx true (.cons (.cp .Eq (.v "one" 8 275 17 20) (.cst (.str "") (.str []) 0 (ps 275 24 26)) 275 17 26) (.u (.cp .NotIn (.v "two" 9 275 31 34) (.v "least" 3 275 42 47) 275 31 47))) (ps 275 17 47)) (.u (.ap (.u (.sp (.v "least" 3 276 16 21) (.v "two" 9 276 22 25) 276 16 26)) (.v pK 5 276 29 35) 276 16 35)) .nil ⟨275,12,276,35⟩)) ⟨273,12,276,35⟩))) ⟨271,8,276,35⟩) (.u (.av "pairs" 1 13 (.comp (.v "pair" 12 277 17 21) (.v "pair" 12 277 26 30) (.v "made" 7 277 34 38) (.u (.cp .NotEq (.v "pair" 12 277 42 46) (.lp (.cons (.cst (.str "") (.str []) 0 (ps 277 51 53)) (.u (.cst (.str "") (.str []) 0 (ps 277 55 57)))) 277 50 58) 277 42 58)) ⟨.function,[(".0",.local),("pair",.local)],false,false,[]⟩ (ps 277 16 59)) 277 8 59)))))) .nil ⟨267,4,277,59⟩) (.u (.rp (.tp (.cons (.v "least" 3 278 12 17) (.cons (.fN (.v "ends" 4 278 19 23) .nil (.ci 1 278 25 26) (ps 278 24 26) (ps 278 19 27)) (.cons (.cp .NotEq (.v "pairs" 1 278 29 34) (.lp .nil 278 38 40) 278 29 40) (.uv "deepest" 6 278 42 49)))) 278 11 50) 278 4 50)))))))))⟩
def LH:FD:=⟨2,false,[],2,(.cons (.em (.v fk 0 124 4 8) kA 0 (.uv "item" 1 124 16 20) (ps 124 4 15) 124 4 21) (.u (.ec "_siftdown" 23 13 (.cons (.v fk 0 125 14 18) (.cons (.ci 0 125 20 21) (.u (.bp .Sub (.cg jZ 10 26 (.uv fk 0 125 27 31) 125 23 32) (.ci 1 125 35 36) 125 23 36)))) 125 4 37)))⟩
def yB:FD:=⟨1,false,[],3,(.cons (.av "lastelt" 1 11 (.eO (.v fk 0 127 14 18) "pop" 1 .nil (ps 127 14 22) (ps 127 14 24)) 127 4 24) (.cons (.iff (.v fk 0 128 7 11) (.cons (.av "returnitem" 2 18 (.sp (.v fk 0 129 21 25) (.ci 0 129 26 27) 129 21 28) 129 8 28) (.cons (.ap (.u (.sp (.v fk 0 130 8 12) (.ci 0 130 13 14) 130 8 15)) (.v "lastelt" 1 130 18 25) 130 8 25) (.cons (.ec "_siftup" 24 15 (.cons (.v fk 0 131 16 20) (.u (.ci 0 131 22 23))) 131 8 24) (.u (.rp (.v "returnitem" 2 132 15 25) 132 8 25))))) .nil ⟨128,4,132,25⟩) (.u (.rp (.v "lastelt" 1 133 11 18) 133 4 18))))⟩
def tN:FD:=⟨3,false,[],6,(.cons (.av "newitem" 3 11 (.sp (.v fk 0 135 14 18) (.v jY 2 135 19 22) 135 14 23) 135 4 23) (.cons (.gO (.cp .Gt (.v jY 2 136 10 13) (.v "startpos" 1 136 16 24) 136 10 24) (.cons (.av "parentpos" 4 17 (.bp .RShift (.bp .Sub (.v jY 2 137 20 23) (.ci 1 137 26 27) 137 20 27) (.ci 1 137 31 32) 137 20 32) 137 8 32) (.cons (.av "parent" 5 14 (.sp (.v fk 0 138 17 21) (.v "parentpos" 4 138 22 31) 138 17 32) 138 8 32) (.cons (.iff (.cp .Lt (.v "newitem" 3 139 11 18) (.v "parent" 5 139 21 27) 139 11 27) (.cons (.ap (.u (.sp (.v fk 0 140 12 16) (.v jY 2 140 17 20) 140 12 21)) (.v "parent" 5 140 24 30) 140 12 30) (.cons (.av jY 2 15 (.v "parentpos" 4 141 18 27) 141 12 27) (.u (.cont (ps 142 12 20))))) .nil ⟨139,8,142,20⟩) (.u (.brk (ps 143 8 13)))))) .nil ⟨136,4,143,13⟩) (.u (.ap (.u (.sp (.v fk 0 144 4 8) (.v jY 2 144 9 12) 144 4 13)) (.v "newitem" 3 144 16 23) 144 4 23))))⟩
def rR:FD:=⟨2,false,[],7,(.cons (.av "endpos" 2 10 (.cg jZ 10 16 (.uv fk 0 146 17 21) 146 13 22) 146 4 22) (.cons (.av "startpos" 3 12 (.v jY 1 147 15 18) 147 4 18) (.cons (.av "newitem" 4 11 (.sp (.v fk 0 148 14 18) (.v jY 1 148 19 22) 148 14 23) 148 4 23) (.cons (.av qU 5 12 (.bp .Add (.bp .Mult (.ci 2 149 15 16) (.v jY 1 149 19 22) 149 15 22) (.ci 1 149 25 26) 149 15 26) 149 4 26) (.cons (.gO (.cp .Lt (.v qU 5 150 10 18) (.v "endpos" 2 150 21 27) 150 10 27) (.cons (.av "rightpos" 6 16 (.bp .Add (.v qU 5 151 19 27) (.ci 1 151 30 31) 151 19 31) 151 8 31) (.cons (.iff (.fx true (.cons (.cp .Lt (.v "rightpos" 6 152 11 19) (.v "endpos" 2 152 22 28) 152 11 28) (.u (.not (.cp .Lt (.sp (.v fk 0 152 38 42) (.v qU 5 152 43 51) 152 38 52) (.sp (.v fk 0 152 55 59) (.v "rightpos" 6 152 60 68) 152 55 69) 152 38 69) (ps 152 34 69)))) (ps 152 11 70)) (.u (.av qU 5 20 (.v "rightpos" 6 153 23 31) 153 12 31)) .nil ⟨152,8,153,31⟩) (.cons (.ap (.u (.sp (.v fk 0 154 8 12) (.v jY 1 154 13 16) 154 8 17)) (.sp (.v fk 0 154 20 24) (.v qU 5 154 25 33) 154 20 34) 154 8 34) (.cons (.av jY 1 11 (.v qU 5 155 14 22) 155 8 22) (.u (.av qU 5 16 (.bp .Add (.bp .Mult (.ci 2 156 19 20) (.v jY 1 156 23 26) 156 19 26) (.ci 1 156 29 30) 156 19 30) 156 8 30)))))) .nil ⟨150,4,156,30⟩) (.cons (.ap (.u (.sp (.v fk 0 157 4 8) (.v jY 1 157 9 12) 157 4 13)) (.v "newitem" 4 157 16 23) 157 4 23) (.u (.ec "_siftdown" 23 13 (.cons (.v fk 0 158 14 18) (.cons (.v "startpos" 3 158 20 28) (.uv jY 1 158 30 33))) 158 4 34))))))))⟩
def LG:FD:=⟨2,false,[.none],4,(.cons (.ap (.u (.sa sP 14 12 19 8 23)) (.dict (ps 19 26 28)) 19 8 28) (.cons (.ap (.u (.sa mU 15 12 20 8 25)) (.cst .none .none 0 (ps 20 28 32)) 20 8 32) (.cons (.ap (.u (.sa "_npassedout" 16 12 21 8 24)) (.ci 0 21 27 28) 21 8 28) (.cons (.ap (.u (.sa "_nfinished" 17 12 22 8 23)) (.ci 0 22 26 27) 22 8 27) (.u (.iff (.cp .IsNot (.v "graph" 1 23 11 16) (.cst .none .none 0 (ps 23 24 28)) 23 11 28) (.u (.loop (.tp (.cons (.v fj 2 24 16 20) (.uv "predecessors" 3 24 22 34)) 24 16 34) (.eO (.v "graph" 1 24 38 43) "items" 18 .nil (ps 24 38 49) (ps 24 38 51)) (.u (.em (.v "self" 0 25 16 20) "add" 8 (.cons (.v fj 2 25 25 29) (.u (.star (.v "predecessors" 3 25 32 44) (ps 25 31 44)))) (ps 25 16 24) 25 16 45)) ⟨24,12,25,45⟩)) .nil ⟨23,8,25,45⟩))))))⟩
def EH:FD:=⟨2,false,[],3,(.cons (.iff (.cp .Is (.sH (.v "result" 2 28 12 18) (.eO (.sa sP 14 26 28 22 37) "get" 6 (.uv fj 1 28 42 46) (ps 28 22 41) (ps 28 22 47)) (ps 28 12 47)) (.cst .none .none 0 (ps 28 52 56)) 28 11 56) (.u (.ap (.cons (.sp (.sa sP 14 16 29 12 27) (.v fj 1 29 28 32) 29 12 33) (.uv "result" 2 29 36 42)) (.cg "_NodeInfo" 25 54 (.uv fj 1 29 55 59) 29 45 60) 29 12 60)) .nil ⟨28,8,29,60⟩) (.u (.rp (.v "result" 2 30 15 21) 30 8 21)))⟩
def Bn:FD:=⟨2,true,[],6,(.cons (.iff (.cp .IsNot (.sa mU 15 15 33 11 28) (.cst .none .none 0 (ps 33 36 40)) 33 11 40) (.u (.bad (n8 (iz 6 2) [0,0,0]))) .nil ⟨33,8,34,79⟩) (.cons (.av uJ 3 16 (.eO (.v "self" 0 35 19 23) "_get_nodeinfo" 19 (.uv fj 1 35 38 42) (ps 35 19 37) (ps 35 19 43)) 35 8 43) (.cons (.aug .Add (.attr (.v uJ 3 36 8 16) qT 20 (ps 36 8 30)) (.cg jZ 10 37 (.uv "predecessors" 2 36 38 50) 36 34 51) (ps 36 8 51)) (.u (.loop (.v "pred" 4 37 12 16) (.v "predecessors" 2 37 20 32) (.cons (.av "pred_info" 5 21 (.eO (.v "self" 0 38 24 28) "_get_nodeinfo" 19 (.uv "pred" 4 38 43 47) (ps 38 24 42) (ps 38 24 48)) 38 12 48) (.u (.em (.attr (.v "pred_info" 5 39 12 21) "successors" 21 (ps 39 12 32)) kA 0 (.uv fj 1 39 40 44) (ps 39 12 39) 39 12 45))) ⟨37,8,39,45⟩)))))⟩
def Bm:FD:=⟨1,false,[],3,(.cons (.iff (.cp .IsNot (.sa mU 15 15 42 11 28) (.cst .none .none 0 (ps 42 36 40)) 42 11 40) (.u (.bad (n8 (iz 6 3) [0,0,0]))) .nil ⟨42,8,43,63⟩) (.cons (.ap (.u (.sa mU 15 12 44 8 25)) (.comp (.attr (.v "i" 2 44 29 30) fj 22 (ps 44 29 35)) (.v "i" 2 44 40 41) (.eO (.sa sP 14 49 44 45 60) "values" 7 .nil (ps 44 45 67) (ps 44 45 69)) (.u (.cp .Eq (.attr (.v "i" 2 44 73 74) qT 20 (ps 44 73 88)) (.ci 0 44 92 93) 44 73 93)) ⟨.function,[(".0",.local),("i",.local)],false,false,[]⟩ (ps 44 28 94)) 44 8 94) (.cons (.av "cycle" 1 13 (.eO (.v "self" 0 45 16 20) "_find_cycle" 23 .nil (ps 45 16 32) (ps 45 16 34)) 45 8 34) (.u (.iff (.v "cycle" 1 46 11 16) (.u (.raise "CycleError" 34 (ps 47 18 28) (.cons (.fst (.str "nodes are in a cycle") 0 (ps 47 31 51) (ps 47 29 52)) (.uv "cycle" 1 47 54 59)) (ps 47 18 60) (ps 47 12 60))) .nil ⟨46,8,47,60⟩)))))⟩
def Bl:FD:=⟨1,false,[],4,(.cons (.iff (.cp .Is (.sa mU 15 15 50 11 28) (.cst .none .none 0 (ps 50 32 36)) 50 11 36) (.u (.bad (n8 (iz 6 4) [0,0,0]))) .nil ⟨50,8,51,62⟩) (.cons (.av "result" 1 14 (.cg "tuple" 26 22 (.u (.sa mU 15 27 52 23 40)) 52 17 41) 52 8 41) (.cons (.av "n2i" 2 11 (.sa sP 14 18 53 14 29) 53 8 29) (.cons (.loop (.v fj 3 54 12 16) (.v "result" 1 54 20 26) (.u (.ap (.u (.attr (.sp (.v "n2i" 2 55 12 15) (.v fj 3 55 16 20) 55 12 21) qT 20 (ps 55 12 35))) (.g "_NODE_OUT" 27 55 38 47) 55 12 47)) ⟨54,8,55,47⟩) (.cons (.em (.sa mU 15 12 56 8 25) "clear" 2 .nil (ps 56 8 31) 56 8 33) (.cons (.aug .Add (.sa "_npassedout" 16 12 57 8 24) (.cg jZ 10 31 (.uv "result" 1 57 32 38) 57 28 39) (ps 57 8 39)) (.u (.rp (.v "result" 1 58 15 21) 58 8 21))))))))⟩
def LF:FD:=⟨1,false,[],1,(.cons (.iff (.cp .Is (.sa mU 15 15 61 11 28) (.cst .none .none 0 (ps 61 32 36)) 61 11 36) (.u (.bad (n8 (iz 6 5) [0,0,0]))) .nil ⟨61,8,62,62⟩) (.u (.rp (.fx false (.cons (.cp .Lt (.sa "_nfinished" 17 19 63 15 30) (.sa "_npassedout" 16 37 63 33 49) 63 15 49) (.u (.cg "bool" 28 57 (.u (.sa mU 15 62 63 58 75)) 63 53 76))) (ps 63 15 76)) 63 8 76)))⟩
def vI:FD:=⟨1,true,[],8,(.cons (.iff (.cp .Is (.sa mU 15 15 69 11 28) (.cst .none .none 0 (ps 69 32 36)) 69 11 36) (.u (.bad (n8 (iz 6 7) [0,0,0]))) .nil ⟨69,8,70,62⟩) (.cons (.av "n2i" 2 11 (.sa sP 14 18 71 14 29) 71 8 29) (.u (.loop (.v fj 3 72 12 16) (.v "nodes" 1 72 20 25) (.cons (.iff (.cp .Is (.sH (.v uJ 4 73 16 24) (.eO (.v "n2i" 2 73 28 31) "get" 6 (.uv fj 3 73 36 40) (ps 73 28 35) (ps 73 28 41)) (ps 73 16 41)) (.cst .none .none 0 (ps 73 46 50)) 73 15 50) (.u (.bad (n8 (iz 6 7) [2,0,0,0,0]))) .nil ⟨73,12,74,76⟩) (.cons (.av "stat" 5 16 (.attr (.v uJ 4 75 19 27) qT 20 (ps 75 19 41)) 75 12 41) (.cons (.iff (.cp .NotEq (.v "stat" 5 76 15 19) (.g "_NODE_OUT" 27 76 23 32) 76 15 32) (.u (.iff (.cp .GtE (.v "stat" 5 77 19 23) (.ci 0 77 27 28) 77 19 28) (.u (.bad (n8 (iz 6 7) [2,0,2,0,0,0,0]))) (.u (.iff (.cp .Eq (.v "stat" 5 79 21 25) (.g "_NODE_DONE" 29 79 29 39) 79 21 39) (.u (.bad (n8 (iz 6 7) [2,0,2,0,0,1,0,0,0]))) (.u (.bad (n8 (iz 6 7) [2,0,2,0,0,1,0,1,0]))) ⟨79,16,82,73⟩)) ⟨77,16,82,73⟩)) .nil ⟨76,12,82,73⟩) (.cons (.ap (.u (.attr (.v uJ 4 83 12 20) qT 20 (ps 83 12 34))) (.g "_NODE_DONE" 29 83 37 47) 83 12 47) (.cons (.loop (.v "successor" 6 84 16 25) (.attr (.v uJ 4 84 29 37) "successors" 21 (ps 84 29 48)) (.cons (.av "successor_info" 7 30 (.sp (.v "n2i" 2 85 33 36) (.v "successor" 6 85 37 46) 85 33 47) 85 16 47) (.cons (.aug .Sub (.attr (.v "successor_info" 7 86 16 30) qT 20 (ps 86 16 44)) (.ci 1 86 48 49) (ps 86 16 49)) (.u (.iff (.cp .Eq (.attr (.v "successor_info" 7 87 19 33) qT 20 (ps 87 19 47)) (.ci 0 87 51 52) 87 19 52) (.u (.em (.sa mU 15 24 88 20 37) kA 0 (.uv "successor" 6 88 45 54) (ps 88 20 44) 88 20 55)) .nil ⟨87,16,88,55⟩)))) ⟨84,12,88,55⟩) (.u (.aug .Add (.sa "_nfinished" 17 16 89 12 27) (.ci 1 89 31 32) (ps 89 12 32)))))))) ⟨72,8,89,32⟩))))⟩
def Bk:FD:=⟨1,false,[],7,(.cons (.av "n2i" 1 11 (.sa sP 14 18 92 14 29) 92 8 29) (.cons (.av "stack" 2 13 (.list .nil true (ps 93 16 18)) 93 8 18) (.cons (.av "itstack" 3 15 (.list .nil true (ps 94 18 20)) 94 8 20) (.cons (.av "seen" 4 12 (.cg "set" 30 18 .nil 95 15 20) 95 8 20) (.cons (.av wV 5 19 (.dict (ps 96 22 24)) 96 8 24) (.cons (.loop (.v fj 6 97 12 16) (.v "n2i" 1 97 20 23) (.cons (.iff (.cp .In (.v fj 6 98 15 19) (.v "seen" 4 98 23 27) 98 15 27) (.u (.cont (ps 99 16 24))) .nil ⟨98,12,99,24⟩) (.u (.gO (.cst (.bool true) (.bool true) 0 (ps 100 18 22)) (.cons (.iff (.cp .In (.v fj 6 101 19 23) (.v "seen" 4 101 27 31) 101 19 31) (.u (.iff (.cp .In (.v fj 6 102 23 27) (.v wV 5 102 31 42) 102 23 42) (.u (.rp (.bp .Add (.fN (.v "stack" 2 103 31 36) (.sp (.v wV 5 103 37 48) (.v fj 6 103 49 53) 103 37 54) .nil (ps 103 37 55) (ps 103 31 56)) (.lp (.uv fj 6 103 60 64) 103 59 65) 103 31 65) 103 24 65)) .nil ⟨102,20,103,65⟩)) (.cons (.em (.v "seen" 4 105 20 24) "add" 8 (.uv fj 6 105 29 33) (ps 105 20 28) 105 20 34) (.cons (.em (.v "itstack" 3 106 20 27) kA 0 (.u (.attr (.cg "iter" 31 39 (.u (.attr (.sp (.v "n2i" 1 106 40 43) (.v fj 6 106 44 48) 106 40 49) "successors" 21 (ps 106 40 60))) 106 35 61) "__next__" 9 (ps 106 35 70))) (ps 106 20 34) 106 20 71) (.cons (.ap (.u (.sp (.v wV 5 107 20 31) (.v fj 6 107 32 36) 107 20 37)) (.cg jZ 10 43 (.uv "stack" 2 107 44 49) 107 40 50) 107 20 50) (.u (.em (.v "stack" 2 108 20 25) kA 0 (.uv fj 6 108 33 37) (ps 108 20 32) 108 20 38))))) ⟨101,16,108,38⟩) (.u (.gO (.v "stack" 2 109 22 27) (.u (.tri (.cons (.av fj 6 28 (.call (.sp (.v "itstack" 3 111 31 38) (.neg (.ci 1 111 40 41) (ps 111 39 41)) 111 31 42) .nil (ps 111 31 44)) 111 24 44) (.u (.brk (ps 112 24 29)))) "StopIteration" 32 (ps 113 27 40) (.cons (.del (.v wV 5 114 28 39) (.eO (.v "stack" 2 114 40 45) "pop" 1 .nil (ps 114 40 49) (ps 114 40 51)) (ps 114 28 52) (ps 114 24 52)) (.u (.em (.v "itstack" 3 115 24 31) "pop" 1 .nil (ps 115 24 35) 115 24 37))) ⟨113,20,115,37⟩ ⟨110,20,115,37⟩)) (.u (.brk (ps 117 20 25))) ⟨109,16,117,25⟩))) .nil ⟨100,12,117,25⟩))) ⟨97,8,117,25⟩) (.u (.rp (.cst .none .none 0 (ps 118 15 19)) 118 8 19))))))))⟩
def LD:FD:=⟨2,false,[],2,(.cons (.ap (.u (.sa fj 22 12 11 8 17)) (.v fj 1 11 20 24) 11 8 24) (.cons (.ap (.u (.sa qT 20 12 12 8 26)) (.ci 0 12 29 30) 12 8 30) (.u (.ap (.u (.sa "successors" 21 12 13 8 23)) (.list .nil true (ps 13 26 28)) 13 8 28))))⟩
def P:bP:=⟨[.fn f0,.fn f1,.fn f2,.fn f3,.fn f4,.fn f5,.fn f6,.fn f7,.fn f8,.fn f9,.bi .len,.bi .range,.fn yC,.fn vJ,.bi .sorted,.bi .abs,.bi .min,.bi .int,.bi .divmod,.bi .chr,.fn LH,.fn yB,.cl ⟨35,false,[(19,36),(8,37),(10,38),(12,39),(11,40),(13,41),(23,42)],[14,15,16,17]⟩,.fn tN,.fn rR,.cl ⟨43,true,[],[22,20,21]⟩,.bi .tuple,.cv (.int (-1)),.bi .bool,.cv (.int (-2)),.bi .set,.bi .iter,.exc 0,.bi .max,.exc 35,.fn LG,.fn EH,.fn Bn,.fn Bm,.fn Bl,.fn LF,.fn vI,.fn Bk,.fn LD]⟩
noncomputable def gl:List Str:=[("law":Str),("_law_rows":Str),("_law_number":Str),("Int2AP":Str),("_law_text":Str),("_law_letters":Str),("_law_lay":Str),("_law_search":Str),("_law_order":Str),("_law_free":Str),("len":Str),("range":Str),("_law_read_on":Str),("_law_side_by_side":Str),("sorted":Str),("abs":Str),("min":Str),("int":Str),("divmod":Str),("chr":Str),("heappush":Str),("heappop":Str),("TopologicalSorter":Str),("_siftdown":Str),("_siftup":Str),("_NodeInfo":Str),("tuple":Str),("_NODE_OUT":Str),("bool":Str),("_NODE_DONE":Str),("set":Str),("iter":Str),("StopIteration":Str),("max":Str),("CycleError":Str)]
noncomputable def nm:List Str:=[("append":Str),("pop":Str),("clear":Str),("extend":Str),("?":Str),("join":Str),("get":Str),("values":Str),("add":Str),("__next__":Str),("prepare":Str),("is_active":Str),("get_ready":Str),("done":Str),("_node2info":Str),("_ready_nodes":Str),("_npassedout":Str),("_nfinished":Str),("items":Str),("_get_nodeinfo":Str),("npredecessors":Str),("successors":Str),("node":Str),("_find_cycle":Str)]
def MM:List (Nat×List Stmt):=[(0,(jk 25)),(1,(jk 15)),(2,(jk 16)),(3,(jk 13)),(4,(jk 18)),(5,(jk 17)),(6,(jk 19)),(7,(jk 20)),(8,(jk 21)),(9,(jk 22)),(12,(jk 23)),(13,(jk 24)),(20,(jk 8)),(21,(jk 9)),(23,(jk 10)),(24,(jk 11)),(35,(iz 6 0)),(36,(iz 6 1)),(37,(iz 6 2)),(38,(iz 6 3)),(39,(iz 6 4)),(40,(iz 6 5)),(41,(iz 6 7)),(42,(iz 6 8)),(43,(iz 4 1))]
end
section
open PySem.W PyProof.Rows
abbrev uQ:=PySem.Challenge.rw_ny0272_03
def tb:Tb:=⟨P,gl,nm,[("TopologicalSorter","__init__"),("TopologicalSorter","_get_nodeinfo"),("TopologicalSorter","add"),("TopologicalSorter","prepare"),("TopologicalSorter","get_ready"),("TopologicalSorter","is_active"),("TopologicalSorter","done"),("TopologicalSorter","_find_cycle"),("_NodeInfo","__init__")],List.range 260,pw⟩
noncomputable def wd:World:=⟨λO O=>0,{strHash:=λO=>0,shareClass:=λO=>0,mergeTok:=id,idOf:=λO=>0,idOfShared:=λO O=>0,followText:=λO=>false,idOfImm:=λO=>0}⟩
def MD(h:Heap):Cf:=qa tb wd h
def w8(h:Heap):Bool×Bool×List (Nat×FuncBody):=((h.get? (h.objs.size-1)).isSome,yK (MD h) (tb.yo h),Fe (MD h))
noncomputable def qO:Bool×Bool×List (Nat×FuncBody):=(true,true,MM.map λp=>(p.1,.stmts p.2))
def adf:((qh P.gt 0).map λp=>(p.1,FuncBody.stmts (c9 p.2.body)))=MM.map λp=>(p.1,.stmts p.2):=by kernel_rfl
variable {h:Heap}
def aed(e:w8 h=qO)(w:World):nN (qa tb w h):=by refine ua (sA e) λO e=>?_;refine ua (sA e) λe1 e2=>?_;exact aok tb (w':=wd) e1 (e2.trans adf.symm)
def Wq(e:w8 h=qO):h.isNs mainGlobals=true:=by refine ua (sA e) λO e=>?_;have h:=(sA e).1;refine QW h λh O O O O O O=>?_;exact(nF h).2
def Xp(e:w8 h=qO):∃a o,h.get? a=some o/\a+1=h.objs.size:=by refine ue (sy.mp (sA e).1) λo ho=>?_;exact⟨_,o,ho,pn (cU (jP _) (fy ho))⟩
noncomputable def DM:List Nat:=[0,2,3,4,5,6,8,9,10,11,13,15,16,17,18,19,20,21,22,23,24,25]
def qv:Program:=view pw DM
noncomputable def vk:List Str:=[Str.ofString "_NodeInfo"]
def xt(s:Shared):Bool:=xlAt qv [] s&&recOk (RowW.records (OpenRow.toRowW (OpenLaw.row uQ))) s
noncomputable def tf(run:(String->Option Builtin)->Program->World->Nat->Option Value->Nat->Shared->Thread->Option Shared)(tb:String->Option Builtin)(p:Program)(w:World)(N:Nat)(s₀:Shared):Option Shared:=
 match s₀.heap.isNs mainGlobals&&s₀.gens.size==0 with
 |true=>(run tb p w s₀.heap.objs.size (s₀.heap.nsMap mainGlobals "__annotations__") N s₀ (topStub p)).bind λs₁=>match staticsOk (importedModules p.main.body) s₀.heap s₁.heap&&namesBound p s₁.heap&&gensDone s₁&&laidKept s₀.heap s₁.heap with
   |true=>some s₁
   |false=>none
 |false=>none
def Rr:topFrom=tf topRun:=rfl
def yf(s:Shared):Bool×Bool×List (Nat×FuncBody):=w8 s.heap
def W9(w:World)(os:OsState):(tf PySem.W.Fast.tw14082659384304107361 PySem.W.Fast.tw14364793385576792824 pw w 3346 ⟨boot_heap w.params,Array.mk [],boot_drawn,boot_toks,os⟩).map (λs=>(PySem.W.Fast.tw4187177175401517315 qv vk (importedModules pw.main.body) xt true s,yf s))=some (openGood qv vk,qO):=by kernel_rfl
def W8(w:World)(os:OsState):(topFrom treeTable pw w 3346 ⟨boot_heap w.params,Array.mk [],boot_drawn,boot_toks,os⟩).map (λs=>(openSeen qv vk (importedModules pw.main.body) xt true s,yf s))=some (openGood qv vk,qO):=by rw[Rr,PySem.W.Fast.te14082659384304107361,PySem.W.Fast.te14364793385576792824,PySem.W.Fast.te4187177175401517315];exact W9 w os
def ada:opening pw=plainProg pw.main.scope.names:=by kernel_rfl
def ac9(s:Shared):fenceModules? pw s=some s:=by kernel_rfl
def W7{p q:Program}{loose:List Str}{Xt:Shared->Bool}{α:Type}{Yf:Shared->α}{a:α}{N:Nat}(e:opening p=plainProg p.main.scope.names)(hN:Nat.ble 600 N=true)(f:∀s,fenceModules? p s=some s)
  (h:∀(w:World) (os:OsState),(topFrom treeTable p w N ⟨boot_heap w.params,Array.mk [],boot_drawn,boot_toks,os⟩).map (λs=>(openSeen q loose (importedModules p.main.body) Xt true s,Yf s))=some (openGood q loose,a)):
  LeftO p q loose Xt Yf (λO=>a) N:=by
 intro w;obtain⟨⟨h',gs,d,k,os⟩,e,e'⟩:=wj.mp (boot_open e hN f w);simp only[Prod.mk.injEq] at e';obtain⟨rfl,rfl,rfl,rfl⟩:=e';unfold openEnds;rw[e];exact h w os
def left:LeftO pw qv vk xt yf (λO=>qO) 3346:=W7 ada (by rfl) ac9 W8
def CE:OpenLaw.wellSaid uQ=true:=by kernel_rfl
def Mb:(defOf qv uQ.row.name).isSome=true:=by kernel_rfl
def dk:DefRec×List (Str×Expr):=(defOf qv uQ.row.name).get Mb
section
variable {V:Cf}{J:Ph}{s:Shared}{H:Hp}{d:Nat}{E:Ev}
noncomputable def DP(r:dG Fl):Bool:=match r with
 |.ok f _ _=>(match f with
  |.ret v=>(match v with
   |.bool b=>b
   |_=>false)
  |_=>false)
 |_=>false
def XT{r:dG Fl}(h:DP r=true):∃U H,r=.ok (.ret (.bool true)) U H:=by
 cases r with
 |ok f U H=>
  cases f with
  |ret v=>
   cases v with
   |bool b=>exact⟨U,H,by rw[show b=true from h]⟩
   |_=>exact cR h
  |_=>exact cR h
 |_=>exact cR h
def Ro(ok:BR V)(Sd:mj V E)(R:aZ V [] H s.heap)(hd:d<=20){k:Nat}{fd:FD}{vf:Value}{vs:List Value}{xs:List AV}{ρ':aC}(hk:V.P.gt[k]?=some (.fn fd))(hg:V.gv k=some vf)(hv:aQ V [] s.heap vs xs)(hb:kP fd xs=some ρ')
  (hr:DP (cW (E.s d true) (ss fd.body) ρ' H)=true) {Q Ex:Value->Shared->Prop} (h:∀φ' H' s',Nx [] [] φ' s s'->aZ V φ' H' s'.heap->Q (.bool true) s'):wpAny (model V.prog V.w) callerA (call vf vs) Q Ex s:=by
 obtain⟨ρ3,H3,hr⟩:=XT hr;obtain⟨a,o,cL,as,va,kd,df,f⟩:=ok.fns k fd hk;rw[f.gv] at hg;cases hg;have sc:=Lo f.sc;have wb:=f.wf;have FL:fT V [] [] s.heap:=(fT.mk trivial (λL hL=>(nomatch hL)) (λL hL=>(nomatch hL)));have hA:callerA.frames=some []:=rfl;have rm:=λcenv=>HP (cenv:=cenv) (d:=d) (A:=callerA) (kW.mk (Qw hd) (Qv hd));have par:kX cL fd as va kd df:=(kX.mk f.ps sc.nodup f.npar f.Gm);have bn:=λ{M:Model} {A:Around} {Q:List (Str×Value)->Shared->Prop} {Ex:Value->Shared->Prop} h=>MO (M:=M) (A:=A) (Q:=Q) (Ex:=Ex) R par f.dflt hv hb h;generalize rn as va=ps at *;refine BC (codeAny_call_function (rm default).2 (R.keep _ _ f.get) f.data sc.co sc.gen f.body (f.code.keeps R.keep) (bn λs1 Ci ds1 j b=>?_));rw[f.Mq,f.rM,f.rU];refine wpAny_newFunctionEnv_cells sc.kind (λx hx=>?_) λcenv he s2 x=>⟨ok.lim.keeps λc o e=>x.toInCall.keep c o (b.grow.keep c o (R.keep c o e)),codeAny_func ?_⟩
 ·rcases sc.ps x.1 (List.of_mem_zip (show(x.1,x.2)∈ps.zip Ci from hx)).1 with h|h
  ·exact .inl h
  ·exact .inr ⟨h,Fb _ _ _ _ (.inl (jw h))⟩
 have R1:=R.grow b.grow;obtain⟨er,qf⟩:=Ln (k:=j) (A:=callerA.deeper cenv) R1 sc b.all b.len he x;have eL:cenv.locals=s1.heap.objs.size:=by rw[he];rfl
 have eF:cenv.frame=some cenv.locals:=by rw[he];rfl
 have eK:cenv.scope=cL.scope:=by rw[he];rfl
 have gr:=b.grow.trans qf;have fresh:∀c∈(yy cL.scope cenv (rP cL.scope.names ps) (callerA.deeper cenv)).X,¬ cN s.heap c:=λc hc ho=>by
  have le:s1.heap.objs.size<=c:=by
   rcases bQ.mp hc with rfl|hc
   ·exact aW eL.symm
   ·obtain⟨p,hp,e⟩:=qF.mp hc;have:=x.above p.1 c (jw e);rw[eL] at this;exact fG this
  exact jH le (b.grow.live _ ho)
 have FL2:fT V [] [] s2.heap:=(fT.mk trivial (λL hL=>(nomatch hL)) (λL hL=>(nomatch hL)));have C2:ao V d true (yy cL.scope cenv (rP cL.scope.names ps) (callerA.deeper cenv)) [] ρ' H s2:=(ao.mk (R1.grow qf) (b.rho▸er) ((rm cenv).1) (λO=>rfl) (FL2.deeper hA (by rw[eK,sc.kind];simp) eF x.toInCall.ns (Heap.get?_none_of_le (er.sF _ er.kJ)) (er.qN _ er.kJ)))
 have T:=qm Sd.tov3 (l:=fd.body) C2 wb;rw[hr] at T;refine cz (T nofun) (λf s3 hh=>?_) λe s3 h=>h.not nofun;obtain⟨b',ρ4,H4,φ3,e,a,hR⟩:=hh;cases e;obtain⟨w,rfl,r⟩:=hR;cases r;exact h φ3 _ s3 (a.nx.drop gr fresh) a.rel
end
end
section
section
def bo{α:Type}(P:bP)(f:Ev->M α)(U:aC)(H:Hp)(r:dG α):Prop:=∃N,∀n,N<=n->f (ev P n) U H=r
section
variable {P:bP}{α β:Type}{U ρ1 ρ2 ρ3:aC}{H H1 H2 H3:Hp}{d:Nat}{q:Bool}
def bo.step{f:Ev->M α}{r:dG α}(h:bo P (λE=>f (G0 P E)) U H r):bo P f U H r:=by obtain⟨N,h⟩:=h;refine⟨N+1,λn hn=>?_⟩;obtain⟨m,rfl⟩:∃m,n=m+1:=⟨n-1,(pn (aM (i4 1 N) hn)).symm⟩;exact h m (by exact Oh ‹_›)
def bo.const{m:M α}{r:dG α}(h:m U H=r):bo P (λO=>m) U H r:=⟨0,λO O=>h⟩
variable {f:Ev->α->M β}
def bo.bind{m:Ev->M α}{a:α}{r:dG β}(h1:bo P m U H (.ok a ρ1 H1))(h2:bo P (λE=>f E a) ρ1 H1 r):bo P (λE=>M.bind (m E) (f E)) U H r:=by obtain⟨N1,h1⟩:=h1;obtain⟨N2,h2⟩:=h2;refine⟨max N1 N2,λn hn=>?_⟩;have e:=h1 n (aM (Nat.le_max_left ..) hn);show M.bind (m (ev P n)) (f (ev P n)) U H=r;unfold M.bind;rw[e];exact(h2 n (aM (Nat.le_max_right ..) hn))
def bo.Ff{m:Ev->M α}{k:Nat}(h1:bo P m U H (.exc k ρ1 H1)):bo P (λE=>M.bind (m E) (f E)) U H (.exc k ρ1 H1):=by obtain⟨N1,h1⟩:=h1;refine⟨N1,λn hn=>?_⟩;show M.bind (m (ev P n)) (f (ev P n)) U H=_;unfold M.bind;rw[h1 n hn]
def bo.ret{a:α}:bo P (λO=>cj a) U H (.ok a U H):=.const rfl
def bo.rd{f:Hp->Option α}{a:α}(h:f H=some a):bo P (λO=>cu f) U H (.ok a U H):=.const (by unfold cu;rw[h])
def bo.wr{f:Hp->Option (α×Hp)}{a:α}(h:f H=some (a,H1)):bo P (λO=>mH f) U H (.ok a U H1):=.const (by unfold mH;rw[h])
def bo.up{f:Hp->Option Hp}(h:f H=some H1):bo P (λO=>gp f) U H (.ok () U H1):=.const (by unfold gp;rw[h])
def bo.Gl{k:Nat}{v:AV}(h:ae U k=some (some v)):bo P (λO=>Mine.mK k) U H (.ok v U H):=.const (by unfold Mine.mK;rw[h])
def bo.setM{k:Nat}{v:AV}(h:Nat.blt k U.length=true):bo P (λO=>Mine.lE k v) U H (.ok () (ai U (some v) k) H):=.const (by unfold Mine.lE;rw[h])
def bo.calm{m:Ev->M α}{a:α}(h:bo P m U H (.ok a ρ1 H1)):bo P (λE=>M.calm (m E)) U H (.ok a ρ1 H1):=by obtain⟨N,h⟩:=h;refine⟨N,λn hn=>?_⟩;show M.calm (m (ev P n)) U H=_;unfold M.calm;rw[h n hn]
def RE(P:bP)(d:Nat)(q:Bool)(c:C)(U:aC)(H:Hp)(v:AV)(ρ':aC)(H':Hp):Prop:=bo P (λE=>E.e d q c) U H (.ok v ρ' H')
def RT(P:bP)(d:Nat)(q:Bool)(c:C)(U:aC)(H:Hp)(v:Bool)(ρ':aC)(H':Hp):Prop:=bo P (λE=>E.t d q c) U H (.ok v ρ' H')
def RS(P:bP)(d:Nat)(q:Bool)(c:S)(U:aC)(H:Hp)(v:Fl)(ρ':aC)(H':Hp):Prop:=bo P (λE=>E.s d q c) U H (.ok v ρ' H')
def RB(P:bP)(d:Nat)(q:Bool)(c:S)(U:aC)(H:Hp)(v:Fl)(ρ':aC)(H':Hp):Prop:=bo P (λE=>cW (E.s d q) (ss c)) U H (.ok v ρ' H')
def RW(P:bP)(d:Nat)(q:Bool)(t:C)(b e:S)(U:aC)(H:Hp)(v:Fl)(ρ':aC)(H':Hp):Prop:=bo P (λE=>E.w d q t b e) U H (.ok v ρ' H')
def RA(P:bP)(d:Nat)(q:Bool)(c:C)(U:aC)(H:Hp)(v:List AV)(ρ':aC)(H':Hp):Prop:=bo P (λE=>gZ (E.e d q) (cs c)) U H (.ok v ρ' H')
structure RC(P:bP)(d:Nat)(f:AV)(args:List AV)(H:Hp)(v:AV)(H':Hp):Prop where
 run:∀U,bo P (λE=>E.call d f args) U H (.ok v U H')
def RO(P:bP)(d:Nat)(q:Bool)(c:C)(U:aC)(H:Hp)(v:AV)(ρ':aC)(H':Hp):Prop:=bo P (λE=>tO (E.e d q) c) U H (.ok v ρ' H')
def RF(P:bP)(d:Nat)(tg:C)(src:bJ)(b:S)(U:aC)(H:Hp)(v:Fl)(ρ':aC)(H':Hp):Prop:=bo P (λE=>E.f d true tg src b) U H (.ok v ρ' H')
def RK(P:bP)(d:Nat)(tg:C)(src:bJ)(ifs elt:C)(k:Nat)(U:aC)(H:Hp)(ρ':aC)(H':Hp):Prop:=bo P (λE=>E.cp d tg src ifs elt k) U H (.ok () ρ' H')
def RM(P:bP)(d:Nat)(elt tg it ifs:C)(U:aC)(H:Hp)(v:AV)(ρ':aC)(H':Hp):Prop:=bo P (λE=>vT E d true elt tg it ifs) U H (.ok v ρ' H')
def RQ(P:bP)(d:Nat)(ifs:C)(U:aC)(H:Hp)(v:Bool)(ρ':aC)(H':Hp):Prop:=bo P (λE=>uG (E.t d true) true (cs ifs)) U H (.ok v ρ' H')
variable {a b c l args:C}{x y v w:AV}{p p' C7:Pos}{k m:Nat}{s:S}{r bb ee:S}{fl:Fl}
def aS{cc:Const}:RE P d q (.cst cc v k p) U H v U H:=.step .ret
variable {n:Str}
def af(h:ae U k=some (some v)):RE P d q (.var n k p) U H v U H:=.step (.Gl h)
def bL(h:yt P k U H=.ok v U H):RE P d q (.glob n k p) U H v U H:=.step (.const h)
def du{op:Operator}(h1:RE P d q a U H x ρ1 H1)(h2:RE P d q b ρ1 H1 y ρ2 H2)(h:iA op x y H2=some v):RE P d q (.bin op a b p) U H v ρ2 H2:=.step (.bind h1 (.bind h2 (.rd h)))
def CW(h1:RE P d q a U H x ρ1 H1)(h:Dk x=some v):RE P d q (.neg a p) U H v ρ1 H1:=.step (.bind h1 (.rd h))
def zZ{op:CmpOp}(h1:RE P d q a U H x ρ1 H1)(h2:RE P d q b ρ1 H1 y ρ2 H2)(h:BA op x y H2=some v):RE P d q (.cmp op a b p) U H v ρ2 H2:=.step (.bind h1 (.bind h2 (.rd h)))
def dP(h1:RE P d q a U H x ρ1 H1)(h2:RE P d q b ρ1 H1 y ρ2 H2)(h:lB x y H2=some v):RE P d q (.sub a b p) U H v ρ2 H2:=.step (.bind h1 (.bind h2 (.rd h)))
def fb(h1:RE P d q a U H x ρ1 H1)(h:qo P k x H1=some v):RE P d q (.attr a n k p) U H v ρ1 H1:=.step (.bind h1 (.rd h))
def aE:RA P d q .nil U H [] U H:=.ret
variable {vs:List AV}
def aB(hs:a.kB=none)(h1:RE P d q a U H x ρ1 H1)(h2:RA P d q l ρ1 H1 vs ρ2 H2):RA P d q (.cons a l) U H (x::vs) ρ2 H2:=by
 have:(λE:Ev=>gZ (E.e d q) (cs (.cons a l)))=λE=>M.bind (E.e d q a) λv=>M.bind (gZ (E.e d q) (cs l)) λvs=>cj (v::vs):=by
  funext E
  show(match a.kB with|some a=>_|none=>_)=_;rw[hs];rfl
 unfold RA;rw[this];exact .bind h1 (.bind h2 .ret)
def ou(h1:RA P d q l U H vs ρ1 H1):RE P d q (.tup l k p) U H (.tup vs) ρ1 H1:=.step (.bind h1 .ret)
def e9{bb:Bool}(h1:RA P d q l U H vs ρ1 H1)(h:Jr bb vs H1=some (v,H2)):RE P d q (.list l bb p) U H v ρ1 H2:=.step (.bind h1 (.wr h))
def CX:RE P d q (.dict p) U H (.ref H.length) U (H++[.dict 0 []]):=.step (.const rfl)
def Ud{c:Const}:RE P d q (.fst c k p p') U H .uY U H:=.step (.const rfl)
variable {t:Bool}
def HZ(h1:RT P d q c U H t ρ1 H1)(h2:RE P d q (bif t then a else b) ρ1 H1 v ρ2 H2):RE P d q (.oF c a b p) U H v ρ2 H2:=by refine .step (.bind h1 ?_);cases t<;>exact h2
def jc{lo hi:C}{sp:Pos}{x1 x2:AV}(h1:RE P d q a U H x ρ1 H1)(h2:RO P d q lo ρ1 H1 x1 ρ2 H2)(h3:RO P d q hi ρ2 H2 x2 ρ3 H3)(h:kC x x1 x2 H3=some v):RE P d q (.fN a lo hi sp p) U H v ρ3 H3:=.step (.bind h1 (.bind h2 (.bind h3 (.rd h))))
def CU{p2:Pos}(h1:RE P d q a U H v ρ1 H1)(hk:Nat.blt k ρ1.length=true):RE P d q (.sH (.var n k p2) a p) U H v (ai ρ1 (some v) k) H1:=.step (.bind h1 (.bind (.setM hk) .ret))
def jD:RO P d q .nil U H .none U H:=.ret
def iO(h1:RE P d q a U H v ρ1 H1)(hn:∀f:C->M AV,tO f a=f a):RO P d q a U H v ρ1 H1:=by unfold RO;simp only[hn];exact h1
def CV{r:C}(h1:RE P d q a U H v ρ1 H1)(h:gQ v H1=some true):RE P d q (.fx false (.cons a (.cons b r)) p) U H v ρ1 H1:=.step (.bind h1 (.bind (.rd h) .ret))
def HY(h1:RE P d q a U H x ρ1 H1)(h:gQ x H1=some false)(h2:RE P d q b ρ1 H1 v ρ2 H2):RE P d q (.fx false (.cons a (.cons b .nil)) p) U H v ρ2 H2:=.step (.bind h1 (.bind (.rd h) h2))
def uR{r:C}(h1:RT P d q a U H false ρ1 H1):RT P d q (.fx true (.cons a r) p) U H false ρ1 H1:=.step (.bind h1 .ret)
def mW(h1:RT P d q a U H true ρ1 H1)(h2:RT P d q b ρ1 H1 t ρ2 H2):RT P d q (.fx true (.cons a (.cons b .nil)) p) U H t ρ2 H2:=by refine .step (.bind h1 (.bind h2 ?_));cases t<;>exact .ret
def bO(h1:RE P d true a U H x ρ1 H1)(hc:tR x=true)(h2:RA P d true args ρ1 H1 vs ρ2 H2)(h:RC P d x vs H2 v H3):RE P d true (.call a args p) U H v ρ2 H3:=by refine .step (.bind h1 ?_);show bo P (λE=>match tR x&&true with|true=>M.bind (gZ (E.e d true) (cs args)) λvs=>E.call d x vs|false=>M.stuck) _ _ _;rw[hc];exact .bind h2 (h.run ρ2)
def eN{mk:MK}(h1:RE P d q a U H x ρ1 H1)(hk:kK P x m H1=some mk)(hu:vd mk m=true)(hs:vD (cs args)=false)(h2:RA P d q args ρ1 H1 vs ρ2 H2)(h:lL mk m x vs H2=some (v,H3)):
  RE P d q (.eO a n m args p p') U H v ρ2 H3:=by
 have e:(λE:Ev=>Dr E d q mk x m args)=λE=>AA E d q mk x m args:=by funext E;cases mk<;>first|rfl|cases hu
 refine .step (.bind h1 (.bind (.rd hk) ?_));show bo P (λE=>Dr E d q mk x m args) _ _ _;rw[e];show bo P (λE=>match vd mk m&&!vD (cs args) with|true=>_|false=>M.stuck) _ _ _;rw[hu,hs];exact .bind h2 (.wr h)
variable {j:Nat}
def mY(h1:RE P d true a U H x ρ1 H1)(hk:kK P x m H1=some (.user j))(h2:RA P d true args ρ1 H1 vs ρ2 H2)(h:RC P d (.glob j) (x::vs) H2 v H3):
  RE P d true (.eO a n m args p p') U H v ρ2 H3:=.step (.bind h1 (.bind (.rd hk) (.bind h2 (h.run ρ2))))
def bH{op:CmpOp}(h1:RE P d q a U H x ρ1 H1)(h2:RE P d q b ρ1 H1 y ρ2 H2)(h:fQ op x y H2=some t):RT P d q (.cmp op a b p) U H t ρ2 H2:=.step (.bind h1 (.bind h2 (.rd h)))
def TB(h1:RT P d q a U H t ρ1 H1):RT P d q (.not a p) U H (!t) ρ1 H1:=.step (.bind h1 .ret)
def kE(h1:RE P d q (.var n k p) U H x ρ1 H1)(h:gQ x H1=some t):RT P d q (.var n k p) U H t ρ1 H1:=.step (.bind h1 (.rd h))
def bC(h1:RE P d q a U H v ρ1 H1)(hn:∀E,qQ E d q a=E.e d q a)(hk:Nat.blt k ρ1.length=true)(hr:ai ρ1 (some v) k=ρ2):RS P d q (.asg (.cons (.var n k p) .nil) a p') U H .next ρ2 H1:=by subst hr;refine .step (.bind (a:=v) (ρ1:=ρ1) (H1:=H1) ?_ (.bind (.bind (.setM hk) .ret) .ret));simp only[hn];exact h1
def pR(h1:RE P d q a U H v ρ1 H1)(hn:∀E,qQ E d q a=E.e d q a)(h2:RE P d q b ρ1 H1 x ρ2 H2)(h3:RE P d q c ρ2 H2 y ρ3 H3){H4:Hp}(h:qX x y v H3=some H4):RS P d q (.asg (.cons (.sub b c p) .nil) a p') U H .next ρ3 H4:=by refine .step (.bind (a:=v) (ρ1:=ρ1) (H1:=H1) ?_ (.bind (.bind (.bind h2 (.bind h3 (.up h))) .ret) .ret));simp only[hn];exact h1
def pS(h1:RE P d q a U H v ρ1 H1)(hn:∀E,qQ E d q a=E.e d q a)(h2:RE P d q b ρ1 H1 x ρ2 H2)(h:pO P j x v H2=some H3):RS P d q (.asg (.cons (.attr b n j p) .nil) a p') U H .next ρ2 H3:=by refine .step (.bind (a:=v) (ρ1:=ρ1) (H1:=H1) ?_ (.bind (.bind (.bind h2 (.up h)) .ret) .ret));simp only[hn];exact h1
def uS{tl:C}{kk:Nat}(h1:RE P d true a U H v ρ1 H1)(hn:∀E,qQ E d true a=E.e d true a)(h:jr (.tup tl kk p) v ρ1 H1=.ok () ρ2 H1):RS P d true (.asg (.cons (.tup tl kk p) .nil) a p') U H .next ρ2 H1:=by refine .step (.bind (a:=v) (ρ1:=ρ1) (H1:=H1) ?_ (.bind (.bind (.const h) .ret) .ret));simp only[hn];exact h1
def TJ(h1:RE P d q a U H v ρ1 H1)(hn:∀E,qQ E d q a=E.e d q a)(h2:RE P d q b ρ1 H1 x ρ2 H2)(h3:RE P d q c ρ2 H2 y ρ3 H3){H4:Hp}(h:qX x y v H3=some H4)(hk:Nat.blt k ρ3.length=true):RS P d q (.asg (.cons (.sub b c p) (.cons (.var n k C7) .nil)) a p') U H .next (ai ρ3 (some v) k) H4:=by refine .step (.bind (a:=v) (ρ1:=ρ1) (H1:=H1) ?_ (.bind (.bind (.bind h2 (.bind h3 (.up h))) (.bind (.setM hk) .ret)) .ret));simp only[hn];exact h1
variable {tg it ifs:C}{sc:Scope}
def rh(h1:RM P d a tg it ifs U H v ρ1 H1)(hk:Nat.blt k ρ1.length=true)(hr:ai ρ1 (some v) k=ρ2):RS P d true (.asg (.cons (.var n k C7) .nil) (.comp a tg it ifs sc p) p') U H .next ρ2 H1:=by subst hr;exact .step (.bind h1 (.bind (.bind (.setM hk) .ret) .ret))
def HJ(h1:RM P d a tg it ifs U H v ρ1 H1)(h2:RE P d true b ρ1 H1 x ρ2 H2)(h:pO P j x v H2=some H3):RS P d true (.asg (.cons (.attr b n j C7) .nil) (.comp a tg it ifs sc p) p') U H .next ρ2 H3:=.step (.bind h1 (.bind (.bind (.bind h2 (.up h)) .ret) .ret))
def xg{op:Operator}{z:AV}(h1:RE P d q b U H z ρ1 H1)(hx:qo P j z H1=some x)(h2:RE P d q a ρ1 H1 y ρ2 H2)(h:tW op x y=some v)(h3:pO P j z v H2=some H3):RS P d q (.aug op (.attr b n j p) a p') U H .next ρ2 H3:=.step (.bind h1 (.bind (.rd hx) (.bind h2 (.bind (.rd (f:=λO=>tW op x y) h) (.bind (.up h3) .ret)))))
def TK{sp:Pos}(h1:RE P d q a U H x ρ1 H1)(h2:RE P d q b ρ1 H1 y ρ2 H2)(h:yI x y H2=some H3):RS P d q (.del a b sp p) U H .next ρ2 H3:=.step (.bind h1 (.bind h2 (.bind (.up h) .ret)))
def eM(h1:RE P d q a U H v ρ1 H1):RS P d q (.expr a p) U H .next ρ1 H1:=.step (.bind h1 .ret)
def fX(h1:RE P d q a U H v ρ1 H1)(hn:∀f:C->M AV,tO f a=f a):RS P d q (.ret a p) U H (.ret v) ρ1 H1:=by refine .step (.bind (a:=v) (ρ1:=ρ1) (H1:=H1) ?_ .ret);simp only[hn];exact h1
def CH:RS P d q (.brk p) U H .brk U H:=.step .ret
def HI:RS P d q (.cont p) U H .cont U H:=.step .ret
def bM(h1:RT P d q a U H t ρ1 H1)(h2:RB P d q (bif t then r else bb) ρ1 H1 fl ρ2 H2):RS P d q (.iff a r bb p) U H fl ρ2 H2:=by refine .step (.bind h1 ?_);cases t<;>exact h2
def aO:RB P d q .nil U H .next U H:=.ret
def aj(h1:RS P d q s U H .next ρ1 H1)(h2:RB P d q r ρ1 H1 fl ρ2 H2):RB P d q (.cons s r) U H fl ρ2 H2:=.bind h1 h2
def cK(h1:RS P d q s U H fl ρ1 H1)(hf:fl≠.next):RB P d q (.cons s r) U H fl ρ1 H1:=by
 refine .bind h1 ?_;cases fl with
 |next=>exact absurd rfl hf
 |_=>exact .ret
def kF(h:RW P d q a r bb U H fl ρ1 H1):RS P d q (.gO a r bb p) U H fl ρ1 H1:=.step (.calm h)
noncomputable def yq(f:Fl):Bool:=match f with|.next=>true|.cont=>true|_=>false
noncomputable def C8(f:Fl):Fl:=match f with|.brk=>.next|f=>f
def mV(h1:RT P d q a U H false ρ1 H1)(h2:RB P d q bb ρ1 H1 fl ρ2 H2):RW P d q a r bb U H fl ρ2 H2:=.step (.calm (.bind h1 h2))
def kD{f:Fl}(h1:RT P d q a U H true ρ1 H1)(h2:RB P d q r ρ1 H1 f ρ2 H2)(hf:yq f=true)(h3:RW P d q a r bb ρ2 H2 fl ρ3 H3):RW P d q a r bb U H fl ρ3 H3:=by
 refine .step (.calm (.bind h1 (.bind h2 ?_)));cases f with
 |next=>exact h3
 |cont=>exact h3
 |brk=>cases hf
 |ret=>cases hf
def xe{f:Fl}(h1:RT P d q a U H true ρ1 H1)(h2:RB P d q r ρ1 H1 f ρ2 H2)(hf:yq f=false):RW P d q a r bb U H (C8 f) ρ2 H2:=by
 refine .step (.calm (.bind h1 (.bind h2 ?_)));cases f with
 |next=>cases hf
 |cont=>cases hf
 |brk=>exact .ret
 |ret=>exact .ret
noncomputable def Ly(f:Fl):Option AV:=match f with
 |.ret v=>some v
 |.next=>some .none
 |_=>Option.none
def eT{fd:FD}(hj:ae P.gt j=some (.fn fd))(hb:kP fd vs=some ρ1)(h:∃ρ2,RB P d true fd.body ρ1 H fl ρ2 H2)(hf:Ly fl=some v):RC P (d+1) (.glob j) vs H v H2:=by
 refine⟨λU=>?_⟩;obtain⟨ρ2,h⟩:=h;refine .step ?_;obtain⟨N,h⟩:=h;refine⟨N,λn hn=>?_⟩;have h:cW ((ev P n).s d true) (ss fd.body) ρ1 H=_:=h n hn;show(match ae P.gt j with|some g=>oM (ev P n) (d+1) j g vs|none=>M.stuck) U H=_;rw[hj];show(match kP fd vs with|some ρ'=>qi U (cW ((ev P n).s d true) (ss fd.body) ρ' H)|none=>.stuck)=_;rw[hb];show qi U (cW ((ev P n).s d true) (ss fd.body) ρ1 H)=_;rw[h];cases fl with
 |ret v=>obtain rfl:=sj hf;rfl
 |next=>obtain rfl:=sj hf;rfl
 |_=>exact aR hf
def UO{bi:BI}(hj:ae P.gt j=some (.bi bi))(h:yP bi vs H=some (v,H2)):RC P d (.glob j) vs H v H2:=by refine⟨λU=>?_⟩;refine .step ⟨0,λn O=>?_⟩;show(match ae P.gt j with|some g=>oM (ev P n) d j g vs|none=>M.stuck) U H=_;rw[hj];show mH (λH=>yP bi vs H) U H=_;unfold mH;dsimp only;rw[h]
variable {src:bJ}
def iN(h1:RE P d true it U H x ρ1 H1)(hs:eS x H1=some src)(h2:RF P d tg src r ρ1 H1 fl ρ2 H2):RS P d true (.loop tg it r p) U H fl ρ2 H2:=by refine .step (.bind h1 ?_);refine ue (bo.calm h2) λN h2=>?_;refine⟨N,λn hn=>?_⟩;show AH (ev P n) d tg r x ρ1 H1=_;unfold AH;rw[hs];exact h2 n hn
noncomputable def bJ.nx(s:bJ)(tg:C)(H:Hp):Option (Option (AV×bJ)×Hp):=(s.next H).map λo=>(o,H)
variable {o:Option (AV×bJ)}
def jd(h:src.next H=some o):src.nx tg H=some (o,H):=by unfold bJ.nx;rw[h];rfl
def xF(h:src.nx tg H=some (o,H1)):src.next H=some o/\H1=H:=by refine um h λo' h1 aa=>?_;obtain⟨rfl,rfl⟩:=sA aa;exact⟨h1,rfl⟩
def T5(h:src.nx tg H=some (none,H1)):RF P d tg src r U H .next U H1:=by refine .step ⟨0,λn O=>?_⟩;obtain⟨h,rfl⟩:=xF h;show pL (ev P n) d true tg src r U _=_;unfold pL;rw[h]
def gR(h:src.next H=some none):RF P d tg src r U H .next U H:=T5 (jd h)
variable {src':bJ}
def T3{f:Fl}{H0:Hp}(h:src.nx tg H=some (some (v,src'),H0))(hb:jr tg v U H0=.ok () ρ1 H0)(h1:RB P d true r ρ1 H0 f ρ2 H2)(hf:yq f=true)(h2:RF P d tg src' r ρ2 H2 fl ρ3 H3):RF P d tg src r U H fl ρ3 H3:=by
 have h1:bo P (λE=>M.bind (jr tg v) λO=>M.bind (cW (E.s d true) (ss r)) (wL (E.f d true tg src' r))) U H0 (.ok fl ρ3 H3):=by
  refine .bind (.const hb) (.bind h1 ?_);cases f with
  |next=>exact h2
  |cont=>exact h2
  |brk=>cases hf
  |ret=>cases hf
 obtain⟨h,rfl⟩:=xF h;refine ue (bo.calm h1) λN h1=>?_;refine .step ⟨N,λn hn=>?_⟩;show pL (ev P n) d true tg src r U _=_;unfold pL;rw[h];exact h1 n hn
def e8{f:Fl}(h:src.next H=some (some (v,src')))(hb:jr tg v U H=.ok () ρ1 H)(h1:RB P d true r ρ1 H f ρ2 H2)(hf:yq f=true)(h2:RF P d tg src' r ρ2 H2 fl ρ3 H3):RF P d tg src r U H fl ρ3 H3:=T3 (jd h) hb h1 hf h2
def T4{f:Fl}{H0:Hp}(h:src.nx tg H=some (some (v,src'),H0))(hb:jr tg v U H0=.ok () ρ1 H0)(h1:RB P d true r ρ1 H0 f ρ2 H2)(hf:yq f=false):RF P d tg src r U H (C8 f) ρ2 H2:=by
 have h1:bo P (λE=>M.bind (jr tg v) λO=>M.bind (cW (E.s d true) (ss r)) (wL (E.f d true tg src' r))) U H0 (.ok (C8 f) ρ2 H2):=by
  refine .bind (.const hb) (.bind h1 ?_);cases f with
  |next=>cases hf
  |cont=>cases hf
  |brk=>exact .ret
  |ret=>exact .ret
 obtain⟨h,rfl⟩:=xF h;refine ue (bo.calm h1) λN h1=>?_;refine .step ⟨N,λn hn=>?_⟩;show pL (ev P n) d true tg src r U _=_;unfold pL;rw[h];exact h1 n hn
variable {elt:C}
def CO(h1:RE P d true it U H x ρ1 H1)(hs:eS x H1=some src)(h2:RK P d tg src ifs elt H1.length (jo (slots tg elt) ρ1) (H1++[.list []]) ρ2 H2):RM P d elt tg it ifs U H (.ref H1.length) ρ1 H2:=by refine .bind h1 ?_;obtain⟨N,h2⟩:=h2;refine⟨N,λn hn=>?_⟩;have h2:(ev P n).cp d tg src ifs elt H1.length (jo (slots tg elt) ρ1) (H1++[.list []])=_:=h2 n hn;show tP (ev P n) d elt tg ifs x ρ1 H1=_;unfold tP;rw[hs];dsimp only;rw[h2]
def uV(h:RM P d elt tg it ifs U H v ρ1 H1):RE P d true (.comp elt tg it ifs sc p) U H v ρ1 H1:=.step h
def HU(h:src.nx tg H=some (none,H1)):RK P d tg src ifs elt k U H U H1:=by refine .step ⟨0,λn O=>?_⟩;obtain⟨h,rfl⟩:=xF h;show sS (ev P n) d tg src ifs elt k U _=_;unfold sS;rw[h]
def xm(h:src.next H=some none):RK P d tg src ifs elt k U H U H:=HU (jd h)
def RL(P:bP)(d:Nat)(elt:C)(k:Nat)(U:aC)(H:Hp)(ρ':aC)(H':Hp):Prop:=bo P (λE=>vO E d elt k) U H (.ok () ρ' H')
def xJ(elt:C):Prop:=∀E d k,vO E d elt k=M.bind (E.e d true elt) λx=>gp (tX k x)
def CP(hg:xJ elt)(h1:RE P d true elt U H x ρ1 H1)(h2:tX k x H1=some H2):RL P d elt k U H ρ1 H2:=by unfold RL;simp only[hg _ _ _];exact .bind h1 (.up h2)
def CQ(h1:RE P d true it U H x ρ1 H1)(hs:eS x H1=some src)(h2:RK P d tg src .nil elt k ρ1 H1 ρ2 H2):RL P d (.gen tg it elt) k U H ρ2 H2:=.bind h1 (.bind (.rd hs) h2)
def rj{H0:Hp}(h:src.nx tg H=some (some (v,src'),H0))(hb:jr tg v U H0=.ok () ρ1 H0)(h1:RQ P d ifs ρ1 H0 t ρ2 H2)
  {ρ':aC} {H':Hp} (h2:match t with
   |true=>∃ρ3 H3,RL P d elt k ρ2 H2 ρ3 H3/\RK P d tg src' ifs elt k ρ3 H3 ρ' H'
   |false=>RK P d tg src' ifs elt k ρ2 H2 ρ' H'):RK P d tg src ifs elt k U H ρ' H':=by
 have h1:bo P (λE=>M.bind (jr tg v) λO=>M.bind (uG (E.t d true) true (cs ifs)) λb=>match b with
  |true=>M.bind (vO E d elt k) λO=>E.cp d tg src' ifs elt k
  |false=>E.cp d tg src' ifs elt k) U H0 (.ok () ρ' H'):=by
  refine .bind (.const hb) (.bind h1 ?_);cases t with
  |true=>exact dN h2 λρ3 H3 h3 h5=>.bind h3 h5
  |false=>exact h2
 obtain⟨h,rfl⟩:=xF h;refine ue (bo.calm h1) λN h1=>?_;refine .step ⟨N,λn hn=>?_⟩;show sS (ev P n) d tg src ifs elt k U _=_;unfold sS;rw[h];exact h1 n hn
def xh:RQ P d .nil U H true U H:=.ret
def oq(h:RT P d true a U H t ρ1 H1):RQ P d (.cons a .nil) U H t ρ1 H1:=by refine .bind h ?_;cases t<;>exact .ret
def HG{xn:Str}{np hp:Pos}{hh:S}(h:RB P d true r U H fl ρ1 H1):RS P d true (.tri r xn k np hh hp p) U H fl ρ1 H1:=by obtain⟨N,h⟩:=h;refine .step ⟨N,λn hn=>?_⟩;have h:cW ((ev P n).s d true) (ss r) U H=_:=h n hn;show uH P (ev P n) d true r k hh U H=_;unfold uH;dsimp only;rw[h]
def HH{xn:Str}{np hp:Pos}{hh:S}{y:Nat}(h:bo P (λE=>cW (E.s d true) (ss r)) U H (.exc y ρ1 H1))(hk:ae P.gt k=some (.exc y))(h2:RB P d false hh ρ1 H1 fl ρ2 H2):RS P d true (.tri r xn k np hh hp p) U H fl ρ2 H2:=by obtain⟨N,h⟩:=h;obtain⟨N2,h2⟩:=bo.calm h2;refine .step ⟨max N N2,λn hn=>?_⟩;have h:cW ((ev P n).s d true) (ss r) U H=_:=h n (aM (Nat.le_max_left ..) hn);show uH P (ev P n) d true r k hh U H=_;unfold uH;dsimp only;rw[h];unfold vE;rw[hk];dsimp only;rw[fV];exact(h2 n (aM (Nat.le_max_right ..) hn):M.calm (cW ((ev P n).s d false) (ss hh)) ρ1 H1=_)
def UA{i:Nat}{lst:List AV}(h1:tE H j=some (m,i))(h2:bx H m=some lst)(h3:ae lst i=some v):RC P d (.cP j) [] H v (ai H (.iter m (i+1)) j):=by refine⟨λU=>?_⟩;refine .step ⟨0,λn O=>?_⟩;show s6 j [] U H=_;unfold s6;dsimp only;rw[h1];dsimp only;rw[h2];dsimp only;rw[h3]
def Un{i:Nat}{lst:List AV}(h1:tE H j=some (m,i))(h2:bx H m=some lst)(h3:ae lst i=none):bo P (λE=>E.call d (.cP j) []) U H (.exc 0 U (ai H .dead j)):=by refine .step ⟨0,λn O=>?_⟩;show s6 j [] U H=_;unfold s6;dsimp only;rw[h1];dsimp only;rw[h2];dsimp only;rw[h3]
def UN{cd:CD}(hj:ae P.gt j=some (.cl cd))(hs:cd.slots=false)(h:RC P d (.glob cd.init) (.ref H.length::vs) (H++[.inst j (cd.bD.map λO=>none)]) .none H2):RC P (d+1) (.glob j) vs H (.ref H.length) H2:=by refine⟨λU=>?_⟩;refine ue (h.run U) λN h=>?_;refine .step ⟨N,λn hn=>?_⟩;have h:(ev P n).call d (.glob cd.init) (.ref H.length::vs) U (H++[.inst j (cd.bD.map λO=>none)])=_:=h n hn;show(match ae P.gt j with|some g=>oM (ev P n) (d+1) j g vs|none=>M.stuck) U H=_;rw[hj];show vV (ev P n) (d+1) j cd vs U H=_;unfold vV;dsimp only;rw[hs];dsimp only;rw[h];rfl
def Uo{cd:CD}(hj:ae P.gt j=some (.cl cd))(hs:cd.slots=true)(h:RC P d (.glob cd.init) (.ref (H.length+1)::vs) (H++[.dead,.inst j (cd.bD.map λO=>none)]) .none H2):RC P (d+1) (.glob j) vs H (.ref (H.length+1)) H2:=by refine⟨λU=>?_⟩;refine ue (h.run U) λN h=>?_;refine .step ⟨N,λn hn=>?_⟩;have h:(ev P n).call d (.glob cd.init) (.ref (H.length+1)::vs) U (H++[.dead,.inst j (cd.bD.map λO=>none)])=_:=h n hn;show(match ae P.gt j with|some g=>oM (ev P n) (d+1) j g vs|none=>M.stuck) U H=_;rw[hj];show vV (ev P n) (d+1) j cd vs U H=_;unfold vV;dsimp only;rw[hs];dsimp only;rw[h];rfl
end
end
section
section
variable {α:Type}{l m:List α}{n k:Nat}{x y:α}
def cV(h:n<l.length):ae (ai l y n) n=some y:=by
 induction l generalizing n with
 |nil=>cases h
 |cons a r ih=>cases n with
  |zero=>rfl
  |succ n=>exact ih (zg h)
def bh(h:n≠k):ae (ai l y n) k=ae l k:=by
 induction l generalizing n k with
 |nil=>rfl
 |cons a r ih=>cases n with
  |zero=>cases k with
   |zero=>exact absurd rfl h
   |succ k=>rfl
  |succ n=>cases k with
   |zero=>rfl
   |succ k=>exact ih λe=>h (congrArg (·+1) e)
def sJ:ai (ai l x n) y n=ai l y n:=by
 induction l generalizing n with
 |nil=>rfl
 |cons a r ih=>cases n with
  |zero=>rfl
  |succ n=>exact congrArg (a::·) ih
def zq(h:ae l n=some x):ai l x n=l:=by
 induction l generalizing n with
 |nil=>rfl
 |cons a r ih=>cases n with
  |zero=>obtain rfl:=sj h;rfl
  |succ n=>exact congrArg (a::·) (ih h)
def cB:(ai l x n).length=l.length:=by
 induction l generalizing n with
 |nil=>rfl
 |cons a r ih=>cases n with
  |zero=>rfl
  |succ n=>exact congrArg (·+1) ih
def bk(h:ae l n=some x):n<l.length:=by
 induction l generalizing n with
 |nil=>exact aR h
 |cons a r ih=>cases n with
  |zero=>exact qL _
  |succ n=>exact Nat.succ_lt_succ (ih h)
def je(h:n<l.length):∃x,ae l n=some x:=by
 induction l generalizing n with
 |nil=>cases h
 |cons a r ih=>cases n with
  |zero=>exact⟨a,rfl⟩
  |succ n=>exact ih (zg h)
def cb(h:ae l n=some x):ae (l++m) n=some x:=by
 induction l generalizing n with
 |nil=>exact aR h
 |cons a r ih=>cases n with
  |zero=>exact h
  |succ n=>exact ih h
def dY:ae (l++x::m) l.length=some x:=by
 induction l with
 |nil=>rfl
 |cons a r ih=>exact ih
def jG:ae (l++m) (l.length+n)=ae m n:=by
 induction l with
 |nil=>rw[List.nil_append,List.length_nil,gA]
 |cons a r ih=>rw[List.cons_append,i5,uy];exact ih
def Gu:ai (l++m) y (l.length+n)=l++ai m y n:=by
 induction l with
 |nil=>rw[List.nil_append,List.length_nil,gA];rfl
 |cons a r ih=>rw[List.cons_append,i5,uy];exact congrArg (a::·) ih
def uE:ai (l++x::m) y l.length=l++y::m:=by have:=Gu (l:=l) (m:=x::m) (y:=y) (n:=0);exact this
def ip{β:Type}(f:α->β):ae (l.map f) n=(ae l n).map f:=by
 induction l generalizing n with
 |nil=>rfl
 |cons a r ih=>cases n with
  |zero=>rfl
  |succ n=>exact ih
def lh{β:Type}(f:α->β):ai (l.map f) (f x) n=(ai l x n).map f:=by
 induction l generalizing n with
 |nil=>rfl
 |cons a r ih=>cases n with
  |zero=>rfl
  |succ n=>exact congrArg (f a::·) ih
end
section
variable {H:Hp}{n:Nat}
def dy{l:List AV}(h:ae H n=some (.list l)):bx H n=some l:=by unfold bx;rw[h];rfl
variable {e:Nat}{l:List (List Nat×AV)}
def kc(h:ae H n=some (.dict e l)):cD H n=some (e,l):=by unfold cD;rw[h];rfl
def Ht{l:List (List Nat)}(h:ae H n=some (.set l)):oh H n=some l:=by unfold oh;rw[h];rfl
def X6{c:Nat}{f:List (Option AV)}(h:ae H n=some (.inst c f)):ya H n=some (c,f):=by unfold ya;rw[h];rfl
variable {m:Nat}
def JR{i:Nat}(h:ae H n=some (.iter m i)):tE H n=some (m,i):=by unfold tE;rw[h];rfl
def xI(h:ae H n=some (.dict e l)):bx H n=none:=by unfold bx;rw[h];rfl
variable {v:AV}
def sQ{l:List AV}{k:Int}(h:ae H n=some (.list l))(hk:j7 k l=some v):lB (.ref n) (.int k) H=some v:=by show(match bx H n with|some l=>_|none=>_)=_;rw[dy h];exact hk
def Cs{k:List Nat}(h:ae H n=some (.dict e l))(hk:cy k l=some v):lB (.ref n) (.str k) H=some v:=by unfold lB;show(match bx H n with|some l=>_|none=>_)=_;rw[xI h,kc h];exact hk
def w6{p:Nat}{l:List AV}(h:ae H n=some (.list l))(hp:p<l.length):qX (.ref n) (.int p) v H=some (ai H (.list (ai l v p)) n):=by show(match bx H n with|some l=>_|none=>_)=_;rw[dy h];show aI (Nat.blt p l.length) _=_;rw[bG.mpr hp];rfl
def w7{k:List Nat}(h:ae H n=some (.dict e l))(hl:l.length<az):qX (.ref n) (.str k) v H=some (ai H (.dict (match c5 k l with|true=>e|false=>e+1) (eJ k v l)) n):=by unfold qX;show(match bx H n with|some l=>_|none=>_)=_;rw[xI h,kc h];show aI (Nat.blt l.length az) _=_;rw[bG.mpr hl];rfl
def W4{l:List AV}(h:ae H n=some (.list l))(hl:l.length<=az):tT .len (.ref n) H=some (.int l.length,H):=by show((match bx H n with|some l=>some l.length|none=>_).bind λk=>aI (Nat.ble k az) (some (AV.int k,H)))=_;rw[dy h];show aI (Nat.ble l.length az) _=_;rw[eP.mpr hl];rfl
def AB{l:List AV}{args:List AV}(h:ae H n=some (.list l)):lL .list m (.ref n) args H=ve m n l args H:=by show((AV.ref n).j3.bind λn=>(bx H n).bind λl=>ve m n l args H)=_;show((bx H n).bind λl=>ve m n l args H)=_;rw[dy h];rfl
def kR{l:List AV}(h:ae H n=some (.list l))(hl:l.length<az):lL .list 0 (.ref n) [v] H=some (.none,ai H (.list (l++[v])) n):=by rw[AB h];show aI (Nat.blt l.length az) _=_;rw[bG.mpr hl];rfl
def C5{l:List AV}(h:ae H n=some (.list (l++[v]))):lL .list 1 (.ref n) [] H=some (v,ai H (.list l) n):=by rw[AB h];show((l++[v]).getLast?).map _=_;rw[List.getLast?_concat,List.dropLast_concat];rfl
def gF{P:bP}{l:List AV}(h:ae H n=some (.list l)):kK P (.ref n) m H=some .list:=by show(ae H n).bind _=_;rw[h];rfl
def xV{P:bP}(h:ae H n=some (.dict e l)):kK P (.ref n) m H=some .dict:=by show(ae H n).bind _=_;rw[h];rfl
def Xu{P:bP}{l:List (List Nat)}(h:ae H n=some (.set l)):kK P (.ref n) m H=some .set:=by show(ae H n).bind _=_;rw[h];rfl
def wM{l:List AV}(h:ae H n=some (.list l)):gQ (.ref n) H=some (!l.isEmpty):=by show(bx H n).map _=_;rw[dy h];rfl
end
def H8{P:bP}{d:Nat}{q:Bool}{U ρ1 ρ2:aC}{H:Hp}{a b:C}{p:Pos}{y:AV}{kk:List Nat}(h1:RE P d q a U (H++[.dict 0 []]) (.str kk) ρ1 (H++[.dict 0 []]))(h2:RE P d q b ρ1 (H++[.dict 0 []]) y ρ2 (H++[.dict 0 []])):RE P d q (.dct a b p) U H (.ref H.length) ρ2 (H++[.dict 1 [(kk,y)]]):=by refine .step (?_:bo P (λE=>M.bind yH λr=>M.bind (E.e d q a) λx=>M.bind (E.e d q b) λy=>M.bind (gp (Ae r x y)) λO=>cj r) U H _);refine .bind (m:=λO=>yH) (f:=λE r=>M.bind (E.e d q a) λx=>M.bind (E.e d q b) λy=>M.bind (gp (Ae r x y)) λO=>cj r) (.const rfl) (.bind h1 (.bind h2 (.bind (.up ?_) .ret)));show(cD (H++[AO.dict 0 []]) H.length).bind _=_;rw[kc dY];show some (ai (H++[AO.dict 0 []]) (.dict 1 [(kk,y)]) H.length)=_;rw[uE]
end
section
noncomputable def bg(b:S)(n:Nat):S:=match n with
 |0=>(match b with|.cons a _=>a|b=>b)
 |n+1=>(match b with|.cons _ r=>bg r n|b=>b)
noncomputable def xd(b:S)(n:Nat):S:=match n with
 |0=>b
 |n+1=>(match b with|.cons _ r=>xd r n|b=>b)
noncomputable def gB(s:S):C:=match s with
 |.gO t _ _ _=>t
 |.iff t _ _ _=>t
 |_=>.nil
noncomputable def bz(s:S):S:=match s with
 |.gO _ b _ _=>b
 |.iff _ b _ _=>b
 |.loop _ _ b _=>b
 |.tri b _ _ _ _ _ _=>b
 |_=>.nil
noncomputable def iV(s:S):S:=match s with
 |.gO _ _ b _=>b
 |.iff _ _ b _=>b
 |_=>.nil
noncomputable def gC(s:S):C:=match s with
 |.loop t _ _ _=>t
 |_=>.nil
noncomputable def jX(s:S):C:=match s with
 |.asg _ e _=>e
 |.ret e _=>e
 |.expr e _=>e
 |.loop _ e _ _=>e
 |_=>.nil
noncomputable def eV(c:C):C:=match c with
 |.comp e _ _ _ _ _=>e
 |_=>.nil
noncomputable def eQ(c:C):C:=match c with
 |.comp _ t _ _ _ _=>t
 |_=>.nil
noncomputable def eU(c:C):C:=match c with
 |.comp _ _ i _ _ _=>i
 |_=>.nil
noncomputable def gI(c:C):C:=match c with
 |.comp _ _ _ i _ _=>i
 |_=>.nil
section
variable {d:Nat}{U:aC}{H:Hp}
variable {i k:Int}
def kT{j:Int}(h:i+j=k):iA .Add (.int i) (.int j) H=some (.int k):=by subst h;rfl
def GQ{j:Int}(h:i-j=k):iA .Sub (.int i) (.int j) H=some (.int k):=by subst h;rfl
def SA{n:Nat}(h:n<=az):fM (n:Int)=true:=bG.mpr (cU h (by decide))
def Dp{j:Int}(h1:fM i=true)(h2:fM j=true)(h:i*j=k):iA .Mult (.int i) (.int j) H=some (.int k):=by subst h;show aI (fM i&&fM j) _=_;rw[h1,h2];rfl
def SQ(h:i.fdiv (2^1)=k):iA .RShift (.int i) (.int 1) H=some (.int k):=by subst h;rfl
def LA:∀a b:Nat,((a:Nat):Int).fdiv (b:Nat)=((a/b:Nat):Int)
 |0,b=>by rw[Nat.zero_div];rfl
 |_+1,_=>rfl
def Y7(p:Nat):((p+1:Nat)-1:Int).fdiv (2^1)=((p/2:Nat):Int):=by rw[show((p+1:Nat):Int)-1=(p:Nat) from Int.add_sub_cancel p 1];exact LA p 2
abbrev aT:=Int×List Nat
noncomputable def cm(p:aT):AV:=.tup [.int p.1,.str p.2]
def fZ(a b:aT):Bool:=match dQ a.1 b.1 with
 |true=>(match ak a.2 b.2 with|true=>false|false=>bu a.2 b.2)
 |false=>gb a.1 b.1
def DA(a b:aT):AG (cm a) (cm b)=some (fZ a b):=by
 show((some (dQ a.1 b.1)).bind λt=>match t with|true=>((some (ak a.2 b.2)).bind λt=>match t with|true=>some false|false=>some (bu a.2 b.2))|false=>some (gb a.1 b.1))=_;unfold fZ;cases dQ a.1 b.1 with
 |false=>rfl
 |true=>show((some (ak a.2 b.2)).bind λt=>match t with|true=>some false|false=>some (bu a.2 b.2))=_;cases ak a.2 b.2<;>rfl
def dz(l:List aT):AO:=.list (l.map cm)
noncomputable def iM(x:aT):Nat->List aT->Nat->List aT
 |0,l,p=>ai l x p
 |n+1,l,p=>match p with
  |0=>ai l x 0
  |p+1=>match ae l (p/2) with
   |none=>ai l x (p+1)
   |some y=>match fZ x y with
    |true=>iM x n (ai l y (p+1)) (p/2)
    |false=>ai l x (p+1)
variable {a:Nat}
def Tc{x:aT}:∀(n:Nat) {l:List aT} {p:Nat} {u v:Option AV} {H:Hp},p<=n->p<l.length->ae H a=some (dz l) ->
  ∃l' p' u' v',RW P d true (gB (bg tN.body 1)) (bz (bg tN.body 1)) (iV (bg tN.body 1))
   [some (.ref a),some (.int 0),some (.int p),some (cm x),u,v] H .next [some (.ref a),some (.int 0),some (.int (p':Nat)),some (cm x),u',v'] (ai H (dz l') a)/\p'<l'.length/\ai l' x p'=iM x n l p:=by
 intro n
 induction n with
 |zero=>intro l p u v H hn hp hl;cases Nat.le_zero.mp hn;refine⟨l,0,u,v,?_,hp,rfl⟩;rw[zq hl];exact mV (bH (af rfl) (af rfl) rfl) aO
 |succ n ih=>
  intro l p u v H hn hp hl;cases p with
  |zero=>refine⟨l,0,u,v,?_,hp,rfl⟩;rw[zq hl];exact mV (bH (af rfl) (af rfl) rfl) aO
  |succ p=>
   have hq:p/2<l.length:=cU (Nat.div_le_self p 2) (Nat.lt_of_succ_lt hp);refine ue (je hq) λy h1=>?_;have EC:ae (l.map cm) (p/2)=some (cm y):=by rw[ip,h1];rfl
   have hs:∀{fl:Fl} {ρ':aC} {H':Hp},RB P d true (xd (bz (bg tN.body 1)) 2) [some (.ref a),some (.int 0),some (.int (p+1:Nat)),some (cm x),some (.int (p/2:Nat)),some (cm y)] H fl ρ' H' ->
     RB P d true (bz (bg tN.body 1)) [some (.ref a),some (.int 0),some (.int (p+1:Nat)),some (cm x),u,v] H fl ρ' H':=λ{fl ρ' H'} h=>by
    exact aj (bC (v:=.int (p/2:Nat)) (du (du (af rfl) aS (GQ rfl)) aS (SQ (Y7 p))) (λO=>rfl) rfl rfl) (aj (bC (dP (af rfl) (af rfl) (sQ hl EC)) (λO=>rfl) rfl rfl) h)
   have e:iM x (n+1) l (p+1)=match fZ x y with|true=>iM x n (ai l y (p+1)) (p/2)|false=>ai l x (p+1):=by show(match ae l (p/2) with|none=>_|some y=>_)=_;rw[h1]
   rw[e];cases hb:fZ x y with
   |true=>
    refine i7 (ih (l:=ai l y (p+1)) (p:=p/2) (u:=some (.int (p/2:Nat))) (v:=some (cm y)) (H:=ai H (dz (ai l y (p+1))) a) (aM (Nat.div_le_self p 2) (Nat.le_of_succ_le_succ hn)) (by rw[cB];assumption) (cV (bk hl))) λl' p' u' v' h3 h4 h5=>?_;rw[sJ] at h3;refine⟨l',p',u',v',?_,h4,h5⟩;apply kD (f:=.cont) (hf:=rfl) (h3:=h3)
    ·exact bH (af rfl) (af rfl) rfl
    ·refine hs ?_;apply cK (fl:=.cont)
     ·refine bM (t:=true) (bH (af rfl) (af rfl) ((DA x y).trans (by rw[hb]))) ?_;refine aj (pR (af rfl) (λO=>rfl) (af rfl) (af rfl) (w6 hl (by rw[aJ];exact hp))) ?_;rw[lh];refine aj (bC (af rfl) (λO=>rfl) rfl rfl) ?_;exact cK HI nofun
     ·nofun
   |false=>refine⟨l,p+1,some (.int (p/2:Nat)),some (cm y),?_,hp,rfl⟩;rw[zq hl];exact xe (f:=.brk) (bH (af rfl) (af rfl) rfl) (hs (aj (bM (t:=false) (bH (af rfl) (af rfl) ((DA x y).trans (by rw[hb]))) aO) (cK CH nofun))) rfl
def Ia{p:Nat}{l:List aT}{x:aT}(hl:ae H a=some (dz l))(hx:ae l p=some x):RC P (d+1) (.glob 23) [.ref a,.int 0,.int p] H .none (ai H (dz (iM x p l p)) a):=by refine i7 (Tc (d:=d) (x:=x) p (u:=none) (v:=none) (bf _) (bk hx) hl) λl' p' u' v' h3 h4 h5=>?_;refine eT (fd:=tN) (fl:=.next) (ρ1:=[some (.ref a),some (.int 0),some (.int p),none,none,none]) rfl rfl ?_ rfl;refine⟨[some (.ref a),some (.int 0),some (.int (p':Nat)),some (cm x),u',v'],?_⟩;refine aj (bC (dP (af rfl) (af rfl) (sQ hl (show ae (l.map cm) p=_ by rw[ip,hx];rfl))) (λO=>rfl) rfl rfl) ?_;refine aj (kF h3) ?_;apply aj (h1:=pR (af rfl) (λO=>rfl) (af rfl) (af rfl) (w6 (cV (bk hl)) (by rw[aJ];exact h4)));rw[lh,sJ,h5];exact aO
def oJ(x:aT)(l:List aT):List aT:=iM x l.length (l++[x]) l.length
def gk{P:bP}{j:Nat}{b:BI}{vs:List AV}{v:AV}{H':Hp}(hj:ae P.gt j=some (.bi b))(h:yP b vs H=some (v,H')):RC P d (.glob j) vs H v H':=UO hj h
def xu{l:List AV}(hl:ae H a=some (.list l))(h:l.length<=az):RC P d (.glob 10) [.ref a] H (.int l.length) H:=gk (b:=.len) rfl (W4 hl h)
def Uw{l:List aT}{x:aT}(hl:ae H a=some (dz l))(hs:l.length<az):RC P (d+2) (.glob 20) [.ref a,cm x] H .none (ai H (dz (oJ x l)) a):=by
 have e:(l++[x]).map cm=l.map cm++[cm x]:=by rw[eB];rfl
 refine eT (fd:=LH) (fl:=.next) (ρ1:=[some (.ref a),some (cm x)]) rfl rfl ?_ rfl;refine⟨[some (.ref a),some (cm x)],?_⟩;refine aj (eM (eN (mk:=.list) (af rfl) (gF hl) rfl rfl (aB rfl (af rfl) aE) (kR hl (by rw[aJ];exact hs)))) ?_;rw[<- e];have vC:ae (ai H (.list ((l++[x]).map cm)) a) a=some (dz (l++[x])):=cV (bk hl);have f1:=xu (d:=d+1) vC (by rw[aJ,bF];exact hs);rw[aJ,bF] at f1;refine aj (eM (bO (vs:=[.ref a,.int 0,.int (l.length:Nat)]) (bL rfl) rfl (aB rfl (af rfl) (aB rfl aS (aB rfl (du (bO (bL rfl) rfl (aB rfl (af rfl) aE) f1) aS (GQ (Int.add_sub_cancel l.length 1))) aE))) (Ia vC dY))) ?_;rw[sJ];exact aO
end
end
section
section
variable {d:Nat}{U:aC}{H:Hp}
def gj(l:List aT)(c:Nat):Nat:=match Nat.blt (c+1) l.length with
 |true=>(match ae l c with
  |some a=>(match ae l (c+1) with
   |some b=>(match fZ a b with|true=>c|false=>c+1)
   |none=>c)
  |none=>c)
 |false=>c
noncomputable def gq:Nat->List aT->Nat->List aT×Nat
 |0,l,p=>(l,p)
 |n+1,l,p=>match Nat.blt (2*p+1) l.length with
  |false=>(l,p)
  |true=>match ae l (gj l (2*p+1)) with
   |some y=>gq n (ai l y p) (gj l (2*p+1))
   |none=>(l,p)
def GO(n:Nat)(l:List aT)(p:Nat):gq (n+1) l p=match Nat.blt (2*p+1) l.length with|false=>(l,p)|true=>match ae l (gj l (2*p+1)) with|some y=>gq n (ai l y p) (gj l (2*p+1))|none=>(l,p):=rfl
variable {l:List aT}
def abX{c:Nat}(h:c<l.length):gj l c<l.length/\c<=gj l c:=by
 have z:c<l.length/\c<=c:=⟨h,bf _⟩;unfold gj;cases hb:Nat.blt (c+1) l.length with
 |false=>exact z
 |true=>
  cases ae l c with
  |none=>exact z
  |some a=>
   cases ae l (c+1) with
   |none=>exact z
   |some b=>
    show(match fZ a b with|true=>c|false=>c+1)<l.length/\c<=(match fZ a b with|true=>c|false=>c+1);cases fZ a b with
    |true=>exact z
    |false=>exact⟨bG.mp hb,i3 _⟩
variable {a:Nat}
def wW{p:Nat}{y:aT}(hl:ae H a=some (dz l))(h:ae l p=some y):lB (.ref a) (.int p) H=some (cm y):=sQ hl (show ae (l.map cm) p=_ by rw[ip,h];rfl)
variable {x:aT}
def R3{p n:Nat}{u:Option AV}(hl:ae H a=some (dz l))(hc:2*p+1<l.length){fl:Fl}{ρ':aC}{H':Hp}
  (h:RB P d true (xd (bz (bg rR.body 4)) 2) [some (.ref a),some (.int (p:Nat)),some (.int (l.length:Nat)),some (.int 0),some (cm x),some (.int (gj l (2*p+1):Nat)),some (.int (2*p+1+1:Nat))] H fl ρ' H'):
  RB P d true (bz (bg rR.body 4)) [some (.ref a),some (.int (p:Nat)),some (.int (l.length:Nat)),some (.int 0),some (cm x),some (.int (2*p+1:Nat)),u] H fl ρ' H':=by
 refine aj (bC (v:=.int (2*p+1+1:Nat)) (du (af rfl) aS (kT rfl)) (λO=>rfl) rfl rfl) ?_;apply aj (h2:=h);unfold gj;cases hb:Nat.blt (2*p+1+1) l.length with
 |false=>exact bM (t:=false) (uR (bH (af rfl) (af rfl) (congrArg some hb))) aO
 |true=>
  refine ue (je hc) λy1 h1=>?_;refine ue (je (bG.mp hb)) λy2 h2=>?_;have jy:RT P d true (gB (bg (bz (bg rR.body 4)) 1)) [some (.ref a),some (.int (p:Nat)),some (.int (l.length:Nat)),some (.int 0),some (cm x),some (.int (2*p+1:Nat)),some (.int (2*p+1+1:Nat))] H (!fZ y1 y2) [some (.ref a),some (.int (p:Nat)),some (.int (l.length:Nat)),some (.int 0),some (cm x),some (.int (2*p+1:Nat)),some (.int (2*p+1+1:Nat))] H:=by exact mW (bH (af rfl) (af rfl) (congrArg some hb)) (TB (bH (dP (af rfl) (af rfl) (wW hl h1)) (dP (af rfl) (af rfl) (wW hl h2)) (DA y1 y2)))
  rw[h1,h2];dsimp only;cases hq:fZ y1 y2 with
  |true=>rw[hq] at jy;exact bM jy aO
  |false=>rw[hq] at jy;exact bM jy (aj (bC (af rfl) (λO=>rfl) rfl rfl) aO)
def R2:∀(n:Nat) {l:List aT} {p:Nat} {u:Option AV} {H:Hp},l.length<=p+n->l.length<=az->p<l.length->ae H a=some (dz l) ->
  ∃u' w',RW P d true (gB (bg rR.body 4)) (bz (bg rR.body 4)) (iV (bg rR.body 4))
   [some (.ref a),some (.int (p:Nat)),some (.int (l.length:Nat)),some (.int 0),some (cm x),some (.int (2*p+1:Nat)),u] H .next
   [some (.ref a),some (.int ((gq n l p).2:Nat)),some (.int (l.length:Nat)),some (.int 0),some (cm x),w',u'] (ai H (dz (gq n l p).1) a)/\(gq n l p).1.length=l.length/\(gq n l p).2<l.length:=by
 intro n
 induction n with
 |zero=>intro l p u H hn hs hp hl;exact absurd hp (hZ.mpr hn)
 |succ n ih=>
  intro l p u H hn hs hp hl;rw[GO];cases hb:Nat.blt (2*p+1) l.length with
  |false=>refine⟨u,some (.int (2*p+1:Nat)),?_,rfl,hp⟩;rw[zq hl];exact mV (bH (af rfl) (af rfl) (congrArg some hb)) aO
  |true=>
   have hc:=bG.mp hb;refine ua (abX hc) λc1 c2=>?_;refine ue (je c1) λy h1=>?_;rw[h1];dsimp only;refine bB (ih (l:=ai l y p) (p:=gj l (2*p+1)) (u:=some (.int (2*p+1+1:Nat))) (H:=ai H (dz (ai l y p)) a) (by rw[cB];exact NL ‹_› ‹_›) (by rw[cB];exact hs) (by rw[cB];exact c1) (cV (bk hl))) λu' w' h3 h4 h5=>?_;rw[sJ] at h3;rw[cB] at h3 h4 h5;refine⟨u',w',?_,h4,h5⟩;apply kD (f:=.next) (hf:=rfl) (h3:=h3)
   ·exact bH (af rfl) (af rfl) (congrArg some hb)
   ·refine R3 (n:=n) hl hc ?_;refine aj (pR (dP (af rfl) (af rfl) (wW hl h1)) (λO=>rfl) (af rfl) (af rfl) (w6 hl (by rw[aJ];exact hp))) ?_;rw[lh];refine aj (bC (af rfl) (λO=>rfl) rfl rfl) ?_;exact aj (bC (v:=.int (2*gj l (2*p+1)+1:Nat)) (du (du aS (af rfl) (Dp (by decide) (SA (by exact FT ‹_› ‹_›)) rfl)) aS (kT (i:=2*(gj l (2*p+1):Nat)) (j:=1) rfl)) (λO=>rfl) rfl rfl) aO
def og(x:aT)(l:List aT):List aT:=iM x (gq l.length l 0).2 (ai (gq l.length l 0).1 x (gq l.length l 0).2) (gq l.length l 0).2
def Uq(hl:ae H a=some (dz l))(hx:ae l 0=some x)(hs:l.length<=az):RC P (d+2) (.glob 24) [.ref a,.int 0] H .none (ai H (dz (og x l)) a):=by
 have ha:=bk hl;refine bB (R2 (d:=d+1) (x:=x) l.length (u:=none) (by exact FU) hs (bk hx) hl) λu' w' h3 h4 h5=>?_;generalize hL:(gq l.length l 0).1=l' at h3 h4;generalize hP:(gq l.length l 0).2=p' at h3 h5;have tI:p'<l'.length:=by exact B0 ‹_› ‹_›
 have f1:=xu (d:=d+1) hl (by rw[aJ];exact hs);refine eT (fd:=rR) (fl:=.next) (ρ1:=[some (.ref a),some (.int 0),none,none,none,none,none]) rfl rfl ?_ rfl;refine⟨[some (.ref a),some (.int (p':Nat)),some (.int (l.length:Nat)),some (.int 0),some (cm x),w',u'],?_⟩;rw[aJ] at f1;refine aj (bC (bO (bL rfl) rfl (aB rfl (af rfl) aE) f1) (λO=>rfl) rfl rfl) (aj (bC (af rfl) (λO=>rfl) rfl rfl) (aj (bC (dP (af rfl) (af rfl) (wW (p:=0) hl hx)) (λO=>rfl) rfl rfl) (aj (bC (du (du aS (af rfl) (Dp (by decide) (by decide) rfl)) aS (kT rfl)) (λO=>rfl) rfl rfl) (aj (kF h3) ?_))));apply aj (h1:=pR (af rfl) (λO=>rfl) (af rfl) (af rfl) (w6 (cV ha:ae (ai H (dz l') a) a=some (dz l')) (by rw[aJ];exact tI)));have f2:=Ia (d:=d) (cV ha:ae (ai H (dz (ai l' x p')) a) a=some (dz (ai l' x p'))) (cV tI);rw[lh,sJ];rw[sJ] at f2;refine aj (eM (bO (bL rfl) rfl (aB rfl (af rfl) (aB rfl (af rfl) (aB rfl (af rfl) aE))) f2)) ?_;unfold og;rw[hL,hP];exact aO
def gy(l:List aT)(x:aT):aT×List aT:=match l with
 |[]=>(x,[])
 |y::r=>(y,og x (x::r))
def Uy(hl:ae H a=some (dz (l++[x])))(hs:l.length<=az):RC P (d+3) (.glob 21) [.ref a] H (cm (gy l x).1) (ai H (dz (gy l x).2) a):=by
 have ha:=bk hl;have e:(l++[x]).map cm=l.map cm++[cm x]:=by rw[eB];rfl
 have vC:ae (ai H (.list (l.map cm)) a) a=some (dz l):=cV ha;have first:∀{fl:Fl} {ρ':aC} {H':Hp},RB P (d+2) true (xd yB.body 1) [some (.ref a),some (cm x),none] (ai H (dz l) a) fl ρ' H'->RB P (d+2) true yB.body [some (.ref a),none,none] H fl ρ' H':=λ{fl ρ' H'} h=>by apply aj (h2:=h);exact bC (eN (mk:=.list) (af rfl) (gF hl) rfl rfl aE (C5 (by rw[<- e];exact hl:ae H a=some (.list (l.map cm++[cm x]))))) (λO=>rfl) rfl rfl
 have jy:=wM vC;cases l with
 |nil=>refine eT (fd:=yB) (fl:=.ret (cm x)) (ρ1:=[some (.ref a),none,none]) rfl rfl ?_ rfl;refine⟨[some (.ref a),some (cm x),none],first ?_⟩;refine aj (bM (kE (af rfl) jy) aO) ?_;exact cK (fX (af rfl) λO=>rfl) nofun
 |cons y r=>
  have f2:=Uq (d:=d) (H:=ai H (dz (x::r)) a) (x:=x) (cV ha) rfl hs;refine eT (fd:=yB) (fl:=.ret (cm y)) (ρ1:=[some (.ref a),none,none]) rfl rfl ?_ rfl;refine⟨[some (.ref a),some (cm x),some (cm y)],first ?_⟩;refine cK (fl:=.ret (cm y)) (bM (kE (af rfl) jy) ?_) nofun;refine aj (bC (dP (af rfl) aS (wW (p:=0) vC rfl)) (λO=>rfl) rfl rfl) ?_;refine aj (pR (af rfl) (λO=>rfl) (af rfl) aS (w6 (p:=0) vC (qL _))) ?_;rw[sJ] at f2⊢;refine aj (eM (bO (bL rfl) rfl (aB rfl (af rfl) (aB rfl aS aE)) f2)) ?_
  ·exact cK (fX (af rfl) λO=>rfl) nofun
end
end
section
abbrev Ky:=List Nat
structure Nd where
 key:Ky
 np:Int
 su:List Ky
 ia:Nat
 sa:Nat
noncomputable def gx(n:Nd):AO:=.inst 25 [some (.str n.key),some (.int n.np),some (.ref n.sa)]
noncomputable def cn(l:List Ky):AO:=.list (l.map .str)
noncomputable def dS(ns:List Nd):List (List Nat×AV):=ns.map λn=>(n.key,.ref n.ia)
def iX(H:Hp)(n:Nd):Prop:=(ae H n.ia=some (gx n))/\(ae H n.sa=some (cn n.su))
section
variable {b1 b2}(x:iX b1 b2)
def iX.mk:=jI (iX b1 b2) rfl
def iX.inf:=x.1
def iX.dX:=x.2
end
def c7(H:Hp)(d ep:Nat)(ns:List Nd):Prop:=(ae H d=some (.dict ep (dS ns)))/\(∀n∈ns,iX H n)/\((ns.map (·.key)).Nodup)/\((ns.map (·.ia)).Nodup)/\((ns.map (·.sa)).Nodup)
section
variable {b1 b2 b3 b4}(x:c7 b1 b2 b3 b4)
def c7.mk:=lI (c7 b1 b2 b3 b4) rfl
def c7.dct:=x.1
def c7.ok:=x.2.1
def c7.keys:=x.2.2.1
def c7.vw:=x.2.2.2.1
def c7.uP:=x.2.2.2.2
end
section
variable {d ep:Nat}{ns:List Nd}{H H':Hp}
def c7.mono(G:c7 H d ep ns)(h1:ae H' d=ae H d)(h2:∀n∈ns,ae H' n.ia=ae H n.ia/\ae H' n.sa=ae H n.sa):c7 H' d ep ns:=(c7.mk (h1.trans G.dct) (λn hn=>(iX.mk ((h2 n hn).1.trans (G.ok n hn).inf) ((h2 n hn).2.trans (G.ok n hn).dX))) G.keys G.vw G.uP)
def c7.app(G:c7 H d ep ns)(Y:Hp):c7 (H++Y) d ep ns:=(c7.mk (cb G.dct) (λn hn=>(iX.mk (cb (G.ok n hn).inf) (cb (G.ok n hn).dX))) G.keys G.vw G.uP)
def g6(k:Ky):ak k k=true:=by
 induction k with
 |nil=>rfl
 |cons a r ih=>show(match Nat.beq a a with|true=>ak r r|false=>false)=true;rw[fV];exact ih
theorem g7:∀{a b:Ky},ak a b=true->a=b:=by
 intro a
 induction a with
 |nil=>
  intro t_ h;cases t_ with
  |nil=>exact rfl
  |cons _ _=>exact nomatch h
 |cons x xs ih=>
  intro t_ h;cases t_ with
  |nil=>exact nomatch h
  |cons y ys=>
   have h:(match Nat.beq x y with|true=>ak xs ys|false=>false)=true:=h;cases e:Nat.beq x y with
   |true=>rw[e] at h;rw[bV e,ih h]
   |false=>rw[e] at h;cases h
def nD{a b:Ky}(h:a≠b):ak a b=false:=by
 cases e:ak a b with
 |true=>exact absurd (g7 e) h
 |false=>rfl
theorem AI:∀{l:List Nd},(l.map (·.key)).Nodup->∀n∈l,cy n.key (dS l)=some (.ref n.ia):=by
 intro l
 induction l with
 |nil=>intro _ n hn;exact nomatch hn
 |cons m l ih=>
  intro h n hn;rw[bE,ie] at h;show(match ak m.key n.key with|true=>some (AV.ref m.ia)|false=>cy n.key (dS l))=_;rcases bQ.mp hn with rfl|hn
  ·rw[g6]
  ·rw[nD (λe=>h.1 (bW.mpr ⟨n,hn,e.symm⟩))];exact ih h.2 n hn
theorem Jv{k:Ky}:∀{l:List Nd},(∀n∈l,n.key≠k)->cy k (dS l)=none:=by
 intro l
 induction l with
 |nil=>intro _;exact rfl
 |cons m l ih=>intro h;show(match ak m.key k with|true=>some (AV.ref m.ia)|false=>cy k (dS l))=_;rw[nD (h m bA)];exact ih λn hn=>h n (bS _ hn)
theorem U0{k:Ky}{v:AV}:∀{l:List Nd},(∀n∈l,n.key≠k)->eJ k v (dS l)=dS l++[(k,v)]:=by
 intro l
 induction l with
 |nil=>intro _;exact rfl
 |cons m l ih=>intro h;show(match ak m.key k with|true=>(m.key,v)::dS l|false=>(m.key,AV.ref m.ia)::eJ k v (dS l))=_;rw[nD (h m bA)];exact congrArg ((m.key,AV.ref m.ia)::·) (ih λn hn=>h n (bS _ hn))
def fo(ns:List Nd)(k:Ky)(f:Nd->Nd):List Nd:=ns.map λn=>match ak n.key k with|true=>f n|false=>n
theorem tj{α β:Type}{f:α->β}:∀{l:List α},(l.map f).Nodup->∀a∈l,∀b∈l,f a=f b->a=b:=by
 intro l
 induction l with
 |nil=>intro _ _ ha _ _ _;exact nomatch ha
 |cons c l ih=>
  intro h a ha b hb e;rw[bE,ie] at h;rcases bQ.mp ha with e1|ha<;>rcases bQ.mp hb with e2|hb
  ·rw[e1,e2]
  ·exact absurd (bW.mpr ⟨b,hb,by rw[<- e,e1]⟩) h.1
  ·exact absurd (bW.mpr ⟨a,ha,by rw[e,e2]⟩) h.1
  ·exact ih h.2 a ha b hb e
variable {f:Nd->Nd}
def zN{k:Ky}{m:Nd}(h:m∈fo ns k f):∃n∈ns,(n.key=k/\m=f n)\/(n.key≠k/\m=n):=by
 refine aq (bW.mp h) λn hn e=>?_;refine⟨n,hn,?_⟩;cases hk:ak n.key k with
 |true=>rw[hk] at e;exact .inl ⟨g7 hk,e.symm⟩
 |false=>rw[hk] at e;refine .inr ⟨λq=>?_,e.symm⟩;rw[q,g6] at hk;cases hk
def zO{β:Type}(g:Nd->β){k:Ky}(h:∀n,g (f n)=g n):(fo ns k f).map g=ns.map g:=by
 unfold fo;rw[cI];refine i6 λn O=>?_;show g (match ak n.key k with|true=>f n|false=>n)=g n;cases ak n.key k with
 |true=>exact h n
 |false=>rfl
def uN{β:Type}(g:Nd->β){k:Ky}(h:∀n,g (f n)=g n)(hn:(ns.map g).Nodup):((fo ns k f).map g).Nodup:=by rw[zO g h];exact hn
variable {fs:List (Option AV)}
def tH{a b:Nat}{c:Nat}{l:List AV}(h1:ae H a=some (.inst c fs))(h2:ae H b=some (.list l)):a≠b:=λe=>by rw[e,h2] at h1;cases h1
variable {l:List (List Nat×AV)}
def vt{a b:Nat}{c e:Nat}(h1:ae H a=some (.inst c fs))(h2:ae H b=some (.dict e l)):a≠b:=λe=>by rw[e,h2] at h1;cases h1
def AJ{a b:Nat}{e:Nat}{fs:List AV}(h1:ae H a=some (.list fs))(h2:ae H b=some (.dict e l)):a≠b:=λe=>by rw[e,h2] at h1;cases h1
def c7.Ho(G:c7 H d ep ns){n:Nd}(hn:n∈ns)(v:Int):c7 (ai H (gx {n with np:=v}) n.ia) d ep (fo ns n.key λm=>{m with np:=v}):=by
 have hi:=(G.ok n hn).inf;refine(c7.mk ?_ (λm hm=>?_) ?_ ?_ ?_)
 ·rw[bh (vt hi G.dct),G.dct];unfold dS;rw[show(fo ns n.key λm=>{m with np:=v}).map (λm=>(m.key,AV.ref m.ia))=ns.map λm=>(m.key,AV.ref m.ia) from zO (λm=>(m.key,AV.ref m.ia)) λO=>rfl]
 ·obtain⟨n',dZ,h|h⟩:=zN hm
  ·refine ua h λh1 aa=>?_;clear h;subst aa;have:=tj G.keys n' dZ n hn h1;subst this;exact(iX.mk (cV (bk hi)) ((bh (tH hi (G.ok n' dZ).dX)).trans (G.ok n' dZ).dX))
  ·refine ua h λh1 aa=>?_;clear h;subst aa;exact(iX.mk ((bh (λe=>h1 (by rw[tj G.vw n hn m dZ e]):n.ia≠m.ia)).trans (G.ok m dZ).inf) ((bh (tH hi (G.ok m dZ).dX)).trans (G.ok m dZ).dX))
 ·exact uN (·.key) (by intro _;rfl) G.keys
 ·exact uN (·.ia) (by intro _;rfl) G.vw
 ·exact uN (·.sa) (by intro _;rfl) G.uP
def c7.SX(G:c7 H d ep ns){n:Nd}(hn:n∈ns)(l:List Ky):c7 (ai H (cn l) n.sa) d ep (fo ns n.key λm=>{m with su:=l}):=by
 have hi:=(G.ok n hn).dX;refine(c7.mk ?_ (λm hm=>?_) ?_ ?_ ?_)
 ·rw[bh (AJ hi G.dct),G.dct];unfold dS;rw[show(fo ns n.key λm=>{m with su:=l}).map (λm=>(m.key,AV.ref m.ia))=ns.map λm=>(m.key,AV.ref m.ia) from zO (λm=>(m.key,AV.ref m.ia)) λO=>rfl]
 ·obtain⟨n',dZ,h|h⟩:=zN hm
  ·refine ua h λh1 aa=>?_;clear h;subst aa;have:=tj G.keys n' dZ n hn h1;subst this;exact(iX.mk ((bh (tH (G.ok n' dZ).inf hi).symm).trans (G.ok n' dZ).inf) (cV (bk hi)))
  ·refine ua h λh1 aa=>?_;clear h;subst aa;exact(iX.mk ((bh (tH (G.ok m dZ).inf hi).symm).trans (G.ok m dZ).inf) ((bh (λe=>h1 (by rw[tj G.uP n hn m dZ e]):n.sa≠m.sa)).trans (G.ok m dZ).dX))
 ·exact uN (·.key) (by intro _;rfl) G.keys
 ·exact uN (·.ia) (by intro _;rfl) G.vw
 ·exact uN (·.sa) (by intro _;rfl) G.uP
end
section
variable {P:bP}{H:Hp}{n c a:Nat}{fs fs':List (Option AV)}{v:AV}
def ef(h:ae H n=some (.inst c fs))(hv:((l8 P c).bind λcd=>(ae fs (gz cd.bD a)).bind λr=>r)=some v):qo P a (.ref n) H=some v:=by
 show((ae H n).bind λo=>match o with
 |.inst c fs=>(l8 P c).bind λcd=>(ae fs (gz cd.bD a)).bind λr=>r
 |.iter _ _=>aI (Nat.beq a 9) (some (.cP n))
 |_=>none)=_
 rw[h];exact hv
def jB(h:ae H n=some (.inst c fs))(hv:((l8 P c).bind λcd=>aI (Nat.blt (gz cd.bD a) fs.length) (some (ai fs (some v) (gz cd.bD a))))=some fs'):pO P a (.ref n) v H=some (ai H (.inst c fs') n):=by
 show((ya H n).bind λr=>(l8 P r.1).bind λcd=>aI (Nat.blt (gz cd.bD a) r.2.length) (some (ai H (.inst r.1 (ai r.2 (some v) (gz cd.bD a))) n)))=_;rw[X6 h];show((l8 P c).bind λcd=>aI (Nat.blt (gz cd.bD a) fs.length) (some (ai H (.inst c (ai fs (some v) (gz cd.bD a))) n)))=_;cases hc:l8 P c with
 |none=>rw[hc] at hv;exact aR hv
 |some cd=>
  rw[hc] at hv;obtain⟨h1,h2⟩:Nat.blt (gz cd.bD a) fs.length=true/\ai fs (some v) (gz cd.bD a)=fs':=by
   have hv:aI (Nat.blt (gz cd.bD a) fs.length) (some (ai fs (some v) (gz cd.bD a)))=some fs':=hv;cases hb:Nat.blt (gz cd.bD a) fs.length with
   |false=>rw[hb] at hv;exact aR hv
   |true=>rw[hb] at hv;exact⟨rfl,jR hv⟩
  show aI (Nat.blt (gz cd.bD a) fs.length) (some (ai H (.inst c (ai fs (some v) (gz cd.bD a))) n))=_;rw[h1,h2];rfl
def ni{m k:Nat}(h:ae H n=some (.inst c fs))(hv:((l8 P c).bind λcd=>(cd.meths.lookup m).map MK.user)=some (.user k)):kK P (.ref n) m H=some (.user k):=by show(ae H n).bind _=_;rw[h];exact hv
end
section
variable {d:Nat}{H:Hp}
def UI(k:Ky):RC P (d+2) (.glob 25) [.str k] H (.ref (H.length+1)) (H++[.dead,gx ⟨k,0,[],H.length+1,H.length+2⟩,cn []]):=by
 have e:∀o m,ai (H++.dead::o::m)=λy n=>ai (H++.dead::o::m) y n:=λO O=>rfl;have at1:∀{o:AO} {m:Hp},ae (H++.dead::o::m) (H.length+1)=some o:=λ{o m}=>jG (n:=1);have up1:∀{o y:AO} {m:Hp},ai (H++.dead::o::m) y (H.length+1)=H++.dead::y::m:=λ{o y m}=>Gu (n:=1);refine Uo (cd:=⟨43,true,[],[22,20,21]⟩) rfl rfl ?_;refine eT (fd:=LD) (fl:=.next) (ρ1:=[some (.ref (H.length+1)),some (.str k)]) rfl rfl ?_ rfl;refine⟨[some (.ref (H.length+1)),some (.str k)],?_⟩;refine aj (pS (af rfl) (λO=>rfl) (af rfl) (jB at1 rfl)) ?_;rw[up1];refine aj (pS aS (λO=>rfl) (af rfl) (jB at1 rfl)) ?_;rw[up1];refine aj (pS (e9 aE rfl) (λO=>rfl) (af rfl) (jB (fs':=[some (.str k),some (.int 0),some (.ref (H.length+2))]) (cb at1) ?_)) ?_
 ·have:(H++[AO.dead,AO.inst 25 [some (AV.str k),some (AV.int 0),none]]).length=H.length+2:=by rw[bF];rfl
  show some [some (AV.str k),some (AV.int 0),some (AV.ref (List.length _))]=_;rw[<- this];rfl
 ·rw[eX];show RB _ _ _ _ _ (ai (H++.dead::_::[.list []]) _ _) _ _ _;rw[up1];exact aO
end
end
section
noncomputable def gD(d:Nat)(r:AV)(np nf:Int):AO:=.inst 22 [some (.ref d),some r,some (.int np),some (.int nf)]
abbrev Ad:=Ky×Int×List Ky
noncomputable def aY(ns:List Nd):List Ad:=ns.map λn=>(n.key,n.np,n.su)
def rJ(k:Ky)(g:List Ad):Bool:=g.any λt=>ak t.1 k
def iB(g:List Ad)(k:Ky):List Ad:=match rJ k g with|true=>g|false=>g++[(k,0,[])]
def mc(g:List Ad)(k:Ky)(f:Int->Int):List Ad:=g.map λt=>match ak t.1 k with|true=>(t.1,f t.2.1,t.2.2)|false=>t
def qs(g:List Ad)(k x:Ky):List Ad:=g.map λt=>match ak t.1 k with|true=>(t.1,t.2.1,t.2.2++[x])|false=>t
def Bd(lo hi:Nat)(ns:List Nd):Prop:=∀n∈ns,(lo<=n.ia/\n.ia<hi)/\lo<=n.sa/\n.sa<hi
def fh(H:Hp)(s d lo:Nat)(g:List Ad)(r:AV)(np nf:Int):Prop:=(ae H s=some (gD d r np nf))/\(∃ep ns,c7 H d ep ns/\aY ns=g/\Bd lo H.length ns)/\(lo<=s)/\(lo<=d)/\(d<H.length)
section
variable {b1 b2 b3 b4 b5 b6 b7 b8}(x:fh b1 b2 b3 b4 b5 b6 b7 b8)
def fh.mk:=lI (fh b1 b2 b3 b4 b5 b6 b7 b8) rfl
def fh.self:=x.1
def fh.gY:=x.2.1
def fh.nh:=x.2.2.1
def fh.vm:=x.2.2.2.1
def fh.vQ:=x.2.2.2.2
end
def ba(lo:Nat)(H H':Hp):Prop:=(H.length<=H'.length)/\(∀a,a<lo->ae H' a=ae H a)
section
variable {b1 b2 b3}(x:ba b1 b2 b3)
def ba.mk:=jI (ba b1 b2 b3) rfl
def ba.len:=x.1
def ba.low:=x.2
end
def ba.refl(lo:Nat)(H:Hp):ba lo H H:=(ba.mk (bf _) (λO O=>rfl))
variable {lo:Nat}
def ba.trans{H H1 H2:Hp}(a:ba lo H H1)(b:ba lo H1 H2):ba lo H H2:=(ba.mk (aM a.len b.len) (λx hx=>(b.low x hx).trans (a.low x hx)))
def ba.upd{n:Nat}{H:Hp}{o:AO}(h:lo<=n):ba lo H (ai H o n):=(ba.mk (by rw[cB];exact bf _) (λa ha=>bh (by exact NH ‹_› ‹_›)))
def pX{α:Type}{l:List α}{n:Nat}(h:l.length<=n):ae l n=none:=by
 cases e:ae l n with
 |none=>rfl
 |some x=>exact absurd (bk e) (by exact Nw ‹_›)
def uZ{α:Type}{l m:List α}{n:Nat}(h:n<l.length):ae (l++m) n=ae l n:=by refine ue (je h) λx e=>?_;rw[e,cb e]
def ba.app{H:Hp}(Y:Hp)(h:lo<=H.length):ba lo H (H++Y):=(ba.mk (by rw[bF];exact yY) (λa ha=>uZ (by exact FH ‹_› ‹_›)))
section
variable {ns:List Nd}
def Na{k:Ky}{f:Nd->Nd}{g:Ad->Ad}(h:∀n,((f n).key,(f n).np,(f n).su)=g (n.key,n.np,n.su)):aY (fo ns k f)=(aY ns).map λt=>match ak t.1 k with|true=>g t|false=>t:=by
 unfold aY fo;rw[cI,cI];refine i6 λn O=>?_;show((match ak n.key k with|true=>f n|false=>n).key,(match ak n.key k with|true=>f n|false=>n).np,(match ak n.key k with|true=>f n|false=>n).su)=match ak n.key k with|true=>g (n.key,n.np,n.su)|false=>(n.key,n.np,n.su)
 cases ak n.key k with
 |true=>exact h n
 |false=>rfl
def Es{k:Ky}:rJ k (aY ns)=true↔∃n∈ns,n.key=k:=by unfold rJ aY;rw[List.any_map,List.any_eq_true];exact⟨λbU=>aq bU λn hn h=>⟨n,hn,g7 h⟩,λbU=>aq bU λn hn h=>⟨n,hn,by rw[<- h];exact g6 _⟩⟩
def Bd.mono{lo hi A3:Nat}(b:Bd lo hi ns)(h:hi<=A3):Bd lo A3 ns:=λn hn=>⟨⟨(b n hn).1.1,dW (b n hn).1.2 h⟩,(b n hn).2.1,dW (b n hn).2.2 h⟩
def Bd.CA{lo hi:Nat}{k:Ky}{f:Nd->Nd}(b:Bd lo hi ns)(h1:∀n,(f n).ia=n.ia)(h2:∀n,(f n).sa=n.sa):Bd lo hi (fo ns k f):=λm hm=>by
 obtain⟨n,hn,⟨_,rfl⟩|⟨_,rfl⟩⟩:=zN hm
 ·rw[h1,h2];exact b n hn
 ·exact b m hn
end
section
variable {dd s d lo:Nat}{H:Hp}{g:List Ad}{r:AV}{np nf:Int}
def UC:RC P (dd+2) (.glob 22) [] H (.ref H.length) (H++[gD (H.length+1) .none 0 0,.dict 0 []]):=by refine UN (cd:=⟨35,false,[(19,36),(8,37),(10,38),(12,39),(11,40),(13,41),(23,42)],[14,15,16,17]⟩) rfl rfl ?_;refine eT (fd:=LG) (fl:=.next) (ρ1:=[some (.ref H.length),some .none,none,none]) rfl rfl ?_ rfl;refine⟨[some (.ref H.length),some .none,none,none],?_⟩;refine aj (pS CX (λO=>rfl) (af rfl) (jB (cb dY) rfl)) ?_;rw[eX,bF];show RB _ _ _ _ _ (ai (H++.inst 22 _::[.dict 0 []]) _ _) _ _ _;rw[uE];refine aj (pS aS (λO=>rfl) (af rfl) (jB dY rfl)) ?_;rw[uE];refine aj (pS aS (λO=>rfl) (af rfl) (jB dY rfl)) ?_;rw[uE];refine aj (pS aS (λO=>rfl) (af rfl) (jB dY rfl)) ?_;rw[uE];refine aj (bM (t:=false) (bH (af rfl) aS rfl) aO) ?_;exact aO
def Sh:fh (H++[gD (H.length+1) .none 0 0,.dict 0 []]) H.length (H.length+1) H.length [] .none 0 0:=(fh.mk dY ⟨0,[],(c7.mk (jG (n:=1)) nofun mz mz mz),rfl,nofun⟩ (bf _) (i3 _) (by rw[bF];exact Nat.add_lt_add_left (by decide:1<2) _))
variable {l:List (List Nat×AV)}
def Le{k:Ky}{e:Nat}(h:ae H d=some (.dict e l)):lL .dict 6 (.ref d) [.str k] H=some ((cy k l).getD .none,H):=by show((cD H d).bind λr=>xQ 6 d r.2 [.str k] H)=_;rw[kc h];rfl
def Li{k:Ky}(S:fh H s d lo g r np nf){e:Nat}(hd:ae H d=some (.dict e l)){u:Option AV}{p1 p2 p3 p4 p5:Pos}:
  RE P dd true (.eO (.attr (.var "self" 0 p1) "_node2info" 14 p2) "get" 6 (.cons (.var "node" 1 p3) .nil) p4 p5) [some (.ref s),some (.str k),u] H ((cy k l).getD .none) [some (.ref s),some (.str k),u] H:=
 eN (mk:=.dict) (fb (af rfl) (ef S.self rfl)) (xV hd) rfl rfl (aB rfl (af rfl) aE) (Le hd)
def UJ{k:Ky}(S:fh H s d lo g r np nf)(hg:g.length<az):
  ∃H' n,RC P (dd+3) (.glob 36) [.ref s,.str k] H (.ref n.ia) H'/\ba lo H H'/\(∃ep ns,n∈ns/\n.key=k/\c7 H' d ep ns/\aY ns=iB g k/\Bd lo H'.length ns)/\ae H' s=some (gD d r np nf):=by
 refine bB S.gY λep ns G aa B=>?_;subst aa;by_cases hk:∃n∈ns,n.key=k
 ·have ek:iB (aY ns) k=aY ns:=by unfold iB;rw[Es.mpr hk]
  refine aq hk λn hn aa=>?_;clear hk;subst aa;have f:=λp1 p2 p3 p4 p5 p6 p7=>CU (n:="result") (k:=2) (p:=p6) (p2:=p7) (Li (p1:=p1) (p2:=p2) (p3:=p3) (p4:=p4) (p5:=p5) (dd:=dd+2) (k:=n.key) S G.dct (u:=none)) rfl;refine⟨H,n,?_,ba.refl ..,⟨ep,ns,hn,rfl,G,ek.symm,B⟩,S.self⟩;refine eT (fd:=EH) (fl:=.ret (.ref n.ia)) (ρ1:=[some (.ref s),some (.str n.key),none]) rfl rfl ?_ rfl;refine⟨[some (.ref s),some (.str n.key),some (.ref n.ia)],?_⟩;simp only[AI G.keys n hn] at f;refine aj (bM (t:=false) ?_ aO) (cK (fX (af rfl) λO=>rfl) nofun);exact bH (f ..) aS rfl
 ·have oK:∀n∈ns,n.key≠k:=λn hn e=>hk ⟨n,hn,e⟩;have ek:iB (aY ns) k=aY ns++[(k,0,[])]:=by
   unfold iB;cases h:rJ k (aY ns) with
   |true=>exact absurd (Es.mp h) hk
   |false=>rfl
  have lo1:lo<=H.length:=aM S.nh (fG (bk S.self));have hs:s≠d:=vt S.self G.dct;have G1:=G.app [.dead,gx ⟨k,0,[],H.length+1,H.length+2⟩,cn []];have d1:ae (H++[.dead,gx ⟨k,0,[],H.length+1,H.length+2⟩,cn []]) (H.length+1)=some (gx ⟨k,0,[],H.length+1,H.length+2⟩):=jG (n:=1);have d2:ae (H++[.dead,gx ⟨k,0,[],H.length+1,H.length+2⟩,cn []]) (H.length+2)=some (cn []):=jG (n:=2);have W5:(H++[.dead,gx ⟨k,0,[],H.length+1,H.length+2⟩,cn []]).length=H.length+3:=by rw[bF];rfl
  refine⟨ai (H++[.dead,gx ⟨k,0,[],H.length+1,H.length+2⟩,cn []]) (.dict (ep+1) (dS ns++[(k,.ref (H.length+1))])) d,⟨k,0,[],H.length+1,H.length+2⟩,?_,(ba.app _ lo1).trans (ba.upd S.vm),⟨ep+1,ns++[⟨k,0,[],H.length+1,H.length+2⟩],mE _ bA,rfl,?_,?_,?_⟩,?_⟩
  ·refine eT (fd:=EH) (fl:=.ret (.ref (H.length+1))) (ρ1:=[some (.ref s),some (.str k),none]) rfl rfl ?_ rfl;have f:=λp1 p2 p3 p4 p5 p6 p7=>CU (n:="result") (k:=2) (p:=p6) (p2:=p7) (Li (p1:=p1) (p2:=p2) (p3:=p3) (p4:=p4) (p5:=p5) (dd:=dd+2) (k:=k) S G.dct (u:=none)) rfl;refine⟨[some (.ref s),some (.str k),some (.ref (H.length+1))],?_⟩;simp only[Jv oK] at f;refine aj (bM (t:=true) (bH (f ..) aS rfl) ?_) (cK (fX (af rfl) λO=>rfl) nofun);refine aj (TJ (bO (bL rfl) rfl (aB rfl (af rfl) aE) (UI k)) (λO=>rfl) (fb (af rfl) (ef (cb S.self) rfl)) (af rfl) (H4:=ai (H++[.dead,gx ⟨k,0,[],H.length+1,H.length+2⟩,cn []]) (.dict (ep+1) (dS ns++[(k,.ref (H.length+1))])) d) ?_ rfl) aO;have:=w7 (k:=k) (v:=.ref (H.length+1)) G1.dct (by unfold dS;rw[aJ];unfold aY at hg;rw[aJ] at hg;exact hg);rw[U0 oK] at this;have h0:c5 k (dS ns)=false:=by unfold c5;rw[Jv oK];rfl
   rw[h0] at this;exact this
  ·refine(c7.mk ?_ (λm hm=>?_) ?_ ?_ ?_)
   ·rw[cV (bk G1.dct)];unfold dS;rw[eB];rfl
   ·rcases ko.mp hm with hm|hm
    ·have o:=G1.ok m hm;exact(iX.mk ((bh (vt o.inf G1.dct).symm).trans o.inf) ((bh (AJ o.dX G1.dct).symm).trans o.dX))
    ·cases fW.mp hm;exact(iX.mk ((bh (vt d1 G1.dct).symm).trans d1) ((bh (AJ d2 G1.dct).symm).trans d2))
   ·rw[eB];refine sm.mpr ⟨G.keys,by simp,λa ha b hb e=>?_⟩;refine aq (bW.mp ha) λm hm aa=>?_;subst aa;exact oK m hm (e.trans (by simpa using hb))
   ·rw[eB];refine sm.mpr ⟨G.vw,by simp,λa ha b hb e=>?_⟩;refine aq (bW.mp ha) λm hm aa=>?_;subst aa;have hb:b=H.length+1:=by simpa using hb
    have:=(B m hm).1.2;exact N5 (e:m.ia=b) hb this
   ·rw[eB];refine sm.mpr ⟨G.uP,by simp,λa ha b hb e=>?_⟩;refine aq (bW.mp ha) λm hm aa=>?_;subst aa;have hb:b=H.length+2:=by simpa using hb
    have:=(B m hm).2.2;exact N4 (e:m.sa=b) hb this
  ·rw[ek];unfold aY;rw[eB];rfl
  ·rw[cB,W5];intro m hm;rcases ko.mp hm with hm|hm
   ·exact B.mono (by exact yY) m hm
   ·cases fW.mp hm;exact⟨⟨by show lo<=H.length+1;exact B1 ‹_›,by show H.length+1<H.length+3;exact BY⟩,by show lo<=H.length+2;exact Nv ‹_›,by show H.length+2<H.length+3;exact BZ⟩
  ·exact(bh hs.symm).trans (cb S.self)
end
end
section
def fF(H:Hp)(s d lo:Nat)(g:List Ad)(r:AV)(np nf:Int)(n:Nd):Prop:=(ae H s=some (gD d r np nf))/\(∃ep ns,n∈ns/\c7 H d ep ns/\aY ns=g/\Bd lo H.length ns)/\(lo<=s)/\(lo<=d)/\(d<H.length)
section
variable {b1 b2 b3 b4 b5 b6 b7 b8 b9}(x:fF b1 b2 b3 b4 b5 b6 b7 b8 b9)
def fF.mk:=lI (fF b1 b2 b3 b4 b5 b6 b7 b8 b9) rfl
def fF.self:=x.1
def fF.gY:=x.2.1
def fF.nh:=x.2.2.1
def fF.vm:=x.2.2.2.1
def fF.vQ:=x.2.2.2.2
end
section
variable {dd s d lo:Nat}{H:Hp}{g:List Ad}{r:AV}{np nf:Int}{n:Nd}
def fF.G8(S:fF H s d lo g r np nf n):fh H s d lo g r np nf:=(fh.mk S.self (nZ S.gY λep ns O a b c=>⟨ep,ns,a,b,c⟩) S.nh S.vm S.vQ)
def fF.ok(S:fF H s d lo g r np nf n):iX H n:=bB S.gY λep ns a G O=>G.ok n a
def fF.Jt(S:fF H s d lo g r np nf n):lo<=n.ia/\lo<=n.sa:=nZ S.gY λep ns a O O B=>⟨(B n a).1.1,(B n a).2.1⟩
def zE(h1:ae H s=some (gD d r np nf))(h2:ae H n.ia=some (gx n)):n.ia≠s:=λe=>by rw[e,h1] at h2;cases h2
variable {ns:List Nd}
def Hq{f:Nd->Nd}(h:n∈ns):f n∈fo ns n.key f:=bW.mpr ⟨n,h,by rw[g6]⟩
variable {k:Ky}
def BM{v:Int}:aY (fo ns k λm=>{m with np:=v})=mc (aY ns) k λO=>v:=Na (g:=λt=>(t.1,v,t.2.2)) (by intro _;rfl)
def fF.xw(S:fF H s d lo g r np nf n)(v:Int):fF (ai H (gx {n with np:=v}) n.ia) s d lo (mc g n.key λO=>v) r np nf {n with np:=v}:=by refine nZ S.gY λep ns a G aa B=>?_;subst aa;refine(fF.mk ((bh (zE S.self (G.ok n a).inf)).trans S.self) ⟨ep,_,Hq (f:=λm=>{m with np:=v}) a,G.Ho a v,BM,?_⟩ S.nh S.vm (by rw[cB];exact S.vQ));rw[cB];exact B.CA (by intro _;rfl) (by intro _;rfl)
def aeD{f f':Int->Int}(h:∀t∈g,t.1=k->f t.2.1=f' t.2.1):mc g k f=mc g k f':=i6 λt ht=>by
 cases e:ak t.1 k with
 |true=>show(t.1,f t.2.1,t.2.2)=(t.1,f' t.2.1,t.2.2);rw[h t ht (g7 e)]
 |false=>rfl
def aeC(hk:(ns.map (·.key)).Nodup)(hn:n∈ns)(x:Ky):aY (fo ns n.key λm=>{m with su:=n.su++[x]})=qs (aY ns) n.key x:=by
 rw[Na (g:=λt=>(t.1,t.2.1,n.su++[x])) (by intro _;rfl)];unfold qs aY;rw[cI,cI];refine i6 λm hm=>?_;show(match ak m.key n.key with|true=>(m.key,m.np,n.su++[x])|false=>(m.key,m.np,m.su))=match ak m.key n.key with|true=>(m.key,m.np,m.su++[x])|false=>(m.key,m.np,m.su)
 cases e:ak m.key n.key with
 |true=>rw[tj hk m hm n hn (g7 e)]
 |false=>rfl
def Ct(h1:ae H s=some (gD d r np nf))(h2:ae H n.sa=some (cn n.su)):n.sa≠s:=λe=>by rw[e,h1] at h2;cases h2
def fF.U3(S:fF H s d lo g r np nf n)(x:Ky):fF (ai H (cn (n.su++[x])) n.sa) s d lo (qs g n.key x) r np nf {n with su:=n.su++[x]}:=by refine nZ S.gY λep ns a G aa B=>?_;subst aa;refine(fF.mk ((bh (Ct S.self (G.ok n a).dX)).trans S.self) ⟨ep,_,Hq (f:=λm=>{m with su:=n.su++[x]}) a,G.SX a _,aeC G.keys a x,?_⟩ S.nh S.vm (by rw[cB];exact S.vQ));rw[cB];exact B.CA (by intro _;rfl) (by intro _;rfl)
def Ie(S:fh H s d lo g r np nf)(hg:g.length<az):
  ∃H' n,RC P (dd+3) (.glob 36) [.ref s,.str k] H (.ref n.ia) H'/\ba lo H H'/\n.key=k/\fF H' s d lo (iB g k) r np nf n:=by
 obtain⟨H',n,h1,h2,⟨ep,ns,a,b,c,e,f⟩,h3⟩:=UJ (dd:=dd) (k:=k) S hg;exact⟨H',n,h1,h2,b,fF.mk h3 ⟨ep,ns,a,c,e,f⟩ S.nh S.vm (dW S.vQ h2.len)⟩
def cT(g:List Ad)(n:Nat):Prop:=(g.length+n<az)/\(∀t∈g,t.2.2.length+n<az)
section
variable {b1 b2}(x:cT b1 b2)
def cT.mk:=jI (cT b1 b2) rfl
def cT.len:=x.1
def cT.dX:=x.2
end
def cT.key{m:Nat}(h:cT g (m+1)):cT (iB g k) m:=by
 have h1:=h.len;unfold iB;cases rJ k g with
 |true=>exact(cT.mk (by exact qA ‹_›) (λt ht=>by have:=h.dX t ht;exact qA ‹_›))
 |false=>
  refine(cT.mk (by rw[bF];show g.length+1+m<_;exact za ‹_›) (λt ht=>?_));rcases ko.mp ht with ht|ht
  ·have:=h.dX t ht;exact qA ‹_›
  ·rw[fW.mp ht];show 0+m<_;exact N6 ‹_›
def cT.chg{m:Nat}{f:Int->Int}(h:cT g m):cT (mc g k f) m:=by refine(cT.mk (by unfold mc;rw[aJ];exact h.len) (λt ht=>?_));refine aq (bW.mp ht) λu hu aa=>?_;subst aa;cases ak u.1 k<;>exact h.dX u hu
def cT.su{x:Ky}{m:Nat}(h:cT g (m+1)):cT (qs g k x) m:=by
 have h1:=h.len;refine(cT.mk (by unfold qs;rw[aJ];exact qA ‹_›) (λt ht=>?_));refine aq (bW.mp ht) λu hu aa=>?_;subst aa;have:=h.dX u hu;cases ak u.1 k
 ·show u.2.2.length+m<_;exact qA ‹_›
 ·show(u.2.2++[x]).length+m<_;rw[bF];show u.2.2.length+1+m<_;exact za ‹_›
def yR(g:List Ad)(k:Ky)(ps:List Ky):List Ad:=ps.foldl (λg p=>qs (iB g p) p k) (mc (iB g k) k (·+ps.length))
def aen{tup:AV}{u:Option AV}:∀(ps:List Ky) {g:List Ad} {H:Hp} {v w:Option AV},fh H s d lo g .none np nf->cT g (2*ps.length) ->
  ∃H' v' w',RF P (dd+3) (gC (bg Bn.body 3)) (.fix (ps.map .str)) (bz (bg Bn.body 3)) [some (.ref s),some (.str k),some tup,u,v,w] H .next [some (.ref s),some (.str k),some tup,u,v',w'] H' /\
   ba lo H H'/\fh H' s d lo (ps.foldl (λg p=>qs (iB g p) p k) g) .none np nf:=by
 intro ps
 induction ps with
 |nil=>intro g H v w S _;exact⟨H,v,w,gR rfl,ba.refl ..,S⟩
 |cons q ps ih=>
  intro g H v w S F;refine nZ (Ie (dd:=dd) (k:=q) S (by have:=F.len;exact ud ‹_›)) λH1 n h1 h2 h3 S1=>?_;have F1:=(by rw[i5] at F;exact F:cT g (2*ps.length+1+1)).key (k:=q);have fs:=S1.gY;refine nZ fs λep ns a G e B=>?_;clear fs;have D7:n.su.length<az:=by have:=F1.dX (n.key,n.np,n.su) (by rw[<- e];exact bW.mpr ⟨n,a,rfl⟩);have this:n.su.length+(2*ps.length+1)<az:=this;exact ud ‹_›
  have o:=S1.ok;have S2:=S1.U3 k;rw[h3] at S2;obtain⟨H',v',w',h4,h5,S'⟩:=ih (v:=some (.str q)) (w:=some (.ref n.ia)) S2.G8 F1.su;refine⟨H',v',w',?_,(h2.trans (ba.upd S1.Jt.2)).trans h5,S'⟩;refine e8 rfl rfl (aj (bC (mY (af rfl) (ni S.self rfl) (aB rfl (af rfl) aE) h1) (λO=>rfl) rfl rfl) (aj (eM (eN (mk:=.list) (fb (af rfl) (ef o.inf rfl)) (gF o.dX) rfl rfl (aB rfl (af rfl) aE) (kR o.dX (by rw[aJ];exact D7)))) aO)) rfl ?_;have e2:(AO.list (n.su.map .str++[.str k]))=cn (n.su++[k]):=by unfold cn;rw[eB];rfl
  rw[e2];exact h4
def Ig{ps:List Ky}(S:fh H s d lo g .none np nf)(F:cT g (2*ps.length+1)):
  ∃H',RC P (dd+4) (.glob 37) (.ref s::.str k::ps.map .str) H .none H'/\ba lo H H'/\fh H' s d lo (yR g k ps) .none np nf:=by
 refine nZ (Ie (dd:=dd) (k:=k) S (by have:=F.len;exact ud ‹_›)) λH1 n h1 h2 h3 S1=>?_;have o:=S1.ok;have S2:=S1.xw (n.np+ps.length);refine nZ S1.gY λep ns a G e B=>?_;have e1:mc (iB g k) n.key (λO=>n.np+ps.length)=mc (iB g k) k (·+ps.length):=by rw[h3];refine aeD λt ht hk=>?_;rw[<- e] at ht;refine aq (bW.mp ht) λm hm aa=>?_;subst aa;have:m=n:=tj G.keys m hm n a (hk.trans h3.symm);rw[this]
 rw[e1] at S2;refine mR (aen (dd:=dd) (k:=k) (tup:=.tup (ps.map .str)) (u:=some (.ref n.ia)) ps (v:=none) (w:=none) S2.G8 ((F.key (k:=k)).chg (k:=k) (f:=(·+(ps.length:Int))))) λH' v' w' h4 h5 S'=>?_;refine⟨H',?_,(h2.trans (ba.upd S1.Jt.1)).trans h5,S'⟩;have hl:ps.length<=az:=by have:=F.len;exact N7 ‹_›
 refine eT (fd:=Bn) (fl:=.next) (ρ1:=[some (.ref s),some (.str k),some (.tup (ps.map .str)),none,none,none]) rfl ?_ ?_ rfl
 ·show aI (Nat.ble 2 (ps.map AV.str).length.succ.succ&&Nat.ble (ps.map AV.str).length.succ.succ az) _=_;rw[eP.mpr (by exact NB),eP.mpr (by rw[aJ];exact Qt F.len)]
  rfl
 refine⟨[some (.ref s),some (.str k),some (.tup (ps.map .str)),some (.ref n.ia),v',w'],?_⟩;refine aj (bM (t:=false) (bH (fb (af rfl) (ef S.self rfl)) aS rfl) aO) ?_;refine aj (bC (mY (af rfl) (ni S.self rfl) (aB rfl (af rfl) aE) h1) (λO=>rfl) rfl rfl) ?_;refine aj (xg (x:=.int n.np) (y:=.int ps.length) (af rfl) (ef o.inf rfl) (bO (bL rfl) rfl (aB rfl (af rfl) aE) (gk (b:=.len) rfl ?_)) rfl (jB (fs':=[some (.str n.key),some (.int (n.np+ps.length)),some (.ref n.sa)]) o.inf rfl)) ?_
 ·show((some (ps.map AV.str).length).bind λm=>aI (Nat.ble m az) (some (AV.int m,H1)))=_;rw[aJ];show aI (Nat.ble ps.length az) _=_;rw[eP.mpr hl];rfl
 ·exact aj (iN (af rfl) rfl h4) aO
end
end
section
section
variable {P:bP}{U ρ1 ρ2:aC}{H H1 H2:Hp}{d k x:Nat}{a args:C}{s r:S}{p p':Pos}{v:AV}{vs:List AV}
def T6{H3:Hp}(h1:RE P d true a U H v ρ1 H1)(hc:tR v=true)(h2:RA P d true args ρ1 H1 vs ρ2 H2)(h:bo P (λE=>E.call d v vs) ρ2 H2 (.exc x ρ2 H3)):bo P (λE=>E.e d true (.call a args p)) U H (.exc x ρ2 H3):=by refine .step (.bind h1 ?_);show bo P (λE=>match tR v&&true with|true=>M.bind (gZ (E.e d true) (cs args)) λvs=>E.call d v vs|false=>M.stuck) _ _ _;rw[hc];exact .bind h2 h
def TH{ts:C}(hn:∀E,qQ E d true a=E.e d true a)(h:bo P (λE=>E.e d true a) U H (.exc x ρ1 H1)):bo P (λE=>E.s d true (.asg ts a p)) U H (.exc x ρ1 H1):=by refine .step (.Ff ?_);simp only[hn];exact h
def Aa(h:bo P (λE=>E.s d true s) U H (.exc x ρ1 H1)):bo P (λE=>cW (E.s d true) (ss (.cons s r))) U H (.exc x ρ1 H1):=.Ff h
end
structure En where
 n:Nd
 i:Nat
 j:Nat
theorem mZ(k:Ky):∀l:List Ky,aU k l=true↔k∈l
 |[]=>⟨λh=>(nomatch h),λh=>(nomatch h)⟩
 |y::l=>by
  show(match ak y k with|true=>true|false=>aU k l)=true↔_;cases h:ak y k with
  |true=>exact⟨λO=>by rw[g7 h];exact bA,λO=>rfl⟩
  |false=>
   refine(mZ k l).trans ⟨bS _,λh'=>?_⟩;rcases bQ.mp h' with e|h'
   ·rw[e,g6] at h;cases h
   ·exact h'
abbrev Fr:=Ky×List Ky
noncomputable def hJ(E:List En):List Fr:=E.map λe=>(e.n.key,e.n.su.drop e.i)
noncomputable def mM:List Fr->Option (Ky×List Fr)
 |[]=>none
 |f::E=>match f.2 with|[]=>mM E|y::su=>some (y,(f.1,su)::E)
def dE(K:Hp)(ns:List Nd)(E:List En)(seen:List Ky)(H:Hp):Prop:=(∀a,a<K.length->ae H a=ae K a)/\(ae H K.length=some (.list ((E.reverse).map λe=>.str e.n.key)))/\(ae H (K.length+1)=some (.list ((E.reverse).map λe=>.cP e.j)))/\(ae H (K.length+2)=some (.set seen))/\(∃ep l,ae H (K.length+3)=some (.dict ep l)/\l.map (·.1)=((E.reverse).map λe=>e.n.key)/\∀p∈l,∃k:Nat,p.2=.int k/\k<1000)/\(∀e∈E,K.length+4<=e.j/\ae H e.j=some (.iter e.n.sa e.i))/\((E.map (·.j)).Nodup)/\(∀e∈E,e.n∈ns/\e.n.key∈seen)/\((E.map λe=>e.n.key).Nodup)/\(K.length+4<=H.length)/\(E.length<=seen.length)
section
variable {b1 b2 b3 b4 b5}(x:dE b1 b2 b3 b4 b5)
def dE.mk:=λm1 m2 m3 m4 m5 m6 m7 m8 m9 qc qb=>(⟨m1,m2,m3,m4,m5,m6,m7,m8,m9,qc,qb⟩:dE b1 b2 b3 b4 b5)
def dE.low:=x.1
def dE.zB:=x.2.1
def dE.JO:=x.2.2.1
def dE.qZ:=x.2.2.2.1
def dE.Ax:=x.2.2.2.2.1
def dE.it:=x.2.2.2.2.2.1
def dE.js:=x.2.2.2.2.2.2.1
def dE.mem:=x.2.2.2.2.2.2.2.1
def dE.DI:=x.2.2.2.2.2.2.2.2.1
def dE.len:=x.2.2.2.2.2.2.2.2.2.1
def dE.cnt:=x.2.2.2.2.2.2.2.2.2.2
end
section
variable {K:Hp}{ns:List Nd}{seen:List Ky}{dg ep d:Nat}
variable {α:Type}
def ot{β:Type}(f:α->β)(e:α)(E:List α):((e::E).reverse).map f=(E.reverse).map f++[f e]:=by rw[List.reverse_cons,eB];rfl
def Ke(l:List α)(x:α):j7 (-1) (l++[x])=some x:=by
 show aI (Nat.blt 0 (l++[x]).length) (ae (l++[x]) ((l++[x]).length-1))=_;have e:(l++[x]).length=l.length+1:=by rw[bF];rfl
 rw[e];show ae (l++[x]) l.length=_;exact dY
theorem aaW{k:Ky}{v:AV}:∀{l:List (List Nat×AV)},k∉l.map (·.1)->oR k (l++[(k,v)])=l:=by
 intro l
 induction l with
 |nil=>intro _;show(match ak k k with|true=>[]|false=>_)=_;rw[g6]
 |cons p l ih=>intro h;show(match ak p.1 k with|true=>l++[(k,v)]|false=>p::oR k (l++[(k,v)]))=_;rw[bE,bQ,not_or] at h;rw[nD (fi h.1)];exact congrArg (p::·) (ih h.2)
theorem C0{k:Ky}{v:AV}:∀{l:List (List Nat×AV)},k∉l.map (·.1)->eJ k v l=l++[(k,v)]/\c5 k l=false:=by
 intro l
 induction l with
 |nil=>intro _;exact⟨rfl,rfl⟩
 |cons p l ih=>
  intro h;rw[bE,bQ,not_or] at h;refine ua (ih h.2) λh1 h2=>?_;have e:=nD (fi h.1);constructor
  ·show(match ak p.1 k with|true=>(p.1,v)::l|false=>p::eJ k v l)=_;rw[e];exact congrArg (p::·) h1
  ·show(match ak p.1 k with|true=>some p.2|false=>cy k l).isSome=_;rw[e];exact h2
def abe{H:Hp}{n e:Nat}{l:List (List Nat×AV)}{k:List Nat}(h:ae H n=some (.dict e l))(hk:c5 k l=true):yI (.ref n) (.str k) H=some (ai H (.dict (e+1) (oR k l)) n):=by show((cD H n).bind λr=>aI (c5 k r.2) (some (ai H (AO.dict (r.1+1) (oR k r.2)) n)))=_;rw[kc h];show aI (c5 k l) _=_;rw[hk];rfl
noncomputable def fg(s dg L:Nat)(x:Option AV):aC:=[some (.ref s),some (.ref dg),some (.ref L),some (.ref (L+1)),some (.ref (L+2)),some (.ref (L+3)),x]
abbrev Bf:S:=bg Bk.body 5
abbrev mI:S:=bg (bz Bf) 1
abbrev lj:S:=bg (bz mI) 1
def j8{l:List α}{n:Nat}{x:α}(h:ae l n=some x):l.drop n=x::l.drop (n+1):=by
 induction l generalizing n with
 |nil=>exact aR h
 |cons a r ih=>cases n with
  |zero=>obtain rfl:=sj h;rfl
  |succ n=>exact ih h
def ES{l:List α}{n:Nat}(h:ae l n=none):l.drop n=[]:=by
 induction l generalizing n with
 |nil=>exact List.drop_nil
 |cons a r ih=>cases n with
  |zero=>exact aR h.symm
  |succ n=>exact ih h
theorem Q1{s:Nat}(G:∀n∈ns,iX K n):∀(E:List En) {H:Hp} {x:AV},dE K ns E seen H ->
  (∃y H' E',mM (hJ E)=some (y,hJ E')/\RW P d true (gB lj) (bz lj) (iV lj) (fg s dg K.length (some x)) H .next (fg s dg K.length (some (.str y))) H'/\dE K ns E' seen H') \/
  (∃H',mM (hJ E)=none/\RW P d true (gB lj) (bz lj) (iV lj) (fg s dg K.length (some x)) H .brk (fg s dg K.length (some x)) H'/\dE K ns [] seen H'):=by
 intro E
 induction E with
 |nil=>intro H x D;refine .inr ⟨H,rfl,?_,D⟩;refine mV (kE (af rfl) (wM D.zB)) (cK CH nofun)
 |cons e E gH=>
  intro H x D;refine ua (D.mem e bA) λm1 m2=>?_;refine ua (D.it e bA) λj1 j2=>?_;have hs:ae H e.n.sa=some (cn e.n.su):=(D.low _ (bk (G e.n m1).dX)).trans (G e.n m1).dX;have oG:=D.zB;have hit:=D.JO;rw[ot (λe:En=>AV.str e.n.key)] at oG;rw[ot (λe:En=>AV.cP e.j)] at hit;have tr:gQ (.ref K.length) H=some true:=by rw[wM oG];cases (List.map (λe:En=>AV.str e.n.key) E.reverse)<;>rfl
  have keep:∀{o:AO} {a:Nat},a<K.length+4->ae (ai H o e.j) a=ae H a:=λh=>bh ((λh=>NX ‹_› h:∀{a:Nat},a<K.length+4->e.j≠a) h);have js:=D.js;rw[bE,ie] at js;have other:∀{o:AO},∀e'∈E,ae (ai H o e.j) e'.j=ae H e'.j:=λe' h'=>bh λq=>js.1 (bW.mpr ⟨e',h',q.symm⟩);have pw:=D.DI;rw[bE,ie] at pw;cases hy:ae e.n.su e.i with
  |some y=>
   have rc:=UA (P:=P) (d:=d) (v:=.str y) (JR j2) (dy hs) (by rw[ip,hy];rfl);refine .inl ⟨y,ai H (.iter e.n.sa (e.i+1)) e.j,{e with i:=e.i+1}::E,by show(match e.n.su.drop e.i with|[]=>mM (hJ E)|y::su=>some (y,(e.n.key,su)::hJ E))=_;rw[j8 hy];rfl,?_,?_⟩
   ·exact xe (f:=.brk) (kE (af rfl) tr) (cK (HG (aj (bC (bO (dP (af rfl) (CW aS rfl) (sQ hit (Ke _ _))) rfl aE rc) (λO=>rfl) rfl rfl) (cK CH nofun))) nofun) rfl
   ·refine bB D.Ax λep l n1 n2 n0=>?_;refine(dE.mk (λa ha=>(keep (by exact FJ ‹_›)).trans (D.low a ha)) (by rw[ot (λe:En=>AV.str e.n.key)];exact(keep (by exact FA)).trans oG) (by rw[ot (λe:En=>AV.cP e.j)];exact(keep (by exact Fz)).trans hit) ((keep (by exact BY)).trans D.qZ) ⟨ep,l,(keep (by exact BZ)).trans n1,by rw[n2,ot (λe:En=>e.n.key),ot (λe:En=>e.n.key)],n0⟩ (λe' fO=>?_) D.js (λe' fO=>?_) D.DI (by rw[cB];exact D.len) D.cnt)
    ·rcases bQ.mp fO with rfl|fO
     ·exact⟨j1,cV (bk j2)⟩
     ·exact⟨(D.it e' (bS _ fO)).1,(other e' fO).trans (D.it e' (bS _ fO)).2⟩
    ·rcases bQ.mp fO with rfl|fO
     ·exact⟨m1,m2⟩
     ·exact D.mem e' (bS _ fO)
  |none=>
   refine bB D.Ax λep l n1 n2 n0=>?_;rw[ot (λe:En=>e.n.key)] at n2;refine bB (List.map_eq_append_iff.mp n2) λl0 l1 aa n3 n4=>?_;subst aa;obtain⟨q,rfl,n5⟩:∃q,l1=[q]/\q.1=e.n.key:=by
    cases l1 with
    |nil=>exact absurd (congrArg List.length n4) (by simp)
    |cons q l1=>cases l1 with
     |nil=>exact⟨q,rfl,(nQ n4).1⟩
     |cons=>exact absurd (congrArg List.length n4) (by simp)
   obtain⟨qk,qv⟩:=q;have n5:qk=e.n.key:=n5;rw[n5] at n1;clear n2 n4 n5;have fresh:e.n.key∉l0.map (·.1):=λhm=>by rw[n3] at hm;refine aq (bW.mp hm) λe' fO q=>?_;exact pw.1 (bW.mpr ⟨e',wy.mp fO,q⟩)
   have stop:=Un (P:=P) (d:=d) (U:=fg s dg K.length (some x)) (JR j2) (dy hs) (by rw[ip,hy];rfl);have a1:ae (ai H .dead e.j) K.length=some (.list ((E.reverse).map (λe:En=>AV.str e.n.key)++[.str e.n.key])):=(keep (by exact FA)).trans oG;have a2:ae (ai H .dead e.j) (K.length+1)=some (.list ((E.reverse).map (λe:En=>AV.cP e.j)++[.cP e.j])):=(keep (by exact Fz)).trans hit;have a3:ae (ai H .dead e.j) (K.length+3)=some (.dict ep (l0++[(e.n.key,qv)])):=(keep (by exact BZ)).trans n1;have a4:ae (ai H .dead e.j) (K.length+2)=some (.set seen):=(keep (by exact BY)).trans D.qZ;have W6:(ai H .dead e.j).length=H.length:=cB;have vh:∀a,a<K.length->ae (ai H .dead e.j) a=ae K a:=λa ha=>(keep (by exact FJ ‹_›)).trans (D.low a ha);have iP:∀e'∈E,K.length+4<=e'.j/\ae (ai H .dead e.j) e'.j=some (.iter e'.n.sa e'.i):=λe' fO=>⟨(D.it e' (bS _ fO)).1,(other e' fO).trans (D.it e' (bS _ fO)).2⟩;generalize ai H .dead e.j=H1 at *;have del:yI (.ref (K.length+3)) (.str e.n.key) (ai H1 (.list ((E.reverse).map λe:En=>AV.str e.n.key)) K.length)=some (ai (ai H1 (.list ((E.reverse).map λe:En=>AV.str e.n.key)) K.length) (.dict (ep+1) l0) (K.length+3)):=by
    have:c5 e.n.key (l0++[(e.n.key,qv)])=true:=by
     cases h:c5 e.n.key (l0++[(e.n.key,qv)]) with
     |true=>rfl
     |false=>
      have h2:∀l:List (List Nat×AV),c5 e.n.key (l++[(e.n.key,qv)])=true:=λl=>by
       induction l with
       |nil=>show(match ak e.n.key e.n.key with|true=>some qv|false=>none).isSome=true;rw[g6];rfl
       |cons p l ih=>
        show(match ak p.1 e.n.key with|true=>some p.2|false=>cy e.n.key (l++[(e.n.key,qv)])).isSome=true;cases ak p.1 e.n.key with
        |true=>rfl
        |false=>exact ih
      rw[h2] at h;cases h
    have r:=abe (H:=ai H1 (.list ((E.reverse).map λe:En=>AV.str e.n.key)) K.length) (n:=K.length+3) ((bh (by exact B3)).trans a3) this;rwa[aaW fresh] at r
   have D':dE K ns E seen (ai (ai (ai H1 (.list ((E.reverse).map λe:En=>AV.str e.n.key)) K.length) (.dict (ep+1) l0) (K.length+3)) (.list ((E.reverse).map λe:En=>AV.cP e.j)) (K.length+1)):=by
    have k3:∀{a},a≠K.length->a≠K.length+1->a≠K.length+3->ae (ai (ai (ai H1 (.list ((E.reverse).map λe:En=>AV.str e.n.key)) K.length) (.dict (ep+1) l0) (K.length+3)) (.list ((E.reverse).map λe:En=>AV.cP e.j)) (K.length+1)) a=ae H1 a:=λh1 h2 h3=>by rw[bh (fi h2),bh (fi h3),bh (fi h1)]
    have hl:=D.len;refine(dE.mk (λa ha=>(k3 (by exact BX ‹_›) (by exact FO ‹_›) (by exact FK ‹_›)).trans (vh a ha)) ?_ ?_ ((k3 (by exact yZ) (by exact B2) (by exact uf)).trans a4) ⟨ep+1,l0,?_,n3,λp hp=>n0 p (nT _ hp)⟩ (λe' fO=>⟨(iP e' fO).1,?_⟩) js.2 (λe' fO=>D.mem e' (bS _ fO)) pw.2 (by rw[cB,cB,cB,W6];exact D.len) (nR D.cnt))
    ·rw[bh (by exact NC),bh (by exact ND),cV (by exact N8 ‹_› ‹_›)]
    ·rw[cV (by rw[cB,cB];exact NY ‹_› ‹_›)]
    ·rw[bh (by exact FP),cV (by rw[cB];exact B0 ‹_› ‹_›)]
    ·have:=(iP e' fO).1;exact(k3 (by exact FN ‹_›) (by exact FG ‹_›) (by exact FF ‹_›)).trans (iP e' fO).2
   have turn:∀{fl ρ' H'},RW P d true (gB lj) (bz lj) (iV lj) (fg s dg K.length (some x)) (ai (ai (ai H1 (.list ((E.reverse).map λe:En=>AV.str e.n.key)) K.length) (.dict (ep+1) l0) (K.length+3)) (.list ((E.reverse).map λe:En=>AV.cP e.j)) (K.length+1)) fl ρ' H'->RW P d true (gB lj) (bz lj) (iV lj) (fg s dg K.length (some x)) H fl ρ' H':=λ{fl ρ' H'} h=>by
    refine kD (f:=.next) (kE (af rfl) tr) (aj (HH (Aa (TH (λO=>rfl) (T6 (dP (af rfl) (CW aS rfl) (sQ hit (Ke _ _))) rfl aE stop))) rfl ?_) aO) rfl h;refine aj (TK (af rfl) (eN (mk:=.list) (af rfl) (gF a1) rfl rfl aE (C5 a1)) del) ?_;have a5:ae (ai (ai H1 (.list ((E.reverse).map λe:En=>AV.str e.n.key)) K.length) (.dict (ep+1) l0) (K.length+3)) (K.length+1)=some (.list ((E.reverse).map (λe:En=>AV.cP e.j)++[.cP e.j])):=by rw[bh (by exact yZ),bh (by exact uf)];exact a2
    exact aj (eM (eN (mk:=.list) (af rfl) (gF a5) rfl rfl aE (C5 a5))) aO
   have eu:mM (hJ (e::E))=mM (hJ E):=by show(match e.n.su.drop e.i with|[]=>mM (hJ E)|y::su=>some (y,(e.n.key,su)::hJ E))=_;rw[ES hy]
   rw[eu];rcases gH D' (x:=x) with⟨y,H',E1,b1,b2,b3⟩|⟨H',b1,b2,b3⟩
   ·exact .inl ⟨y,H',E1,b1,turn b2,b3⟩
   ·exact .inr ⟨H',b1,turn b2,b3⟩
end
end
section
section
variable {K:Hp}{ns:List Nd}{seen:List Ky}{dg ep d s:Nat}
variable {H:Hp}{n:Nat}{k:Ky}
def AR{l:List Ky}(h:ae H n=some (.set l)):fQ .In (.str k) (.ref n) H=some (aU k l):=by
 have e1:bx H n=none:=by unfold bx;rw[h];rfl
 have e2:cD H n=none:=by unfold cD;rw[h];rfl
 show(match bx H n with|some l=>_|none=>(match cD H n with|some r=>some (c5 k r.2)|none=>(oh H n).map λl=>aU k l))=_;rw[e1,e2,Ht h];rfl
def AS{e:Nat}{l:List (List Nat×AV)}(h:ae H n=some (.dict e l)):fQ .In (.str k) (.ref n) H=some (c5 k l):=by show(match bx H n with|some l=>_|none=>(match cD H n with|some r=>some (c5 k r.2)|none=>(oh H n).map λl=>aU k l))=_;rw[xI h,kc h]
def yl:∀l:List (List Nat×AV),c5 k l=aU k (l.map (·.1)):=by
 intro l
 induction l with
 |nil=>rfl
 |cons p l ih=>
  show(match ak p.1 k with|true=>some p.2|false=>cy k l).isSome=(match ak p.1 k with|true=>true|false=>aU k (l.map (·.1)));cases ak p.1 k with
  |true=>rfl
  |false=>exact ih
def WQ:∀{l:List (List Nat×AV)},c5 k l=true->∃p∈l,cy k l=some p.2:=by
 intro l
 induction l with
 |nil=>intro h;exact nomatch h
 |cons p l ih=>
  intro h;have h:(match ak p.1 k with|true=>some p.2|false=>cy k l).isSome=true:=h;show ∃q∈p::l,(match ak p.1 k with|true=>some p.2|false=>cy k l)=some q.2;cases e:ak p.1 k with
  |true=>exact⟨p,bA,rfl⟩
  |false=>rw[e] at h;exact aq (ih h) λq hq h2=>⟨q,bS _ hq,h2⟩
def V9(E:List En):aU k ((E.reverse).map λe=>e.n.key)=aU k (E.map λe=>e.n.key):=by rw[pg,mZ,mZ,List.map_reverse,wy]
def ael{l:List Ky}(h:ae H n=some (.set l))(hk:aU k l=false)(hl:l.length<1000):lL .set 8 (.ref n) [.str k] H=some (.none,ai H (.set (l++[k])) n):=by show((oh H n).bind λl=>aI (Nat.blt l.length 1000) (some (AV.none,match aU k l with|true=>H|false=>ai H (.set (l++[k])) n)))=_;rw[Ht h];show aI (Nat.blt l.length 1000) (some (AV.none,match aU k l with|true=>H|false=>ai H (.set (l++[k])) n))=_;rw[bG.mpr hl,hk];rfl
def ad0{P:bP}{m i:Nat}(h:ae H n=some (.iter m i)):qo P 9 (.ref n) H=some (.cP n):=by
 show((ae H n).bind λo=>match o with
 |.inst c fs=>(l8 P c).bind λcd=>(ae fs (gz cd.bD 9)).bind λr=>r
 |.iter _ _=>aI (Nat.beq 9 9) (some (.cP n))
 |_=>none)=_
 rw[h];rfl
def UG{l:List AV}(h:ae H n=some (.list l)):RC P d (.glob 31) [.ref n] H (.ref H.length) (H++[.iter n 0]):=gk (b:=.iter) rfl (by show((bx H n).map λO=>(AV.ref H.length,H++[.iter n 0]))=_;rw[dy h];rfl)
section
variable {E:List En}{H:Hp}{k0:Ky}
def KQ(D:dE K ns E seen H):∃e l,ae H (K.length+3)=some (.dict e l)/\c5 k0 l=aU k0 (E.map λe=>e.n.key)/\∀p∈l,∃k:Nat,p.2=.int k/\k<1000:=by refine bB D.Ax λe l n1 n2 n3=>⟨e,l,n1,?_,n3⟩;rw[yl,n2,V9]
def Wh(D:dE K ns E seen H)(hm:aU k0 seen=true)(hk:aU k0 (E.map λe=>e.n.key)=false):RS P (d+1) true (bg (bz mI) 0) (fg s dg K.length (some (.str k0))) H .next (fg s dg K.length (some (.str k0))) H:=by have j6:=AR (k:=k0) D.qZ;rw[hm] at j6;refine bB (KQ (k0:=k0) D) λe l n1 n2 n3=>?_;have inD:=AS (k:=k0) n1;rw[n2,hk] at inD;exact bM (bH (af rfl) (af rfl) j6) (aj (bM (bH (af rfl) (af rfl) inD) aO) aO)
def Wg(D:dE K ns E seen H)(hm:aU k0 seen=true)(hk:aU k0 (E.map λe=>e.n.key)=true)(hs:seen.length<1000):∃v,RS P (d+1) true (bg (bz mI) 0) (fg s dg K.length (some (.str k0))) H (.ret v) (fg s dg K.length (some (.str k0))) H/\gQ v=λO=>some true:=by
 have j6:=AR (k:=k0) D.qZ;rw[hm] at j6;refine bB (KQ (k0:=k0) D) λe l n1 n2 n3=>?_;have inD:=AS (k:=k0) n1;rw[n2,hk] at inD;rw[hk] at n2;refine aq (WQ n2) λq hq e1=>?_;refine aq (n3 q hq) λk e2 YN=>?_;rw[e2] at e1;have sl:kC (.ref K.length) (.int k) .none H=some (.lst (((E.reverse).map λe=>AV.str e.n.key).drop k)):=by show((bx H K.length).bind λl=>(aI (Nat.ble k az) (some (some (k:Int)))).bind λa=>some (AV.lst (dA a none l)))=_;rw[dy D.zB,eP.mpr (aM (fG YN) (by decide:1000<=az))];rfl
 have hl:(((E.reverse).map λe=>AV.str e.n.key).drop k).length+1<=az:=by rw[qC,aJ,ig];exact aM (zc (aM (nU _ _) (aM D.cnt (fG hs))) 1) (by decide:1001<=az)
 have ad:iA .Add (.lst (((E.reverse).map λe=>AV.str e.n.key).drop k)) (.lst [.str k0]) H=some (.lst (((E.reverse).map λe=>AV.str e.n.key).drop k++[.str k0])):=by show aI (Nat.ble ((((E.reverse).map λe=>AV.str e.n.key).drop k).length+1) az) _=_;rw[eP.mpr hl];rfl
 refine⟨_,bM (bH (af rfl) (af rfl) j6) (cK (bM (bH (af rfl) (af rfl) inD) (cK (fX (du (jc (af rfl) (iO (dP (af rfl) (af rfl) (Cs n1 e1)) λO=>rfl) jD sl) (e9 (aB rfl (af rfl) aE) rfl) ad) λO=>rfl) nofun)) nofun),?_⟩
 funext H'
 show some (!(((E.reverse).map λe=>AV.str e.n.key).drop k++[AV.str k0]).isEmpty)=_;cases ((E.reverse).map λe=>AV.str e.n.key).drop k<;>rfl
def Wi{n0:Nd}(G:c7 K dg ep ns)(D:dE K ns E seen H)(h0:n0∈ns)(hm:aU n0.key seen=false)(hs:seen.length<1000):
  ∃H' j,RS P (d+1) true (bg (bz mI) 0) (fg s dg K.length (some (.str n0.key))) H .next (fg s dg K.length (some (.str n0.key))) H'/\dE K ns (⟨n0,0,j⟩::E) (seen++[n0.key]) H':=by
 refine bB D.Ax λed l n1 n2 nI=>?_;have IQ:n0.key∉E.map λe=>e.n.key:=λh=>by refine aq (bW.mp h) λe he q=>?_;have:=(mZ _ _).mpr (D.mem e he).2;rw[q,hm] at this;cases this
 have fresh:n0.key∉l.map (·.1):=λh=>by rw[n2,List.map_reverse,wy] at h;exact IQ h
 have j6:=AR (k:=n0.key) D.qZ;rw[hm] at j6;have hlen:=D.len;have YW:=D.cnt;have hE:E.length<1000:=by exact Ou ‹_› ‹_›
 have hz:(1000:Nat)<=az:=by decide
 have g0:=G.ok n0 h0;have aeo:=ael D.qZ hm hs;have b1:∀{a},a≠K.length+2->ae (ai H (.set (seen++[n0.key])) (K.length+2)) a=ae H a:=λh=>bh (fi h);have c2:ae (ai H (.set (seen++[n0.key])) (K.length+2)) (K.length+2)=some (.set (seen++[n0.key])):=cV (by exact qA ‹_›);have l1:(ai H (.set (seen++[n0.key])) (K.length+2)).length=H.length:=cB;have vh:∀a,a<K.length->ae (ai H (.set (seen++[n0.key])) (K.length+2)) a=ae K a:=λa ha=>(b1 (by exact Ny ‹_›)).trans (D.low a ha);have R8:=(b1 (by exact NF)).trans D.zB;have JN:=(b1 (by exact uf)).trans D.JO;have VZ:=(b1 (by exact B2)).trans n1;have iP:∀e∈E,K.length+4<=e.j/\ae (ai H (.set (seen++[n0.key])) (K.length+2)) e.j=some (.iter e.n.sa e.i):=λe he=>⟨(D.it e he).1,(b1 (by have:=(D.it e he).1;exact Oj ‹_›)).trans (D.it e he).2⟩;generalize ai H (.set (seen++[n0.key])) (K.length+2)=H1 at *;have xU:∀a x,ae H1 a=some x->ae (H1++[.iter n0.sa 0]) a=some x:=λa x h=>cb h;have nw:ae (H1++[.iter n0.sa 0]) H1.length=some (.iter n0.sa 0):=dY;have l2:(H1++[AO.iter n0.sa 0]).length=H.length+1:=by rw[bF,l1];rfl
 have WK:∀a,a<K.length->ae (H1++[.iter n0.sa 0]) a=ae K a:=λa ha=>(uZ (NR ‹K.length+4<=H.length› ha l1)).trans (vh a ha);have R7:=xU _ _ R8;have XJ:=xU _ _ JN;have VY:=xU _ _ VZ;have S6:=xU _ _ c2;have nj:∀e∈E,K.length+4<=e.j/\ae (H1++[.iter n0.sa 0]) e.j=some (.iter e.n.sa e.i):=λe he=>⟨(iP e he).1,xU _ _ (iP e he).2⟩;have XH:∀e∈E,e.j<H1.length:=λe he=>bk (iP e he).2;have f3:RC P (d+1) (.glob 31) [.ref n0.sa] H1 (.ref H1.length) (H1++[.iter n0.sa 0]):=UG ((vh _ (bk g0.dX)).trans g0.dX);have s1:lB (.ref dg) (.str n0.key) H1=some (.ref n0.ia):=Cs ((vh _ (bk G.dct)).trans G.dct) (AI G.keys n0 h0);have s2:qo P 21 (.ref n0.ia) H1=some (.ref n0.sa):=ef ((vh _ (bk g0.inf)).trans g0.inf) rfl;have s3:qo P 9 (.ref H1.length) (H1++[.iter n0.sa 0])=some (.cP H1.length):=ad0 nw;generalize K2:H1++[.iter n0.sa 0]=H2 at *;have ap1:=kR (v:=.cP H1.length) XJ (by rw[aJ,ig];exact B4 ‹_› ‹_›);have b3:∀{a},a≠K.length+1->ae (ai H2 (.list ((E.reverse).map (λe:En=>AV.cP e.j)++[.cP H1.length])) (K.length+1)) a=ae H2 a:=λh=>bh (fi h);have XI:ae (ai H2 (.list ((E.reverse).map (λe:En=>AV.cP e.j)++[.cP H1.length])) (K.length+1)) (K.length+1)=some (.list ((E.reverse).map (λe:En=>AV.cP e.j)++[.cP H1.length])):=cV (by exact NP ‹_› ‹_›);have l3:(ai H2 (.list ((E.reverse).map (λe:En=>AV.cP e.j)++[.cP H1.length])) (K.length+1)).length=H.length+1:=cB.trans l2;generalize ai H2 (.list ((E.reverse).map (λe:En=>AV.cP e.j)++[.cP H1.length])) (K.length+1)=H3 at *;have GW:=(b3 (by exact uf)).trans R7;have VX:=(b3 (by exact yZ)).trans VY;have f4:=xu (d:=d+1) GW (by rw[aJ,ig];exact FT ‹_› ‹_›);have st:=w7 (k:=n0.key) (v:=.int (((E.reverse).map λe:En=>AV.str e.n.key).length:Nat)) VX (by have:=congrArg List.length n2;rw[aJ,aJ,ig] at this;exact NU ‹_› ‹_› ‹_›)
 refine ua (C0 (v:=.int (((E.reverse).map λe:En=>AV.str e.n.key).length:Nat)) fresh) λp1 p2=>?_;rw[p1,p2] at st;dsimp only at st;have b4:∀{o:AO} {a},a≠K.length+3->ae (ai H3 o (K.length+3)) a=ae H3 a:=λh=>bh (fi h);have VW:∀{o:AO},ae (ai H3 o (K.length+3)) (K.length+3)=some o:=cV (by exact NO ‹_› ‹_›);have l4:∀{o:AO},(ai H3 o (K.length+3)).length=H.length+1:=cB.trans l3;have GV:=λ{o:AO}=>(b4 (o:=o) (by exact B3)).trans GW;have ap2:=kR (v:=.str n0.key) (GV (o:=.dict (ed+1) (l++[(n0.key,.int (((E.reverse).map λe:En=>AV.str e.n.key).length:Nat))]))) (by rw[aJ,ig];exact B4 ‹_› ‹_›);refine⟨_,H1.length,bM (bH (af rfl) (af rfl) j6)
  (aj (eM (eN (mk:=.set) (af rfl) (Xu D.qZ) rfl rfl (aB rfl (af rfl) aE) aeo))
  (aj (eM (eN (mk:=.list) (af rfl) (gF JN) rfl rfl (aB rfl (fb (bO (bL rfl) rfl (aB rfl (fb (dP (af rfl) (af rfl) s1) s2) aE) f3) s3) aE) ap1))
  (aj (pR (bO (bL rfl) rfl (aB rfl (af rfl) aE) f4) (λO=>rfl) (af rfl) (af rfl) st)
  (aj (eM (eN (mk:=.list) (af rfl) (gF GV) rfl rfl (aB rfl (af rfl) aE) ap2)) aO)))),?_⟩
 ·have kk:∀{a},a≠K.length->a≠K.length+1->a≠K.length+3->∀{o o':AO},ae (ai (ai H3 o (K.length+3)) o' K.length) a=ae H2 a:=by intro a h1 h2 h3 o o';rw[bh (fi h1),b4 h3,b3 h2]
  refine(dE.mk (λa ha=>(kk (by exact BX ‹_›) (by exact FO ‹_›) (by exact FK ‹_›)).trans (WK a ha)) ?_ ?_ ((kk (by exact yZ) (by exact B2) (by exact uf)).trans S6) ⟨ed+1,l++[(n0.key,.int (((E.reverse).map λe:En=>AV.str e.n.key).length:Nat))],?_,?_,?_⟩ (λe he=>?_) ?_ (λe he=>?_) ?_ ?_ ?_)
  ·rw[ot (λe:En=>AV.str e.n.key),cV (by rw[l4];exact Oi ‹_›)]
  ·rw[ot (λe:En=>AV.cP e.j),bh (by exact uf),b4 (by exact FP)];exact XI
  ·rw[bh (by exact B3)];exact VW
  ·rw[eB,n2,ot (λe:En=>e.n.key)];rfl
  ·intro p hp;rcases ko.mp hp with hp|hp
   ·exact nI p hp
   ·obtain rfl:=fW.mp hp;exact⟨_,rfl,by rw[aJ,ig];exact hE⟩
  ·rcases bQ.mp he with rfl|he
   ·exact⟨by show K.length+4<=H1.length;exact B0 ‹_› ‹_›,(kk (by show H1.length≠_;exact Ob ‹_› ‹_›) (by show H1.length≠_;exact NZ ‹_› ‹_›) (by show H1.length≠_;exact Oq ‹_› ‹_›)).trans nw⟩
   ·have:=(nj e he).1;exact⟨this,(kk (by exact FN ‹_›) (by exact FG ‹_›) (by exact FF ‹_›)).trans (nj e he).2⟩
  ·rw[bE,ie];refine⟨λhm=>?_,D.js⟩;refine aq (bW.mp hm) λe he q=>?_;have:=XH e he;have q:e.j=H1.length:=q;exact jQ _ (q▸this)
  ·rcases bQ.mp he with rfl|he
   ·exact⟨h0,mE _ bA⟩
   ·exact⟨(D.mem e he).1,nT _ (D.mem e he).2⟩
  ·rw[bE,ie];exact⟨IQ,D.DI⟩
  ·rw[cB,l4];exact B1 ‹_›
  ·rw[bF];exact si YW
end
end
end
section
def oN(k:Ky)(g:List Ad):Option (List Ky):=List.rec (motive:=λO=>Option (List Ky)) none (λp O ih=>match ak p.1 k with|true=>some p.2.2|false=>ih) g
def lY(f:Ky->List Fr->List Ky->Option (Option (List Ky)))(E:List Fr)(seen:List Ky):Option (Option (List Ky)):=match mM E with|none=>some (some seen)|some p=>f p.1 p.2 seen
def iy(g:List Ad)(m:Nat):Ky->List Fr->List Ky->Option (Option (List Ky)):=Nat.rec (motive:=λO=>Ky->List Fr->List Ky->Option (Option (List Ky))) (λO O O=>none) (λO ih k E seen=>match Nat.blt seen.length 1000 with
 |false=>none
 |true=>match aU k seen with
  |true=>match aU k (E.map (·.1)) with|true=>some none|false=>lY ih E seen
  |false=>(oN k g).bind λsu=>lY ih ((k,su)::E) (seen++[k])) m
def jl(g:List Ad)(l:List Ad):List Ky->Option Bool:=List.rec (motive:=λO=>List Ky->Option Bool) (λO=>some false) (λp O ih seen=>match aU p.1 seen with
 |true=>ih seen
 |false=>(iy g 300 p.1 [] seen).bind λr=>match r with|none=>some true|some seen=>ih seen) l
def Nl(K:Hp)(ns:List Nd)(r:Option (List Ky))(fl:Fl)(H':Hp):Prop:=match r with
 |none=>∃v,fl=.ret v/\(gQ v=λO=>some true)/\ba K.length K H'
 |some seen=>fl=.next/\dE K ns [] seen H'
section
variable {K:Hp}{ns:List Nd}{seen:List Ky}{dg ep d s:Nat}
def xf{P:bP}{q t:Bool}{U:aC}{H:Hp}{c:Const}{v:AV}{k:Nat}{p:Pos}(h:gQ v H=some t):RT P d q (.cst c v k p) U H t U H:=.step (.bind aS (.rd h))
def Df{α:Type}{l:List α}{n:Nat}{x:α}(h:ae l n=some x):x∈l:=by
 induction l generalizing n with
 |nil=>exact aR h
 |cons a r ih=>cases n with
  |zero=>obtain rfl:=sj h;exact bA
  |succ n=>exact bS _ (ih h)
def WR{k:Ky}{su:List Ky}:∀{ns:List Nd},oN k (aY ns)=some su->∃n∈ns,n.key=k/\n.su=su:=by
 intro ns
 induction ns with
 |nil=>intro h;exact aR h
 |cons n ns ih=>
  intro h;have h:(match ak n.key k with|true=>some n.su|false=>oN k (aY ns))=some su:=h;cases e:ak n.key k with
  |true=>rw[e] at h;exact⟨n,bA,g7 e,sj h⟩
  |false=>rw[e] at h;exact aq (ih h) λm hm q=>⟨m,bS _ hm,q⟩
def dE.Js{E:List En}{H:Hp}(D:dE K ns E seen H):ba K.length K H:=ba.mk (aM (eE _ 4) D.len) D.low
def aex(E:List En):(hJ E).map (·.1)=E.map λe=>e.n.key:=by unfold hJ;rw[cI];rfl
def aba(G:c7 K dg ep ns):∀(m:Nat) {E:List En} {seen:List Ky} {H:Hp} {k:Ky} {r:Option (List Ky)},dE K ns E seen H->iy (aY ns) m k (hJ E) seen=some r ->
  ∃fl H' x',RW P (d+1) true (gB mI) (bz mI) (iV mI) (fg s dg K.length (some (.str k))) H fl (fg s dg K.length (some x')) H'/\Nl K ns r fl H':=by
 intro m
 induction m with
 |zero=>intro E seen H k r D h;exact aR h
 |succ m ih=>
  intro E seen H k r D h;have h:(match Nat.blt seen.length 1000 with
   |false=>none
   |true=>match aU k seen with
    |true=>match aU k ((hJ E).map (·.1)) with|true=>some none|false=>lY (iy (aY ns) m) (hJ E) seen
    |false=>(oN k (aY ns)).bind λsu=>lY (iy (aY ns) m) ((k,su)::hJ E) (seen++[k]))=some r:=h
  cases hs:Nat.blt seen.length 1000 with
  |false=>rw[hs] at h;exact aR h
  |true=>
  rw[hs] at h;have hs:=bG.mp hs;have go:∀{E1 zP H1},RS P (d+1) true (bg (bz mI) 0) (fg s dg K.length (some (.str k))) H .next (fg s dg K.length (some (.str k))) H1->dE K ns E1 zP H1->lY (iy (aY ns) m) (hJ E1) zP=some r ->
    ∃fl H' x',RW P (d+1) true (gB mI) (bz mI) (iV mI) (fg s dg K.length (some (.str k))) H fl (fg s dg K.length (some x')) H'/\Nl K ns r fl H':=λ{E1 zP H1} r1 D1 g1=>by
   unfold lY at g1;rcases Q1 (d:=d+1) (s:=s) (dg:=dg) G.ok E1 D1 (x:=.str k) with⟨y,H2,E2,e,r2,D2⟩|⟨H2,e,r2,D2⟩
   ·rw[e] at g1;refine cO (ih D2 g1) λfl H' x' r3 o=>⟨fl,H',x',kD (f:=.next) (xf rfl) (aj r1 (aj (kF r2) aO)) rfl r3,o⟩
   ·rw[e] at g1;obtain rfl:=sj g1;exact⟨.next,H2,_,xe (f:=.brk) (xf rfl) (aj r1 (cK (kF r2) nofun)) rfl,rfl,D2⟩
  cases hm:aU k seen with
  |true=>
   rw[hm] at h;have h:(match aU k ((hJ E).map (·.1)) with|true=>some none|false=>lY (iy (aY ns) m) (hJ E) seen)=some r:=h;rw[aex] at h;cases hk:aU k (E.map λe=>e.n.key) with
   |true=>rw[hk] at h;obtain rfl:=sj h;refine aq (Wg (d:=d) (s:=s) (dg:=dg) D hm hk hs) λv r1 t=>?_;exact⟨.ret v,H,_,xe (f:=.ret v) (xf rfl) (cK r1 nofun) rfl,v,rfl,t,D.Js⟩
   |false=>rw[hk] at h;exact go (Wh D hm hk) D h
  |false=>rw[hm] at h;refine ub h λsu e h=>?_;refine aq (WR e) λn hn q=>?_;obtain⟨rfl,rfl⟩:=q;refine dN (Wi (d:=d) (s:=s) G D hn hm hs) λH1 j r1 D1=>?_;exact go r1 D1 h
def vR{H:Hp}{n e i:Nat}{l:List (List Nat×AV)}(h:ae H n=some (.dict e l)):(bJ.dct n i l.length e).next H=some ((ae l i).map λp=>(.str p.1,.dct n (i+1) l.length e)):=by show((cD H n).bind λr=>aI (Nat.beq r.2.length l.length&&Nat.beq r.1 e) (some ((ae r.2 i).map λp=>(AV.str p.1,bJ.dct n (i+1) l.length e))))=_;rw[kc h];show aI (Nat.beq l.length l.length&&Nat.beq e e) _=_;rw[fV,fV];rfl
def Z0(G:c7 K dg ep ns){b:Bool}:∀(k i:Nat) {seen:List Ky} {H:Hp} {x:Option AV},i+k=ns.length->dE K ns [] seen H->jl (aY ns) ((aY ns).drop i) seen=some b ->
  ∃fl H' x',RF P (d+1) (gC Bf) (.dct dg i (dS ns).length ep) (bz Bf) (fg s dg K.length x) H fl (fg s dg K.length x') H'/\ba K.length K H'/\match b with|true=>∃v,fl=.ret v/\(gQ v=λO=>some true)|false=>fl=.next:=by
 intro k
 induction k with
 |zero=>intro i seen H x hk D h;have hd:ae H dg=some (.dict ep (dS ns)):=(D.low _ (bk G.dct)).trans G.dct;rw[pD (by unfold aY;rw[aJ];exact hU ‹_›)] at h;obtain rfl:=sj h;refine⟨.next,H,x,gR ?_,D.Js,rfl⟩;rw[vR hd,pX (by unfold dS;rw[aJ];exact hU ‹_›)];rfl
 |succ k ih=>
  intro i seen H x hk D h;have hd:ae H dg=some (.dict ep (dS ns)):=(D.low _ (bk G.dct)).trans G.dct;refine ue (je (l:=ns) (n:=i) (by exact pb ‹_›)) λn0 hn=>?_;have iR:(bJ.dct dg i (dS ns).length ep).next H=some (some (.str n0.key,.dct dg (i+1) (dS ns).length ep)):=by rw[vR hd];unfold dS;rw[ip,hn];rfl
  have j6:=AR (k:=n0.key) D.qZ;rw[j8 (l:=aY ns) (n:=i) (x:=(n0.key,n0.np,n0.su)) (by unfold aY;rw[ip,hn];rfl)] at h;have h:(match aU n0.key seen with
   |true=>jl (aY ns) ((aY ns).drop (i+1)) seen
   |false=>(iy (aY ns) 300 n0.key (hJ []) seen).bind λr=>match r with|none=>some true|some seen=>jl (aY ns) ((aY ns).drop (i+1)) seen)=some b:=h
  cases hm:aU n0.key seen with
  |true=>rw[hm] at j6 h;refine cO (ih (i+1) (x:=some (.str n0.key)) (by exact km ‹_›) D h) λfl H' x' r o=>?_;exact⟨fl,H',x',e8 (f:=.cont) iR rfl (cK (bM (bH (af rfl) (af rfl) j6) (cK HI nofun)) nofun) rfl r,o⟩
  |false=>
   rw[hm] at j6 h;refine ub h λr e h=>?_;refine cO (aba (d:=d) (s:=s) G _ D e) λfl H1 x1 r1 o=>?_;cases r with
   |none=>obtain rfl:=sj h;refine gP o λv e t lw=>?_;subst e;exact⟨.ret v,H1,some x1,T4 (f:=.ret v) (jd iR) rfl (aj (bM (bH (af rfl) (af rfl) j6) aO) (cK (kF r1) nofun)) rfl,lw,v,rfl,t⟩
   |some zP=>refine ua o λe D1=>?_;subst e;refine cO (ih (i+1) (x:=some x1) (by exact km ‹_›) D1 h) λfl H' x' r o=>?_;exact⟨fl,H',x',e8 (f:=.next) iR rfl (aj (bM (bH (af rfl) (af rfl) j6) aO) (aj (kF r1) aO)) rfl r,o⟩
def UL{r:AV}{np nf:Int}{b:Bool}(G:c7 K dg ep ns)(hs:ae K s=some (gD dg r np nf))(hf:jl (aY ns) (aY ns) []=some b):∃v H',RC P (d+2) (.glob 42) [.ref s] K v H'/\ba K.length K H'/\gQ v=λO=>some b:=by
 have D:dE K ns [] [] (K++[.list [],.list [],.set [],.dict 0 []]):=(dE.mk (λa ha=>uZ ha) (dY:ae (K++[AO.list [],.list [],.set [],.dict 0 []]) K.length=some (.list [])) (jG (n:=1):ae (K++[AO.list [],.list [],.set [],.dict 0 []]) (K.length+1)=some (.list [])) (jG (n:=2):ae (K++[AO.list [],.list [],.set [],.dict 0 []]) (K.length+2)=some (.set [])) ⟨0,[],(jG (n:=3):ae (K++[AO.list [],.list [],.set [],.dict 0 []]) (K.length+3)=some (.dict 0 [])),rfl,nofun⟩ nofun mz nofun mz (by rw[bF];exact bf _) (bf _))
 refine mR (Z0 (d:=d) (s:=s) G ns.length 0 (x:=none) (gA _) D hf) λfl H' x' r lw o=>?_;have hd:ae (K++[AO.list [],.list [],.set [],.dict 0 []]) dg=some (.dict ep (dS ns)):=(D.low _ (bk G.dct)).trans G.dct;have rs:RS P (d+1) true Bf (fg s dg K.length none) (K++[.list [],.list [],.set [],.dict 0 []]) fl (fg s dg K.length x') H':=by refine iN (af rfl) (src:=.dct dg 0 (dS ns).length ep) ?_ r;show(match bx _ dg with|some _=>some (bJ.lst dg 0)|none=>Option.map (λr:Nat×List (List Nat×AV)=>bJ.dct dg 0 r.2.length r.1) (cD _ dg))=_;rw[xI hd,kc hd];rfl
 have fin:∀{v Bh},RB P (d+1) true (xd Bk.body 5) (fg s dg K.length none) (K++[.list [],.list [],.set [],.dict 0 []]) Bh (fg s dg K.length x') H'->Ly Bh=some v->RC P (d+2) (.glob 42) [.ref s] K v H':=λ{v Bh} rr hv=>by
  refine eT (fd:=Bk) (fl:=Bh) (ρ1:=[some (.ref s),none,none,none,none,none,none]) rfl rfl ?_ hv;refine⟨fg s dg K.length x',?_⟩;refine aj (bC (fb (af rfl) (ef hs rfl)) (λO=>rfl) rfl rfl) ?_;refine aj (bC (e9 aE rfl) (λO=>rfl) rfl rfl) ?_;refine aj (bC (e9 aE rfl) (λO=>rfl) rfl rfl) ?_;refine aj (bC (bO (bL rfl) rfl aE (gk (b:=.set) rfl rfl)) (λO=>rfl) rfl rfl) ?_;refine aj (bC CX (λO=>rfl) rfl rfl) ?_;have eK:((((K++[AO.list []])++[AO.list []])++[AO.set []])++[AO.dict 0 []])=K++[.list [],.list [],.set [],.dict 0 []]:=by rw[eX,eX,eX];rfl
  have l1:(K++[AO.list []]).length=K.length+1:=bF;have l2:((K++[AO.list []])++[AO.list []]).length=K.length+2:=by rw[bF,l1];rfl
  have l3:(((K++[AO.list []])++[AO.list []])++[AO.set []]).length=K.length+3:=by rw[bF,l2];rfl
  rw[eK,l1,l2,l3];exact rr
 cases b with
 |true=>refine aq o λv e t=>?_;subst e;exact⟨v,H',fin (cK rs nofun) rfl,lw,t⟩
 |false=>have o:fl=.next:=o;subst o;exact⟨.none,H',fin (aj rs (cK (fX aS λO=>rfl) nofun)) rfl,lw,rfl⟩
end
end
section
def Sr(H:Hp)(s d rl lo hi:Nat)(ns:List Nd)(bc:List Ky)(np nf:Int):Prop:=(ae H s=some (gD d (.ref rl) np nf))/\(ae H rl=some (cn bc))/\(∃ep,c7 H d ep ns)/\(Bd lo hi ns)/\(lo<=s/\s<hi)/\(lo<=rl/\rl<hi)/\(∀n∈ns,n.sa≠rl)
section
variable {b1 b2 b3 b4 b5 b6 b7 b8 b9 kQ}(x:Sr b1 b2 b3 b4 b5 b6 b7 b8 b9 kQ)
def Sr.mk:=Dt (Sr b1 b2 b3 b4 b5 b6 b7 b8 b9 kQ) rfl
def Sr.self:=x.1
def Sr.jE:=x.2.1
def Sr.gY:=x.2.2.1
def Sr.bd:=x.2.2.2.1
def Sr.bs:=x.2.2.2.2.1
def Sr.br:=x.2.2.2.2.2.1
def Sr.u0:=x.2.2.2.2.2.2
end
def dH(lo hi:Nat)(H H':Hp):Prop:=(H'.length=H.length)/\(∀a,a<lo\/hi<=a->ae H' a=ae H a)
section
variable {b1 b2 b3 b4}(x:dH b1 b2 b3 b4)
def dH.mk:=jI (dH b1 b2 b3 b4) rfl
def dH.len:=x.1
def dH.out:=x.2
end
section
variable {dd s d rl lo hi:Nat}{H:Hp}{ns:List Nd}{bc:List Ky}{np nf:Int}{n:Nd}
def dH.refl:dH lo hi H H:=(dH.mk rfl (λO O=>rfl))
def dH.trans{H1 H2:Hp}(a:dH lo hi H H1)(b:dH lo hi H1 H2):dH lo hi H H2:=(dH.mk (b.len.trans a.len) (λx hx=>(b.out x hx).trans (a.out x hx)))
def dH.upd{o:AO}{a:Nat}(h:lo<=a/\a<hi):dH lo hi H (ai H o a):=(dH.mk cB (λb hb=>bh (hb.elim (λk=>dM (dW k h.1)) λk=>dU (dW h.2 k))))
def Sr.ok(S:Sr H s d rl lo hi ns bc np nf)(hn:n∈ns):iX H n:=ue S.gY λO G=>G.ok n hn
def Sr.xw(S:Sr H s d rl lo hi ns bc np nf)(hn:n∈ns)(v:Int):Sr (ai H (gx {n with np:=v}) n.ia) s d rl lo hi (fo ns n.key λm=>{m with np:=v}) bc np nf:=by
 refine ue S.gY λep G=>?_;have o:=G.ok n hn;refine(Sr.mk ((bh (zE S.self o.inf)).trans S.self) ((bh (tH o.inf S.jE)).trans S.jE) ⟨ep,G.Ho hn v⟩ (S.bd.CA (by intro _;rfl) (by intro _;rfl)) S.bs S.br (λm hm=>?_));obtain⟨n',dZ,⟨_,rfl⟩|⟨_,rfl⟩⟩:=zN hm
 ·exact S.u0 n' dZ
 ·exact S.u0 m dZ
def Sr.Ii(S:Sr H s d rl lo hi ns bc np nf)(r:List Ky):Sr (ai H (cn r) rl) s d rl lo hi ns r np nf:=by
 have hs:rl≠s:=λe=>by have:=S.jE;rw[e,S.self] at this;cases this
 refine ue S.gY λep G=>?_;exact(Sr.mk ((bh hs).trans S.self) (cV (bk S.jE)) ⟨ep,G.mono (bh (AJ S.jE G.dct)) λm hm=>⟨bh (tH (G.ok m hm).inf S.jE).symm,bh (S.u0 m hm).symm⟩⟩ S.bd S.bs S.br S.u0)
def Sr.Ac(S:Sr H s d rl lo hi ns bc np nf)(oz xK:Int):Sr (ai H (gD d (.ref rl) oz xK) s) s d rl lo hi ns bc oz xK:=by
 have hs:s≠rl:=λe=>by have:=S.jE;rw[<- e,S.self] at this;cases this
 refine ue S.gY λep G=>?_;exact(Sr.mk (cV (bk S.self)) ((bh hs).trans S.jE) ⟨ep,G.mono (bh (vt S.self G.dct)) λm hm=>⟨bh (zE S.self (G.ok m hm).inf).symm,bh (Ct S.self (G.ok m hm).dX).symm⟩⟩ S.bd S.bs S.br S.u0)
def Sr.look(S:Sr H s d rl lo hi ns bc np nf)(hn:n∈ns):lB (.ref d) (.str n.key) H=some (.ref n.ia):=by refine ue S.gY λep G=>?_;exact Cs G.dct (AI G.keys n hn)
def uO{k:Ky}{f:Nd->Nd}(h:∀m,(f m).key=m.key):(fo ns k f).map (·.key)=ns.map (·.key):=zO (·.key) h
def JG{k:Ky}(h:k∈ns.map (·.key)):∃n∈ns,n.key=k:=aq (bW.mp h) λn hn e=>⟨n,hn,e⟩
def UP(S:Sr H s d rl lo hi ns bc np nf):RC P (dd+2) (.glob 40) [.ref s] H (.bool (gb nf np||!bc.isEmpty)) H:=by
 have c1:∀p1 p2 p3 p4 p5,RE P (dd+1) true (.cmp .Lt (.attr (.var "self" 0 p1) "_nfinished" 17 p2) (.attr (.var "self" 0 p3) "_npassedout" 16 p4) p5) [some (.ref s)] H (.bool (gb nf np)) [some (.ref s)] H:=λp1 p2 p3 p4 p5=>zZ (fb (af rfl) (ef S.self rfl)) (fb (af rfl) (ef S.self rfl)) rfl;refine eT (fd:=LF) (fl:=.ret (.bool (gb nf np||!bc.isEmpty))) (ρ1:=[some (.ref s)]) rfl rfl ?_ rfl;refine⟨[some (.ref s)],aj (bM (t:=false) (bH (fb (af rfl) (ef S.self rfl)) aS rfl) aO) (cK (fX ?_ λO=>rfl) nofun)⟩;cases hb:gb nf np with
 |true=>rw[hb] at c1;exact CV (c1 ..) rfl
 |false=>rw[hb] at c1;refine HY (c1 ..) rfl (bO (bL rfl) rfl (aB rfl (fb (af rfl) (ef S.self rfl)) aE) (gk (b:=.bool) rfl ?_));show((bx H rl).map λl=>(AV.bool (!l.isEmpty),H))=_;rw[dy S.jE];cases bc<;>rfl
def sY(ns:List Nd)(l:List Ky):List Nd:=l.foldl (λns k=>fo ns k λm=>{m with np:=-1}) ns
def Zo{tup:AV}:∀(l:List Ky) {ns:List Nd} {H:Hp} {x:Option AV},Sr H s d rl lo hi ns bc np nf->(∀k∈l,k∈ns.map (·.key)) ->
  ∃H' x',RF P (dd+1) (gC (bg Bl.body 3)) (.fix (l.map .str)) (bz (bg Bl.body 3)) [some (.ref s),some tup,some (.ref d),x] H .next [some (.ref s),some tup,some (.ref d),x'] H'/\dH lo hi H H'/\Sr H' s d rl lo hi (sY ns l) bc np nf:=by
 intro l
 induction l with
 |nil=>intro ns H x S _;exact⟨H,x,gR rfl,dH.refl,S⟩
 |cons k l ih=>intro ns H x S hk;refine aq (JG (hk k bA)) λn hn aa=>?_;subst aa;obtain⟨H',x',r,fr,S'⟩:=ih (x:=some (.str n.key)) (S.xw hn (-1)) (λk' oK=>by rw[uO (by intro _;rfl)];exact hk k' (bS _ oK));refine⟨H',x',e8 (f:=.next) rfl rfl (aj (pS (bL rfl) (λO=>rfl) (dP (af rfl) (af rfl) (S.look hn)) (jB (S.ok hn).inf rfl)) aO) rfl r,(dH.upd (S.bd n hn).1).trans fr,S'⟩
def Uu(S:Sr H s d rl lo hi ns bc np nf)(hk:∀k∈bc,k∈ns.map (·.key))(hl:bc.length<=az):
  ∃H',RC P (dd+2) (.glob 39) [.ref s] H (.tup (bc.map .str)) H'/\dH lo hi H H'/\Sr H' s d rl lo hi (sY ns bc) [] (np+bc.length) nf:=by
 refine bB (Zo (dd:=dd) (tup:=.tup (bc.map .str)) bc (x:=none) S hk) λH1 x1 r1 EE S1=>?_;have S2:=S1.Ii [];have ft:RC P (dd+1) (.glob 26) [.ref rl] H (.tup (bc.map .str)) H:=gk (b:=.tuple) rfl (by show((bx H rl).map λl=>(AV.tup l,H))=_;rw[dy S.jE];rfl)
 refine⟨_,?_,(EE.trans (dH.upd S.br)).trans (dH.upd S.bs),(S2.Ac (np+bc.length) nf)⟩;refine eT (fd:=Bl) (fl:=.ret (.tup (bc.map .str))) (ρ1:=[some (.ref s),none,none,none]) rfl rfl ?_ rfl;have fl:RC P (dd+1) (.glob 10) [.tup (bc.map .str)] (ai H1 (cn []) rl) (.int bc.length) (ai H1 (cn []) rl):=gk (b:=.len) rfl (by show((some (bc.map AV.str).length).bind λm=>aI (Nat.ble m az) (some (AV.int m,ai H1 (cn []) rl)))=_;rw[aJ];show aI (Nat.ble bc.length az) _=_;rw[eP.mpr hl];rfl)
 refine⟨[some (.ref s),some (.tup (bc.map .str)),some (.ref d),x1],aj (bM (t:=false) (bH (fb (af rfl) (ef S.self rfl)) aS rfl) aO) ?_⟩;refine aj (bC (bO (bL rfl) rfl (aB rfl (fb (af rfl) (ef S.self rfl)) aE) ft) (λO=>rfl) rfl rfl) ?_;refine aj (bC (fb (af rfl) (ef S.self rfl)) (λO=>rfl) rfl rfl) ?_;refine aj (iN (af rfl) rfl r1) ?_;refine aj (eM (eN (mk:=.list) (v:=.none) (H3:=ai H1 (cn []) rl) (fb (af rfl) (ef S1.self rfl)) (gF S1.jE) rfl rfl aE (AB S1.jE))) ?_;refine aj (xg (af rfl) (ef S2.self rfl) (bO (bL rfl) rfl (aB rfl (af rfl) aE) fl) rfl (jB S2.self rfl)) ?_;exact cK (fX (af rfl) λO=>rfl) nofun
def pY(ns:List Nd)(k:Ky):Int:=match ns.find? λn=>ak n.key k with
 |some n=>n.np
 |none=>0
def jK(q:List Nd×List Ky)(y:Ky):List Nd×List Ky:=(fo q.1 y λm=>{m with np:=pY q.1 y-1},match dQ (pY q.1 y-1) 0 with|true=>q.2++[y]|false=>q.2)
def IF(hk:(ns.map (·.key)).Nodup)(hn:n∈ns):pY ns n.key=n.np:=by
 unfold pY
 induction ns with
 |nil=>cases hn
 |cons m ns ih=>
  rw[bE,ie] at hk;rw[uu];rcases bQ.mp hn with rfl|hn
  ·rw[g6]
  ·rw[nD (λe=>hk.1 (bW.mpr ⟨n,hn,e.symm⟩))];exact ih hk.2 hn
def oE{n i:Nat}{l:List AV}(h:ae H n=some (.list l)):(bJ.lst n i).next H=some ((ae l i).map λv=>(v,.lst n (i+1))):=by show((bx H n).map λl=>(ae l i).map λd=>(d,bJ.lst n (i+1)))=_;rw[dy h];rfl
def Hr{k:Ky}{f:Nd->Nd}{sa:Nat}{su:List Ky}(h1:∀m,(f m).sa=m.sa)(h2:∀m,(f m).su=m.su)(h:∃n∈ns,n.sa=sa/\n.su=su):∃n∈fo ns k f,n.sa=sa/\n.su=su:=by
 refine gP h λn hn e1 e2=>?_;clear h;refine⟨match ak n.key k with|true=>f n|false=>n,bW.mpr ⟨n,hn,rfl⟩,?_⟩;cases ak n.key k with
 |true=>exact⟨(h1 n).trans e1,(h2 n).trans e2⟩
 |false=>exact⟨e1,e2⟩
def GP(l:List Ky)(y:Ky):AO.list (l.map .str++[.str y])=cn (l++[y]):=by unfold cn;rw[eB];rfl
def aa6{x st:AV}{tup:AV}{sa i0:Nat}{su:List Ky}:∀(k i:Nat) {ns:List Nd} {bc:List Ky} {H:Hp} {u v:Option AV},i+k=su.length->Sr H s d rl lo hi ns bc np nf->(∃n∈ns,n.sa=sa/\n.su=su)->(∀y∈su,y∈ns.map (·.key))->bc.length+k<az ->
  ∃H' u' v',RF P (dd+1) (gC (bg (bz (bg vI.body 2)) 4)) (.lst sa i) (bz (bg (bz (bg vI.body 2)) 4)) [some (.ref s),some tup,some (.ref d),some x,some (.ref i0),some st,u,v] H .next [some (.ref s),some tup,some (.ref d),some x,some (.ref i0),some st,u',v'] H' /\
   dH lo hi H H'/\Sr H' s d rl lo hi ((su.drop i).foldl jK (ns,bc)).1 ((su.drop i).foldl jK (ns,bc)).2 np nf:=by
 intro k
 induction k with
 |zero=>
  intro i ns bc H u v hk S h hy hz;refine gP h λn hn aa ow=>?_;clear h;subst aa;subst ow;refine⟨H,u,v,gR ?_,dH.refl,?_⟩
  ·rw[oE (S.ok hn).dX,pX (by rw[aJ];exact hU ‹_›)];rfl
  ·rw[pD (by exact hU ‹_›)];exact S
 |succ k ih=>
  intro i ns bc H u v hk S h hy hz;refine ue (je (l:=su) (n:=i) (by exact pb ‹_›)) λy D3=>?_;have iR:(bJ.lst sa i).next H=some (some (.str y,.lst sa (i+1))):=by refine gP h λn hn aa ow=>?_;clear h;subst aa;subst ow;rw[oE (S.ok hn).dX,ip,D3];rfl
  refine aq (JG (hy y (Df D3))) λm hm aa=>?_;subst aa;have hd:=j8 D3;have o:=S.ok hm;have S1:=S.xw hm (m.np-1);refine ue S.gY λep G=>?_;have ed:jK (ns,bc) m.key=(fo ns m.key λn=>{n with np:=m.np-1},match dQ (m.np-1) 0 with|true=>bc++[m.key]|false=>bc):=by unfold jK;rw[IF G.keys hm]
  have i1:ae (ai H (gx {m with np:=m.np-1}) m.ia) m.ia=some (gx {m with np:=m.np-1}):=cV (bk o.inf);have h1:=Hr (k:=m.key) (f:=λn=>{n with np:=m.np-1}) (by intro _;rfl) (by intro _;rfl) h;have AU:∀y∈su,y∈(fo ns m.key λn=>{n with np:=m.np-1}).map (·.key):=λy Yo=>by rw[uO (by intro _;rfl)];exact hy y Yo
  have jy:∀p1 p2 p3 p4,RT P (dd+1) true (.cmp .Eq (.attr (.var "successor_info" 7 p1) "npredecessors" 20 p2) (.cst (.int 0) (.int 0) 0 p3) p4) [some (.ref s),some tup,some (.ref d),some x,some (.ref i0),some st,some (.str m.key),some (.ref m.ia)] (ai H (gx {m with np:=m.np-1}) m.ia) (dQ (m.np-1) 0) [some (.ref s),some tup,some (.ref d),some x,some (.ref i0),some st,some (.str m.key),some (.ref m.ia)] (ai H (gx {m with np:=m.np-1}) m.ia):=λp1 p2 p3 p4=>bH (fb (af rfl) (ef i1 rfl)) aS rfl
  rw[hd,List.foldl_cons,ed];cases yb:dQ (m.np-1) 0 with
  |true=>rw[yb] at jy;have S2:=S1.Ii (bc++[m.key]);obtain⟨H',u',v',r,fr,S'⟩:=ih (i+1) (u:=some (.str m.key)) (v:=some (.ref m.ia)) (by exact km ‹_›) S2 h1 AU (by rw[bF];show bc.length+1+k<_;exact za ‹_›);have ap:=kR (v:=.str m.key) S1.jE (by rw[aJ];exact ud ‹_›);rw[GP] at ap;exact⟨H',u',v',e8 (f:=.next) iR rfl (aj (bC (dP (af rfl) (af rfl) (S.look hm)) (λO=>rfl) rfl rfl) (aj (xg (af rfl) (ef o.inf rfl) aS rfl (jB o.inf rfl)) (aj (bM (jy ..) (aj (eM (eN (mk:=.list) (fb (af rfl) (ef S1.self rfl)) (gF S1.jE) rfl rfl (aB rfl (af rfl) aE) ap)) aO)) aO))) rfl r,((dH.upd (S.bd m hm).1).trans (dH.upd S.br)).trans fr,S'⟩
  |false=>rw[yb] at jy;obtain⟨H',u',v',r,fr,S'⟩:=ih (i+1) (u:=some (.str m.key)) (v:=some (.ref m.ia)) (by exact km ‹_›) S1 h1 AU (by exact qA ‹_›);exact⟨H',u',v',e8 (f:=.next) iR rfl (aj (bC (dP (af rfl) (af rfl) (S.look hm)) (λO=>rfl) rfl rfl) (aj (xg (af rfl) (ef o.inf rfl) aS rfl (jB o.inf rfl)) (aj (bM (jy ..) aO) aO))) rfl r,(dH.upd (S.bd m hm).1).trans fr,S'⟩
def qV(ns:List Nd)(k:Ky):List Ky:=match ns.find? λn=>ak n.key k with
 |some n=>n.su
 |none=>[]
def GS(hk:(ns.map (·.key)).Nodup)(hn:n∈ns):qV ns n.key=n.su:=by
 unfold qV
 induction ns with
 |nil=>cases hn
 |cons m ns ih=>
  rw[bE,ie] at hk;rw[uu];rcases bQ.mp hn with rfl|hn
  ·rw[g6]
  ·rw[nD (λe=>hk.1 (bW.mpr ⟨n,hn,e.symm⟩))];exact ih hk.2 hn
def g8(q:List Nd×List Ky)(x:Ky):List Nd×List Ky:=(qV q.1 x).foldl jK (fo q.1 x λm=>{m with np:=-2},q.2)
def t9(ns:List Nd)(x:Ky):Prop:=(∃n∈ns,n.key=x/\n.np=-1)/\(∀n∈ns,n.key=x->∀y∈n.su,y∈ns.map (·.key))
section
variable {b1 b2}(x:t9 b1 b2)
def t9.mk:=jI (t9 b1 b2) rfl
end
theorem aa5{tup:AV}:∀(l:List Ky) {ns:List Nd} {bc:List Ky} {nf:Int} {H:Hp} {v4 v5 v6 v7 v8:Option AV},Sr H s d rl lo hi ns bc np nf ->
  (∀q:List Nd×List Ky,∀pre x post,l=pre++x::post->q=pre.foldl g8 (ns,bc)->t9 q.1 x/\q.2.length+(qV q.1 x).length<az) ->
  ∃H' u4 u5 u6 u7 u8,RF P (dd+1) (gC (bg vI.body 2)) (.fix (l.map .str)) (bz (bg vI.body 2)) [some (.ref s),some tup,some (.ref d),v4,v5,v6,v7,v8] H .next [some (.ref s),some tup,some (.ref d),u4,u5,u6,u7,u8] H' /\
   dH lo hi H H'/\Sr H' s d rl lo hi (l.foldl g8 (ns,bc)).1 (l.foldl g8 (ns,bc)).2 np (nf+l.length):=by
 intro l
 induction l with
 |nil=>intro ns bc nf H v4 v5 v6 v7 v8 S _;exact⟨H,v4,v5,v6,v7,v8,gR rfl,dH.refl,by show Sr H s d rl lo hi ns bc np (nf+(0:Nat));rw[Int.natCast_zero,Int.add_zero];exact S⟩
 |cons x l gH=>
  intro ns bc nf H v4 v5 v6 v7 v8 S hq;obtain⟨⟨⟨n,hn,rfl,YG⟩,D7⟩,hz⟩:=hq (ns,bc) [] _ l rfl rfl;have o:=S.ok hn;refine ue S.gY λep G=>?_;have es:=GS G.keys hn;have AU:∀y∈n.su,y∈(fo ns n.key λm=>{m with np:=-2}).map (·.key):=λy hy=>by rw[uO (by intro _;rfl)];exact D7 n hn rfl y hy
  have h1:=Hr (k:=n.key) (f:=λm=>{m with np:=-2}) (by intro _;rfl) (by intro _;rfl) ⟨n,hn,rfl,rfl⟩;refine mR (aa6 (dd:=dd) (x:=.str n.key) (st:=.int (-1)) (tup:=tup) (i0:=n.ia) n.su.length 0 (u:=v7) (v:=v8) (gA _) (S.xw hn (-2)) h1 AU (by rw[es] at hz;exact hz)) λH2 u2 w2 r2 ZI S2=>?_;rw[qB,<- es] at S2;have S3:=S2.Ac np (nf+1);have ih:=gH (v4:=some (.str n.key)) (v5:=some (.ref n.ia)) (v6:=some (.int (-1))) (v7:=u2) (v8:=w2) S3 λq pre x post e1 e2=>hq q (n.key::pre) x post (by rw[e1];rfl) e2;refine Gv ih λH' u4 u5 u6 u7 u8 r fr S'=>?_;clear ih;have i1:ae (ai H (gx {n with np:=-2}) n.ia) n.ia=some (gx {n with np:=-2}):=cV (bk o.inf);have hd:ae H d=some (.dict ep (dS ns)):=G.dct;have g1:lL .dict 6 (.ref d) [.str n.key] H=some (.ref n.ia,H):=by rw[Le hd,AI G.keys n hn];rfl
  have l1:ae (ai H (gx {n with np:=-2}) n.ia) n.sa=some (cn n.su):=(bh (tH o.inf o.dX)).trans o.dX;have sr:eS (.ref n.sa) (ai H (gx {n with np:=-2}) n.ia)=some (.lst n.sa 0):=by show(match bx _ n.sa with|some _=>some (bJ.lst n.sa 0)|none=>_)=_;rw[dy l1]
  refine⟨H',u4,u5,u6,u7,u8,e8 (f:=.next) rfl rfl (aj (bM (t:=false) (bH (CU (eN (mk:=.dict) (af rfl) (xV hd) rfl rfl (aB rfl (af rfl) aE) g1) rfl) aS rfl) aO)
   (aj (bC (v:=.int (-1)) (fb (af rfl) (ef o.inf (by show some (AV.int n.np)=_;rw[YG]))) (λO=>rfl) rfl rfl)
   (aj (bM (t:=false) (bH (af rfl) (bL rfl) rfl) aO)
   (aj (pS (bL rfl) (λO=>rfl) (af rfl) (jB o.inf rfl))
   (aj (iN (fb (af rfl) (ef i1 rfl)) sr r2)
   (aj (xg (af rfl) (ef S2.self rfl) aS rfl (jB S2.self rfl)) aO)))))) rfl r,(((dH.upd (S.bd n hn).1).trans ZI).trans (dH.upd S.bs)).trans fr,?_⟩
  have e:nf+((l.length+1:Nat):Int)=nf+1+(l.length:Int):=by rw[Int.add_assoc,Int.add_comm 1];rfl
  show Sr H' s d rl lo hi (l.foldl g8 (g8 (ns,bc) n.key)).1 (l.foldl g8 (g8 (ns,bc) n.key)).2 np (nf+((l.length+1:Nat):Int));rw[e];exact S'
def UM{l:List Ky}(S:Sr H s d rl lo hi ns bc np nf)(hl:l.length<az)
  (hq:∀q:List Nd×List Ky,∀pre x post,l=pre++x::post->q=pre.foldl g8 (ns,bc)->t9 q.1 x/\q.2.length+(qV q.1 x).length<az):
  ∃H',RC P (dd+2) (.glob 41) (.ref s::l.map .str) H .none H'/\dH lo hi H H'/\Sr H' s d rl lo hi (l.foldl g8 (ns,bc)).1 (l.foldl g8 (ns,bc)).2 np (nf+l.length):=by
 refine Gv (aa5 (dd:=dd) (tup:=.tup (l.map .str)) l (v4:=none) (v5:=none) (v6:=none) (v7:=none) (v8:=none) S hq) λH' u4 u5 u6 u7 u8 r fr S'=>?_;refine⟨H',?_,fr,S'⟩;refine eT (fd:=vI) (fl:=.next) (ρ1:=[some (.ref s),some (.tup (l.map .str)),none,none,none,none,none,none]) rfl ?_ ?_ rfl
 ·show aI (Nat.ble 1 (l.map AV.str).length.succ&&Nat.ble (l.map AV.str).length.succ az) _=_;rw[eP.mpr (by exact NG),eP.mpr (by rw[aJ];assumption)]
  rfl
 exact⟨_,aj (bM (t:=false) (bH (fb (af rfl) (ef S.self rfl)) aS rfl) aO) (aj (bC (fb (af rfl) (ef S.self rfl)) (λO=>rfl) rfl rfl) (aj (iN (af rfl) rfl r) aO))⟩
end
end
section
section
variable {P:bP}{U ρ1 ρ2:aC}{H H1 H2 H3:Hp}{d k x y:Nat}{a args c:C}{s r bb:S}{p p':Pos}{v:AV}{vs:List AV}{q:Bool}
structure Fs(P:bP)(d:Nat)(f:AV)(args:List AV)(H:Hp)(x:Nat)(H':Hp):Prop where
 run:∀U,bo P (λE=>E.call d f args) U H (.exc x U H')
def TF{n:Str}{np cp:Pos}(hk:ae P.gt k=some (.exc (y+1)))(h:RA P d true args U H vs ρ1 H1)(hl:Nat.ble vs.length 100=true):bo P (λE=>E.s d true (.raise n k np args cp p)) U H (.exc (y+1) ρ1 H1):=by
 refine .step ?_;show bo P (λE=>match ae P.gt k with
  |some (.exc x)=>(match x with
   |0=>M.stuck
   |x+1=>M.bind (gZ (E.e d true) (cs args)) λvs=>match Nat.ble vs.length 100 with|true=>EI (x+1)|false=>M.stuck)
  |_=>M.stuck) U H _
 rw[hk];refine .bind h ?_;rw[hl];exact .const rfl
def TG{t:Bool}(h1:RT P d q c U H t ρ1 H1)(h2:bo P (λE=>cW (E.s d q) (ss (bif t then r else bb))) ρ1 H1 (.exc x ρ2 H2)):bo P (λE=>E.s d q (.iff c r bb p)) U H (.exc x ρ2 H2):=by refine .step (.bind h1 ?_);cases t<;>exact h2
def CZ(h1:RS P d q s U H .next ρ1 H1)(h2:bo P (λE=>cW (E.s d q) (ss r)) ρ1 H1 (.exc x ρ2 H2)):bo P (λE=>cW (E.s d q) (ss (.cons s r))) U H (.exc x ρ2 H2):=.bind h1 h2
def Uj{j:Nat}{fd:FD}(hj:ae P.gt j=some (.fn fd))(hb:kP fd vs=some ρ1)(h:∃ρ2,bo P (λE=>cW (E.s d true) (ss fd.body)) ρ1 H (.exc x ρ2 H2)):Fs P (d+1) (.glob j) vs H x H2:=by refine⟨λU=>?_⟩;refine ct h λρ2 N h=>.step ⟨N,λn hn=>?_⟩;have h:cW ((ev P n).s d true) (ss fd.body) ρ1 H=_:=h n hn;show(match ae P.gt j with|some g=>oM (ev P n) (d+1) j g vs|none=>M.stuck) U H=_;rw[hj];show(match kP fd vs with|some ρ'=>qi U (cW ((ev P n).s d true) (ss fd.body) ρ' H)|none=>.stuck)=_;rw[hb];show qi U (cW ((ev P n).s d true) (ss fd.body) ρ1 H)=_;rw[h];rfl
def TC{n:Str}{j m:Nat}{ap:Pos}(h1:RE P d true a U H v ρ1 H1)(hk:kK P v m H1=some (.user j))(h2:RA P d true args ρ1 H1 vs ρ2 H2)(h:Fs P d (.glob j) (v::vs) H2 x H3):
  bo P (λE=>E.s d true (.expr (.eO a n m args ap p) p')) U H (.exc x ρ2 H3):=.step (.Ff (.step (.bind h1 (.bind (.rd hk) (.bind h2 (h.run ρ2))))))
end
section
variable {dd s d lo ep:Nat}{H:Hp}{ns:List Nd}
def fp(ns:List Nd):List Ky:=(ns.filter λn=>dQ n.np 0).map (·.key)
def Gn{n e i:Nat}{l:List (List Nat×AV)}(h:ae H n=some (.dict e l)):(bJ.vals n i l.length e).next H=some ((ae l i).map λp=>(p.2,.vals n (i+1) l.length e)):=by show((cD H n).bind λr=>aI (Nat.beq r.2.length l.length&&Nat.beq r.1 e) (some ((ae r.2 i).map λp=>(p.2,bJ.vals n (i+1) l.length e))))=_;rw[kc h];show aI (Nat.beq l.length l.length&&Nat.beq e e) _=_;rw[fV,fV];rfl
def Fo{Y:Hp}{l:List AV}{x:AV}(h:l.length<az):tX H.length x (H++.list l::Y)=some (H++.list (l++[x])::Y):=by show((bx (H++.list l::Y) H.length).bind λl'=>aI (Nat.blt l'.length az) (some (ai (H++.list l::Y) (.list (l'++[x])) H.length)))=_;rw[dy dY];show aI (Nat.blt l.length az) (some (ai (H++.list l::Y) (.list (l++[x])) H.length))=_;rw[bG.mpr h,uE];rfl
abbrev pV:C:=jX (bg Bm.body 1)
def U5(G:c7 H d ep ns)(hz:ns.length<az):∀(k i:Nat) {acc:List Ky} {x:Option AV},i+k=ns.length->acc.length<=i ->
  ∃x',RK P dd (eQ pV) (.vals d i (dS ns).length ep) (gI pV) (eV pV) H.length [some (.ref s),none,x] (H++[cn acc]) [some (.ref s),none,x'] (H++[cn (acc++fp (ns.drop i))]):=by
 intro k
 induction k with
 |zero=>intro i acc x hk hl;refine⟨x,?_⟩;rw[pD (by exact hU ‹_›)];show RK P dd _ _ _ _ _ _ _ _ (H++[cn (acc++[])]);rw[eW];refine xm ?_;rw[Gn (cb G.dct),pX (by unfold dS;rw[aJ];exact hU ‹_›)];rfl
 |succ k ih=>
  intro i acc x hk hl;refine ue (je (l:=ns) (n:=i) (by exact pb ‹_›)) λn hn=>?_;have o:=(G.app [cn acc]).ok n (Df hn);have iR:(bJ.vals d i (dS ns).length ep).next (H++[cn acc])=some (some (.ref n.ia,.vals d (i+1) (dS ns).length ep)):=by rw[Gn (cb G.dct)];unfold dS;rw[ip,hn];rfl
  have t:RQ P dd (gI pV) [some (.ref s),none,some (.ref n.ia)] (H++[cn acc]) (dQ n.np 0) [some (.ref s),none,some (.ref n.ia)] (H++[cn acc]):=oq (bH (fb (af rfl) (ef o.inf rfl)) aS rfl)
  rw[j8 hn];cases hb:dQ n.np 0 with
  |true=>
   rw[hb] at t;refine ue (ih (i+1) (acc:=acc++[n.key]) (x:=some (.ref n.ia)) (by exact km ‹_›) (by rw[bF];exact si hl)) λx' r=>?_;have e:fp (n::ns.drop (i+1))=n.key::fp (ns.drop (i+1)):=by unfold fp;rw[sk,hb];rfl
   rw[e];refine⟨x',rj (jd iR) rfl t ⟨_,_,CP (x:=.str n.key) (λO O O=>rfl) (fb (af rfl) (ef o.inf rfl)) (Fo (by rw[aJ];exact Qs ‹_› hz hl)),?_⟩⟩;rw[GP];rw[eX] at r;exact r
  |false=>
   rw[hb] at t;refine ue (ih (i+1) (acc:=acc) (x:=some (.ref n.ia)) (by exact km ‹_›) (by exact B1 ‹_›)) λx' r=>?_;have e:fp (n::ns.drop (i+1))=fp (ns.drop (i+1)):=by unfold fp;rw[sk,hb];rfl
   rw[e];exact⟨x',rj (jd iR) rfl t r⟩
def Nk(b:Bool)(d s:Nat)(H H':Hp):Prop:=match b with
 |true=>Fs P d (.glob 38) [.ref s] H 35 H'
 |false=>RC P d (.glob 38) [.ref s] H .none H'
def Ux{g:List Ad}{b:Bool}(S:fh H s d lo g .none 0 0)(few:g.length<1000)(hf:jl g g []=some b):
  ∃H' ns,Nk b (dd+3) s H H'/\ba lo H H'/\aY ns=g/\(ns.map (·.key)).Nodup/\Sr H' s d H.length lo H'.length ns (fp ns) 0 0:=by
 refine bB S.gY λep ns G aa B=>?_;subst aa;have hl:ns.length<1000:=by unfold aY at few;rwa[aJ] at few
 have hz:(1000:Nat)<=az:=by decide
 refine ue (U5 (dd:=dd+2) (s:=s) G (by exact B4 ‹_› ‹_›) ns.length 0 (acc:=[]) (x:=none) (gA _) (bf _)) λx' r=>?_;rw[qB,List.nil_append] at r;have hs:=S.self;have sl:=bk hs;have G1:=G.app [cn (fp ns)];have oH:ae (H++[cn (fp ns)]) s=some (gD d .none 0 0):=cb hs;have TY:ae (H++[cn (fp ns)]) H.length=some (cn (fp ns)):=dY;have lK:(ai (H++[cn (fp ns)]) (gD d (.ref H.length) 0 0) s).length=H.length+1:=by rw[cB,bF];rfl
 have GK:c7 (ai (H++[cn (fp ns)]) (gD d (.ref H.length) 0 0) s) d ep ns:=G1.mono (bh (vt oH G1.dct)) λm hm=>⟨bh (zE oH (G1.ok m hm).inf).symm,bh (Ct oH (G1.ok m hm).dX).symm⟩;have yd:ae (ai (H++[cn (fp ns)]) (gD d (.ref H.length) 0 0) s) s=some (gD d (.ref H.length) 0 0):=cV (bk oH);have HT:ae (ai (H++[cn (fp ns)]) (gD d (.ref H.length) 0 0) s) H.length=some (cn (fp ns)):=(bh (by exact BX ‹_›)).trans TY;have WJ:ba lo H (ai (H++[cn (fp ns)]) (gD d (.ref H.length) 0 0) s):=(ba.app _ (aM S.nh (fG sl))).trans (ba.upd S.nh);have st:=jB (P:=P) (a:=15) (v:=.ref H.length) (fs':=[some (.ref d),some (.ref H.length),some (.int 0),some (.int 0)]) oH rfl;have st:pO P 15 (.ref s) (.ref H.length) (H++[cn (fp ns)])=some (ai (H++[cn (fp ns)]) (gD d (.ref H.length) 0 0) s):=st;generalize ai (H++[cn (fp ns)]) (gD d (.ref H.length) 0 0) s=K at *;refine bB (UL (d:=dd) GK yd hf) λv H' rf lw tr=>?_;have sK:=bk yd;have dK:=bk GK.dct;refine⟨H',ns,?_,WJ.trans (ba.mk lw.len (λa ha=>lw.low a (by have:=S.nh;exact NW ‹_› ‹_› ‹_›))),rfl,G.keys,Sr.mk ((lw.low s sK).trans yd) ((lw.low _ (bk HT)).trans HT) ⟨ep,GK.mono (lw.low d dK) λm hm=>⟨lw.low _ (bk (GK.ok m hm).inf),lw.low _ (bk (GK.ok m hm).dX)⟩⟩ ?_ ?_ ?_ ?_⟩
 ·have fv:RE P (dd+2) true (eU pV) [some (.ref s),none,none] H (.vals d) [some (.ref s),none,none] H:=eN (mk:=.dict) (fb (af rfl) (ef hs rfl)) (xV G.dct) rfl rfl aE (by show((cD H d).bind λr=>xQ 7 d r.2 [] H)=_;rw[kc G.dct];rfl)
  have sv:eS (.vals d) H=some (.vals d 0 (dS ns).length ep):=by show((cD H d).map λr=>bJ.vals d 0 r.2.length r.1)=_;rw[kc G.dct];rfl
  have rm:RM P (dd+2) (eV pV) (eQ pV) (eU pV) (gI pV) [some (.ref s),none,none] H (.ref H.length) [some (.ref s),none,none] (H++[cn (fp ns)]):=CO fv sv r;cases b with
  |true=>exact Uj (fd:=Bm) rfl rfl ⟨_,CZ (bM (t:=false) (bH (fb (af rfl) (ef hs rfl)) aS rfl) aO) (CZ (HJ rm (af rfl) st) (CZ (bC (mY (af rfl) (ni yd rfl) aE rf) (λO=>rfl) rfl rfl) (Aa (TG (t:=true) (kE (af rfl) (by rw[tr])) (Aa (TF rfl (aB rfl Ud (aB rfl (af rfl) aE)) rfl))))))⟩
  |false=>exact eT (fd:=Bm) (fl:=.next) (ρ1:=[some (.ref s),none,none]) rfl rfl ⟨_,aj (bM (t:=false) (bH (fb (af rfl) (ef hs rfl)) aS rfl) aO) (aj (HJ rm (af rfl) st) (aj (bC (mY (af rfl) (ni yd rfl) aE rf) (λO=>rfl) rfl rfl) (aj (bM (t:=false) (kE (af rfl) (by rw[tr])) aO) aO)))⟩ rfl
 ·exact B.mono (by have:=lw.len;exact Oa ‹_› ‹_›)
 ·exact⟨S.nh,by have:=lw.len;exact FH ‹_› ‹_›⟩
 ·exact⟨aM S.nh (fG sl),by have:=lw.len;exact N9 ‹_› ‹_›⟩
 ·intro n hn e;exact NA e (B n hn).2.2
end
end
section
noncomputable def o5(I:Hp->Prop)(tg:C):Hp->bJ->List AV->Hp->Prop
 |H,src,[],H'=>(∀Y,src.nx tg (H++Y)=some (none,H'++Y))/\H'.length=H.length
 |H,src,x::r,H'=>∃src' H1,(∀Y,src.nx tg (H++Y)=some (some (x,src'),H1++Y))/\I H1/\H1.length=H.length/\o5 I tg H1 src' r H'
section
variable {H:Hp}{tg:C}
abbrev Is(H:Hp):Hp->Prop:=λK=>K=H
def Bj:∀l:List AV,o5 (Is H) tg H (.fix l) l H:=by
 intro r
 induction r with
 |nil=>exact⟨λO=>jd rfl,rfl⟩
 |cons x r ih=>exact⟨.fix r,H,λO=>jd rfl,rfl,rfl,ih⟩
variable {n:Nat}{l:List AV}
def ZX(h:ae H n=some (.list l)):∀(k i:Nat),i+k=l.length->o5 (Is H) tg H (.lst n i) (l.drop i) H:=by
 intro k
 induction k with
 |zero=>intro i e;rw[pD (by exact hU ‹_›)];exact⟨λY=>jd (by rw[oE (cb h),pX (by exact hU ‹_›)];rfl),rfl⟩
 |succ k ih=>intro i e;refine ue (je (l:=l) (n:=i) (by exact pb ‹_›)) λx hx=>?_;rw[j8 hx];exact⟨.lst n (i+1),H,λY=>jd (by rw[oE (cb h),hx];rfl),rfl,rfl,ih (i+1) (by exact km ‹_›)⟩
def rQ(h:ae H n=some (.list l)):o5 (Is H) tg H (.lst n 0) l H:=by have:=ZX (tg:=tg) h l.length 0 (gA _);rwa[qB] at this
variable {L:List (List Nat×AV)}
def ZY{ep:Nat}(h:ae H n=some (.dict ep L)):∀(k i:Nat),i+k=L.length->o5 (Is H) tg H (.dct n i L.length ep) ((L.drop i).map λp=>.str p.1) H:=by
 intro k
 induction k with
 |zero=>intro i e;rw[pD (by exact hU ‹_›)];exact⟨λY=>jd (by rw[vR (cb h),pX (by exact hU ‹_›)];rfl),rfl⟩
 |succ k ih=>intro i e;refine ue (je (l:=L) (n:=i) (by exact pb ‹_›)) λx hx=>?_;rw[j8 hx];exact⟨.dct n (i+1) L.length ep,H,λY=>jd (by rw[vR (cb h),hx];rfl),rfl,rfl,ih (i+1) (by exact km ‹_›)⟩
def lC(h:ae H n=some (.list l)):eS (.ref n) H=some (.lst n 0):=by show(match bx H n with|some _=>some (bJ.lst n 0)|none=>_)=_;rw[dy h]
def G9{ep:Nat}(h:ae H n=some (.dict ep L)):eS (.ref n) H=some (.dct n 0 L.length ep):=by show(match bx H n with|some _=>some (bJ.lst n 0)|none=>Option.map (λr:Nat×List (List Nat×AV)=>bJ.dct n 0 r.2.length r.1) (cD H n))=_;rw[xI h,kc h];rfl
end
def Ft(n:Nat)(K K':Hp):Prop:=∀a o,n<a->ae K a=some o->ae K' a=some o
noncomputable def BO(R:AV->AV->Hp->Prop):List AV->List AV->Hp->Prop
 |[],vs,_=>vs=[]
 |x::l,vs,K=>∃v r,vs=v::r/\R x v K/\BO R l r K
def Vd{K K':Hp}{a b:List AV}{Y Y':Hp}(h:K'.length=K.length):Ft K.length (K++.list a::Y) (K'++.list b::(Y++Y')):=by intro x o hx e;obtain⟨m,rfl⟩:∃m,x=K.length+(m+1):=Nat.exists_eq_add_of_lt hx;rw[jG] at e;rw[<- h,jG];exact cb (l:=Y) e
section
variable {d:Nat}{H Hz:Hp}{tg ifs elt it:C}{e:Option AV->aC}{t:AV->Bool}{f:AV->AV}{I:Hp->Prop}{R:AV->AV->Hp->Prop}
theorem TZ(hg:xJ elt)(hR:∀x v K K',R x v K->Ft H.length K K'->R x v K'):∀(l:List AV) {src:bJ} {H1:Hp} {acc:List AV} {Y:Hp} {o:Option AV},o5 I tg H1 src l Hz->H1.length=H.length ->
  (∀x∈l,∀o K,jr tg x (e o) K=.ok () (e (some x)) K) ->
  (∀x∈l,∀K,I K->K.length=H.length->∀Y,∃Y',RQ P d ifs (e (some x)) (K++Y) (t x) (e (some x)) (K++(Y++Y'))) ->
  (∀x∈l,t x=true->∀K,I K->K.length=H.length->∀a Y,∃v Y',RE P d true elt (e (some x)) (K++a::Y) v (e (some x)) (K++a::(Y++Y'))/\R x v (K++a::(Y++Y')))->acc.length+l.length<az ->
  ∃o' Y' vs,RK P d tg src ifs elt H.length (e o) (H1++.list acc::Y) (e o') (Hz++.list (acc++vs)::(Y++Y'))/\BO R (l.filter t) vs (Hz++.list (acc++vs)::(Y++Y'))/\Hz.length=H.length:=by
 intro l
 induction l with
 |nil=>intro src H1 acc Y o F hl hb ht he hz;exact⟨o,[],[],by rw[eW,eW];exact HU (F.1 _),rfl,F.2.trans hl⟩
 |cons x l ih=>
  intro src H1 acc Y o F hl hb ht he hz;rw[i5] at hz;refine nZ F λsrc' H2 hn i2 l2 F'=>?_;clear F;have l2:=l2.trans hl;have ih:=λ(acc:List AV) (Y:Hp) (hz:acc.length+l.length<az)=>ih (acc:=acc) (Y:=Y) (o:=some x) F' l2 (λy hy=>hb y (bS _ hy)) (λy hy=>ht y (bS _ hy)) (λy hy=>he y (bS _ hy)) hz;refine ue (ht x bA H2 i2 l2 (.list acc::Y)) λY1 tx=>?_;cases hx:t x with
  |false=>rw[hx] at tx;refine iJ (ih acc (Y++Y1) (by exact qA ‹_›)) λo' Y' vs r=>?_;refine⟨o',Y1++Y',vs,?_⟩;rw[sk,hx,<- eX];exact⟨rj (hn _) (hb x bA ..) tx r.1,r.2⟩
  |true=>
   rw[hx] at tx;refine dN (he x bA hx H2 i2 l2 (.list acc) (Y++Y1)) λv Y2 r1 rv=>?_;refine iJ (ih (acc++[v]) (Y++Y1++Y2) (by rw[bF];show acc.length+1+_<_;exact za ‹_›)) λo' Y' vs r=>?_;have eY:Y++(Y1++Y2++Y')=Y++Y1++Y2++Y':=by simp only[eX]
   have ev:acc++[v]++vs=acc++v::vs:=by rw[eX];rfl
   refine⟨o',Y1++Y2++Y',v::vs,?_⟩;rw[eY,sk,hx];rw[ev] at r;refine⟨rj (hn _) (hb x bA ..) tx ⟨_,_,CP hg r1 (by rw[<- l2];exact Fo (by exact ud ‹_›):tX H.length v (H2++.list acc::(Y++Y1++Y2))=some (H2++.list (acc++[v])::(Y++Y1++Y2))),r.1⟩,⟨v,vs,rfl,hR x v _ _ rv ?_,r.2.1⟩,r.2.2⟩;rw[<- l2];exact Vd (r.2.2.trans l2.symm)
def TX(hg:xJ elt)(hR:∀x v K K',R x v K->Ft H.length K K'->R x v K'){U:aC}{H0:Hp}{x:AV}{src:bJ}{l:List AV}(h1:RE P d true it U H0 x U H)(hs:eS x H=some src)(F:o5 I tg H src l Hz)(hc:jo (slots tg elt) U=e none)(hb:∀x∈l,∀o K,jr tg x (e o) K=.ok () (e (some x)) K)
  (ht:∀x∈l,∀K,I K->K.length=H.length->∀Y,∃Y',RQ P d ifs (e (some x)) (K++Y) (t x) (e (some x)) (K++(Y++Y')))
  (he:∀x∈l,t x=true->∀K,I K->K.length=H.length->∀a Y,∃v Y',RE P d true elt (e (some x)) (K++a::Y) v (e (some x)) (K++a::(Y++Y'))/\R x v (K++a::(Y++Y'))) (hz:l.length<az):
  ∃Y vs,RM P d elt tg it ifs U H0 (.ref H.length) U (Hz++.list vs::Y)/\BO R (l.filter t) vs (Hz++.list vs::Y)/\Hz.length=H.length:=by
 refine iJ (TZ hg hR l (acc:=[]) (Y:=[]) (o:=none) F rfl hb ht he (by show 0+_<_;exact Od ‹_›)) λo' Y' vs r=>?_;rw[<- hc] at r;exact⟨Y',vs,CO h1 hs r.1,r.2⟩
theorem Ua:∀{l vs:List AV} {K:Hp},BO (λx v O=>v=f x) l vs K->vs=l.map f:=by
 intro l
 induction l with
 |nil=>intro vs K h;exact h
 |cons x l ih=>intro vs K h;exact bB h λv r e1 e2 e3=>by rw[e1,e2,ih e3];rfl
def uU(hg:xJ elt){U:aC}{H0:Hp}{x:AV}{src:bJ}{l:List AV}(h1:RE P d true it U H0 x U H)(hs:eS x H=some src)(F:o5 I tg H src l Hz)(hc:jo (slots tg elt) U=e none)(hb:∀x∈l,∀o K,jr tg x (e o) K=.ok () (e (some x)) K)
  (ht:∀x∈l,∀K,I K->K.length=H.length->∀Y,∃Y',RQ P d ifs (e (some x)) (K++Y) (t x) (e (some x)) (K++(Y++Y')))
  (he:∀x∈l,t x=true->∀K,I K->K.length=H.length->∀Y,∃Y',RE P d true elt (e (some x)) (K++Y) (f x) (e (some x)) (K++(Y++Y'))) (hz:l.length<az):
  ∃Y,RM P d elt tg it ifs U H0 (.ref H.length) U (Hz++.list ((l.filter t).map f)::Y)/\Hz.length=H.length:=by
 refine ct (TX (R:=λx v O=>v=f x) hg (λO O O O h O=>h) h1 hs F hc hb ht (λx hx ht K i hl a Y=>ue (he x hx ht K i hl (a::Y)) λY' r=>⟨f x,Y',r,rfl⟩) hz) λY vs r=>?_;exact⟨Y,by rw[<- Ua r.2.1];exact⟨r.1,r.2.2⟩⟩
end
def ZW{α:Type}:∀l:List α,l.filter (λO=>true)=l:=by
 intro l
 induction l with
 |nil=>exact rfl
 |cons x l ih=>exact congrArg (x::·) (ih)
section
variable {d:Nat}{H:Hp}
def XC:∀l:List Ky,rF (l.map .str)=some l.flatten:=by
 intro l
 induction l with
 |nil=>exact rfl
 |cons x l ih=>show((AV.str x).de.bind λa=>(rF (l.map .str)).map (a++·))=_;rw[ih];rfl
def JM{n:Nat}{l:List Ky}(h:ae H n=some (.list (l.map .str)))(hz:l.flatten.length<=az):lL .str 5 (.str []) [.ref n] H=some (.str l.flatten,H):=by show(((cG H (.ref n)).bind λl=>(rF l).bind λx=>aI (Nat.ble x.length az) (some (AV.str x,H))))=_;show((bx H n).bind λl=>(rF l).bind λx=>aI (Nat.ble x.length az) (some (AV.str x,H)))=_;rw[dy h];show((rF (l.map .str)).bind λx=>aI (Nat.ble x.length az) (some (AV.str x,H)))=_;rw[XC];show aI (Nat.ble l.flatten.length az) _=_;rw[eP.mpr hz];rfl
def Bg(l:List Nat):(l.map λc=>[c]).flatten=l:=by
 induction l with
 |nil=>rfl
 |cons c l ih=>rw[bE,List.flatten_cons,ih];rfl
noncomputable def cM(l:List Nat):List AV:=l.map λn:Nat=>.int n
def jC(l:List Nat):AV:=.lst (cM l)
def aeB:∀n:Nat,n<16->j7 (n:Int) [0,1,2,3,4,5,6,7,8,9,10,11,12,13,14,15]=some n:=by decide
noncomputable def vZ(c:C):C:=match c with
 |.eO _ _ _ args _ _=>(match args with|.cons a _=>a|_=>.nil)
 |.call _ args _=>(match args with|.cons a _=>a|_=>.nil)
 |_=>.nil
def sW{tg elt it:C}{e:Option AV->aC}{f:AV->AV}(hg:xJ elt){U:aC}{H0:Hp}{x:AV}{src:bJ}{l:List AV}(h1:RE P d true it U H0 x U H)(hs:eS x H=some src)(F:o5 (Is H) tg H src l H)(hc:jo (slots tg elt) U=e none)(hb:∀x∈l,∀o K,jr tg x (e o) K=.ok () (e (some x)) K)
  (he:∀x∈l,∀Y,∃Y',RE P d true elt (e (some x)) (H++Y) (f x) (e (some x)) (H++(Y++Y'))) (hz:l.length<az):∃Y,RM P d elt tg it .nil U H0 (.ref H.length) U (H++.list (l.map f)::Y):=by
 refine ue (uU (t:=λO=>true) (ifs:=.nil) hg h1 hs F hc hb (λO O K i O Y=>⟨[],by rw[eW];exact xh⟩) (λx hx O K i O=>by cases i;exact he x hx) hz) λY r=>?_;rw[ZW] at r;exact⟨Y,r.1⟩
def Um{row:List Nat}(EA:∀c∈row,c<16)(hz:row.length<az):∃Y,RC P (d+1) (.glob 4) [.cE row] H (.str row) (H++Y):=by
 obtain⟨Y,r⟩:=sW (d:=d) (H:=H) (tg:=eQ (vZ (jX (bg f4.body 0)))) (elt:=eV (vZ (jX (bg f4.body 0)))) (it:=eU (vZ (jX (bg f4.body 0)))) (U:=[some (.cE row),none]) (e:=λo=>[some (.cE row),o]) (f:=λv=>match v with|.int i=>.str [i.toNat-65]|v=>v) (λO O O=>rfl) (af rfl) rfl (Bj (row.map λd=>.int ((65+d:Nat):Int))) rfl (λO O O O=>rfl)
  (λx hx Y=>by refine aq (bW.mp hx) λc hc aa=>?_;subst aa;refine⟨[],?_⟩;rw[eW];refine bO (bL rfl) rfl (aB rfl (af rfl) aE) (gk (b:=.chr) rfl ?_);have:=EA c hc;show aI (Nat.ble 65 (65+c)&&Nat.blt (65+c) 81) (some (AV.str [65+c-65],H++Y))=_;rw[eP.mpr (by exact yY),bG.mpr (by exact Nt ‹_›)];rfl) (by rw[aJ];exact hz)
 have e:(row.map λd=>AV.int ((65+d:Nat):Int)).map (λv=>match v with|.int i=>AV.str [i.toNat-65]|v=>v)=(row.map λc=>[c]).map AV.str:=by rw[cI,cI];refine i6 λc O=>?_;show AV.str [65+c-65]=AV.str [c];rw[Nat.add_sub_cancel_left]
 rw[e] at r;refine⟨.list ((row.map λc=>[c]).map .str)::Y,eT (fd:=f4) (fl:=.ret (.str row)) (ρ1:=[some (.cE row),none]) rfl rfl ⟨_,cK (fX (eN (mk:=.str) aS rfl rfl rfl (aB rfl (uV r) aE) ?_) λO=>rfl) nofun⟩ rfl⟩;have:=JM (H:=H++.list ((row.map λc=>[c]).map .str)::Y) dY (by rw[Bg];exact fG hz);rwa[Bg] at this
noncomputable def cA(l:List Nat):Nat:=l.foldl (λn c=>16*n+c) 0
def Ck(l:List Nat)(c:Nat):cA (l++[c])=16*cA l+c:=by unfold cA;rw[List.foldl_append];rfl
def QS:∀(l:List Nat) (n:Nat),(∀c∈l,c<16)->l.foldl (λn c=>16*n+c) n<(n+1)*16^l.length:=by
 intro l
 induction l with
 |nil=>intro n _;show n<(n+1)*1;exact FU
 |cons c l ih=>intro n h;have h2:=h c bA;show l.foldl _ (16*n+c)<(n+1)*16^(l.length+1);exact dW (ih (16*n+c) λx hx=>h x (bS _ hx)) (aM (Nat.mul_le_mul_right _ (by exact FQ ‹_›):(16*n+c+1)*16^l.length<=(16*(n+1))*16^l.length) (aW (by rw[Nat.pow_succ,Nat.mul_comm (16^l.length) 16,<- Nat.mul_assoc,Nat.mul_comm (n+1) 16]:(n+1)*16^(l.length+1)=(16*(n+1))*16^l.length).symm))
def QR(l:List Nat)(h:∀c∈l,c<16):cA l<16^l.length:=by have:=QS l 0 h;rwa[gA,Nat.one_mul] at this
def Sy{α:Type}:∀l:List α,l=[]\/∃m c,l=m++[c]:=by
 intro l
 induction l with
 |nil=>exact .inl rfl
 |cons x l ih=>
  rcases ih with rfl|⟨m,c,rfl⟩
  ·exact .inr ⟨[],x,rfl⟩
  ·exact .inr ⟨x::m,c,rfl⟩
def SD{l:List Nat}(h:∀c∈l,c<16)(hl:l.length<=40):fM (cA l:Nat)=true:=by refine bG.mpr (dW (show(cA l:Int).natAbs<16^l.length from QR l h) ?_);exact aM (Nat.pow_le_pow_right (by decide) hl) (by decide)
def Gq:∀{c:Nat} {l:List Nat},1<=c->1<=cA (c::l):=λ{c l} h=>by
 have:∀(l:List Nat) (n:Nat),1<=n->1<=l.foldl (λn c=>16*n+c) n:=λl=>by
  induction l with
  |nil=>exact λn h=>h
  |cons x l ih=>exact λn h=>ih _ (show 1<=16*n+x by exact Ol ‹_›)
 exact this l _ (show 1<=16*0+c by exact Om ‹_›)
def aeA:∀c:Nat,c<16->(List.take (c+1) [0,1,2,3,4,5,6,7,8,9,10,11,12,13,14,15]).drop c=[c]:=by decide
def aea(c:Nat)(h:c<16):kC (.cE [0,1,2,3,4,5,6,7,8,9,10,11,12,13,14,15]) (.int c) (.int ((c+1:Nat):Int)) []=some (.cE [c]):=by
 have z:(16:Nat)<=az:=by decide
 show((aI (Nat.ble c az) (some (some (c:Int)))).bind λa=>(aI (Nat.ble (c+1) az) (some (some ((c+1:Nat):Int)))).map λb=>AV.cE (dA a b [0,1,2,3,4,5,6,7,8,9,10,11,12,13,14,15]))=_;rw[eP.mpr (aM (fG h) z),eP.mpr (aM h z)];exact congrArg (λl=>some (AV.cE l)) (aeA c h)
noncomputable abbrev Nb:AV:=.cE [0,1,2,3,4,5,6,7,8,9,10,11,12,13,14,15]
def ad9:∀(n:Nat) {l post:List Nat} {u:Option AV},l.length=n->(∀c∈l,c<16)->n+post.length<=40->(∀c r,l=c::r->1<=c) ->
  ∃u',RW P d true (gB (bg f3.body 3)) (bz (bg f3.body 3)) (iV (bg f3.body 3)) [some (.int (cA l:Nat)),some (.cE post),some Nb,u] H .next [some (.int (0:Nat)),some (.cE (l++post)),some Nb,u'] H:=by
 intro n
 induction n with
 |zero=>intro l post u hn _ _ _;cases List.eq_nil_of_length_eq_zero hn;exact⟨u,mV (kE (af rfl) rfl) aO⟩
 |succ n ih=>
  intro l post u hn h hl h1;rcases Sy l with rfl|⟨m,c,rfl⟩
  ·cases hn
  have hc:c<16:=h c (mE _ bA);have pos:1<=cA (m++[c]):=by
   cases m with
   |nil=>exact Gq (h1 c [] rfl)
   |cons x m=>exact Gq (h1 x (m++[c]) rfl)
  refine ue (ih (l:=m) (post:=c::post) (u:=some (.int c)) (by rw[bF] at hn;exact Nat.succ.inj hn:m.length=n) (λx hx=>h x (nT _ hx)) (by rw[i5];exact NS ‹_›) (λx r e=>h1 x (r++[c]) (by rw[e];rfl))) λu' r=>?_;have tr:gQ (.int (cA (m++[c]):Nat)) H=some true:=by
   show some (!(Nat.beq (cA (m++[c])) 0))=_;have:Nat.beq (cA (m++[c])) 0=false:=by
    cases hb:Nat.beq (cA (m++[c])) 0 with
    |true=>exact absurd (bV hb) (dM pos)
    |false=>rfl
   rw[this];rfl
  have dm:RC P d (.glob 18) [.int (cA (m++[c]):Nat),.int 16] H (.tup [.int (cA m:Nat),.int (c:Nat)]) H:=gk (b:=.divmod) rfl (by
   have e1:((cA (m++[c]):Nat):Int).fdiv 16=(cA m:Nat):=by rw[Ck,Int.fdiv_eq_ediv_of_nonneg _ (by decide)];exact congrArg Int.ofNat (show(16*cA m+c)/16=cA m by rw[Nat.mul_add_div (by decide),Nat.div_eq_of_lt hc,Nat.add_zero])
   have e2:((cA (m++[c]):Nat):Int).fmod 16=(c:Nat):=by rw[Ck,Int.fmod_eq_emod_of_nonneg _ (by decide)];exact congrArg Int.ofNat (show(16*cA m+c)%16=c by rw[Nat.mul_add_mod,Nat.mod_eq_of_lt hc])
   show aI (!ji 16 0&&fM 16) (some (AV.tup [.int (((cA (m++[c]):Nat):Int).fdiv 16),.int (((cA (m++[c]):Nat):Int).fmod 16)],H))=_;rw[e1,e2];rfl)
  have ad:iA .Add (.cE [c]) (.cE post) H=some (.cE (c::post)):=by show aI (Nat.ble (1+post.length) az) (some (AV.cE (c::post)))=_;rw[eP.mpr (by exact NN ‹_› (by decide))];rfl
  refine⟨u',?_⟩;rw[eX];exact kD (f:=.next) (kE (af rfl) tr) (aj (uS (bO (bL rfl) rfl (aB rfl (af rfl) (aB rfl aS aE)) dm) (λO=>rfl) rfl) (aj (bC (du (jc (af rfl) (iO (af rfl) λO=>rfl) (iO (du (af rfl) aS (kT (k:=((c+1:Nat):Int)) rfl)) λO=>rfl) (aea c hc)) (af rfl) ad) (λO=>rfl) rfl rfl) aO)) rfl r
def UH{row:List Nat}(h:∀c∈row,c<16)(hl:row.length<=40)(h1:∀c r,row=c::r->1<=c):RC P (d+1) (.glob 3) [.int (-(cA row:Nat))] H (.cE row) H:=by
 refine ue (ad9 (d:=d) (H:=H) row.length (l:=row) (post:=[]) (u:=none) rfl h hl h1) λu' r=>?_;rw[eW] at r;have ab:RC P d (.glob 15) [.int (-(cA row:Nat))] H (.int (cA row:Nat)) H:=gk (b:=.abs) rfl (by
  have:(match gb (-(cA row:Nat)) 0 with|true=>-(-(cA row:Nat):Int)|false=>-(cA row:Nat))=(cA row:Int):=by
   cases cA row with
   |zero=>rfl
   |succ n=>rfl
  show some (AV.int (match gb (-(cA row:Nat)) 0 with|true=>-(-(cA row:Nat):Int)|false=>-(cA row:Nat)),H)=_;rw[this])
 exact eT (fd:=f3) (fl:=.ret (.cE row)) (ρ1:=[some (.int (-(cA row:Nat))),none,none,none]) rfl rfl ⟨_,aj (bC aS (λO=>rfl) rfl rfl) (aj (bC aS (λO=>rfl) rfl rfl) (aj (bC (bO (bL rfl) rfl (aB rfl (bO (bL rfl) rfl (aB rfl (af rfl) aE) ab) aE) (gk (b:=.int) rfl rfl:RC P d (.glob 17) [.int (cA row:Nat)] H (.int (cA row:Nat)) H)) (λO=>rfl) rfl rfl) (aj (kF r) (cK (fX (af rfl) λO=>rfl) nofun))))⟩ rfl
end
end
variable {α:Type}
noncomputable def cJ{β:Type}(f:α->β)(l:List α):List β:=List.rec (motive:=λO=>List β) [] (λx O ih=>f x::ih) l
noncomputable def d9(p:α->Bool)(l:List α):List α:=List.rec (motive:=λO=>List α) [] (λx O ih=>match p x with|true=>x::ih|false=>ih) l
noncomputable def bI{β:Type}(f:β->α->β)(l:List α):β->β:=List.rec (motive:=λO=>β->β) (λb=>b) (λx O ih b=>ih (f b x)) l
noncomputable def bj(l m:List α):List α:=List.rec (motive:=λO=>List α) m (λx O ih=>x::ih) l
noncomputable def dq(l:List α):List α->List α:=List.rec (motive:=λO=>List α->List α) (λm=>m) (λx O ih m=>ih (x::m)) l
noncomputable def ke(p:α->Bool)(l:List α):Bool:=List.rec (motive:=λO=>Bool) false (λx O ih=>match p x with|true=>true|false=>ih) l
noncomputable def gL(p:α->Bool)(l:List α):Bool:=List.rec (motive:=λO=>Bool) true (λx O ih=>match p x with|true=>ih|false=>false) l
abbrev bT:=Ky×Nat×Ky×Bool
noncomputable def fc(a:Ky):Bool:=match a with|[]=>true|_::_=>false
noncomputable def bw(o:Ky)(a:Ky):Ky->Nat->bT:=List.rec (motive:=λO=>Ky->Nat->bT) (λb g=>(o,g,b,true)) (λx a ih b g=>match b with|[]=>(o,g,x::a,true)|y::b=>match Nat.beq x y with|true=>ih b (g+1)|false=>(o,g,[],false)) a
noncomputable def gE(x:aT)(r:List aT):aT:=List.rec (motive:=λO=>aT->aT) (λx=>x) (λy O ih x=>ih y) r x
noncomputable def gh(x:aT)(r:List aT):List aT:=List.rec (motive:=λO=>aT->List aT) (λx=>[]) (λy O ih x=>x::ih y) r x
def ck(b:Nat)(l:bT)(h:List aT):List aT:=match l.2.2.2 with|true=>oJ (((b+l.2.1:Nat):Int),l.2.2.1) h|false=>h
def di(k:Ky)(l:List (Ky×Nat)):Bool:=List.rec (motive:=λO=>Bool) false (λp O ih=>match ak p.1 k with|true=>true|false=>ih) l
def jh(k:Ky)(l:List (Ky×Nat)):Nat:=List.rec (motive:=λO=>Nat) 0 (λp O ih=>match ak p.1 k with|true=>p.2|false=>ih) l
abbrev fU:=List (Ky×Nat)×List bT×List Nat
def fC(r:Ky)(n:Nat)(ws:List Ky):List aT->List bT->List aT×List bT:=List.rec (motive:=λO=>List aT->List bT->List aT×List bT) (λh L=>(h,L)) (λw O ih h L=>match bw r r w 0 with|l=>ih (ck n l h) (l::L)) ws
def xC(h:List aT):Option (aT×List aT):=match h with|[]=>none|x::r=>some (gy (gh x r) (gE x r))
def iL(ws:List Ky)(m:Nat):List aT->fU->Option fU:=Nat.rec (motive:=λO=>List aT->fU->Option fU) (λO O=>none) (λO ih h F=>match xC h with
 |none=>some F
 |some y=>match y.1.1 with
  |.negSucc _=>none
  |.ofNat n=>match fc y.1.2 with
   |true=>ih y.2 (F.1,F.2.1,n::F.2.2)
   |false=>match di y.1.2 F.1 with
    |true=>ih y.2 F
    |false=>match Nat.blt y.1.2.length 40 with
     |false=>none
     |true=>match fC y.1.2 n ws y.2 F.2.1 with
      |q=>ih q.1 ((y.1.2,n)::F.1,q.2,F.2.2)) m
def zC(a b c:Ky):List bT:=[bw [] b c 0,bw [] a c 0,bw [] a b 0]
def pP(a b c:Ky):Option fU:=iL [a,b,c] 100 (ck 0 (bw [] b c 0) (ck 0 (bw [] a c 0) (ck 0 (bw [] a b 0) []))) ([([],0)],zC a b c,[])
def gX(k:Ky)(g:List Ad):Bool:=List.rec (motive:=λO=>Bool) false (λp O ih=>match ak p.1 k with|true=>true|false=>ih) g
def jJ(g:List Ad)(k:Ky):List Ad:=match gX k g with|true=>g|false=>bj g [(k,0,[])]
def gS(g:List Ad)(k:Ky)(f:Int->Int):List Ad:=cJ (λt=>match ak t.1 k with|true=>(t.1,f t.2.1,t.2.2)|false=>t) g
def uM(g:List Ad)(k x:Ky):List Ad:=cJ (λt=>match ak t.1 k with|true=>(t.1,t.2.1,bj t.2.2 [x])|false=>t) g
def qr(g:List Ad)(l:bT):List Ad:=match fc l.2.2.1 with|true=>g|false=>uM (jJ (gS (jJ g l.2.2.1) l.2.2.1 λn=>n+1) l.1) l.1 l.2.2.1
def nz(R:List (Ky×Nat))(L:List bT):List Ad:=bI qr L (bI (λg p=>jJ g p.1) R [])
def lN(l:List Nat):Nat:=bI (λa b=>match Nat.blt a b with|true=>b|false=>a) l 0
def gf(bq:List (Ky×Nat))(l:bT):Nat:=jh l.1 bq+l.2.1
def kL(x:Ky)(l:bT):Bool:=match ak l.2.2.1 x with|true=>!fc l.2.2.1|false=>false
def rE(L:List bT)(bq:List (Ky×Nat))(x:Ky):List (Ky×Nat):=(x,lN (cJ (gf bq) (d9 (kL x) L)))::bq
def lF(g:List Ad):List Ky:=cJ (·.1) (d9 (λt=>dQ t.2.1 0) g)
def fL(g:List Ad)(k:Ky):List Ky:=List.rec (motive:=λO=>List Ky) [] (λp O ih=>match ak p.1 k with|true=>p.2.2|false=>ih) g
def gT(g:List Ad)(k:Ky):Int:=List.rec (motive:=λO=>Int) 0 (λp O ih=>match ak p.1 k with|true=>p.2.1|false=>ih) g
def kN(q:List Ad×List Ky)(y:Ky):List Ad×List Ky:=match gT q.1 y-1 with
 |i=>(gS q.1 y λO=>i,match dQ i 0 with|true=>bj q.2 [y]|false=>q.2)
def j9(l:List Ky):List Ad×List Ky->Option (List Ad×List Ky):=List.rec (motive:=λO=>List Ad×List Ky->Option (List Ad×List Ky)) (λq=>some q) (λx O ih q=>match fL q.1 x with
 |su=>match dQ (gT q.1 x) (-1)&&(gL (λy=>gX y q.1) su&&Nat.blt (q.2.length+su.length) 1000) with
  |true=>ih (bI kN su (gS q.1 x λO=>-2,q.2))
  |false=>none) l
def lG(g:List Ad)(l:List Ky):List Ad:=bI (λg k=>gS g k λO=>-1) l g
def lP(L:List bT)(m:Nat):List Ad->List Ky->List (Ky×Nat)->List Ky->Option (List Ky×List (Ky×Nat)):=Nat.rec (motive:=λO=>List Ad->List Ky->List (Ky×Nat)->List Ky->Option (List Ky×List (Ky×Nat))) (λO O O O=>none) (λO ih g bc bq told=>match bc with
 |[]=>some (told,bq)
 |x::r=>match gL (λy=>gX y g) (x::r)&&Nat.blt (told.length+(x::r).length) 900 with
  |false=>none
  |true=>(j9 (x::r) (lG g (x::r),[])).bind λq=>ih q.1 q.2 (bI (rE L) (x::r) bq) (bj told (x::r))) m
def kG(R:List (Ky×Nat))(L:List bT):Option (Bool×List Ky×Nat):=match nz R L with
 |g=>match Nat.blt g.length 1000 with
  |false=>none
  |true=>(jl g g []).bind λring=>(lP L 100 g (lF g) [] []).bind λq=>match Nat.blt q.1.length 64 with
   |false=>none
   |true=>some (ring,cC bu q.1,lN (cJ (gf q.2) L))
def gi(L:List bT)(left:List Ky):List Ky:=d9 (λr=>!(ke (λl=>match kL r l with|true=>aU l.1 left|false=>false) L)) left
def iw(L:List bT)(m:Nat):List Ky->List Ky->Option (List Ky):=Nat.rec (motive:=λO=>List Ky->List Ky->Option (List Ky)) (λO O=>none) (λO ih left free=>match gi L left with
 |[]=>match Nat.blt free.length 64 with|false=>none|true=>some (cC bu free)
 |x::r=>ih (d9 (λy=>!aU y (x::r)) left) (bj free (x::r))) m
abbrev Pr:=Ky×Ky
def g5(a b:Pr):Bool:=match ak a.1 b.1 with|true=>ak a.2 b.2|false=>false
def cZ(a b:Ky):Pr:=match bu b a with|true=>(b,a)|false=>(a,b)
def iq(p:Pr)(l:List Pr):Bool:=List.rec (motive:=λO=>Bool) false (λq O ih=>match g5 q p with|true=>true|false=>ih) l
def lH(a b:Ky)(made:List Pr):List Pr:=match a with
 |[]=>made
 |x::a=>match b with
  |[]=>made
  |y::b=>match Nat.beq x y with
   |false=>made
   |true=>match iq (cZ a b) made with|true=>made|false=>bj made [cZ a b]
noncomputable def jF(ws:List Ky)(a:Ky):List Ky:=match a with|[]=>ws|_::_=>[a]
def dw(a b:Pr):Bool:=match ak a.1 b.1 with|true=>bu a.2 b.2|false=>bu a.1 b.1
def fA(ws:List Ky)(ps:List Pr):List Pr:=bI (λmade p=>bI (λmade a=>bI (λmade b=>lH a b made) (jF ws p.2) made) (jF ws p.1) made) ps []
def oP(l:List Pr):List Pr->Bool:=List.rec (motive:=λO=>List Pr->Bool) (λm=>match m with|[]=>true|_::_=>false) (λa O ih m=>match m with|[]=>false|b::m=>match g5 a b with|true=>ih m|false=>false) l
def lM(p:List Pr)(l:List (List Pr)):Bool:=List.rec (motive:=λO=>Bool) false (λq O ih=>match oP q p with|true=>true|false=>ih) l
def fY(n:Nat)(q:List (Ky×Nat)×List Nat)(p:Pr):List (Ky×Nat)×List Nat:=match p.1 with
 |[]=>match p.2 with
  |[]=>(q.1,bj q.2 [n])
  |_::_=>match di p.2 q.1 with|true=>q|false=>(bj q.1 [(p.2,n)],q.2)
 |_::_=>q
def jq(p:Pr):Bool:=match p.1 with|[]=>fc p.2|_::_=>false
abbrev rZ:=List (Ky×Nat)×List Nat×Bool×Nat
def j0(ws:List Ky)(m:Nat):List Pr->List (List Pr)->List (Ky×Nat)->List Nat->Nat->Nat->Option rZ:=Nat.rec (motive:=λO=>List Pr->List (List Pr)->List (Ky×Nat)->List Nat->Nat->Nat->Option rZ) (λO O O O O O=>none) (λO ih ps seen R D t deep=>match ps with
  |[]=>some (R,D,false,deep)
  |p::ps=>match lM (p::ps) seen with
   |true=>some (R,D,true,deep)
   |false=>match fA ws (p::ps) with|md=>match Nat.blt md.length 64 with|false=>none|true=>match cC dw md with|made=>match bI (fY (t+1)) made (R,D) with
     |q=>ih (d9 (λp=>!jq p) made) (bj seen [p::ps]) q.1 q.2 (t+1) (match made with|[]=>deep|_::_=>t+1)) m
def zy(a b:List (Ky×Nat)):Bool:=!(ke (λp=>match di p.1 b with|true=>!(Nat.beq (jh p.1 b) p.2)|false=>true) a)
def nC(a b:List (Ky×Nat)):Bool:=match Nat.beq a.length b.length with|true=>zy a b|false=>false
def oQ(l:List Ky):List Ky->Bool:=List.rec (motive:=λO=>List Ky->Bool) (λm=>match m with|[]=>true|_::_=>false) (λa O ih m=>match m with|[]=>false|b::m=>match ak a b with|true=>ih m|false=>false) l
noncomputable def gW(D:List Nat):List Nat:=D.take 1
def j5(a b c:Ky):Bool:=match pP a b c with
 |none=>false
 |some F=>match dq F.1 [] with|R=>match dq F.2.1 [] with|L=>match kG R L with
  |none=>false
  |some o=>match j0 [a,b,c] 100 [(a,b),(a,c),(b,c)] [] [([],0)] [] 0 0 with
   |none=>false
   |some S=>match iw L 100 (cJ (·.1) R) [] with
    |none=>false
    |some fr=>nC F.1 S.1&&(ak (gW (dq F.2.2 [])) (gW S.2.1)&&(vM o.1 S.2.2.1&&(oQ o.2.1 fr&&(o.1||Nat.beq o.2.2 S.2.2.2))))
section
variable {α:Type}
def nc{β:Type}(f:α->β):∀l:List α,cJ f l=l.map f:=by
 intro l
 induction l with
 |nil=>rfl
 |cons x l ih=>exact congrArg (f x::·) ih
def nA(p:α->Bool):∀l:List α,d9 p l=l.filter p:=by
 intro l
 induction l with
 |nil=>rfl
 |cons x l ih=>show(match p x with|true=>x::d9 p l|false=>d9 p l)=_;rw[sk,ih];cases p x<;>rfl
def Lu{β:Type}(f:β->α->β):∀(l:List α) (b:β),bI f l b=l.foldl f b:=by
 intro l
 induction l with
 |nil=>intro b;rfl
 |cons x l ih=>intro b;exact ih (f b x)
def fR(m:List α):∀l:List α,bj l m=l++m:=by
 intro l
 induction l with
 |nil=>rfl
 |cons x l ih=>exact congrArg (x::·) ih
def T8:∀l m:List α,dq l m=l.reverse++m:=by
 intro l
 induction l with
 |nil=>intro m;rfl
 |cons x l ih=>intro m;rw[List.reverse_cons,eX];exact ih (x::m)
def xo(l:List α):dq l []=l.reverse:=by rw[T8,eW]
def Fp(p:α->Bool):∀l:List α,ke p l=l.any p:=by
 intro l
 induction l with
 |nil=>rfl
 |cons x l ih=>show(match p x with|true=>true|false=>ke p l)=(p x||l.any p);rw[ih];cases p x<;>rfl
def tY(p:α->Bool):∀l:List α,gL p l=l.all p:=by
 intro l
 induction l with
 |nil=>rfl
 |cons x l ih=>show(match p x with|true=>gL p l|false=>false)=(p x&&l.all p);rw[ih];cases p x<;>rfl
def M4{p:α->Bool}{l:List α}(h:gL p l=true):∀x∈l,p x=true:=by rw[tY] at h;exact iH.mp h
section
variable {d:Nat}{H:Hp}{a b:Ky}
def HK{P:bP}{q:Bool}{U ρ1:aC}{H1:Hp}{n:Str}{op:Operator}{k:Nat}{p p':Pos}{e:C}{x y v:AV}(h0:ae U k=some (some x))(h1:RE P d q e U H y ρ1 H1)(h:tW op x y=some v)(hk:Nat.blt k ρ1.length=true):RS P d q (.aug op (.var n k p) e p') U H .next (ai ρ1 (some v) k) H1:=.step (.bind (.Gl h0) (.bind h1 (.bind (.rd (f:=λO=>tW op x y) h) (.bind (.setM hk) .ret))))
def W3(h:a.length<=az):tT .len (.str a) H=some (.int a.length,H):=by show((some a.length).bind λk=>aI (Nat.ble k az) (some (AV.int k,H)))=_;show aI (Nat.ble a.length az) _=_;rw[eP.mpr h];rfl
def Ib(h:a.length<=az):RC P d (.glob 10) [.str a] H (.int a.length) H:=gk (b:=.len) rfl (W3 h)
def Hi{n:Nat}(h:n<=az):kC (.str a) .none (.int n) H=some (.str (a.take n)):=by show((kO .none).bind λlo=>(kO (.int n)).map λb=>AV.str (dA lo b a))=_;show((aI (Nat.ble n az) (some (some (n:Int)))).map λb=>AV.str (dA none b a))=_;rw[eP.mpr h];rfl
def Cy{n:Nat}(h:n<=az):kC (.str a) (.int n) .none H=some (.str (a.drop n)):=by show((kO (.int n)).bind λlo=>(kO .none).map λb=>AV.str (dA lo b a))=_;show((aI (Nat.ble n az) (some (some (n:Int)))).bind λlo=>some (AV.str (dA lo none a)))=_;rw[eP.mpr h];rfl
def nB:fQ .Eq (.str a) (.str b) H=some (ak a b):=rfl
def Dl:fQ .NotEq (.str a) (.str b) H=some (!ak a b):=rfl
def uL{n:Nat}{c:Nat}(h:ae a n=some c):lB (.str a) (.int n) H=some (.str [c]):=by show(j7 (n:Int) a).map (λc=>AV.str [c])=_;show(ae a n).map (λc=>AV.str [c])=_;rw[h];rfl
def EM{x y:Nat}:ak [x] [y]=Nat.beq x y:=by show(match Nat.beq x y with|true=>true|false=>false)=_;cases Nat.beq x y<;>rfl
noncomputable def fD(l:bT):AV:=.tup [.str l.1,.int l.2.1,.str l.2.2.1,.bool l.2.2.2]
def Xh{o:Ky}:∀{a b:Ky} {g:Nat},ak (a.take b.length) b=true->bw o a b g=(o,g+b.length,a.drop b.length,true):=by
 intro a
 induction a with
 |nil=>
  intro b g h;cases b with
  |nil=>rfl
  |cons y b=>exact nomatch h
 |cons x a ih=>
  intro b g h;cases b with
  |nil=>rfl
  |cons y b=>
   have h:(match Nat.beq x y with|true=>ak (a.take b.length) b|false=>false)=true:=h;show(match Nat.beq x y with|true=>bw o a b (g+1)|false=>(o,g,[],false))=_;cases e:Nat.beq x y with
   |false=>rw[e] at h;exact nomatch h
   |true=>rw[e] at h;show bw o a b (g+1)=_;rw[ih h,uy g 1];rfl
def Xg{o:Ky}:∀{a b:Ky} {g:Nat},ak (a.take b.length) b=false->ak (b.take a.length) a=true->bw o a b g=(o,g+a.length,b.drop a.length,true):=by
 intro a
 induction a with
 |nil=>intro b g _ h;rfl
 |cons x a ih=>
  intro b g h1 h;cases b with
  |nil=>exact nomatch h
  |cons y b=>
   have h1:(match Nat.beq x y with|true=>ak (a.take b.length) b|false=>false)=false:=h1;have h:(match Nat.beq y x with|true=>ak (b.take a.length) a|false=>false)=true:=h;show(match Nat.beq x y with|true=>bw o a b (g+1)|false=>(o,g,[],false))=_;cases e:Nat.beq y x with
   |false=>rw[e] at h;exact nomatch h
   |true=>have e':=bV e;subst e';rw[fV] at h1 h⊢;show bw o a b (g+1)=_;rw[ih h1 h,uy g 1];rfl
def Xf{o:Ky}{a0 b0:Ky}{R:Nat->Prop}(step:∀g x y,ae a0 g=some x->ae b0 g=some y->Nat.beq x y=true->R (g+1)->R g)(last:∀g x y,ae a0 g=some x->ae b0 g=some y->Nat.beq x y=false->bw o a0 b0 0=(o,g,[],false)->R g):
  ∀{a b:Ky} {g:Nat},a=a0.drop g->b=b0.drop g->bw o a0 b0 0=bw o a b g->ak (a.take b.length) b=false->ak (b.take a.length) a=false->R g:=by
 intro a
 induction a with
 |nil=>intro b g _ _ _ h1 h;exact nomatch h
 |cons x a ih=>
  intro b g ea eb el h1 h;cases b with
  |nil=>exact nomatch h1
  |cons y b=>
   have na:ae a0 g=some x:=by
    cases e:ae a0 g with
    |none=>rw[ES e] at ea;exact nomatch ea
    |some z=>rw[j8 e] at ea;rw[(nQ ea).1]
   have nb:ae b0 g=some y:=by
    cases e:ae b0 g with
    |none=>rw[ES e] at eb;exact nomatch eb
    |some z=>rw[j8 e] at eb;rw[(nQ eb).1]
   rw[j8 na] at ea;rw[j8 nb] at eb;have h1:(match Nat.beq x y with|true=>ak (a.take b.length) b|false=>false)=false:=h1;have h:(match Nat.beq y x with|true=>ak (b.take a.length) a|false=>false)=false:=h;have el:bw o a0 b0 0=(match Nat.beq x y with|true=>bw o a b (g+1)|false=>(o,g,[],false)):=el;cases e:Nat.beq x y with
   |false=>rw[e] at el;exact last g x y na nb e el
   |true=>have e':=bV e;subst e';rw[fV] at h1 h el;exact step g x x na nb (fV x) (ih (nQ ea).2 (nQ eb).2 el h1 h)
abbrev tv:S:=bg f6.body 3
def Ic(ha:a.length<=az)(hb:b.length<=az):RC P (d+1) (.glob 6) [.str a,.str b] H (fD (bw a a b 0)) H:=by
 have la:=Ib (d:=d) (H:=H) ha;have lb:=Ib (d:=d) (H:=H) hb;have t1:∀p1 p2 p3 p4 p5 p6 p7 p8,RT P d true (.cmp .Eq (.fN (.var "rest" 0 p1) .nil (.call (.glob "len" 10 p2) (.cons (.var "word" 1 p3) .nil) p4) p5 p6) (.var "word" 1 p7) p8) [some (.str a),some (.str b),none] H (ak (a.take b.length) b) [some (.str a),some (.str b),none] H:=λp1 p2 p3 p4 p5 p6 p7 p8=>bH (jc (af rfl) jD (iO (bO (bL rfl) rfl (aB rfl (af rfl) aE) lb) λO=>rfl) (Hi hb)) (af rfl) nB
 have t2:∀p1 p2 p3 p4 p5 p6 p7 p8,RT P d true (.cmp .Eq (.fN (.var "word" 1 p1) .nil (.call (.glob "len" 10 p2) (.cons (.var "rest" 0 p3) .nil) p4) p5 p6) (.var "rest" 0 p7) p8) [some (.str a),some (.str b),none] H (ak (b.take a.length) a) [some (.str a),some (.str b),none] H:=λp1 p2 p3 p4 p5 p6 p7 p8=>bH (jc (af rfl) jD (iO (bO (bL rfl) rfl (aB rfl (af rfl) aE) la) λO=>rfl) (Hi ha)) (af rfl) nB
 refine eT (fd:=f6) (fl:=.ret (fD (bw a a b 0))) (ρ1:=[some (.str a),some (.str b),none]) rfl rfl ?_ rfl;cases h1:ak (a.take b.length) b with
 |true=>rw[h1] at t1;rw[Xh h1,gA];exact⟨_,cK (bM (t1 ..) (cK (fX (ou (aB rfl (af rfl) (aB rfl (bO (bL rfl) rfl (aB rfl (af rfl) aE) lb) (aB rfl (jc (af rfl) (iO (bO (bL rfl) rfl (aB rfl (af rfl) aE) lb) λO=>rfl) jD (Cy hb)) (aB rfl aS aE))))) λO=>rfl) nofun)) nofun⟩
 |false=>
  rw[h1] at t1;cases h2:ak (b.take a.length) a with
  |true=>rw[h2] at t2;rw[Xg h1 h2,gA];exact⟨_,aj (bM (t1 ..) aO) (cK (bM (t2 ..) (cK (fX (ou (aB rfl (af rfl) (aB rfl (bO (bL rfl) rfl (aB rfl (af rfl) aE) la) (aB rfl (jc (af rfl) (iO (bO (bL rfl) rfl (aB rfl (af rfl) aE) la) λO=>rfl) jD (Cy ha)) (aB rfl aS aE))))) λO=>rfl) nofun)) nofun)⟩
  |false=>
   rw[h2] at t2;have lp:∃g,bw a a b 0=(a,g,[],false)/\RW P d true (gB tv) (bz tv) (iV tv) [some (.str a),some (.str b),some (.int (0:Nat))] H .next [some (.str a),some (.str b),some (.int (g:Nat))] H:=by
    refine Xf (o:=a) (a0:=a) (b0:=b) (R:=λg0=>∃g,bw a a b 0=(a,g,[],false)/\RW P d true (gB tv) (bz tv) (iV tv) [some (.str a),some (.str b),some (.int (g0:Nat))] H .next [some (.str a),some (.str b),some (.int (g:Nat))] H) (λg x y na nb e r=>?_) (λg x y na nb e el=>?_) (g:=0) rfl rfl rfl h1 h2
    ·have tt:RT P d true (gB tv) [some (.str a),some (.str b),some (.int (g:Nat))] H true [some (.str a),some (.str b),some (.int (g:Nat))] H:=bH (dP (af rfl) (af rfl) (uL na)) (dP (af rfl) (af rfl) (uL nb)) (by rw[nB,EM,e]);refine aq r λg' r1 r2=>⟨g',r1,kD (f:=.next) tt (aj (HK rfl aS rfl rfl) aO) rfl r2⟩
    ·exact⟨g,el,mV (bH (dP (af rfl) (af rfl) (uL na)) (dP (af rfl) (af rfl) (uL nb)) (by rw[nB,EM,e])) aO⟩
   refine aq lp λg el r=>?_;rw[el];exact⟨_,aj (bM (t1 ..) aO) (aj (bM (t2 ..) aO) (aj (bC aS (λO=>rfl) rfl rfl) (aj (kF r) (cK (fX (ou (aB rfl (af rfl) (aB rfl (af rfl) (aB rfl aS (aB rfl aS aE))))) λO=>rfl) nofun))))⟩
end
end
section
theorem HA{x:aT}:∀(n:Nat) {l:List aT} {p:Nat},(iM x n l p).length=l.length:=by
 intro n
 induction n with
 |zero=>intro l p;exact cB
 |succ n ih=>
  intro l p;cases p with
  |zero=>exact cB
  |succ p=>
   show(match ae l (p/2) with
    |none=>ai l x (p+1)
    |some y=>match fZ x y with
     |true=>iM x n (ai l y (p+1)) (p/2)
     |false=>ai l x (p+1)).length=_
   cases ae l (p/2) with
   |none=>exact cB
   |some y=>
    show(match fZ x y with
     |true=>iM x n (ai l y (p+1)) (p/2)
     |false=>ai l x (p+1)).length=_
    cases fZ x y with
    |true=>exact ih.trans cB
    |false=>exact cB
def RP:∀(n:Nat) {l:List aT} {p:Nat},(gq n l p).1.length=l.length:=by
 intro n
 induction n with
 |zero=>intro l p;rfl
 |succ n ih=>
  intro l p;rw[GO];cases Nat.blt (2*p+1) l.length with
  |false=>rfl
  |true=>cases ae l (gj l (2*p+1)) with
   |none=>rfl
   |some y=>exact ih.trans cB
def Yy{x:aT}{l:List aT}:(oJ x l).length=l.length+1:=by unfold oJ;rw[HA,bF];rfl
def YC{x:aT}{l:List aT}:(gy l x).2.length=l.length:=by
 cases l with
 |nil=>rfl
 |cons y r=>show(og x (x::r)).length=_;unfold og;rw[HA,cB,RP];rfl
def J6:∀(r:List aT) (x:aT),x::r=gh x r++[gE x r]:=by
 intro r
 induction r with
 |nil=>intro x;rfl
 |cons y r ih=>intro x;exact congrArg (x::·) (ih y)
def Wf(k:Ky)(l:List Ky):aU k l.reverse=aU k l:=by rw[pg,mZ,mZ,wy]
noncomputable def eH(R:List (Ky×Nat)):List (List Nat×AV):=(R.reverse).map λp=>(p.1,.int p.2)
def KS(k:Ky):∀R:List (Ky×Nat),di k R=aU k (R.map (·.1)):=by
 intro R
 induction R with
 |nil=>rfl
 |cons p R ih=>show(match ak p.1 k with|true=>true|false=>di k R)=(match ak p.1 k with|true=>true|false=>aU k (R.map (·.1)));rw[ih]
def Uk(R:List (Ky×Nat)):(eH R).map (·.1)=(R.map (·.1)).reverse:=by unfold eH;rw[cI,<- List.map_reverse];rfl
def Eo(k:Ky)(R:List (Ky×Nat)):c5 k (eH R)=di k R:=by rw[yl,KS,Uk,Wf]
def JB{o:Ky}:∀{a b:Ky} {g:Nat},(bw o a b g).1=o:=by
 intro a
 induction a with
 |nil=>intro b g;rfl
 |cons x a ih=>
  intro b g;cases b with
  |nil=>rfl
  |cons y b=>
   show(match Nat.beq x y with|true=>bw o a b (g+1)|false=>(o,g,[],false)).1=_;cases Nat.beq x y with
   |true=>exact ih
   |false=>rfl
def Xc{o o':Ky}:∀{a b:Ky} {g:Nat},(bw o a b g).2=(bw o' a b g).2:=by
 intro a
 induction a with
 |nil=>intro b g;rfl
 |cons x a ih=>
  intro b g;cases b with
  |nil=>rfl
  |cons y b=>
   show(match Nat.beq x y with|true=>bw o a b (g+1)|false=>(o,g,[],false)).2=(match Nat.beq x y with|true=>bw o' a b (g+1)|false=>(o',g,[],false)).2;cases Nat.beq x y with
   |true=>exact ih
   |false=>rfl
def Se(K0:Hp)(h:List aT)(F:fU)(H:Hp):Prop:=ba K0.length K0 H/\K0.length+4<=H.length/\ae H K0.length=some (dz h)/\ae H (K0.length+1)=some (.list ((F.2.1.reverse).map fD))/\(∃ep,ae H (K0.length+2)=some (.dict ep (eH F.1)))/\ae H (K0.length+3)=some (.list ((F.2.2.reverse).map λn:Nat=>.int n))
section
variable {K0 H:Hp}{h:List aT}{F:fU}
def pZ{a i j:Nat}(h:i≠j):a+i≠a+j:=λe=>h (Nat.add_left_cancel e)
def oA{a j:Nat}(h:0≠j):a≠a+j:=pZ (a:=a) (i:=0) h
def Se.heap{h':List aT}(S:Se K0 h F H):Se K0 h' F (ai H (dz h') K0.length):=by obtain⟨l,n,a,b,⟨ep,c⟩,e⟩:=S;exact⟨l.trans (ba.upd (bf _)),by rw[cB];exact n,cV (bk a),(bh (oA (by decide))).trans b,⟨ep,(bh (oA (by decide))).trans c⟩,(bh (oA (by decide))).trans e⟩
def Se.JA{L:List bT}(S:Se K0 h F H):Se K0 h (F.1,L,F.2.2) (ai H (.list ((L.reverse).map fD)) (K0.length+1)):=by obtain⟨l,n,a,b,⟨ep,c⟩,e⟩:=S;exact⟨l.trans (ba.upd (eE ..)),by rw[cB];exact n,(bh (oA (by decide)).symm).trans a,cV (bk b),⟨ep,(bh (pZ (by decide))).trans c⟩,(bh (pZ (by decide))).trans e⟩
def Se.Ul{R:List (Ky×Nat)}{ep:Nat}(S:Se K0 h F H):Se K0 h (R,F.2) (ai H (.dict ep (eH R)) (K0.length+2)):=by obtain⟨l,n,a,b,⟨ep',c⟩,e⟩:=S;exact⟨l.trans (ba.upd (eE ..)),by rw[cB];exact n,(bh (oA (by decide)).symm).trans a,(bh (pZ (by decide))).trans b,⟨ep,cV (bk c)⟩,(bh (pZ (by decide))).trans e⟩
def Se.dbl{D:List Nat}(S:Se K0 h F H):Se K0 h (F.1,F.2.1,D) (ai H (.list ((D.reverse).map λn:Nat=>.int n)) (K0.length+3)):=by obtain⟨l,n,a,b,⟨ep,c⟩,e⟩:=S;exact⟨l.trans (ba.upd (eE ..)),by rw[cB];exact n,(bh (oA (by decide)).symm).trans a,(bh (pZ (by decide))).trans b,⟨ep,(bh (pZ (by decide))).trans c⟩,cV (bk e)⟩
end
noncomputable def kz(h:List aT)(F:fU):Nat:=h.length+(F.1.length+(F.2.1.length+F.2.2.length))
structure Tl where
 k:Option AV
 j:Option AV
 r:Option AV
 g:Option AV
 n:Option AV
 f:Option AV
 l:Option AV
 w:Option AV
 y:Option AV
noncomputable def dO(aw n:Nat)(t:Tl):aC:=[some (.ref aw),some (.ref n),some (.ref (n+1)),some (.ref (n+2)),some (.ref (n+3)),t.k,t.j,t.r,t.g,t.n,t.f,t.l,t.w,t.y]
abbrev CB:S:=bg f7.body 4
abbrev pQ:S:=bg (bz CB) 0
abbrev w9:S:=bg f7.body 5
section
variable {d aw:Nat}{K0 H:Hp}{h:List aT}{F:fU}{ws:List Ky}
def HE{P:bP}{q t:Bool}{U ρ1:aC}{H1:Hp}{a b:C}{p:Pos}{v:AV}(h1:RE P d q (.sub a b p) U H v ρ1 H1)(h:gQ v H1=some t):RT P d q (.sub a b p) U H t ρ1 H1:=.step (.bind h1 (.rd h))
def Hx{b:Nat}{x:AV}{l:bT}(hz:h.length<az)(S:Se K0 h F H)(hf:l.2.2.2=true)(ex:x=cm (((b+l.2.1:Nat):Int),l.2.2.1)):RC P (d+2) (.glob 20) [.ref K0.length,x] H .none (ai H (dz (ck b l h)) K0.length)/\Se K0 (ck b l h) F (ai H (dz (ck b l h)) K0.length):=by
 refine⟨?_,S.heap⟩;rw[ex];have e:ck b l h=oJ (((b+l.2.1:Nat):Int),l.2.2.1) h:=by unfold ck;rw[hf]
 rw[e];exact Uw S.2.2.1 hz
def xA{b:Nat}{l:bT}:(ck b l h).length<=h.length+1:=by
 unfold ck;cases l.2.2.2 with
 |true=>exact aW Yy
 |false=>exact i3 _
def zW{α β:Type}(f:α->β)(x:α)(l:List α):(l.reverse).map f++[f x]=((x::l).reverse).map f:=by rw[List.reverse_cons,eB];rfl
def S8{j k:Nat}{a b:Ky}{t:Tl}(hw:ae K0 aw=some (.list (ws.map .str)))(hz:kz h F<4000)(ha:ae ws j=some a)(hb:ae ws k=some b)(la:a.length<=az)(lb:b.length<=az)(ek:t.k=some (.int (k:Nat)))(ej:t.j=some (.int (j:Nat)))(S:Se K0 h F H):
  ∃H' t',RB P (d+3) true (bz pQ) (dO aw K0.length t) H .next (dO aw K0.length t') H'/\Se K0 (ck 0 (bw [] a b 0) h) (F.1,bw [] a b 0::F.2.1,F.2.2) H'/\t'.k=t.k:=by
 have nr:=(S.1.low aw (bk hw)).trans hw;have rl:=Ic (d:=d+2) (H:=H) la lb;have e1:∀{i:Nat} {c:Ky},ae ws i=some c->lB (.ref aw) (.int i) H=some (.str c):=λ{i c} h=>sQ nr (show ae (ws.map AV.str) i=_ by rw[ip,h];rfl);have eo:=JB (o:=a) (a:=a) (b:=b) (g:=0);have es:=Xc (o:=[]) (o':=a) (a:=a) (b:=b) (g:=0);have e0:=JB (o:=[]) (a:=a) (b:=b) (g:=0);generalize bw a a b 0=q at *;generalize bw [] a b 0=q0 at *;obtain⟨o,g,n,f⟩:=q;obtain⟨o0,s0⟩:=q0;obtain rfl:o0=[]:=e0;obtain rfl:s0=(g,n,f):=es;obtain rfl:o=a:=eo;have z:(4000:Nat)<=az:=by decide
 have hh:h.length<az:=dW (cU (eE _ _) hz) z;have hL:F.2.1.length<az:=dW (cU (aM (eE _ _) (aM (i4 _ _) (i4 _ _))) hz) z;have ap:=kR (v:=fD ([],g,n,f)) S.2.2.2.1 (by rw[aJ,ig];exact hL);rw[zW] at ap;have S1:=S.JA (L:=([],g,n,f)::F.2.1)
 let t1:Tl:={t with r:=some (.str o),g:=some (.int (g:Nat)),n:=some (.str n),f:=some (.bool f)}
 have s1:∀p1 p2 p3 p4 p5 p6 p7 p8 p9 uX Aj Ai Ah Ik,RS P (d+3) true (.asg (.cons (.tup (.cons (.var "rest" 7 p1) (.cons (.var "gain" 8 p2) (.cons (.var "new" 9 p3) (.cons (.var "fits" 10 p4) .nil)))) 0 p5) .nil) (.call (.glob "_law_lay" 6 p6) (.cons (.sub (.var "words" 0 p7) (.var "j" 6 p8) p9) (.cons (.sub (.var "words" 0 uX) (.var "k" 5 Aj) Ai) .nil)) Ah) Ik) (dO aw K0.length t) H .next (dO aw K0.length t1) H:=λp1 p2 p3 p4 p5 p6 p7 p8 p9 uX Aj Ai Ah Ik=>uS (bO (bL rfl) rfl (aB rfl (dP (af rfl) (af (show some t.j=_ by rw[ej])) (e1 ha)) (aB rfl (dP (af rfl) (af (show some t.k=_ by rw[ek])) (e1 hb)) aE)) rl) (λO=>rfl) rfl
 cases f with
 |false=>refine⟨_,t1,aj (s1 ..) (aj (eM (eN (mk:=.list) (af rfl) (gF S.2.2.2.1) rfl rfl (aB rfl (ou (aB rfl aS (aB rfl (af rfl) (aB rfl (af rfl) (aB rfl (af rfl) aE))))) aE) ap)) (aj (bM (t:=false) (kE (af rfl) rfl) aO) aO)),S1,rfl⟩
 |true=>refine ua (Hx (d:=d+1) (b:=0) (l:=([],g,n,true)) hh S1 rfl (show cm ((g:Nat),n)=_ by rw[gA])) λr2 S2=>?_;refine⟨_,t1,aj (s1 ..) (aj (eM (eN (mk:=.list) (af rfl) (gF S.2.2.2.1) rfl rfl (aB rfl (ou (aB rfl aS (aB rfl (af rfl) (aB rfl (af rfl) (aB rfl (af rfl) aE))))) aE) ap)) (aj (bM (t:=true) (kE (af rfl) rfl) (aj (eM (bO (bL rfl) rfl (aB rfl (af rfl) (aB rfl (ou (aB rfl (af rfl) (aB rfl (af rfl) aE))) aE)) r2)) aO)) aO)),S2,rfl⟩
end
end
section
abbrev Ta:S:=bg (iV (bg (bz w9) 1)) 0
abbrev Hy:S:=bg (bz Ta) 1
section
variable {d aw:Nat}{K0 H:Hp}{h:List aT}{F:fU}{ws:List Ky}
def S7{r:Ky}{n:Nat}{R:List (Ky×Nat)}{D:List Nat}(hw:ae K0 aw=some (.list (ws.map .str)))(lw:∀w∈ws,w.length<=az)(lr:r.length<=az):∀(k i:Nat) {h:List aT} {L:List bT} {H:Hp} {t:Tl},i+k=ws.length->kz h (R,L,D)+2*k<4000->t.r=some (.str r)->t.l=some (.int n)->Se K0 h (R,L,D) H ->
  ∃H' t',RF P (d+3) (gC Hy) (.lst aw i) (bz Hy) (dO aw K0.length t) H .next (dO aw K0.length t') H'/\Se K0 (fC r n (ws.drop i) h L).1 (R,(fC r n (ws.drop i) h L).2,D) H':=by
 intro k
 induction k with
 |zero=>intro i h L H t hk hz er el S;have nr:=(S.1.low aw (bk hw)).trans hw;rw[pD (by exact hU ‹_›)];refine⟨H,t,gR ?_,S⟩;rw[oE nr,pX (by rw[aJ];exact hU ‹_›)];rfl
 |succ k ih=>
  intro i h L H t hk hz er el S;have nr:=(S.1.low aw (bk hw)).trans hw;refine ue (je (l:=ws) (n:=i) (by exact pb ‹_›)) λw hx=>?_;have iR:(bJ.lst aw i).next H=some (some (.str w,.lst aw (i+1))):=by rw[oE nr,ip,hx];rfl
  have rl:=Ic (d:=d+2) (H:=H) lr (lw w (Df hx));rw[j8 hx];show ∃H' t',_/\Se K0 (fC r n (ws.drop (i+1)) (ck n (bw r r w 0) h) (bw r r w 0::L)).1 (R,(fC r n (ws.drop (i+1)) (ck n (bw r r w 0) h) (bw r r w 0::L)).2,D) H';have z:(4000:Nat)<=az:=by decide
  have yb:kz h (R,L,D)<4000:=cU (eE _ _) hz;have hh:h.length<az:=dW (cU (eE _ _) yb) z;have hL:L.length<az:=dW (cU (aM (eE _ D.length) (aM (i4 _ R.length) (i4 _ h.length))) yb) z;generalize bw r r w 0=q at *;have ap:=kR (v:=fD q) S.2.2.2.1 (by rw[aJ,ig];exact hL);rw[zW] at ap;have S1:=S.JA (L:=q::L);have Kg:∀{h'},h'.length<=h.length+1->kz h' (R,q::L,D)+2*k<4000:=λ{h'} e=>by have e1:kz h' (R,q::L,D)=h'.length+(R.length+(L.length+1+D.length)):=rfl;have e2:kz h (R,L,D)=h.length+(R.length+(L.length+D.length)):=rfl;exact Pd e2 e1 e hz
  have ih:=λ{h':List aT} {H':Hp} (e:h'.length<=h.length+1) (S':Se K0 h' (R,q::L,D) H')=>ih (i+1) (t:={t with w:=some (.str w),y:=some (fD q)}) (by exact km ‹_›) (Kg e) er el S';have s1:∀p1 p2 p3 p4 p5 p6,RS P (d+3) true (.asg (.cons (.var "lay" 13 p1) .nil) (.call (.glob "_law_lay" 6 p2) (.cons (.var "rest" 7 p3) (.cons (.var "word" 12 p4) .nil)) p5) p6) (dO aw K0.length {t with w:=some (.str w)}) H .next (dO aw K0.length {t with w:=some (.str w),y:=some (fD q)}) H:=λp1 p2 p3 p4 p5 p6=>bC (bO (bL rfl) rfl (aB rfl (af (show some t.r=_ by rw[er])) (aB rfl (af rfl) aE)) rl) (λO=>rfl) rfl rfl
  obtain⟨o,g,m,f⟩:=q;cases f with
  |false=>refine dN (ih (i3 _) S1) λH' t' r2 S'=>⟨H',t',?_,S'⟩;exact e8 (f:=.next) iR rfl (aj (s1 ..) (aj (eM (eN (mk:=.list) (af rfl) (gF S.2.2.2.1) rfl rfl (aB rfl (af rfl) aE) ap)) (aj (bM (t:=false) (HE (dP (af rfl) aS rfl) rfl) aO) aO))) rfl r2
  |true=>refine ua (Hx (d:=d+1) (b:=n) (l:=(o,g,m,true)) hh S1 rfl rfl) λr1 S2=>?_;refine dN (ih xA S2) λH' t' r2 S'=>⟨H',t',?_,S'⟩;exact e8 (f:=.next) iR rfl (aj (s1 ..) (aj (eM (eN (mk:=.list) (af rfl) (gF S.2.2.2.1) rfl rfl (aB rfl (af rfl) aE) ap)) (aj (bM (t:=true) (HE (dP (af rfl) aS rfl) rfl) (aj (eM (bO (bL rfl) rfl (aB rfl (af rfl) (aB rfl (ou (aB rfl (du (af (show some t.l=_ by rw[el])) (dP (af rfl) aS rfl) (kT (i:=(n:Nat)) (j:=(g:Nat)) (k:=((n+g:Nat):Int)) rfl)) (aB rfl (dP (af rfl) aS rfl) aE))) aE)) r1)) aO)) aO))) rfl r2
def QC{r:Ky}{n:Nat}:∀(ws:List Ky) {h:List aT} {L:List bT},(fC r n ws h L).1.length<=h.length+ws.length/\(fC r n ws h L).2.length=L.length+ws.length:=by
 intro ws
 induction ws with
 |nil=>intro h L;exact⟨bf _,rfl⟩
 |cons w ws ih=>intro h L;have:=ih (h:=ck n (bw r r w 0) h) (L:=bw r r w 0::L);have p:=xA (b:=n) (h:=h) (l:=bw r r w 0);show(fC r n ws (ck n (bw r r w 0) h) (bw r r w 0::L)).1.length<=h.length+(ws.length+1)/\(fC r n ws (ck n (bw r r w 0) h) (bw r r w 0::L)).2.length=L.length+(ws.length+1);have e:(bw r r w 0::L).length=L.length+1:=rfl;exact Pc e p this
def S9(hw:ae K0 aw=some (.list (ws.map .str)))(lw:∀w∈ws,w.length<=az)(l3:ws.length=3):∀(m:Nat) {h:List aT} {F R:fU} {H:Hp} {t:Tl},iL ws m h F=some R->kz h F+8*m<3000->Se K0 h F H ->
  ∃H' t',RW P (d+3) true (gB w9) (bz w9) (iV w9) (dO aw K0.length t) H .next (dO aw K0.length t') H'/\Se K0 [] R H'/\kz [] R<3000:=by
 intro m
 induction m with
 |zero=>intro h F R H t e;exact aR e
 |succ m ih=>
  intro h F R H t e hz S;cases h with
  |nil=>obtain rfl:=sj e;exact⟨H,t,mV (kE (af rfl) (wM S.2.2.1)) aO,S,cU (eE ..) hz⟩
  |cons x0 h0=>
   have e:(match(gy (gh x0 h0) (gE x0 h0)).1.1 with
    |.negSucc _=>none
    |.ofNat n=>match fc (gy (gh x0 h0) (gE x0 h0)).1.2 with
     |true=>iL ws m (gy (gh x0 h0) (gE x0 h0)).2 (F.1,F.2.1,n::F.2.2)
     |false=>match di (gy (gh x0 h0) (gE x0 h0)).1.2 F.1 with
      |true=>iL ws m (gy (gh x0 h0) (gE x0 h0)).2 F
      |false=>match Nat.blt (gy (gh x0 h0) (gE x0 h0)).1.2.length 40 with
       |false=>none
       |true=>iL ws m (fC (gy (gh x0 h0) (gE x0 h0)).1.2 n ws (gy (gh x0 h0) (gE x0 h0)).2 F.2.1).1 (((gy (gh x0 h0) (gE x0 h0)).1.2,n)::F.1,(fC (gy (gh x0 h0) (gE x0 h0)).1.2 n ws (gy (gh x0 h0) (gE x0 h0)).2 F.2.1).2,F.2.2))=some R:=e
   have hp:=S.2.2.1;rw[J6] at hp;have hl:(gh x0 h0).length=h0.length:=by have:=congrArg List.length (J6 h0 x0);rw[bF] at this;exact(Nat.succ.inj this).symm
   have ez:kz (x0::h0) F=h0.length+1+(F.1.length+(F.2.1.length+F.2.2.length)):=rfl;have rp:=Uy (d:=d) hp (by rw[hl];exact aM (by exact Pb ez hz:h0.length<=3000) (by decide));have pl:=YC (x:=gE x0 h0) (l:=gh x0 h0);have S1:=S.heap (h':=(gy (gh x0 h0) (gE x0 h0)).2);have tr:RT P (d+3) true (gB w9) (dO aw K0.length t) H true (dO aw K0.length t) H:=kE (af rfl) (wM S.2.2.1);generalize gy (gh x0 h0) (gE x0 h0)=q at *;obtain⟨⟨n,r⟩,h⟩:=q;cases n with
   |negSucc n=>exact aR e
   |ofNat n=>
   let t1:Tl:={t with l:=some (.int (n:Nat)),r:=some (.str r)}
   have s1:∀p1 p2 p3 p4 p5 p6 p7,RS P (d+3) true (.asg (.cons (.tup (.cons (.var "length" 11 p1) (.cons (.var "rest" 7 p2) .nil)) 0 p3) .nil) (.call (.glob "heappop" 21 p4) (.cons (.var "heap" 1 p5) .nil) p6) p7) (dO aw K0.length t) H .next (dO aw K0.length t1) (ai H (dz h) K0.length):=λp1 p2 p3 p4 p5 p6 p7=>uS (bO (bL rfl) rfl (aB rfl (af rfl) aE) rp) (λO=>rfl) rfl
   have te:∀p1 p2 p3,RT P (d+3) true (.cmp .Eq (.var "rest" 7 p1) (.cst (.str "") (.str []) 0 p2) p3) (dO aw K0.length t1) (ai H (dz h) K0.length) (ak r []) (dO aw K0.length t1) (ai H (dz h) K0.length):=λp1 p2 p3=>bH (af rfl) aS nB;have e:(match fc r with
     |true=>iL ws m h (F.1,F.2.1,n::F.2.2)
     |false=>match di r F.1 with
      |true=>iL ws m h F
      |false=>match Nat.blt r.length 40 with
       |false=>none
       |true=>iL ws m (fC r n ws h F.2.1).1 ((r,n)::F.1,(fC r n ws h F.2.1).2,F.2.2))=some R:=e
   have pl:h.length=(gh x0 h0).length:=pl;cases r with
   |nil=>have ap:=kR (v:=.int (n:Nat)) S1.2.2.2.2.2 (by rw[aJ,ig];exact dW (by exact Pa ez hz:F.2.2.length<3000) (by decide));rw[zW (λn:Nat=>AV.int n)] at ap;refine dN (ih (t:=t1) e (by show h.length+(F.1.length+(F.2.1.length+(F.2.2.length+1)))+8*m<3000;exact O9 ‹_› ez hl hz) S1.dbl) λH' t' r2 S'=>⟨H',t',?_,S'⟩;exact kD (f:=.next) tr (aj (s1 ..) (aj (bM (t:=true) (te ..) (aj (eM (eN (mk:=.list) (af rfl) (gF S1.2.2.2.2.2) rfl rfl (aB rfl (af rfl) aE) ap)) aO)) aO)) rfl r2
   |cons c r=>
    have e:(match di (c::r) F.1 with
      |true=>iL ws m h F
      |false=>match Nat.blt (c::r).length 40 with
       |false=>none
       |true=>iL ws m (fC (c::r) n ws h F.2.1).1 ((c::r,n)::F.1,(fC (c::r) n ws h F.2.1).2,F.2.2))=some R:=e
    refine ue S1.2.2.2.2.1 λep hd=>?_;have ti:∀p1 p2 p3,RT P (d+3) true (.cmp .NotIn (.var "rest" 7 p1) (.var "reached" 3 p2) p3) (dO aw K0.length t1) (ai H (dz h) K0.length) (!di (c::r) F.1) (dO aw K0.length t1) (ai H (dz h) K0.length):=λp1 p2 p3=>bH (af rfl) (af rfl) (by have:=AS (k:=c::r) hd;rw[Eo] at this;show(gU _ _ _).map (!·)=_;rw[show gU (.str (c::r)) (.ref (K0.length+2)) (ai H (dz h) K0.length)=_ from this];rfl)
    cases hr:di (c::r) F.1 with
    |true=>rw[hr] at e ti;refine dN (ih (t:=t1) e (by show h.length+(F.1.length+(F.2.1.length+F.2.2.length))+8*m<3000;exact O8 ‹_› ez hl hz) S1) λH' t' r2 S'=>⟨H',t',?_,S'⟩;exact kD (f:=.next) tr (aj (s1 ..) (aj (bM (t:=false) (te ..) (aj (bM (t:=false) (ti ..) aO) aO)) aO)) rfl r2
    |false=>
     rw[hr] at e ti;cases hb:Nat.blt (c::r).length 40 with
     |false=>rw[hb] at e;exact aR e
     |true=>
     rw[hb] at e;have lr:(c::r).length<=az:=aM (fG (bG.mp hb)) (by decide);have lR:(eH F.1).length<az:=by unfold eH;rw[aJ,ig];exact dW (by exact O7 ez hz:F.1.length<3000) (by decide)
     have st:=w7 (k:=c::r) (v:=.int (n:Nat)) hd lR;have nk:(c::r)∉(eH F.1).map (·.1):=λhm=>by have:=(mZ _ _).mpr hm;rw[<- yl,Eo,hr] at this;exact nomatch this
     have EN:eJ (c::r) (.int (n:Nat)) (eH F.1)=eH ((c::r,n)::F.1):=by rw[(C0 nk).1];exact zW (λp:Ky×Nat=>(p.1,AV.int p.2)) (c::r,n) F.1
     rw[EN,Eo,hr] at st;have S2:=S1.Ul (R:=(c::r,n)::F.1) (ep:=ep+1);have Yr:=(S2.1.low aw (bk hw)).trans hw;refine dN (S7 (d:=d) (r:=c::r) (n:=n) (t:=t1) hw lw lr ws.length 0 (gA _) (by show h.length+(F.1.length+1+(F.2.1.length+F.2.2.length))+2*ws.length<4000;exact O6 ‹_› ez hl hz l3) rfl rfl S2) λH3 t3 r3 S3=>?_;rw[qB] at S3;have wl:=QC (r:=c::r) (n:=n) ws (h:=h) (L:=F.2.1);refine dN (ih (t:=t3) e (by show(fC (c::r) n ws h F.2.1).1.length+(F.1.length+1+((fC (c::r) n ws h F.2.1).2.length+F.2.2.length))+8*m<3000;exact O5 wl ‹_› ez hl hz l3) S3) λH' t' r2 S'=>⟨H',t',?_,S'⟩;exact kD (f:=.next) tr (aj (s1 ..) (aj (bM (t:=false) (te ..) (aj (bM (t:=true) (ti ..) (aj (pR (af rfl) (λO=>rfl) (af rfl) (af rfl) st) (aj (iN (af rfl) (lC Yr) r3) aO))) aO)) aO)) rfl r2
end
end
section
section
variable {d aw:Nat}{K0 H:Hp}{a b c:Ky}
def xr{k:Nat}(h:k<=az):RC P d (.glob 11) [.int k] H (.dF 0 k 1) H:=gk (b:=.range) rfl (by
 show aI (oy 0 k 1) (some (AV.dF 0 k 1,H))=_;have:oy 0 k 1=true:=by show(Nat.ble 0 az&&Nat.ble k az&&true&&Nat.ble 1 az)=true;rw[eP.mpr h];rfl
 rw[this];rfl)
def Us{R:fU}(hw:ae K0 aw=some (.list ([a,b,c].map .str)))(lw:∀w∈[a,b,c],w.length<=az)(e:pP a b c=some R):
  ∃H',RC P (d+4) (.glob 7) [.ref aw] K0 (.tup [.ref (K0.length+2),.ref (K0.length+1),.lst (((R.2.2.reverse).map λn:Nat=>AV.int n).take 1)]) H'/\Se K0 [] R H'/\kz [] R<3000:=by
 have la:=lw a bA;have lb:=lw b (bS _ bA);have lc:=lw c (bS _ (bS _ bA));have S0:Se K0 [] ([([],0)],[],[]) (K0++[.list [],.list [],.dict 1 [([],.int 0)],.list []]):=⟨ba.app _ (bf _),by rw[bF];exact bf _,dY,jG (n:=1),⟨1,jG (n:=2)⟩,jG (n:=3)⟩
 let t0:Tl:=⟨none,none,none,none,none,none,none,none,none⟩
 have turn:∀{k j:Nat} {x y:Ky} {l:List AV} {h:List aT} {F F':fU} {H:Hp} {t:Tl} (Q:Hp->Tl->Prop),ae [a,b,c] j=some x->ae [a,b,c] k=some y->x.length<=az->y.length<=az->kz h F<4000->t.k=some (.int (k:Nat))->Se K0 h F H->(F.1,bw [] x y 0::F.2.1,F.2.2)=F' ->
   (∀{H1 t1},Se K0 (ck 0 (bw [] x y 0) h) F' H1->t1.k=some (.int (k:Nat))->∃H' t',RF P (d+3) (gC pQ) (.fix l) (bz pQ) (dO aw K0.length t1) H1 .next (dO aw K0.length t') H'/\Q H' t') ->
   ∃H' t',RF P (d+3) (gC pQ) (.fix (.int (j:Nat)::l)) (bz pQ) (dO aw K0.length t) H .next (dO aw K0.length t') H'/\Q H' t':=λ{k j x y l h F F' H t} Q hx hy lx ly hz ek S eF r=>by
  refine bB (S8 (d:=d) (t:={t with j:=some (.int (j:Nat))}) hw hz hx hy lx ly ek rfl S) λH1 t1 r1 S1 ek1=>?_;rw[eF] at S1;refine dN (r S1 (ek1.trans ek)) λH' t' r2 q=>⟨H',t',e8 (f:=.next) rfl rfl r1 rfl r2,q⟩
 have dF:∀{k:Nat} {H:Hp} {t:Tl} {l:List AV} {H' t'} p1 p2 p3 p4,k<=3->t.k=some (.int (k:Nat))->eS (.dF 0 k 1) H=some (.fix l)->RF P (d+3) (gC pQ) (.fix l) (bz pQ) (dO aw K0.length t) H .next (dO aw K0.length t') H'->RS P (d+3) true (.loop (gC pQ) (.call (.glob "range" 11 p1) (.cons (.var "k" 5 p2) .nil) p3) (bz pQ) p4) (dO aw K0.length t) H .next (dO aw K0.length t') H':=λ{k H t l H' t'} p1 p2 p3 p4 hk ek es r=>iN (bO (bL rfl) rfl (aB rfl (af (show some t.k=_ by rw[ek])) aE) (xr (aM hk (by decide)))) es r
 let l1:=bw [] a b 0
 let l2:=bw [] a c 0
 let l3:=bw [] b c 0
 have z0:∀{n:Nat},n<=3->∀h:List aT,h.length<=3->∀L:List bT,L.length=n->kz h ([([],0)],L,[])<4000:=λ{n} hn h hh L hL=>by show h.length+(1+(L.length+0))<4000;exact P1 hL hh hn
 have p0:(ck 0 l1 []).length<=1:=xA;have p1:(ck 0 l2 (ck 0 l1 [])).length<=2:=aM xA (si p0);have p2:(ck 0 l3 (ck 0 l2 (ck 0 l1 []))).length<=3:=aM xA (si p1);obtain⟨H1,t1,r1,S1,_⟩:=turn (k:=1) (j:=0) (l:=[]) (t:={t0 with k:=some (.int (1:Nat))}) (λH' t'=>Se K0 (ck 0 l1 []) ([([],0)],[l1],[]) H'/\t'.k=some (.int (1:Nat))) rfl rfl la lb (z0 (by decide:0<=3) [] (by decide) [] rfl) rfl S0 rfl λ{H1 t1} S ek=>⟨H1,t1,gR rfl,S,ek⟩;obtain⟨H2,t2,r2,S2,_⟩:=turn (k:=2) (j:=0) (l:=[.int (1:Nat)]) (t:={t1 with k:=some (.int (2:Nat))}) (λH' t'=>Se K0 (ck 0 l3 (ck 0 l2 (ck 0 l1 []))) ([([],0)],[l3,l2,l1],[]) H'/\t'.k=some (.int (2:Nat))) rfl rfl la lc (z0 (by decide:1<=3) _ (aM p0 (by decide)) [l1] rfl) rfl S1 rfl λ{H1 t1} S ek=>turn (k:=2) (j:=1) (l:=[]) (t:=t1) _ rfl rfl lb lc (z0 (by decide:2<=3) _ (aM p1 (by decide)) [l2,l1] rfl) ek S rfl λ{H1 t1} S ek=>⟨H1,t1,gR rfl,S,ek⟩
 have rK:RF P (d+3) (gC CB) (.fix [.int (0:Nat),.int (1:Nat),.int (2:Nat)]) (bz CB) (dO aw K0.length t0) (K0++[.list [],.list [],.dict 1 [([],.int 0)],.list []]) .next (dO aw K0.length t2) H2:=
  e8 (f:=.next) rfl (ρ1:=dO aw K0.length {t0 with k:=some (.int (0:Nat))}) rfl (aj (dF (k:=0) (t:={t0 with k:=some (.int (0:Nat))}) (l:=[]) _ _ _ _ (by decide) rfl rfl (gR rfl)) aO) rfl
   (e8 (f:=.next) rfl (ρ1:=dO aw K0.length {t0 with k:=some (.int (1:Nat))}) rfl (aj (dF (k:=1) (t:={t0 with k:=some (.int (1:Nat))}) (l:=[.int (0:Nat)]) _ _ _ _ (by decide) rfl rfl r1) aO) rfl
    (e8 (f:=.next) rfl (ρ1:=dO aw K0.length {t1 with k:=some (.int (2:Nat))}) rfl (aj (dF (k:=2) (t:={t1 with k:=some (.int (2:Nat))}) (l:=[.int (0:Nat),.int (1:Nat)]) _ _ _ _ (by decide) rfl rfl r2) aO) rfl (gR rfl)))
 refine dN (S9 (d:=d) hw lw rfl 100 (t:=t2) e (by show kz (ck 0 l3 (ck 0 l2 (ck 0 l1 []))) ([([],0)],[l3,l2,l1],[])+800<3000;show(ck 0 l3 (ck 0 l2 (ck 0 l1 []))).length+(1+(3+0))+800<3000;exact PZ p2) S2) λH' t' rW S'=>⟨H',?_,S'⟩;refine eT (fd:=f7) (fl:=.ret (.tup [.ref (K0.length+2),.ref (K0.length+1),.lst (((R.2.2.reverse).map λn:Nat=>AV.int n).take 1)])) (ρ1:=[some (.ref aw),none,none,none,none,none,none,none,none,none,none,none,none,none]) rfl rfl ?_ rfl;refine⟨dO aw K0.length t',?_⟩;refine aj (bC (e9 aE rfl) (λO=>rfl) rfl rfl) ?_;refine aj (bC (e9 aE rfl) (λO=>rfl) rfl rfl) ?_;refine aj (bC (H8 aS aS) (λO=>rfl) rfl rfl) ?_;refine aj (bC (e9 aE rfl) (λO=>rfl) rfl rfl) ?_;have eK:((((K0++[AO.list []])++[AO.list []])++[AO.dict 1 [([],.int 0)]])++[AO.list []])=K0++[.list [],.list [],.dict 1 [([],.int 0)],.list []]:=by rw[eX,eX,eX];rfl
 have e1:(K0++[AO.list []]).length=K0.length+1:=bF;have e2:((K0++[AO.list []])++[AO.list []]).length=K0.length+2:=by rw[bF,e1];rfl
 have e3:(((K0++[AO.list []])++[AO.list []])++[AO.dict 1 [([],.int 0)]]).length=K0.length+3:=by rw[bF,e2];rfl
 rw[eK,e1,e2,e3];have Ys:ae (K0++[.list [],.list [],.dict 1 [([],.int 0)],.list []]) aw=some (.list ([a,b,c].map .str)):=cb hw;have ln:=xu (d:=d+3) Ys (by decide:3<=az);have sl:kC (.ref (K0.length+3)) .none (.int 1) H'=some (.lst (((R.2.2.reverse).map λn:Nat=>AV.int n).take 1)):=by show((bx H' (K0.length+3)).bind λl=>some (AV.lst (l.take 1)))=_;rw[dy S'.1.2.2.2.2.2];rfl
 exact aj (iN (bO (bL rfl) rfl (aB rfl (bO (bL rfl) rfl (aB rfl (af rfl) aE) ln) aE) (xr (k:=3) (by decide))) rfl rK) (aj (kF rW) (cK (fX (ou (aB rfl (af rfl) (aB rfl (af rfl) (aB rfl (jc (af rfl) jD (iO aS λO=>rfl) sl) aE)))) λO=>rfl) nofun))
end
end
section
def KV(k:Ky):∀g:List Ad,gX k g=rJ k g:=by
 intro g
 induction g with
 |nil=>rfl
 |cons t g ih=>show(match ak t.1 k with|true=>true|false=>gX k g)=(ak t.1 k||rJ k g);rw[ih];cases ak t.1 k<;>rfl
def DJ(g:List Ad)(k:Ky):jJ g k=iB g k:=by
 unfold jJ iB;rw[KV,fR]
 try (cases rJ k g<;>rfl)
def Ao(g:List Ad)(k:Ky)(f:Int->Int):gS g k f=mc g k f:=nc _ _
def R4(g:List Ad)(k x:Ky):uM g k x=qs g k x:=by
 unfold uM qs;rw[nc];refine i6 λt O=>?_;rw[fR]
 try (cases ak t.1 k<;>rfl)
def aep(g:List Ad)(l:bT):qr g l=match fc l.2.2.1 with|true=>g|false=>yR g l.2.2.1 [l.1]:=by unfold qr;rw[R4,DJ,Ao,DJ];rfl
section
variable {ns:List Nd}
def aeu:lF (aY ns)=fp ns:=by unfold lF fp aY;rw[nc,nA,sE,cI];rfl
def aev:∀(l:List Ky) {ns:List Nd},aY (sY ns l)=lG (aY ns) l:=by
 intro l
 induction l with
 |nil=>intro ns;rfl
 |cons k l ih=>intro ns;show aY (sY (fo ns k λm=>{m with np:=-1}) l)=lG (gS (aY ns) k λO=>-1) l;rw[ih,BM,Ao]
def M9(k:Ky):pY ns k=gT (aY ns) k:=by
 unfold pY
 induction ns with
 |nil=>rfl
 |cons n ns ih=>
  show _=(match ak n.key k with|true=>n.np|false=>gT (aY ns) k);rw[uu];cases ak n.key k with
  |true=>rfl
  |false=>exact ih
def M8(k:Ky):qV ns k=fL (aY ns) k:=by
 unfold qV
 induction ns with
 |nil=>rfl
 |cons n ns ih=>
  show _=(match ak n.key k with|true=>n.su|false=>fL (aY ns) k);rw[uu];cases ak n.key k with
  |true=>rfl
  |false=>exact ih
def aez:∀(l:List Ky) (q:List Nd×List Ky),(aY (l.foldl jK q).1,(l.foldl jK q).2)=bI kN l (aY q.1,q.2):=by
 intro l
 induction l with
 |nil=>intro q;rfl
 |cons y l ih=>
  intro q;show(aY (l.foldl jK (jK q y)).1,(l.foldl jK (jK q y)).2)=bI kN l (kN (aY q.1,q.2) y);rw[ih];have:(aY (jK q y).1,(jK q y).2)=kN (aY q.1,q.2) y:=by show(aY (fo q.1 y λm=>{m with np:=pY q.1 y-1}),match dQ (pY q.1 y-1) 0 with|true=>q.2++[y]|false=>q.2)=(gS (aY q.1) y λO=>gT (aY q.1) y-1,match dQ (gT (aY q.1) y-1) 0 with|true=>bj q.2 [y]|false=>q.2);rw[BM,M9,Ao,fR]
  rw[this]
def I7{y:Ky}(h:gX y (aY ns)=true):y∈ns.map (·.key):=by rw[KV] at h;exact aq (Es.mp h) λn hn e=>bW.mpr ⟨n,hn,e⟩
def abg:∀(l:List Ky) (q:List Nd×List Ky),((l.foldl jK q).1).map (·.key)=q.1.map (·.key):=by
 intro l
 induction l with
 |nil=>intro q;rfl
 |cons y l ih=>intro q;exact(ih (jK q y)).trans (uO (by intro _;rfl))
def L9(q:List Nd×List Ky)(x:Ky):(g8 q x).1.map (·.key)=q.1.map (·.key):=(abg _ _).trans (uO (by intro _;rfl))
def aat{i j:Int}(h:dQ i j=true):i=j:=by
 cases i with
 |ofNat m=>cases j with
  |ofNat n=>have h:Nat.beq n m=true:=h;rw[bV h]
  |negSucc n=>exact nomatch h
 |negSucc m=>cases j with
  |ofNat n=>exact nomatch h
  |negSucc n=>have h:Nat.beq m n=true:=h;rw[bV h]
def aey:∀(l:List Ky) {q:List Nd×List Ky} {R:List Ad×List Ky},(q.1.map (·.key)).Nodup->j9 l (aY q.1,q.2)=some R ->
  (∀r:List Nd×List Ky,∀pre x post,l=pre++x::post->r=pre.foldl g8 q->t9 r.1 x/\r.2.length+(qV r.1 x).length<az)/\(aY (l.foldl g8 q).1,(l.foldl g8 q).2)=R:=by
 intro l
 induction l with
 |nil=>intro q R hn e;refine⟨λr pre x post h=>?_,sj e⟩;cases pre<;>cases h
 |cons x l ih=>
  intro q R hn e;have e:(match dQ (gT (aY q.1) x) (-1)&&(gL (λy=>gX y (aY q.1)) (fL (aY q.1) x)&&Nat.blt (q.2.length+(fL (aY q.1) x).length) 1000) with
   |true=>j9 l (bI kN (fL (aY q.1) x) (gS (aY q.1) x λO=>-2,q.2))
   |false=>none)=some R:=e
  cases hb:dQ (gT (aY q.1) x) (-1)&&(gL (λy=>gX y (aY q.1)) (fL (aY q.1) x)&&Nat.blt (q.2.length+(fL (aY q.1) x).length) 1000) with
  |false=>rw[hb] at e;exact aR e
  |true=>
  rw[hb] at e;have ed:bI kN (fL (aY q.1) x) (gS (aY q.1) x λO=>-2,q.2)=(aY (g8 q x).1,(g8 q x).2):=by unfold g8;rw[aez,BM,M8,Ao]
  rw[ed] at e;have dZ:((g8 q x).1.map (·.key)).Nodup:=by rw[L9];exact hn
  refine ua (ih dZ e) λi1 i2=>?_;refine⟨λr pre z post h er=>?_,i2⟩;refine QU hb λb1 b2 b3=>?_;cases pre with
  |nil=>
   obtain⟨rfl,rfl⟩:=nQ h;have er:q=r:=er.symm;subst er;have b1:=aat b1;have b3:=bG.mp b3;rw[<- M8] at b2 b3;rw[<- M9] at b1;have hx:∃n∈q.1,n.key=x:=by
    cases hf:q.1.find? λn=>ak n.key x with
    |none=>unfold pY at b1;rw[hf] at b1;cases b1
    |some n=>exact⟨n,List.mem_of_find?_eq_some hf,g7 (List.find?_some (p:=λn:Nd=>ak n.key x) hf)⟩
   refine aq hx λn hm aa=>?_;subst aa;rw[IF hn hm] at b1;refine⟨t9.mk ⟨n,hm,rfl,b1⟩ (λm D9 em y hy=>?_),nP b3 (by decide)⟩;obtain rfl:=tj hn m D9 n hm em;rw[GS hn hm] at b2;exact I7 (M4 b2 y hy)
  |cons p pre=>obtain⟨e1,e2⟩:=nQ h;subst e1;exact i1 r pre z post e2 er
end
end
section
variable {g:List Ad}
def cT.mono{m n:Nat}(h:cT g n)(hm:m<=n):cT g m:=cT.mk (cU (mB hm _) h.len) λt ht=>cU (mB hm _) (h.dX t ht)
def aeE(g:List Ad)(k:Ky):yR g k []=jJ g k:=by
 rw[DJ];show mc (iB g k) k (λn=>n+0)=iB g k;unfold mc;have:(λt:Ad=>match ak t.1 k with|true=>(t.1,t.2.1+0,t.2.2)|false=>t)=λt=>t:=by
  funext t
  cases ak t.1 k with
  |true=>show(t.1,t.2.1+0,t.2.2)=t;rw[Int.add_zero]
  |false=>rfl
 exact(congrArg (λf=>(iB g k).map f) this).trans (List.map_id _)
def cT.aet{k:Ky}{m:Nat}(h:cT g (m+1)):cT (yR g k []) m:=(h.key (k:=k)).chg (k:=k) (f:=(·+(([]:List Ky).length:Int)))
def cT.aes{k x:Ky}{m:Nat}(h:cT g (m+3)):cT (yR g k [x]) m:=(((h.key (k:=k)).chg (k:=k) (f:=(·+(([x]:List Ky).length:Int)))).key (k:=x)).su
def tF(x:Ky):ak x []=fc x:=by cases x<;>rfl
structure Ot where
 r:Option AV
 o:Option AV
 g:Option AV
 n:Option AV
 f:Option AV
 q:Option AV
 l:Option AV
 t:Option AV
 y:Option AV
noncomputable def fB(ar al s:Nat)(t:Ot):aC:=[some (.ref ar),some (.ref al),some (.ref s),t.r,t.o,t.g,t.n,t.f,t.q,t.l,t.t,t.y,none,none,none,none,none,none,none,none]
abbrev Iq:S:=bg f8.body 1
abbrev Ip:S:=bg f8.body 2
abbrev Vq:S:=bg f8.body 4
section
variable {dd ar al s d ep:Nat}{K0 H:Hp}
def Vl{R:List (Ky×Nat)}(hr:ae K0 ar=some (.dict ep (eH R))):∀(k i m:Nat) {g:List Ad} {H:Hp} {t:Ot},i+k=R.length->fh H s d K0.length g .none 0 0->ba K0.length K0 H->cT g (k+m) ->
  ∃H' t',RF P (dd+4) (gC Iq) (.dct ar i (eH R).length ep) (bz Iq) (fB ar al s t) H .next (fB ar al s t') H'/\ba K0.length K0 H'/\fh H' s d K0.length (bI (λg p=>jJ g p.1) ((R.reverse).drop i) g) .none 0 0/\cT (bI (λg p=>jJ g p.1) ((R.reverse).drop i) g) m:=by
 intro k
 induction k with
 |zero=>intro i m g H t hk S lw F;have D8:=(lw.low ar (bk hr)).trans hr;rw[pD (by rw[ig];exact hU ‹_›)];refine⟨H,t,gR ?_,lw,S,F.mono (i4 ..)⟩;rw[vR D8,pX (by unfold eH;rw[aJ,ig];exact hU ‹_›)];rfl
 |succ k ih=>
  intro i m g H t hk S lw F;have D8:=(lw.low ar (bk hr)).trans hr;refine ue (je (l:=R.reverse) (n:=i) (by rw[ig];exact pb ‹_›)) λp hp=>?_;have iR:(bJ.dct ar i (eH R).length ep).next H=some (some (.str p.1,.dct ar (i+1) (eH R).length ep)):=by rw[vR D8];unfold eH;rw[ip,hp];rfl
  have F0:cT g (k+m+1):=by rw[uy] at F;exact F
  refine gP (Ig (dd:=dd) (k:=p.1) (ps:=[]) S (F0.mono (i4 1 _))) λH1 r1 j4 S1=>?_;have F1:=F0.aet (k:=p.1);rw[aeE] at S1 F1;rw[j8 hp];refine nZ (ih (i+1) m (t:={t with r:=some (.str p.1)}) (by exact km ‹_›) S1 (lw.trans j4) F1) λH' t' r2 jg S2 F2=>?_;exact⟨H',t',e8 (f:=.next) iR rfl (aj (eM (mY (af rfl) (ni S.self rfl) (aB rfl (af rfl) aE) r1)) aO) rfl r2,jg,S2,F2⟩
def Vk{L:List bT}(hl:ae K0 al=some (.list (L.map fD))):∀(k i m:Nat) {g:List Ad} {H:Hp} {t:Ot},i+k=L.length->fh H s d K0.length g .none 0 0->ba K0.length K0 H->cT g (3*k+m) ->
  ∃H' t',RF P (dd+4) (gC Ip) (.lst al i) (bz Ip) (fB ar al s t) H .next (fB ar al s t') H'/\ba K0.length K0 H'/\fh H' s d K0.length (bI qr (L.drop i) g) .none 0 0:=by
 intro k
 induction k with
 |zero=>intro i m g H t hk S lw F;have yi:=(lw.low al (bk hl)).trans hl;rw[pD (by exact hU ‹_›)];refine⟨H,t,gR ?_,lw,S⟩;rw[oE yi,pX (by rw[aJ];exact hU ‹_›)];rfl
 |succ k ih=>
  intro i m g H t hk S lw F;have yi:=(lw.low al (bk hl)).trans hl;refine ue (je (l:=L) (n:=i) (by exact pb ‹_›)) λl hp=>?_;have iR:(bJ.lst al i).next H=some (some (fD l,.lst al (i+1))):=by rw[oE yi,ip,hp];rfl
  rw[j8 hp];show ∃H' t',_/\_/\fh H' s d K0.length (bI qr (L.drop (i+1)) (qr g l)) .none 0 0
  let t1:Ot:={t with o:=some (.str l.1),g:=some (.int l.2.1),n:=some (.str l.2.2.1),f:=some (.bool l.2.2.2)}
  have tt:∀p1 p2 p3,RT P (dd+4) true (.cmp .NotEq (.var "new" 6 p1) (.cst (.str "") (.str []) 0 p2) p3) (fB ar al s t1) H (!fc l.2.2.1) (fB ar al s t1) H:=λp1 p2 p3=>bH (af rfl) aS (by rw[Dl,tF]);have F0:cT g (3*k+m+3):=by rw[Nat.mul_succ,uy] at F;exact F
  rw[aep];cases hn:fc l.2.2.1 with
  |true=>rw[hn] at tt;refine bB (ih (i+1) m (t:=t1) (by exact km ‹_›) S lw (F0.mono (eE ..))) λH' t' r2 jg S2=>?_;exact⟨H',t',e8 (f:=.next) iR rfl (aj (bM (t:=false) (tt ..) aO) aO) rfl r2,jg,S2⟩
  |false=>rw[hn] at tt;refine gP (Ig (dd:=dd) (k:=l.2.2.1) (ps:=[l.1]) S (F0.mono (i4 3 _))) λH1 r1 j4 S1=>?_;refine bB (ih (i+1) m (t:=t1) (by exact km ‹_›) S1 (lw.trans j4) F0.aes) λH' t' r2 jg S2=>?_;exact⟨H',t',e8 (f:=.next) iR rfl (aj (bM (t:=true) (tt ..) (aj (eM (mY (af rfl) (ni S.self rfl) (aB rfl (af rfl) (aB rfl (af rfl) aE)) r1)) aO)) aO) rfl r2,jg,S2⟩
def Vh{b:Bool}{H':Hp}{t:Ot}(eq:t.q=some (.bool false))(hk:kK P (.ref s) 10 H=some (.user 38))(h:Nk b (dd+3) s H H'):RS P (dd+3) true Vq (fB ar al s t) H .next (fB ar al s {t with q:=some (.bool b)}) H':=by
 cases b with
 |true=>exact HH (Aa (TC (af rfl) hk aE h)) rfl (aj (bC aS (λO=>rfl) rfl rfl) aO)
 |false=>
  have:{t with q:=some (.bool false)}=t:=by rw[<- eq]
  rw[this];exact HG (aj (eM (mY (af rfl) hk aE h)) aO)
end
end
section
section
variable {P:bP}{d:Nat}{q:Bool}{U ρ1:aC}{H H1:Hp}
def HF{o args:C}{n:Str}{m:Nat}{ap p:Pos}{v:AV}{t:Bool}(h1:RE P d q (.eO o n m args ap p) U H v ρ1 H1)(h:gQ v H1=some t):RT P d q (.eO o n m args ap p) U H t ρ1 H1:=.step (.bind h1 (.rd h))
def US{a l:C}{p:Pos}{v:AV}{vs:List AV}(h1:RE P d q a U H v ρ1 H1)(h:qY H1 v=some vs):RA P d q (.cons (.star a p) l) U H vs ρ1 H1:=.bind h1 (.rd h)
end
def Sr.same{H H':Hp}{s d rl lo hi:Nat}{ns:List Nd}{bc:List Ky}{np nf:Int}(S:Sr H s d rl lo hi ns bc np nf)(hd:d<hi)(h:∀a,a<hi->ae H' a=ae H a):Sr H' s d rl lo hi ns bc np nf:=Sr.mk ((h s S.bs.2).trans S.self) ((h rl S.br.2).trans S.jE) (ue S.gY λep G=>⟨ep,G.mono (h d hd) λn hn=>⟨h _ (S.bd n hn).1.2,h _ (S.bd n hn).2.2⟩⟩) S.bd S.bs S.br S.u0
noncomputable def gc(v:AV):bT:=match v with
 |.tup l=>(match l with
  |a::l=>(match l with
   |b::l=>(match l with
    |c::l=>(match l with
     |e::_=>((a.de).getD [],((b.int?).getD 0).toNat,(c.de).getD [],(e.bool?).getD false)
     |[]=>([],0,[],false))
    |[]=>([],0,[],false))
   |[]=>([],0,[],false))
  |[]=>([],0,[],false))
 |_=>([],0,[],false)
noncomputable def bR(l:List Nat):List AV:=l.map λn:Nat=>.int n
def X0:∀l:List Nat,lS (bR l)=some (l.map λn:Nat=>(n:Int)):=by
 intro l
 induction l with
 |nil=>rfl
 |cons n l ih=>show((some (n:Int)).bind λi=>(lS (bR l)).map (i::·))=_;rw[ih];rfl
def Wk:∀(l:List Nat) (b:Nat),oB (l.map λn:Nat=>(n:Int)) b=((bI (λa b=>match Nat.blt a b with|true=>b|false=>a) l b:Nat):Int):=by
 intro l
 induction l with
 |nil=>intro b;rfl
 |cons n l ih=>
  intro b;show oB (l.map λn:Nat=>(n:Int)) (match Nat.blt b n with|true=>(n:Int)|false=>(b:Int))=((bI (λa b=>match Nat.blt a b with|true=>b|false=>a) l (match Nat.blt b n with|true=>n|false=>b):Nat):Int);cases Nat.blt b n with
  |true=>exact ih n
  |false=>exact ih b
def Jb{H:Hp}(l:List Nat):tT .max (.lst (.int 0::bR l)) H=some (.int (lN l:Nat),H):=by show((lS (bR ([0]++l))).bind λns=>match ns with|[]=>none|y::ys=>some (AV.int (oB ys y),H))=_;rw[X0];show some (AV.int (oB (l.map λn:Nat=>(n:Int)) ((0:Nat):Int)),H)=_;rw[Wk];rfl
def t6(D:List (List Nat×AV))(bq:List (Ky×Nat)):Prop:=∀k,(cy k D).getD (.int 0)=.int (jh k bq:Nat)
def WN{k x:Ky}{v:AV}:∀D:List (List Nat×AV),cy k (eJ x v D)=match ak x k with|true=>some v|false=>cy k D:=by
 intro D
 induction D with
 |nil=>rfl
 |cons p D ih=>
  show cy k (match ak p.1 x with|true=>(p.1,v)::D|false=>p::eJ x v D)=_;cases e:ak p.1 x with
  |true=>rw[g7 e];show(match ak x k with|true=>some v|false=>cy k D)=(match ak x k with|true=>some v|false=>(match ak p.1 k with|true=>some p.2|false=>cy k D));rw[g7 e];cases ak x k<;>rfl
  |false=>
   show(match ak p.1 k with|true=>some p.2|false=>cy k (eJ x v D))=(match ak x k with|true=>some v|false=>(match ak p.1 k with|true=>some p.2|false=>cy k D));rw[ih];cases e1:ak p.1 k with
   |true=>
    have:ak x k=false:=nD λq=>by rw[g7 e1,q,g6] at e;exact nomatch e
    rw[this]
   |false=>rfl
def U1{x:Ky}{v:AV}:∀D:List (List Nat×AV),(eJ x v D).length<=D.length+1:=by
 intro D
 induction D with
 |nil=>exact bf _
 |cons p D ih=>
  show(match ak p.1 x with|true=>(p.1,v)::D|false=>p::eJ x v D).length<=_;cases ak p.1 x with
  |true=>exact i3 _
  |false=>exact si ih
def t6.put{D:List (List Nat×AV)}{bq:List (Ky×Nat)}(h:t6 D bq)(x:Ky)(n:Nat):t6 (eJ x (.int n) D) ((x,n)::bq):=λk=>by
 rw[WN];show _=AV.int ((match ak x k with|true=>n|false=>jh k bq:Nat):Int);cases ak x k with
 |true=>rfl
 |false=>exact h k
abbrev Al:S:=bg f8.body 7
abbrev C9:S:=bg (bz Al) 1
abbrev Vp:C:=match bg (bz C9) 1 with|.asg _ e _=>vZ e|_=>.nil
abbrev rz:C:=match Vp with|.bin _ _ c _=>c|_=>.nil
abbrev Vo:C:=match bg f8.body 8 with|.ret (.tup (.cons _ (.cons _ (.cons e _))) _ _) _=>vZ e|_=>.nil
abbrev sZ:C:=match Vo with|.bin _ _ c _=>c|_=>.nil
section
variable {dd ar al s hi ep:Nat}{K H:Hp}{L:List bT}{bq:List (Ky×Nat)}{D:List (List Nat×AV)}
def Ld{k:Ky}(h:ae H hi=some (.dict ep D))(lt:t6 D bq):lL .dict 6 (.ref hi) [.str k,.int 0] H=some (.int (jh k bq:Nat),H):=by show((cD H hi).bind λr=>xQ 6 hi r.2 [.str k,.int 0] H)=_;rw[kc h];show some ((cy k D).getD (.int 0),H)=_;rw[lt k]
def Vn{x:Ky}{t:Ot}(hl:ae H al=some (.list (L.map fD)))(hz:L.length<az)(hh:ae H hi=some (.dict ep D))(lt:t6 D bq)(er:t.r=some (.str x))(ey:t.l=some (.ref hi)):
  ∃Y,RM P dd (eV rz) (eQ rz) (eU rz) (gI rz) (fB ar al s t) H (.ref H.length) (fB ar al s t) (H++.list (bR (cJ (gf bq) (d9 (kL x) L)))::Y):=by
 have q:=uU (d:=dd) (H:=H) (Hz:=H) (tg:=eQ rz) (elt:=eV rz) (it:=eU rz) (ifs:=gI rz) (I:=Is H) (e:=λo=>match o with
   |none=>fB ar al s t
   |some v=>[some (.ref ar),some (.ref al),some (.ref s),t.r,t.o,t.g,t.n,t.f,t.q,t.l,t.t,t.y,some (.str (gc v).1),some (.int (gc v).2.1),some (.str (gc v).2.2.1),some (.bool (gc v).2.2.2),none,none,none,none])
  (t:=λv=>kL x (gc v)) (f:=λv=>.int (gf bq (gc v):Nat)) (λO O O=>rfl) (U:=fB ar al s t) (H0:=H) (af rfl) (lC hl) (rQ hl) rfl (λv hv o K=>?_) (λv hv K hK hn Y=>?_) (λv hv ht K hK hn Y=>?_) (by rw[aJ];exact hz)
 ·refine ue q λY q=>⟨Y,?_⟩;have e:(((L.map fD).filter λv=>kL x (gc v)).map λv=>AV.int (gf bq (gc v):Nat))=bR (cJ (gf bq) (d9 (kL x) L)):=by rw[nc,nA];unfold bR;rw[sE,cI,cI];rfl
  rw[e] at q;exact q.1
 ·refine aq (bW.mp hv) λl tK e=>?_;subst e;cases o<;>rfl
 ·refine aq (bW.mp hv) λl tK e=>?_;subst e;refine⟨[],?_⟩;rw[eW];have t1:∀p1 p2 p3,RT P dd true (.cmp .Eq (.var "new" 14 p1) (.var "rest" 3 p2) p3) [some (.ref ar),some (.ref al),some (.ref s),t.r,t.o,t.g,t.n,t.f,t.q,t.l,t.t,t.y,some (.str l.1),some (.int l.2.1),some (.str l.2.2.1),some (.bool l.2.2.2),none,none,none,none] (K++Y) (ak l.2.2.1 x) [some (.ref ar),some (.ref al),some (.ref s),t.r,t.o,t.g,t.n,t.f,t.q,t.l,t.t,t.y,some (.str l.1),some (.int l.2.1),some (.str l.2.2.1),some (.bool l.2.2.2),none,none,none,none] (K++Y):=λp1 p2 p3=>bH (af rfl) (af (show some t.r=_ by rw[er])) nB;have t2:∀p1 p2 p3,RT P dd true (.cmp .NotEq (.var "new" 14 p1) (.cst (.str "") (.str []) 0 p2) p3) [some (.ref ar),some (.ref al),some (.ref s),t.r,t.o,t.g,t.n,t.f,t.q,t.l,t.t,t.y,some (.str l.1),some (.int l.2.1),some (.str l.2.2.1),some (.bool l.2.2.2),none,none,none,none] (K++Y) (!fc l.2.2.1) [some (.ref ar),some (.ref al),some (.ref s),t.r,t.o,t.g,t.n,t.f,t.q,t.l,t.t,t.y,some (.str l.1),some (.int l.2.1),some (.str l.2.2.1),some (.bool l.2.2.2),none,none,none,none] (K++Y):=λp1 p2 p3=>bH (af rfl) aS (by rw[Dl,tF]);show RQ P dd _ _ _ (match ak l.2.2.1 x with|true=>!fc l.2.2.1|false=>false) _ _;cases e:ak l.2.2.1 x with
  |true=>rw[e] at t1;exact oq (mW (t1 ..) (t2 ..))
  |false=>rw[e] at t1;exact oq (uR (t1 ..))
 ·refine aq (bW.mp hv) λl tK e=>?_;subst e;cases hK;refine⟨[],?_⟩;rw[eW];exact du (eN (mk:=.dict) (af (show some t.l=_ by rw[ey])) (xV (cb hh)) rfl rfl (aB rfl (af rfl) (aB rfl aS aE)) (Ld (cb hh) lt)) (af rfl) (kT (k:=((gf bq l:Nat):Int)) rfl)
end
end
section
def Ko(K0:Hp)(s d rl hi:Nat)(ns:List Nd)(bc:List Ky)(np nf:Int)(bq:List (Ky×Nat))(told:List Ky)(H:Hp):Prop:=(∀a,a<K0.length->ae H a=ae K0 a)/\Sr H s d rl K0.length hi ns bc np nf/\(∃ep D,ae H hi=some (.dict ep D)/\t6 D bq/\D.length<=told.length)/\ae H (hi+1)=some (.list (told.map .str))/\hi+2<=H.length
def WH(i:Int):gb i i=false:=by
 cases i with
 |ofNat n=>show Nat.blt n n=false;cases h:Nat.blt n n with
  |false=>rfl
  |true=>exact absurd (bG.mp h) (jQ n)
 |negSucc n=>show Nat.blt n n=false;cases h:Nat.blt n n with
  |false=>rfl
  |true=>exact absurd (bG.mp h) (jQ n)
section
variable {dd ar al s d rl hi:Nat}{K0 H:Hp}{L:List bT}{ns:List Nd}{bc:List Ky}{np nf:Int}{bq:List (Ky×Nat)}{told:List Ky}
def Ko.Lj{H':Hp}{s8:List Nd}{H9:List Ky}{oz xK:Int}(hl:K0.length<=hi)(k:Ko K0 s d rl hi ns bc np nf bq told H)(f:dH K0.length hi H H')(S:Sr H' s d rl K0.length hi s8 H9 oz xK):Ko K0 s d rl hi s8 H9 oz xK bq told H':=by obtain⟨a,b,⟨ep,D,c1,c2⟩,e,g⟩:=k;exact⟨λx hx=>(f.out x (.inl hx)).trans (a x hx),S,⟨ep,D,(f.out hi (.inr (bf _))).trans c1,c2⟩,(f.out _ (.inr (i3 _))).trans e,by rw[f.len];exact g⟩
def Vi(hl:ae K0 al=some (.list (L.map fD)))(hz:L.length<4000)(hd:d<hi)(lo:K0.length<=hi):∀(l:List Ky) {bq:List (Ky×Nat)} {told:List Ky} {H:Hp} {t:Ot},Ko K0 s d rl hi ns bc np nf bq told H->told.length+l.length<900->t.l=some (.ref hi)->t.t=some (.ref (hi+1)) ->
  ∃H' t',RF P dd (gC C9) (.fix (l.map .str)) (bz C9) (fB ar al s t) H .next (fB ar al s t') H'/\Ko K0 s d rl hi ns bc np nf (bI (rE L) l bq) (told++l) H'/\t'.l=t.l/\t'.t=t.t/\t'.q=t.q/\t'.y=t.y:=by
 intro l
 induction l with
 |nil=>intro bq told H t k hn el et;rw[eW];exact⟨H,t,gR rfl,k,rfl,rfl,rfl,rfl⟩
 |cons x l ih=>
  intro bq told H t k hn el et;rw[i5] at hn;obtain⟨a,b,⟨ep,D,c1,c2,c3⟩,e,g⟩:=k;have z:(4000:Nat)<=az:=by decide
  have ap:=kR (v:=.str x) e (by rw[aJ];exact dW (by exact O4 hn:told.length<4000) z);have e0:told.map AV.str++[.str x]=(told++[x]).map .str:=by rw[eB];rfl
  rw[e0] at ap;have ne1:hi+1≠hi:=Nat.succ_ne_self hi;have b1:∀{a},a≠hi+1->ae (ai H (.list ((told++[x]).map .str)) (hi+1)) a=ae H a:=λh=>bh (fi h);have a1:∀y,y<hi->ae (ai H (.list ((told++[x]).map .str)) (hi+1)) y=ae H y:=λy hy=>b1 (dU (Nat.lt_succ_of_lt hy));have MJ:=(b1 ne1.symm).trans c1;have e1:ae (ai H (.list ((told++[x]).map .str)) (hi+1)) (hi+1)=some (.list ((told++[x]).map .str)):=cV (bk e);have g1:(ai H (.list ((told++[x]).map .str)) (hi+1)).length=H.length:=cB;have kl:=gF (P:=P) (m:=0) e;generalize ai H (.list ((told++[x]).map .str)) (hi+1)=H1 at *;have yi:ae H1 al=some (.list (L.map fD)):=((a1 al (dW (bk hl) lo)).trans (a al (bk hl))).trans hl;refine ue (Vn (dd:=dd) (ar:=ar) (s:=s) (t:={t with r:=some (.str x)}) yi (dW hz z) MJ c2 rfl el) λY rc=>?_
  let ls:=cJ (gf bq) (d9 (kL x) L)
  have DD:ls.length<=L.length:=by show(cJ _ _).length<=_;rw[nc,nA,aJ];exact zf ..
  have n2:ae (H1++.list (bR ls)::Y) H1.length=some (.list (bR ls)):=dY;have ad:iA .Add (.lst [.int 0]) (.ref H1.length) (H1++.list (bR ls)::Y)=some (.lst (.int 0::bR ls)):=by
   show((bx (H1++.list (bR ls)::Y) H1.length).bind λb=>aI (Nat.ble (1+b.length) az) (some (AV.lst ([.int 0]++b))))=_;rw[dy n2];show aI (Nat.ble (1+(bR ls).length) az) _=_;have:1+(bR ls).length<=az:=by unfold bR;rw[aJ];exact aM (by exact O3 DD hz:1+ls.length<=4000) z
   rw[eP.mpr this];rfl
  have MI:=cb (m:=.list (bR ls)::Y) MJ;have st:=w7 (k:=x) (v:=.int (lN ls:Nat)) MI (dW (by exact O2 c3 hn:D.length<4000) z);have k':Ko K0 s d rl hi ns bc np nf (rE L bq x) (told++[x]) (ai (H1++.list (bR ls)::Y) (.dict (match c5 x D with|true=>ep|false=>ep+1) (eJ x (.int (lN ls:Nat)) D)) hi):=by
   have q:∀y,y<hi->ae (ai (H1++.list (bR ls)::Y) (.dict (match c5 x D with|true=>ep|false=>ep+1) (eJ x (.int (lN ls:Nat)) D)) hi) y=ae H y:=λy hy=>by rw[bh (dM hy),uZ (by rw[g1];exact O1 hy g),a1 y hy]
   refine⟨λy hy=>(q y (dW hy lo)).trans (a y hy),b.same hd q,⟨_,_,cV (bk MI),c2.put x (lN ls),by rw[bF];exact aM (U1 D) (si c3)⟩,(bh ne1.symm).trans (cb e1),by rw[cB,bF,g1];exact O0 g⟩
  obtain⟨H',t',r,JL,f1,f2,f3,f4⟩:=ih (t:={t with r:=some (.str x)}) k' (by rw[bF];show told.length+1+l.length<900;exact OZ hn) el et;rw[eX] at JL;refine⟨H',t',e8 (f:=.next) rfl rfl (aj (eM (eN (mk:=.list) (af (show some t.t=_ by rw[et])) kl rfl rfl (aB rfl (af rfl) aE) ap)) (aj (pR (bO (bL rfl) rfl (aB rfl (du (e9 (bb:=false) (aB rfl aS aE) rfl) (uV rc) ad) aE) (gk (b:=.max) rfl (Jb ls))) (λO=>rfl) (af (by show some t.l=_;rw[el])) (af rfl) st) aO)) rfl r,JL,f1,f2,f3,f4⟩
def Il:∀(l:List Ky) (ns:List Nd),(sY ns l).map (·.key)=ns.map (·.key):=by
 intro l
 induction l with
 |nil=>intro ns;rfl
 |cons x l ih=>intro ns;exact(ih _).trans (uO (by intro _;rfl))
def aa4:∀(l:List Ky) (q:List Nd×List Ky),(l.foldl g8 q).1.map (·.key)=q.1.map (·.key):=by
 intro l
 induction l with
 |nil=>intro q;rfl
 |cons x l ih=>intro q;exact(ih _).trans (L9 q x)
def Vj(hl:ae K0 al=some (.list (L.map fD)))(hz:L.length<4000)(hd:d<hi)(lo:K0.length<=hi){R:List Ky×List (Ky×Nat)}:∀(m:Nat) {ns:List Nd} {bc:List Ky} {np:Int} {bq:List (Ky×Nat)} {told:List Ky} {H:Hp} {t:Ot},lP L m (aY ns) bc bq told=some R->(ns.map (·.key)).Nodup->Ko K0 s d rl hi ns bc np np bq told H->t.l=some (.ref hi)->t.t=some (.ref (hi+1)) ->
  ∃H' t' s8 oz,RW P (dd+2) true (gB Al) (bz Al) (iV Al) (fB ar al s t) H .next (fB ar al s t') H'/\Ko K0 s d rl hi s8 [] oz oz R.2 R.1 H'/\t'.l=t.l/\t'.t=t.t/\t'.q=t.q:=by
 intro m
 induction m with
 |zero=>intro ns bc np bq told H t e;exact aR e
 |succ m ih=>
  intro ns bc np bq told H t e hn k el et;have ra:=UP (dd:=dd) k.2.1;rw[WH] at ra;cases bc with
  |nil=>obtain rfl:=sj e;exact⟨H,t,ns,np,mV (HF (t:=false) (mY (af rfl) (ni k.2.1.self rfl) aE ra) rfl) aO,k,rfl,rfl,rfl⟩
  |cons x r=>
   have e:(match gL (λy=>gX y (aY ns)) (x::r)&&Nat.blt (told.length+(x::r).length) 900 with
    |false=>none
    |true=>(j9 (x::r) (lG (aY ns) (x::r),[])).bind λq=>lP L m q.1 q.2 (bI (rE L) (x::r) bq) (bj told (x::r)))=some R:=e
   cases hb:gL (λy=>gX y (aY ns)) (x::r)&&Nat.blt (told.length+(x::r).length) 900 with
   |false=>rw[hb] at e;exact aR e
   |true=>
   rw[hb] at e;refine us hb λh1 h2=>?_;have h2:=bG.mp h2;refine ub e λq e1 e2=>?_;have zz:(x::r).length<az:=dW (by exact OY h2:(x::r).length<900) (by decide);refine gP (Uu (dd:=dd) k.2.1 (λy hy=>I7 (M4 h1 y hy)) (fG zz)) λH1 r1 EE S1=>?_;have k1:=k.Lj lo EE S1;obtain⟨H2,t2,r2,k2,f1,f2,f3,f4⟩:=Vi (dd:=dd+2) (ar:=ar) hl hz hd lo (x::r) (t:={t with y:=some (.tup ((x::r).map .str))}) k1 h2 el et;rw[<- aev] at e1;refine ua (aey (x::r) (q:=(sY ns (x::r),[])) (by rw[Il];exact hn) e1) λd1 d2=>?_;refine gP (UM (dd:=dd) k2.2.1 zz d1) λH3 r3 ZH S3=>?_;have k3:=k2.Lj lo ZH S3;rw[<- d2,fR] at e2;have en:np+((x::r).length:Nat)=np+((x::r).length:Nat):=rfl;obtain⟨H',t',s8,oz,r4,k4,g1,g2,g3⟩:=ih (t:=t2) e2 (by rw[aa4];show((sY ns (x::r)).map (·.key)).Nodup;rw[Il];exact hn) k3 (f1.trans el) (f2.trans et);refine⟨H',t',s8,oz,kD (f:=.next) (HF (t:=true) (mY (af rfl) (ni k.2.1.self rfl) aE ra) rfl) (aj (bC (mY (af rfl) (ni k.2.1.self rfl) aE r1) (λO=>rfl) rfl rfl) (aj (iN (af rfl) rfl r2) (aj (eM (mY (af rfl) (ni k2.2.1.self rfl) (US (af (show some t2.y=_ by rw[f4])) rfl) r3)) aO))) rfl r4,k4,g1.trans f1,g2.trans f2,g3.trans f3⟩
end
end
section
def Rd:∀l:List Ky,lq (l.map .str)=some l:=by
 intro l
 induction l with
 |nil=>rfl
 |cons x l ih=>show((some x).bind λi=>(lq (l.map .str)).map (i::·))=_;rw[ih];rfl
def Hd{n:Nat}{l:List Ky}{H:Hp}(h:ae H n=some (.list (l.map .str)))(hz:l.length<64):tT .sorted (.ref n) H=some (.lst ((cC bu l).map .str),H):=by
 show((bx H n).bind λl=>aI (Nat.blt l.length 64) ((jA l).map λr=>(AV.lst r,H)))=_;rw[dy h];show aI (Nat.blt (l.map AV.str).length 64) ((jA (l.map .str)).map λr=>(AV.lst r,H))=_;rw[aJ,bG.mpr hz];show(jA (l.map .str)).map (λr=>(AV.lst r,H))=_;have:jA (l.map .str)=some ((cC bu l).map .str):=by
  cases l with
  |nil=>rfl
  |cons x l=>
   show(match lq ((x::l).map .str) with
    |some ts=>some ((cC bu ts).map AV.str)
    |none=>(pI ((x::l).map .str)).bind λts=>n9 ts ((x::l).map .str))=_
   rw[Rd]
 rw[this];rfl
section
variable {dd ar al s hi ep:Nat}{K0 H:Hp}{L:List bT}{bq:List (Ky×Nat)}{D:List (List Nat×AV)}
def Vm{t:Ot}(hl:ae H al=some (.list (L.map fD)))(hz:L.length<az)(hh:ae H hi=some (.dict ep D))(lt:t6 D bq)(ey:t.l=some (.ref hi)):
  ∃Y,RM P dd (eV sZ) (eQ sZ) (eU sZ) (gI sZ) (fB ar al s t) H (.ref H.length) (fB ar al s t) (H++.list (bR (cJ (gf bq) L))::Y):=by
 have q:=sW (d:=dd) (H:=H) (tg:=eQ sZ) (elt:=eV sZ) (it:=eU sZ) (e:=λo=>match o with
   |none=>fB ar al s t
   |some v=>[some (.ref ar),some (.ref al),some (.ref s),t.r,t.o,t.g,t.n,t.f,t.q,t.l,t.t,t.y,none,none,none,none,some (.str (gc v).1),some (.int (gc v).2.1),some (.str (gc v).2.2.1),some (.bool (gc v).2.2.2)])
  (f:=λv=>.int (gf bq (gc v):Nat)) (λO O O=>rfl) (U:=fB ar al s t) (H0:=H) (af rfl) (lC hl) (rQ hl) rfl (λv hv o K=>?_) (λv hv Y=>?_) (by rw[aJ];exact hz)
 ·refine ue q λY q=>⟨Y,?_⟩;have e:((L.map fD).map λv=>AV.int (gf bq (gc v):Nat))=bR (cJ (gf bq) L):=by rw[nc];unfold bR;rw[cI,cI];rfl
  rw[e] at q;exact q
 ·refine aq (bW.mp hv) λl tK e=>?_;subst e;cases o<;>rfl
 ·refine aq (bW.mp hv) λl tK e=>?_;subst e;refine⟨[],?_⟩;rw[eW];exact du (eN (mk:=.dict) (af (by show some t.l=_;rw[ey])) (xV (cb hh)) rfl rfl (aB rfl (af rfl) (aB rfl aS aE)) (Ld (cb hh) lt)) (af rfl) (kT (k:=((gf bq l:Nat):Int)) rfl)
def Uz{R:List (Ky×Nat)}{o:Bool×List Ky×Nat}(hr:ae K0 ar=some (.dict ep (eH R)))(hl:ae K0 al=some (.list (L.map fD)))(zR:R.length<4000)(zL:L.length<4000)(e:kG R.reverse L=some o):
  ∃H',RC P (dd+5) (.glob 8) [.ref ar,.ref al] K0 (.tup [.bool o.1,.lst (o.2.1.map .str),.int (o.2.2:Nat)]) H'/\ba K0.length K0 H':=by
 unfold kG at e;generalize hg:nz R.reverse L=g at *;have e:(match Nat.blt g.length 1000 with
  |false=>none
  |true=>(jl g g []).bind λring=>(lP L 100 g (lF g) [] []).bind λq=>match Nat.blt q.1.length 64 with
   |false=>none
   |true=>some (ring,cC bu q.1,lN (cJ (gf q.2) L)))=some o:=e
 cases hb:Nat.blt g.length 1000 with
 |false=>rw[hb] at e;exact aR e
 |true=>
 rw[hb] at e;refine ub e λring e1 e=>?_;refine ub e λq e2 e=>?_;cases yk:Nat.blt q.1.length 64 with
 |false=>rw[yk] at e;exact aR e
 |true=>
 rw[yk] at e;obtain rfl:=sj e;obtain⟨told,bq⟩:=q;have yk:=bG.mp yk
 let t0:Ot:=⟨none,none,none,none,none,none,none,none,none⟩
 have F0:cT [] (R.length+(3*L.length+0)):=cT.mk (dW (by show 0+_<20000;exact OX zL zR) (by decide)) nofun;have S0:=Sh (H:=K0);have Jg:ba K0.length K0 (K0++[gD (K0.length+1) .none 0 0,.dict 0 []]):=ba.app _ (bf _);obtain⟨H1,t1,r1,j4,S1,F1⟩:=Vl (dd:=dd) (al:=al) (t:=t0) hr R.length 0 (3*L.length+0) (gA _) S0 Jg F0;rw[qB] at S1 F1;obtain⟨H2,t2,r2,jg,S2⟩:=Vk (dd:=dd) (ar:=ar) (t:=t1) hl L.length 0 0 (gA _) S1 j4 F1;rw[qB] at S2;have S2:fh H2 K0.length (K0.length+1) K0.length g .none 0 0:=by rw[<- hg];exact S2
 obtain⟨H3,ns,pr,xT,en,hn,S3⟩:=Ux (dd:=dd+1) S2 (bG.mp hb) e1;have rt:=Vh (dd:=dd+1) (ar:=ar) (al:=al) (t:={t2 with q:=some (.bool false)}) rfl (ni S2.self rfl) pr;have lo:K0.length<=H3.length:=aM jg.len xT.len;have hd:K0.length+1<H3.length:=dW S2.vQ xT.len;have k:Ko K0 K0.length (K0.length+1) H2.length H3.length ns (fp ns) 0 0 [] [] (H3++[.dict 0 [],.list []]):=by have q:∀a,a<H3.length->ae (H3++[AO.dict 0 [],.list []]) a=ae H3 a:=λa ha=>uZ ha;exact⟨λa ha=>(q a (dW ha lo)).trans ((jg.trans xT).low a ha),S3.same hd q,⟨0,[],dY,λO=>rfl,bf _⟩,jG (n:=1),by rw[bF];exact bf _⟩
 rw[<- en,aeu] at e2;obtain⟨H4,t4,ns4,np4,r4,k4,f1,f2,f3⟩:=Vj (dd:=dd+2) (ar:=ar) (t:={t2 with q:=some (.bool ring),l:=some (.ref H3.length),t:=some (.ref (H3.length+1))}) hl zL hd lo 100 e2 hn k rfl rfl;obtain⟨a4,b4,⟨ep4,D4,c4,d4,_⟩,g4,h4⟩:=k4;have YJ:ae H4 al=some (.list (L.map fD)):=(a4 al (bk hl)).trans hl;refine ue (Vm (dd:=dd+4) (ar:=ar) (s:=K0.length) YJ (dW zL (by decide)) c4 d4 f1) λY rc=>?_
 let ls:=cJ (gf bq) L
 have DD:ls.length=L.length:=by show(cJ _ _).length=_;rw[nc,aJ]
 have n2:ae (H4++.list (bR ls)::Y) H4.length=some (.list (bR ls)):=dY;have ad:iA .Add (.lst [.int 0]) (.ref H4.length) (H4++.list (bR ls)::Y)=some (.lst (.int 0::bR ls)):=by
  show((bx (H4++.list (bR ls)::Y) H4.length).bind λb=>aI (Nat.ble (1+b.length) az) (some (AV.lst ([.int 0]++b))))=_;rw[dy n2];show aI (Nat.ble (1+(bR ls).length) az) _=_;have:1+(bR ls).length<=az:=by unfold bR;rw[aJ];exact aM (by exact OW DD zL:1+ls.length<=4000) (by decide)
  rw[eP.mpr this];rfl
 refine⟨H4++.list (bR ls)::Y,?_,ba.mk (by rw[bF];exact OV h4 lo) λa ha=>(uZ (by exact OU ha h4 lo)).trans (a4 a ha)⟩;refine eT (fd:=f8) (fl:=.ret (.tup [.bool ring,.lst ((cC bu told).map .str),.int (lN ls:Nat)])) (ρ1:=[some (.ref ar),some (.ref al),none,none,none,none,none,none,none,none,none,none,none,none,none,none,none,none,none,none]) rfl rfl ?_ rfl;refine⟨fB ar al K0.length t4,?_⟩;refine aj (bC (bO (bL rfl) rfl aE (UC (dd:=dd+2))) (λO=>rfl) rfl rfl) ?_;refine aj (iN (af rfl) (G9 (Jg.low ar (bk hr) |>.trans hr)) r1) ?_;refine aj (iN (af rfl) (lC ((j4.low al (bk hl)).trans hl)) r2) ?_;refine aj (bC aS (λO=>rfl) rfl (ρ2:=fB ar al K0.length {t2 with q:=some (.bool false)}) rfl) ?_;refine aj rt ?_;refine aj (bC CX (λO=>rfl) rfl (ρ2:=fB ar al K0.length {t2 with q:=some (.bool ring),l:=some (.ref H3.length)}) rfl) ?_;refine aj (bC (e9 (bb:=true) aE rfl) (λO=>rfl) rfl (ρ2:=fB ar al K0.length {t2 with q:=some (.bool ring),l:=some (.ref H3.length),t:=some (.ref (H3.length+1))}) (by rw[bF];rfl)) ?_;rw[eX];refine aj (kF r4) ?_;exact cK (fX (ou (aB rfl (af (by show some t4.q=_;rw[f3])) (aB rfl (bO (bL rfl) rfl (aB rfl (af (by show some t4.t=_;rw[f2])) aE) (gk (b:=.sorted) rfl (Hd g4 yk))) (aB rfl (bO (bL rfl) rfl (aB rfl (du (e9 (bb:=false) (aB rfl aS aE) rfl) (uV rc) ad) aE) (gk (b:=.max) rfl (Jb ls))) aE)))) λO=>rfl) nofun
end
end
section
section
variable {P:bP}{d:Nat}{U ρ1 ρ2:aC}{H H1 H2:Hp}{a r:C}{p:Pos}{t:Bool}
def CI(h:RT P d true a U H true ρ1 H1)(h2:RQ P d r ρ1 H1 t ρ2 H2):RQ P d (.cons a r) U H t ρ2 H2:=.bind h h2
def HL(h:RT P d true a U H false ρ1 H1):RQ P d (.cons a r) U H false ρ1 H1:=.bind h .ret
def CG(h:RQ P d r U H t ρ1 H1):RT P d true (.fx true r p) U H t ρ1 H1:=.step h
end
section
variable {H:Hp}{n:Nat}{l:List Ky}
def L4(k:Nat)(x:Ky):aV H k (.str x)=.str x:=by cases k<;>rfl
def yF(k:Nat)(l:List Ky):(l.map AV.str).map (aV H k)=l.map .str:=by rw[cI];exact i6 λx O=>L4 k x
def xE(k:Nat)(l:List Ky):dh (l.map .str) k=true:=by
 induction l with
 |nil=>simp only[k7,dh]
 |cons x l ih=>simp only[bE,dh,cw,ih]
def Yj(x:Ky)(l:List Ky):gG (.str x) (l.map .str)=some (aU x l):=by
 induction l with
 |nil=>rfl
 |cons y l ih=>
  show((c6 (.str y) (.str x)).bind λb=>(gG (.str x) (l.map .str)).map λc=>b||c)=some (match ak y x with|true=>true|false=>aU x l);rw[ih];have:c6 (.str y) (.str x)=some (ak y x):=by simp only[c6,AV.de,Option.map]
  rw[this];cases ak y x<;>rfl
def J7{x:Ky}(h:ae H n=some (.list (l.map .str))):gU (.str x) (.ref n) H=some (aU x l):=by
 unfold gU;show(match bx H n with|some l=>aI (cw (aV H 3 (.str x)) 3&&dh (l.map (aV H 3)) 3) (gG (aV H 3 (.str x)) (l.map (aV H 3)))|none=>_)=_;rw[dy h];show aI (cw (aV H 3 (.str x)) 3&&dh ((l.map AV.str).map (aV H 3)) 3) (gG (aV H 3 (.str x)) ((l.map AV.str).map (aV H 3)))=_;rw[yF,L4,xE,Yj];have:cw (.str x) 3=true:=by simp only[cw]
 rw[this];rfl
def LO(h:ae H n=some (.list (l.map .str))):fQ .Eq (.ref n) (.lst []) H=some l.isEmpty:=by
 show gK (.ref n) (.lst []) H=_;have e1:ql H (.ref n)=none:=by show(cD H n).map _=none;unfold cD;rw[h];rfl
 unfold gK;rw[e1];show iU (aV H 3 (.ref n)) (aV H 3 (.lst []))=_;have e2:aV H 3 (.ref n)=.lst (l.map .str):=by show(match cG H (.ref n) with|some l=>AV.lst (l.map (aV H 2))|none=>.ref n)=_;rw[show cG H (.ref n)=_ from dy h];exact congrArg AV.lst (yF 2 l)
 have e3:aV H 3 (.lst [])=.lst []:=rfl;rw[e2,e3];unfold iU;have e4:cw (.lst (l.map .str)) 3=true:=by simp only[cw];exact xE 2 l
 have e5:cw (.lst []) 3=true:=by simp only[cw,dh]
 rw[e4,e5];show c6 (.lst (l.map .str)) (.lst [])=_;cases l with
 |nil=>simp only[c6,k7,AV.ng,Option.bind,fw,List.isEmpty]
 |cons x l=>simp only[c6,bE,AV.ng,Option.bind,fw,List.isEmpty]
end
abbrev yw:S:=bg f9.body 2
abbrev qg:C:=jX (bg (bz yw) 0)
abbrev rO:C:=match gI qg with|.cons (.cmp _ a _ _) _=>a|_=>.nil
abbrev rN:C:=jX (bg (bz yw) 3)
abbrev Bc:C:=jX (bg f9.body 0)
noncomputable def fu(ar al:Nat)(x2 x3 x4 x5 x6 x7 x8 x9 x10 x11:Option AV):aC:=[some (.ref ar),some (.ref al),x2,x3,x4,x5,x6,x7,x8,x9,x10,x11]
def lZ(left:List Ky)(r:Ky)(l:bT):Bool:=match kL r l with|true=>aU l.1 left|false=>false
section
variable {d ar al aL:Nat}{H:Hp}{L:List bT}{left:List Ky}{x3 x4:Option AV}
def aei(p:bT->Bool):∀L:List bT,(!(ke p L))=((L.filter p).map (·.1)).isEmpty:=by
 intro L
 induction L with
 |nil=>rfl
 |cons l L ih=>
  show(!(match p l with|true=>true|false=>ke p L))=_;rw[sk];cases p l with
  |true=>rfl
  |false=>exact ih
def ZD{x:Ky}(hl:ae H al=some (.list (L.map fD)))(hz:L.length<az)(hL:ae H aL=some (.list (left.map .str))):
  ∃Y,RM P d (eV rO) (eQ rO) (eU rO) (gI rO) (fu ar al (some (.ref aL)) x3 x4 none (some (.str x)) none none none none none) H (.ref H.length) (fu ar al (some (.ref aL)) x3 x4 none (some (.str x)) none none none none none) (H++.list (((L.filter (lZ left x)).map (·.1)).map .str)::Y):=by
 have q:=uU (d:=d) (H:=H) (Hz:=H) (tg:=eQ rO) (elt:=eV rO) (it:=eU rO) (ifs:=gI rO) (I:=Is H) (e:=λo=>match o with
   |none=>fu ar al (some (.ref aL)) x3 x4 none (some (.str x)) none none none none none
   |some v=>fu ar al (some (.ref aL)) x3 x4 none (some (.str x)) (some (.str (gc v).1)) (some (.int (gc v).2.1)) (some (.str (gc v).2.2.1)) (some (.bool (gc v).2.2.2)) none)
  (t:=λv=>lZ left x (gc v)) (f:=λv=>.str (gc v).1) (λO O O=>rfl) (U:=fu ar al (some (.ref aL)) x3 x4 none (some (.str x)) none none none none none) (H0:=H) (af rfl) (lC hl) (rQ hl) rfl (λv hv o K=>?_) (λv hv K hK hn Y=>?_) (λv hv ht K hK hn Y=>?_) (by rw[aJ];exact hz)
 ·refine ue q λY q=>⟨Y,?_⟩;have e:(((L.map fD).filter λv=>lZ left x (gc v)).map λv=>AV.str (gc v).1)=((L.filter (lZ left x)).map (·.1)).map .str:=by rw[sE,cI,cI];rfl
  rw[e] at q;exact q.1
 ·refine aq (bW.mp hv) λl tK e=>?_;subst e;cases o<;>rfl
 ·refine aq (bW.mp hv) λl tK e=>?_;subst e;cases hK;refine⟨[],?_⟩;rw[eW];have t1:∀p1 p2 p3,RT P d true (.cmp .Eq (.var "new" 9 p1) (.var "rest" 6 p2) p3) (fu ar al (some (.ref aL)) x3 x4 none (some (.str x)) (some (.str l.1)) (some (.int l.2.1)) (some (.str l.2.2.1)) (some (.bool l.2.2.2)) none) (H++Y) (ak l.2.2.1 x) (fu ar al (some (.ref aL)) x3 x4 none (some (.str x)) (some (.str l.1)) (some (.int l.2.1)) (some (.str l.2.2.1)) (some (.bool l.2.2.2)) none) (H++Y):=λp1 p2 p3=>bH (af rfl) (af rfl) nB;have t2:∀p1 p2 p3,RT P d true (.cmp .NotEq (.var "new" 9 p1) (.cst (.str "") (.str []) 0 p2) p3) (fu ar al (some (.ref aL)) x3 x4 none (some (.str x)) (some (.str l.1)) (some (.int l.2.1)) (some (.str l.2.2.1)) (some (.bool l.2.2.2)) none) (H++Y) (!fc l.2.2.1) (fu ar al (some (.ref aL)) x3 x4 none (some (.str x)) (some (.str l.1)) (some (.int l.2.1)) (some (.str l.2.2.1)) (some (.bool l.2.2.2)) none) (H++Y):=λp1 p2 p3=>bH (af rfl) aS (by rw[Dl,tF]);have t3:∀p1 p2 p3,RT P d true (.cmp .In (.var "old" 7 p1) (.var "left" 2 p2) p3) (fu ar al (some (.ref aL)) x3 x4 none (some (.str x)) (some (.str l.1)) (some (.int l.2.1)) (some (.str l.2.2.1)) (some (.bool l.2.2.2)) none) (H++Y) (aU l.1 left) (fu ar al (some (.ref aL)) x3 x4 none (some (.str x)) (some (.str l.1)) (some (.int l.2.1)) (some (.str l.2.2.1)) (some (.bool l.2.2.2)) none) (H++Y):=λp1 p2 p3=>bH (af rfl) (af rfl) (J7 (cb hL));show RQ P d _ _ _ (match(match ak l.2.2.1 x with|true=>!fc l.2.2.1|false=>false) with|true=>aU l.1 left|false=>false) _ _;cases e:ak l.2.2.1 x with
  |false=>rw[e] at t1;exact oq (CG (HL (t1 ..)))
  |true=>
   rw[e] at t1;cases e2:fc l.2.2.1 with
   |true=>rw[e2] at t2;exact oq (CG (CI (t1 ..) (HL (t2 ..))))
   |false=>rw[e2] at t2;exact oq (CG (CI (t1 ..) (CI (t2 ..) (oq (t3 ..)))))
 ·refine aq (bW.mp hv) λl tK e=>?_;subst e;refine⟨[],?_⟩;rw[eW];exact af rfl
def ZE(hl:ae H al=some (.list (L.map fD)))(hz:L.length<az)(hL:ae H aL=some (.list (left.map .str)))(lz:left.length<az):
  ∃Y,RM P d (eV qg) (eQ qg) (eU qg) (gI qg) (fu ar al (some (.ref aL)) x3 x4 none none none none none none none) H (.ref H.length) (fu ar al (some (.ref aL)) x3 x4 none none none none none none none) (H++.list ((gi L left).map .str)::Y):=by
 have q:=uU (d:=d) (H:=H) (Hz:=H) (tg:=eQ qg) (elt:=eV qg) (it:=eU qg) (ifs:=gI qg) (I:=Is H) (e:=λo=>fu ar al (some (.ref aL)) x3 x4 none o none none none none none)
  (t:=λv=>!(ke (lZ left ((v.de).getD [])) L)) (f:=λv=>v) (λO O O=>rfl) (U:=fu ar al (some (.ref aL)) x3 x4 none none none none none none none) (H0:=H) (af rfl) (lC hL) (rQ hL) rfl (λv hv o K=>rfl) (λv hv K hK hn Y=>?_) (λv hv ht K hK hn Y=>⟨[],by rw[eW];exact af rfl⟩) (by rw[aJ];exact lz)
 ·refine ue q λY q=>⟨Y,?_⟩;have e:(((left.map AV.str).filter λv=>!(ke (lZ left ((v.de).getD [])) L)).map λv=>v)=(gi L left).map .str:=by unfold gi;rw[nA,sE,cI];rfl
  rw[e] at q;exact q.1
 ·refine aq (bW.mp hv) λx hx e=>?_;subst e;cases hK;refine ue (ZD (d:=d) (ar:=ar) (x3:=x3) (x4:=x4) (x:=x) (cb (m:=Y) hl) hz (cb (m:=Y) hL)) λY2 r=>?_;refine⟨.list (((L.filter (lZ left x)).map (·.1)).map .str)::Y2,?_⟩;have eA:H++(Y++.list (((L.filter (lZ left x)).map (·.1)).map .str)::Y2)=H++Y++.list (((L.filter (lZ left x)).map (·.1)).map .str)::Y2:=by rw[eX]
  rw[eA];have ee:(!(ke (lZ left x) L))=((L.filter (lZ left x)).map (·.1)).isEmpty:=by exact aei _ L
  show RQ P d _ _ _ (!(ke (lZ left x) L)) _ _;rw[ee];exact oq (bH (uV r) (e9 (bb:=false) aE rfl) (LO dY))
end
end
section
section
variable {d ar al aL aG:Nat}{K0 H:Hp}{L:List bT}{left yr:List Ky}{x3:Option AV}
def ZC(hL:ae H aL=some (.list (left.map .str)))(lz:left.length<az)(hG:ae H aG=some (.list (yr.map .str))):
  ∃Y,RM P d (eV rN) (eQ rN) (eU rN) (gI rN) (fu ar al (some (.ref aL)) x3 (some (.ref aG)) none none none none none none none) H (.ref H.length) (fu ar al (some (.ref aL)) x3 (some (.ref aG)) none none none none none none none) (H++.list ((d9 (λy=>!aU y yr) left).map .str)::Y):=by
 have q:=uU (d:=d) (H:=H) (Hz:=H) (tg:=eQ rN) (elt:=eV rN) (it:=eU rN) (ifs:=gI rN) (I:=Is H) (e:=λo=>fu ar al (some (.ref aL)) x3 (some (.ref aG)) none none none none none none o)
  (t:=λv=>!aU ((v.de).getD []) yr) (f:=λv=>v) (λO O O=>rfl) (U:=fu ar al (some (.ref aL)) x3 (some (.ref aG)) none none none none none none none) (H0:=H) (af rfl) (lC hL) (rQ hL) rfl (λv hv o K=>rfl) (λv hv K hK hn Y=>?_) (λv hv ht K hK hn Y=>⟨[],by rw[eW];exact af rfl⟩) (by rw[aJ];exact lz)
 ·refine ue q λY q=>⟨Y,?_⟩;have e:(((left.map AV.str).filter λv=>!aU ((v.de).getD []) yr).map λv=>v)=(d9 (λy=>!aU y yr) left).map .str:=by rw[nA,sE,cI];rfl
  rw[e] at q;exact q.1
 ·refine aq (bW.mp hv) λx hx e=>?_;subst e;cases hK;refine⟨[],?_⟩;rw[eW];refine oq (bH (af rfl) (af rfl) ?_);show(gU (.str x) (.ref aG) (H++Y)).map (!·)=_;rw[J7 (cb hG)];rfl
def Z7{n m:Nat}{l k:List AV}(h:ae H n=some (.list l))(hk:ae H m=some (.list k))(hz:l.length+k.length<=az):lL .list 3 (.ref n) [.ref m] H=some (.none,ai H (.list (l++k)) n):=by rw[AB h];show((bx H m).bind λys=>aI (Nat.ble (l.length+ys.length) az) (some (AV.none,ai H (.list (l++ys)) n)))=_;rw[dy hk];show aI (Nat.ble (l.length+k.length) az) _=_;rw[eP.mpr hz];rfl
def ZA{aF:Nat}(hl:ae K0 al=some (.list (L.map fD)))(hz:L.length<4000){R:List Ky}(hf:K0.length<=aF):∀(m:Nat) {left free:List Ky} {H:Hp} {aL:Nat} {x4:Option AV},iw L m left free=some R->ba K0.length K0 H->ae H aL=some (.list (left.map .str))->ae H aF=some (.list (free.map .str))->left.length<4000->free.length+4000*m<=800000->aL≠aF ->
  ∃H' BN uB,RW P d true (gB yw) (bz yw) (iV yw) (fu ar al (some (.ref aL)) (some (.ref aF)) x4 none none none none none none none) H (.ret (.lst (R.map .str))) (fu ar al (some (.ref BN)) (some (.ref aF)) uB none none none none none none none) H'/\ba K0.length K0 H':=by
 intro m
 induction m with
 |zero=>intro left free H aL x4 e;exact aR e
 |succ m ih=>
  intro left free H aL x4 e lw h1 h2 z1 z2 nq;have zz:(800000:Nat)<=az:=by decide
  have e:(match gi L left with
   |[]=>match Nat.blt free.length 64 with|false=>none|true=>some (cC bu free)
   |x::r=>iw L m (d9 (λy=>!aU y (x::r)) left) (bj free (x::r)))=some R:=e
  refine ue (ZE (d:=d) (ar:=ar) (x3:=some (.ref aF)) (x4:=x4) ((lw.low al (bk hl)).trans hl) (dW hz (by decide)) h1 (dW z1 (by decide))) λY rg=>?_;have gl:(gi L left).length<=left.length:=by unfold gi;rw[nA];exact zf ..
  have n1:ae (H++.list ((gi L left).map .str)::Y) H.length=some (.list ((gi L left).map .str)):=dY;have EC:=cb (m:=.list ((gi L left).map .str)::Y) h1;have vF:=cb (m:=.list ((gi L left).map .str)::Y) h2;have j4:=lw.trans (ba.app (.list ((gi L left).map .str)::Y) lw.len);have iu:=bk h2;have aeY:=bk h1;have jy:∀p1 p2 p3,RT P d true (.cmp .Eq (.var "goes" 4 p1) (.list .nil false p2) p3) (fu ar al (some (.ref aL)) (some (.ref aF)) (some (.ref H.length)) none none none none none none none) (H++.list ((gi L left).map .str)::Y) (gi L left).isEmpty (fu ar al (some (.ref aL)) (some (.ref aF)) (some (.ref H.length)) none none none none none none none) (H++.list ((gi L left).map .str)::Y):=λp1 p2 p3=>bH (af rfl) (e9 (bb:=false) aE rfl) (LO n1);have hH:(H++.list ((gi L left).map .str)::Y).length=H.length+(Y.length+1):=bF;generalize H++.list ((gi L left).map .str)::Y=H1 at *;generalize gi L left=G at *;cases G with
  |nil=>
   have e:(match Nat.blt free.length 64 with|false=>none|true=>some (cC bu free))=some R:=e;cases hb:Nat.blt free.length 64 with
   |false=>rw[hb] at e;exact aR e
   |true=>
   rw[hb] at e;obtain rfl:=sj e;exact⟨H1,aL,_,xe (f:=.ret (.lst ((cC bu free).map .str))) (xf rfl) (aj (rh rg rfl rfl) (cK (bM (t:=true) (jy ..) (cK (fX (bO (bL rfl) rfl (aB rfl (af rfl) aE) (gk (b:=.sorted) rfl (Hd vF (bG.mp hb)))) λO=>rfl) nofun)) nofun)) rfl,j4⟩
  |cons x r=>
   have e:iw L m (d9 (λy=>!aU y (x::r)) left) (bj free (x::r))=some R:=e;have ex:=Z7 vF n1 (by rw[aJ,aJ];exact OT gl zz z2 z1);have e0:free.map AV.str++(x::r).map .str=(bj free (x::r)).map .str:=by rw[fR,eB]
   rw[e0] at ex;have b1:∀{a},a≠aF->ae (ai H1 (.list ((bj free (x::r)).map .str)) aF) a=ae H1 a:=λh=>bh (fi h);have Zi:ae (ai H1 (.list ((bj free (x::r)).map .str)) aF) aF=some (.list ((bj free (x::r)).map .str)):=cV (bk vF);have Zk:=(b1 nq).trans EC;have V0:=(b1 (dM iu)).trans n1;have jg:=j4.trans (ba.upd (o:=.list ((bj free (x::r)).map .str)) hf);have kk:=gF (P:=P) (m:=3) vF;have K2:(ai H1 (.list ((bj free (x::r)).map .str)) aF).length=H1.length:=cB;generalize ai H1 (.list ((bj free (x::r)).map .str)) aF=H2 at *;refine ue (ZC (d:=d) (ar:=ar) (al:=al) (x3:=some (.ref aF)) Zk (dW z1 (by decide)) V0) λY2 rl=>?_;have n3:ae (H2++.list ((d9 (λy=>!aU y (x::r)) left).map .str)::Y2) H2.length=some (.list ((d9 (λy=>!aU y (x::r)) left).map .str)):=dY;obtain⟨H',BN,uB,r3,xT⟩:=ih (x4:=some (.ref H.length)) e (jg.trans (ba.app _ jg.len)) n3 (cb Zi) (by rw[nA];exact cU (zf ..) z1) (by rw[fR,bF];exact OS gl z2 z1) (by exact OQ K2 hH iu);exact⟨H',BN,uB,kD (f:=.next) (xf rfl) (aj (rh rg rfl rfl) (aj (bM (t:=false) (jy ..) aO) (aj (eM (eN (mk:=.list) (af rfl) kk rfl rfl (aB rfl (af rfl) aE) ex)) (aj (rh rl rfl rfl) aO)))) rfl r3,xT⟩
def UK{ep:Nat}{R:List (Ky×Nat)}{T:List Ky}(hr:ae K0 ar=some (.dict ep (eH R)))(hl:ae K0 al=some (.list (L.map fD)))(zR:R.length<4000)(zL:L.length<4000)(e:iw L 100 (cJ (·.1) R.reverse) []=some T):
  ∃H',RC P (d+1) (.glob 9) [.ref ar,.ref al] K0 (.lst (T.map .str)) H'/\ba K0.length K0 H':=by
 have ff:=ZY (tg:=eQ Bc) hr (eH R).length 0 (gA _);rw[qB] at ff;have zl:(eH R).length=R.length:=by unfold eH;rw[aJ,ig]
 have q:=sW (d:=d) (H:=K0) (tg:=eQ Bc) (elt:=eV Bc) (it:=eU Bc) (e:=λo=>fu ar al none none none o none none none none none none) (f:=λv=>v) (λO O O=>rfl) (U:=fu ar al none none none none none none none none none none) (H0:=K0) (af rfl) (G9 hr) ff rfl (λO O O O=>rfl) (λx hx Y=>⟨[],by rw[eW];exact af rfl⟩) (by rw[aJ,zl];exact dW zR (by decide));refine ue q λY q=>?_;have ek:(((eH R).map λp=>AV.str p.1).map λv=>v)=(cJ (·.1) R.reverse).map .str:=by unfold eH;rw[nc,cI,cI,cI];rfl
 rw[ek] at q;have hlen:(K0++.list ((cJ (·.1) R.reverse).map .str)::Y).length=K0.length+(Y.length+1):=bF;have n1:ae (K0++.list ((cJ (·.1) R.reverse).map .str)::Y) K0.length=some (.list ((cJ (·.1) R.reverse).map .str)):=dY;have j4:=ba.app (.list ((cJ (·.1) R.reverse).map .str)::Y) (bf K0.length);generalize K0++.list ((cJ (·.1) R.reverse).map .str)::Y=H1 at *;obtain⟨H',BN,uB,r,lw⟩:=ZA (d:=d) (ar:=ar) (aF:=H1.length) hl zL j4.len 100 (H:=H1++[.list []]) (x4:=none) e (j4.trans (ba.app _ j4.len)) (cb n1) dY (by rw[nc,aJ,ig];exact zR) (by decide) (by exact OP hlen);refine⟨H',eT (fd:=f9) (fl:=.ret (.lst (T.map .str))) (ρ1:=[some (.ref ar),some (.ref al),none,none,none,none,none,none,none,none,none,none]) rfl rfl ?_ rfl,lw⟩;exact⟨_,aj (rh q rfl rfl) (aj (bC (e9 (bb:=true) aE rfl) (λO=>rfl) rfl rfl) (cK (kF r) nofun))⟩
end
end
end
section
open PySem.W PyProof.Rows
section
def cF{α:Type}(aX:Nat->Nat->Bool)(n:Nat)(t:KasT α)(Q:α->Prop):Prop:=∃a,l9 aX n t=some a/\Q a
section
variable {α β:Type}{aX:Nat->Nat->Bool}{n:Nat}{Q:α->Prop}
def cF.ret{a:α}(h:Q a):cF aX n (.ret a) Q:=⟨a,rfl,h⟩
def cF.ask{i j:Nat}{k:Bool->KasT α}(hi:i<n)(hj:j<n)(h:cF aX n (k (aX i j)) Q):cF aX n (.ask i j k) Q:=by obtain⟨a,e,q⟩:=h;refine⟨a,?_,q⟩;show(match Nat.blt i n&&Nat.blt j n with|true=>l9 aX n (k (aX i j))|false=>none)=some a;rw[bG.mpr hi,bG.mpr hj];exact e
def ad4{f:α->KasT β}:∀(t:KasT α),l9 aX n (t.bind f)=(l9 aX n t).bind λa=>l9 aX n (f a):=by
 intro t
 induction t with
 |ret a=>rfl
 |ask i j k ih=>
  show(match Nat.blt i n&&Nat.blt j n with|true=>l9 aX n ((k (aX i j)).bind f)|false=>none)=(match Nat.blt i n&&Nat.blt j n with|true=>l9 aX n (k (aX i j))|false=>none).bind λa=>l9 aX n (f a);cases Nat.blt i n&&Nat.blt j n with
  |true=>exact ih (aX i j)
  |false=>rfl
def cF.bind{t:KasT β}{f:β->KasT α}(h:cF aX n t λb=>cF aX n (f b) Q):cF aX n (t.bind f) Q:=by obtain⟨b,e,a,e2,q⟩:=h;exact⟨a,by rw[ad4,e];exact e2,q⟩
end
structure r8(aX:Nat->Nat->Bool)(n:Nat):Prop where
 MY:∀i j,i<n->j<n->aX i j=true->aX j i=false
 qS:∀i j k,i<n->j<n->k<n->aX i j=true->aX j k=true->aX i k=true
 sO:∀i j,i<n->j<n->i≠j->aX i j=false->aX j i=true
def Pm(n:Nat)(p:Array Nat):Prop:=p.toList.Perm (List.range n)
def Up(aX:Nat->Nat->Bool)(p:Array Nat)(k:Nat):Prop:=∀i j,i<j->j<k->aX (p.getD i 0) (p.getD j 0)=true
def Dn(aX:Nat->Nat->Bool)(p:Array Nat)(k:Nat):Prop:=∀i j,i<j->j<k->aX (p.getD j 0) (p.getD i 0)=true
section
variable {aX:Nat->Nat->Bool}{n:Nat}{p:Array Nat}
def Pm.size(h:Pm n p):p.size=n:=by have:=h.length_eq;rw[List.length_range] at this;rwa[pz] at this
variable {k:Nat}
def yu(h:k<p.size):p.getD k 0=p.toList[k]'(by rw[pz];exact h):=by rw[B7,Array.getElem?_eq_getElem h];exact(Array.getElem_toList h).symm
def Pm.lt(h:Pm n p)(hk:k<n):p.getD k 0<n:=by rw[yu (by rw[h.size];exact hk)];exact List.mem_range.mp (h.mem_iff.mp (List.getElem_mem _))
def Pm.ne(h:Pm n p){i j:Nat}(hi:i<n)(hj:j<n)(hn:i≠j):p.getD i 0≠p.getD j 0:=by rw[yu (by rw[h.size];exact hi),yu (by rw[h.size];exact hj)];have nd:p.toList.Nodup:=h.nodup_iff.mpr List.nodup_range;intro e;exact hn ((List.getElem_inj nd).mp e)
def Q0(O:r8 aX n)(P:Pm n p)(hk:k<n)(h1:1<=k)(fP:Up aX p k)(h:aX (p.getD (k-1) 0) (p.getD k 0)=true):Up aX p (k+1):=by
 intro i j bY hj;rcases sD j k with q|q
 ·exact fP i j bY q
 ·have ej:j=k:=by exact Ga q hj
  subst ej;rcases sD i (j-1) with r|r
  ·exact O.qS _ _ _ (P.lt (by exact F9 hk bY)) (P.lt (by exact PQ hk)) (P.lt hk) (fP i (j-1) r (by exact FZ bY)) h
  ·have:i=j-1:=by exact FY r bY
   rw[this];exact h
def MZ(O:r8 aX n)(P:Pm n p):∀(f m:Nat),1<=m->m+f=n->Up aX p m->cF aX n (kas_asc p f m) λr=>m<=r/\r<=n/\Up aX p r/\(r≠n->aX (p.getD r 0) (p.getD (r-1) 0)=true):=by
 intro f
 induction f with
 |zero=>intro m h1 hm fP;exact cF.ret ⟨bf _,aW hm,fP,λh=>absurd hm h⟩
 |succ f ih=>
  intro m h1 hm fP;have lW:m<n:=by exact Ca hm
  refine cF.ask (P.lt lW) (P.lt (by exact qM hm)) ?_;cases hc:aX (p.getD m 0) (p.getD (m-1) 0) with
  |true=>exact cF.ret ⟨bf _,fG lW,fP,λ_=>hc⟩
  |false=>obtain⟨r,e,q1,q2,q3,q4⟩:=ih (m+1) (wz h1) (by exact B9 hm) (Q0 O P lW h1 fP (O.sO _ _ (P.lt lW) (P.lt (by exact qM hm)) (P.ne lW (by exact qM hm) (by exact OL h1)) hc));exact⟨r,e,by exact OF q1,q2,q3,q4⟩
def abc(O:r8 aX n)(P:Pm n p):∀(f m:Nat),2<=m->m+f=n->Dn aX p m->cF aX n (kas_desc f p m 0) λr=>r.1=p/\r.2.2=0/\2<=r.2.1/\r.2.1<=n/\Dn aX p r.2.1:=by
 intro f
 induction f with
 |zero=>intro m h1 hm D;exact cF.ret ⟨rfl,rfl,h1,aW hm,D⟩
 |succ f ih=>
  intro m h1 hm D;have lW:m<n:=by exact Ca hm
  refine cF.ask (P.lt lW) (P.lt (by exact qM hm)) ?_;cases hc:aX (p.getD m 0) (p.getD (m-1) 0) with
  |true=>
   show cF aX n (kas_desc f p (m+1) 0) _;refine ih (m+1) (wz h1) (by exact B9 hm) λi j bY hj=>?_;rcases sD j m with q|q
   ·exact D i j bY q
   ·have ej:j=m:=by exact Ga q hj
    subst ej;rcases sD i (j-1) with r|r
    ·exact O.qS _ _ _ (P.lt lW) (P.lt (by exact qM hm)) (P.lt (by exact Qm hm bY)) hc (D i (j-1) r (by exact FZ bY))
    ·have:i=j-1:=by exact FY r bY
     rw[this];exact hc
  |false=>refine cF.ask (P.lt (by exact qM hm)) (P.lt lW) ?_;rw[O.sO _ _ (P.lt lW) (P.lt (by exact qM hm)) (P.ne lW (by exact qM hm) (by exact Qi h1)) hc];exact cF.ret ⟨rfl,rfl,h1,fG lW,D⟩
def Pm.of{q:Array Nat}(P:Pm n p)(h:q.Perm p):Pm n q:=(Array.perm_iff_toList_perm.mp h).trans P
def Bb{q:Array Nat}{i j:Nat}(h:q[i]?=p[j]?):q.getD i 0=p.getD j 0:=by rw[B7,B7,h]
def T7(P:Pm n p){m:Nat}(hm:m<=n)(D:Dn aX p m):Up aX (kas_rev p 0 m) m:=by
 have e:∀k,k<m->(kas_rev p 0 m).getD k 0=p.getD (m-1-k) 0:=λk hk=>by have h:=getElem?_mirror_all (xs:=p) (i:=0) (j:=m) (by rw[P.size];exact hm) k;rw[if_pos ⟨jP _,hk⟩,gA] at h;exact Bb h
 intro i j bY hj;rw[e i (by exact F9 hj bY),e j hj];exact D _ _ (by exact P7 hj bY) (by exact PX hj)
def abl(O:r8 aX n)(P:Pm n p)(h2:2<=n):cF aX n (kas_count n p) λr=>Pm n r.2/\1<=r.1/\r.1<=n/\Up aX r.2 r.1:=by
 refine cF.bind ?_;obtain⟨r,e,q1,q2,q3,q4⟩:=MZ O P (n-1) 1 (bf _) (by exact PW h2) λi j bY hj=>by exact(PV hj bY).elim
 refine⟨r,e,?_⟩;show cF aX n (if(r==n)=true then .ret (r,p) else if r>1 then .ask (p.getD 0 0) (p.getD (r-1) 0) λc=>if c=true then .ret (r,p) else kas_descPart r n (kas_rev p 0 r) else kas_descPart r n p) _;by_cases hr:r=n
 ·rw[if_pos (by rw[hr];exact beq_self_eq_true n)];exact cF.ret ⟨P,q1,q2,q3⟩
 ·rw[if_neg (by rw[beq_iff_eq];exact hr)];by_cases h1:r>1
  ·rw[if_pos h1];refine cF.ask (P.lt (by exact PU h2)) (P.lt (by exact PT q2 h2)) ?_;rw[q3 0 (r-1) (by exact PS h1) (by exact PR q1)];exact cF.ret ⟨P,q1,q2,q3⟩
  ·rw[if_neg h1];have r1:r=1:=by exact PO h1 q1
   subst r1;have d2:=q4 hr;unfold kas_descPart;refine cF.bind ?_;obtain⟨t,e,t1,t2,t3,t4,t5⟩:=abc O P (n-(1+1)) 2 (bf _) (by exact PN h2) λi j bY hj=>by
    have:i=0:=by exact PM hj bY
    have:j=1:=by exact PL hj bY
    subst i j;exact d2
   refine⟨t,e,?_⟩;obtain⟨tp,tm,tq⟩:=t;obtain rfl:tp=p:=t1;obtain rfl:tq=0:=t2;show cF aX n (if 0>0 then kas_tail3 tm n (kas_rev tp (tm-(0+1)) tm) else kas_tail3 tm n tp) _;rw[if_neg (jQ 0)];unfold kas_tail3;refine cF.bind ?_;have P':Pm n (kas_rev tp 0 tm):=P.of (mirror_perm _ _ _ _);obtain⟨r',e',w1,w2,w3,_⟩:=MZ O P' (n-tm) tm (by exact aM (by decide) t3) (by have:tm<=n:=t4;exact F3 t4) (T7 P t4 t5);exact⟨r',e',cF.ret ⟨P',aM (aM (by decide) t3) w1,w2,w3⟩⟩
def U9(P:Pm n p)(O:r8 aX n)(hk:k<n)(fP:Up aX p k):∀(f l r:Nat),l<=r->r<=k->r<=l+f->(∀i,i<l->aX (p.getD i 0) (p.getD k 0)=true)->(∀i,r<=i->i<k->aX (p.getD k 0) (p.getD i 0)=true)->cF aX n (kas_place p k f l r) λl=>l<=k/\(∀i,i<l->aX (p.getD i 0) (p.getD k 0)=true)/\(∀i,l<=i->i<k->aX (p.getD k 0) (p.getD i 0)=true):=by
 intro f
 induction f with
 |zero=>
  intro l r h1 h2 h3 a b;have:l=r:=by exact PK h3 h1
  subst this;exact cF.ret ⟨h2,a,b⟩
 |succ f ih=>
  intro l r h1 h2 h3 a b;show cF aX n (if l≥r then .ret l else .ask (p.getD k 0) (p.getD ((l+r)/2) 0) λc=>if c=true then kas_place p k f l ((l+r)/2) else kas_place p k f ((l+r)/2+1) r) _;by_cases h:l≥r
  ·rw[if_pos h];have:l=r:=by exact PJ h h1
   subst this;exact cF.ret ⟨h2,a,b⟩
  ·rw[if_neg h];refine cF.ask (P.lt hk) (P.lt (by exact wD h2 h1 hk)) ?_;cases hc:aX (p.getD k 0) (p.getD ((l+r)/2) 0) with
   |true=>
    show cF aX n (kas_place p k f l ((l+r)/2)) _;refine ih l ((l+r)/2) (by exact PI h1) (by exact PH h2 h1) (by exact PG h3) a λi hi A1=>?_;rcases sD ((l+r)/2) i with q|q
    ·exact O.qS _ _ _ (P.lt hk) (P.lt (by exact wD h2 h1 hk)) (P.lt (by exact PF A1 hk)) hc (fP _ _ q A1)
    ·have:i=(l+r)/2:=by exact PE q hi
     rw[this];exact hc
   |false=>
    show cF aX n (kas_place p k f ((l+r)/2+1) r) _;have rI:=O.sO _ _ (P.lt hk) (P.lt (by exact wD h2 h1 hk)) (P.ne hk (by exact wD h2 h1 hk) (by exact PC h h2)) hc;refine ih ((l+r)/2+1) r (by exact PB h) h2 (by exact PA h3) (λi hi=>?_) b;rcases sD i ((l+r)/2) with q|q
    ·exact O.qS _ _ _ (P.lt (by exact Pz hi h2 h1 hk)) (P.lt (by exact wD h2 h1 hk)) (P.lt hk) (fP _ _ q (by exact Py h h2)) rI
    ·have:i=(l+r)/2:=by exact Px q hi
     rw[this];exact rI
def ado(O:r8 aX n):∀(f k:Nat) {p:Array Nat},Pm n p->Up aX p k->k+f=n->cF aX n (kas_bin f p k) λq=>Pm n q/\Up aX q n:=by
 intro f
 induction f with
 |zero=>intro k p P fP h;have:k=n:=h;subst this;exact cF.ret ⟨P,fP⟩
 |succ f ih=>
  intro k p P fP h;have hk:k<n:=by exact Ca h
  refine cF.bind ?_;obtain⟨l,e,l1,l2,l3⟩:=U9 P O hk fP k 0 k (jP _) (bf _) (by exact Pw) (λi hi=>absurd hi (Nat.not_lt_zero i)) λi hi A1=>by exact(Pu A1 hi).elim
  refine⟨l,e,?_⟩;have g:∀j,(bubble p k (k-l)).getD j 0=if j=l then p.getD k 0 else if l<j/\j<=k then p.getD (j-1) 0 else p.getD j 0:=λj=>by
   have h:=getElem?_bubble (xs:=p) (src:=k) (by rw[P.size];exact hk) (k-l) (nU _ _) j;have el:k-(k-l)=l:=by exact Pt l1
   rw[el] at h;by_cases h1:j=l
   ·rw[if_pos h1] at h⊢;exact Bb h
   ·rw[if_neg h1] at h⊢;by_cases h2:l<j/\j<=k
    ·rw[if_pos h2] at h⊢;exact Bb h
    ·rw[if_neg h2] at h⊢;exact Bb h
  refine ih (k+1) (P.of (bubble_perm _ _ _)) (λi j bY hj=>?_) (by exact B9 h);rw[g i,g j];by_cases j1:j=l
  ·rw[if_pos j1,if_neg (by exact Pq j1 bY),if_neg (by exact Pp j1 bY)];exact l2 i (by exact Po j1 bY)
  ·rw[if_neg j1];by_cases j2:l<j/\j<=k
   ·rw[if_pos j2];by_cases i1:i=l
    ·rw[if_pos i1];exact l3 (j-1) (by exact Pn j2) (by exact Cb hj bY)
    ·rw[if_neg i1];by_cases i2:l<i/\i<=k
     ·rw[if_pos i2];exact fP _ _ (by exact Pl i1 j2 bY) (by exact Cb hj bY)
     ·rw[if_neg i2];exact fP _ _ (by exact Pk i2 i1 j2 bY) (by exact Cb hj bY)
   ·rw[if_neg j2,if_neg (by exact Pj j2 hj bY),if_neg (by exact Pg j2 hj bY)];exact fP i j bY (by exact Pf j2 j1 hj l1)
def Rn(O:r8 aX n)(h2:2<=n):cF aX n (kas_sort n) λq=>Pm n q/\Up aX q n:=by
 have P0:Pm n (List.toArray (List.range n)):=by unfold Pm;exact List.Perm.refl _
 refine cF.bind ?_;obtain⟨r,e,P,r1,r2,fP⟩:=abl O P0 h2;refine⟨r,e,?_⟩;show cF aX n (if r.1<n then kas_bin (n-max r.1 1) r.2 (max r.1 1) else .ret r.2) _;by_cases h:r.1<n
 ·rw[if_pos h];have em:max r.1 1=r.1:=Nat.max_eq_left r1;rw[em];exact ado O _ _ P fP (by exact F3 r2)
 ·rw[if_neg h];have:r.1=n:=by exact Pe h r2
  rw[this] at fP;exact cF.ret ⟨P,fP⟩
end
section
variable {α:Type}{lt:α->α->Bool}
def J3(x:α):∀l:List α,(jj lt x l).Perm (x::l):=by
 intro l
 induction l with
 |nil=>exact List.Perm.refl _
 |cons y l ih=>
  show(match lt y x with|true=>y::jj lt x l|false=>x::y::l).Perm _;cases lt y x with
  |true=>exact(ih.cons y).trans (List.Perm.swap x y l)
  |false=>exact List.Perm.refl _
def G6:∀l:List α,(cC lt l).Perm l:=by
 intro l
 induction l with
 |nil=>exact List.Perm.refl _
 |cons x l ih=>exact(J3 x _).trans (ih.cons x)
def X7(qS:∀a b c,lt a b=true->lt b c=true->lt a c=true)(sO:∀a b,a≠b->lt a b=false->lt b a=true)(x:α):∀{l:List α},l.Pairwise (λa b=>lt a b=true)->x∉l->(jj lt x l).Pairwise λa b=>lt a b=true:=by
 intro l
 induction l with
 |nil=>intro _ _;exact List.pairwise_singleton _ _
 |cons y l ih=>
  intro h hx;obtain⟨h1,h2⟩:=mA.mp h;rw[bQ,not_or] at hx;show(match lt y x with|true=>y::jj lt x l|false=>x::y::l).Pairwise _;cases e:lt y x with
  |true=>
   refine mA.mpr ⟨λz hz=>?_,ih h2 hx.2⟩;rcases bQ.mp ((J3 x l).mem_iff.mp hz) with rfl|hz
   ·exact e
   ·exact h1 z hz
  |false=>
   have xy:=sO y x (fi hx.1) e;refine mA.mpr ⟨λz hz=>?_,h⟩;rcases bQ.mp hz with rfl|hz
   ·exact xy
   ·exact qS _ _ _ xy (h1 z hz)
def Sg(qS:∀a b c,lt a b=true->lt b c=true->lt a c=true)(sO:∀a b,a≠b->lt a b=false->lt b a=true):∀{l:List α},l.Nodup->(cC lt l).Pairwise λa b=>lt a b=true:=by
 intro l
 induction l with
 |nil=>intro _;exact .nil
 |cons x l ih=>intro h;obtain⟨h1,h2⟩:=ie.mp h;exact X7 qS sO x (ih h2) λhm=>h1 ((G6 l).mem_iff.mp hm)
def QZ(MY:∀a b,lt a b=true->lt b a=false):∀{l m:List α},l.Perm m->l.Pairwise (λa b=>lt a b=true)->m.Pairwise (λa b=>lt a b=true)->l=m:=by
 intro l
 induction l with
 |nil=>intro m p _ _;exact p.nil_eq
 |cons a l ih=>
  intro m p h1 h2;cases m with
  |nil=>exact absurd p.symm.nil_eq nofun
  |cons b m=>
   obtain⟨a1,a2⟩:=mA.mp h1;obtain⟨b1,b2⟩:=mA.mp h2;have e:a=b:=by
    rcases bQ.mp (p.mem_iff.mp bA) with e|e
    ·exact e
    ·rcases bQ.mp (p.symm.mem_iff.mp bA) with e2|e2
     ·exact e2.symm
     ·have:=MY _ _ (a1 b e2);rw[b1 a e] at this;exact nomatch this
   subst e;rw[ih (List.Perm.cons_inv p) a2 b2]
end
def Vc{α:Type}{l:List α}{x0:α}:∀{is:List Nat},(∀i∈is,i<l.length)->rq l is=some (is.map λi=>l.getD i x0):=by
 intro is
 induction is with
 |nil=>intro _;rfl
 |cons i is ih=>
  intro h;show((ae l i).bind λx=>(rq l is).map (x::·))=_;have hi:=h i bA;have:ae l i=some (l.getD i x0):=by
   clear h ih
   induction l generalizing i with
   |nil=>exact absurd hi (Nat.not_lt_zero _)
   |cons y l ih=>cases i with
    |zero=>rfl
    |succ i=>exact ih i (zg hi)
  rw[this,ih λj hj=>h j (bS _ hj)];rfl
end
end
section
def vY{x y:Nat}(h:x≠y):Nat.beq x y=false:=by
 cases e:Nat.beq x y with
 |true=>exact absurd (bV e) h
 |false=>rfl
def Dz(x y:Nat)(a b:Ky):bu (x::a) (y::b)=match Nat.beq x y with|true=>bu a b|false=>Nat.blt x y:=rfl
def AE:∀{a b:Ky},bu a b=true->bu b a=false:=by
 intro a
 induction a with
 |nil=>
  intro b h;cases b with
  |nil=>rfl
  |cons y b=>rfl
 |cons x a ih=>
  intro b h;cases b with
  |nil=>exact nomatch h
  |cons y b=>
   rw[Dz] at h⊢;cases e:Nat.beq x y with
   |true=>rw[e] at h;have e:=bV e;subst e;rw[fV];exact ih h
   |false=>
    rw[e] at h;have h:=bG.mp h;rw[vY (dM h)];cases e2:Nat.blt y x with
    |false=>rfl
    |true=>exact absurd (nP h (bG.mp e2)) (jQ _)
def Dy:∀{a b:Ky},bu a b=false->bu b a=false->a=b:=by
 intro a
 induction a with
 |nil=>
  intro b h h2;cases b with
  |nil=>rfl
  |cons y b=>exact nomatch h
 |cons x a ih=>
  intro b h h2;cases b with
  |nil=>exact nomatch h2
  |cons y b=>
   rw[Dz] at h h2;rcases Nat.lt_trichotomy x y with q|q|q
   ·rw[vY (dU q)] at h;rw[bG.mpr q] at h;exact nomatch h
   ·subst q;rw[fV] at h h2;rw[ih h h2]
   ·rw[vY (dU q)] at h2;rw[bG.mpr q] at h2;exact nomatch h2
def Jm:∀{a b c:Ky},bu a b=true->bu b c=true->bu a c=true:=by
 intro a
 induction a with
 |nil=>
  intro b c h h2;cases c with
  |nil=>cases b with
   |nil=>exact nomatch h
   |cons y b=>exact nomatch h2
  |cons z c=>rfl
 |cons x a ih=>
  intro b c h h2;cases b with
  |nil=>exact nomatch h
  |cons y b=>
   cases c with
   |nil=>exact nomatch h2
   |cons z c=>
    rw[Dz] at h h2⊢;cases e:Nat.beq x y with
    |true=>
     rw[e] at h;have e:=bV e;subst e;cases e2:Nat.beq x z with
     |true=>rw[e2] at h2;exact ih h h2
     |false=>rw[e2] at h2;exact h2
    |false=>
     rw[e] at h;have h:=bG.mp h;cases e2:Nat.beq y z with
     |true=>have e2:=bV e2;subst e2;rw[vY (dU h)];exact bG.mpr h
     |false=>rw[e2] at h2;have h2:=nP h (bG.mp h2);rw[vY (dU h2)];exact bG.mpr h2
def Jn(a:Ky):bu a a=false:=by
 cases h:bu a a with
 |false=>rfl
 |true=>rw[AE h] at h;exact nomatch h
noncomputable def aN(p:Pr):AV:=.lst [.str p.1,.str p.2]
def Jk{a b:Pr}(h:dw a b=true):dw b a=false:=by
 unfold dw at h⊢;cases e:ak a.1 b.1 with
 |true=>rw[e] at h;rw[g7 e,g6];exact AE h
 |false=>rw[e] at h;rw[nD λq=>by rw[q,g6] at e;exact nomatch e];exact AE h
def Jj{a b:Pr}(hn:a≠b)(h:dw a b=false):dw b a=true:=by
 cases h2:dw b a with
 |true=>rfl
 |false=>
  refine absurd ?_ hn;unfold dw at h h2;cases e:ak a.1 b.1 with
  |true=>rw[e] at h;rw[g7 e,g6] at h2;exact Prod.ext (g7 e) (Dy h h2)
  |false=>rw[e] at h;rw[nD λq=>by rw[q,g6] at e;exact nomatch e] at h2;rw[Dy h h2,g6] at e;exact nomatch e
def Ji{a b c:Pr}(h:dw a b=true)(h2:dw b c=true):dw a c=true:=by
 unfold dw at h h2⊢;cases e:ak a.1 b.1 with
 |true=>
  rw[e] at h;rw[g7 e];cases e2:ak b.1 c.1 with
  |true=>rw[e2] at h2;exact Jm h h2
  |false=>rw[e2] at h2;exact h2
 |false=>
  rw[e] at h;cases e2:ak b.1 c.1 with
  |true=>rw[e2] at h2;rw[<- g7 e2,e];exact h
  |false=>rw[e2] at h2;have t:=Jm h h2;rw[nD λq=>by rw[q,Jn] at t;exact nomatch t];exact t
noncomputable def iK(p:Pr):List Ky:=[p.1,p.2]
def WD(p q:Pr):kI (iK p) (iK q)=dw p q:=by
 show(match ak p.1 q.1 with|true=>(match ak p.2 q.2 with|true=>false|false=>bu p.2 q.2)|false=>bu p.1 q.1)=(match ak p.1 q.1 with|true=>bu p.2 q.2|false=>bu p.1 q.1);cases ak p.1 q.1 with
 |false=>rfl
 |true=>
  show(match ak p.2 q.2 with|true=>false|false=>bu p.2 q.2)=bu p.2 q.2;cases e:ak p.2 q.2 with
  |false=>rfl
  |true=>rw[g7 e,Jn]
def Ra:∀l:List Pr,pI (l.map aN)=some (l.map iK):=by
 intro l
 induction l with
 |nil=>rfl
 |cons p l ih=>show((some [AV.str p.1,.str p.2]).bind λl'=>(lq l').bind λt=>(pI (l.map aN)).map (t::·))=_;rw[ih];rfl
def Sp{l:List Pr}(hn:l.Nodup)(hz:l.length<64):jA (l.map aN)=some ((cC dw l).map aN):=by
 cases l with
 |nil=>rfl
 |cons p l=>
 cases l with
 |nil=>rfl
 |cons q l=>
 generalize hL:p::q::l=L at hn;have h2:2<=L.length:=by rw[<- hL];exact i4 2 _
 have e0:jA (L.map aN)=n9 (L.map iK) (L.map aN):=by rw[<- hL];show((pI ((p::q::l).map aN)).bind λts=>n9 ts ((p::q::l).map aN))=_;rw[Ra];rfl
 rw[e0];have en:(L.map iK).length=L.length:=aJ ..;have ea:(λi j=>kI ((L.map iK).getD i []) ((L.map iK).getD j []))=λi j=>kI ((L.map iK).getD i []) ((L.map iK).getD j []):=rfl;have gt:∀i,i<L.length->(L.map iK).getD i []=iK (L.getD i ([],[])):=λi hi=>by rw[k8,k8,qD,pF hi];rfl
 have an:∀i j,i<L.length->j<L.length->kI ((L.map iK).getD i []) ((L.map iK).getD j [])=dw (L.getD i ([],[])) (L.getD j ([],[])):=λi j hi hj=>by rw[gt i hi,gt j hj,WD]
 have ne:∀i j,i<L.length->j<L.length->i≠j->L.getD i ([],[])≠L.getD j ([],[]):=λi j hi hj bY e=>by rw[k8,k8,pF hi,pF hj] at e;exact bY ((List.getElem_inj hn).mp e)
 have O:r8 (λi j=>kI ((L.map iK).getD i []) ((L.map iK).getD j [])) L.length:=⟨λi j hi hj h=>by rw[an i j hi hj] at h;rw[an j i hj hi];exact Jk h,λi j k hi hj hk h h2=>by rw[an i j hi hj] at h;rw[an j k hj hk] at h2;rw[an i k hi hk];exact Ji h h2,λi j hi hj bY h=>by rw[an i j hi hj] at h;rw[an j i hj hi];exact Jj (ne i j hi hj bY) h⟩;obtain⟨a,e1,P,fP⟩:=Rn O h2;have pk:rq (L.map aN) a.toList=some ((a.toList.map λi=>L.getD i ([],[])).map aN):=by have hl:∀i∈a.toList,i<L.length:=λi hi=>List.mem_range.mp (P.mem_iff.mp hi);rw[Vc (x0:=aN ([],[])) λi hi=>by rw[aJ];exact hl i hi,cI];refine congrArg some (i6 λi hi=>?_);rw[k8,qD,pF (hl i hi)];show aN _=aN (L.getD i ([],[]));rw[k8,pF (hl i hi)];rfl
 have pm:(a.toList.map λi=>L.getD i ([],[])).Perm L:=by refine(List.Perm.map _ P).trans (List.Perm.of_eq ?_);refine List.ext_getElem (by rw[aJ,List.length_range]) λi h1 h2=>?_;rw[List.getElem_map,List.getElem_range,k8,pF h2];rfl
 have up:(a.toList.map λi=>L.getD i ([],[])).Pairwise λa b=>dw a b=true:=by
  rw[List.pairwise_map];refine List.pairwise_iff_getElem.mpr λi j hi hj bY=>?_;have sz:=P.size;have A3:i<a.size:=by rw[<- pz];exact hi
  have KC:j<a.size:=by rw[<- pz];exact hj
  have:=fP i j bY (by rw[<- sz];exact KC);rw[yu A3,yu KC] at this;exact(an _ _ (List.mem_range.mp (P.mem_iff.mp (List.getElem_mem _))) (List.mem_range.mp (P.mem_iff.mp (List.getElem_mem _)))).symm.trans this
 have fin:(a.toList.map λi=>L.getD i ([],[]))=cC dw L:=QZ (lt:=dw) (λa b h=>Jk h) (pm.trans (G6 L).symm) up (Sg (lt:=dw) (λa b c h h2=>Ji h h2) (λa b h h2=>Jj h h2) hn);unfold n9;rw[en];have bl:Nat.blt L.length 2=false:=by
  cases h:Nat.blt L.length 2 with
  |false=>rfl
  |true=>exact absurd (bG.mp h) (hZ.mpr h2)
 rw[bl];show((l9 (λi j=>kI ((L.map iK).getD i []) ((L.map iK).getD j [])) L.length (PySem.W.kas_sort L.length)).bind λp=>aI (Nat.beq p.size L.length) (rq (L.map aN) p.toList))=_;rw[e1];show aI (Nat.beq a.size L.length) (rq (L.map aN) a.toList)=_;rw[P.size,fV,pk,fin];rfl
section
section
variable {H:Hp}{n:Nat}{l:List Pr}
def Bu(k:Nat)(p:Pr):aV H k (aN p)=aN p:=by
 cases k with
 |zero=>rfl
 |succ k=>exact congrArg AV.lst (yF k [p.1,p.2])
def L5(k:Nat)(l:List Pr):(l.map aN).map (aV H k)=l.map aN:=by rw[cI];exact i6 λx O=>Bu k x
def Am(k:Nat)(p:Pr):cw (aN p) (k+1)=true:=by unfold aN;simp only[cw];exact xE k [p.1,p.2]
def Iw(k:Nat)(l:List Pr):dh (l.map aN) (k+1)=true:=by
 induction l with
 |nil=>simp only[k7,dh]
 |cons x l ih=>simp only[bE,dh,Am,ih]
def EL(p q:Pr):c6 (aN p) (aN q)=some (g5 p q):=by
 unfold aN g5;simp only[c6,AV.ng,AV.de,Option.bind,Option.map,fw];cases ak p.1 q.1 with
 |true=>cases ak p.2 q.2<;>rfl
 |false=>rfl
def Yh(p:Pr)(l:List Pr):gG (aN p) (l.map aN)=some (iq p l):=by
 induction l with
 |nil=>rfl
 |cons q l ih=>show((c6 (aN q) (aN p)).bind λb=>(gG (aN p) (l.map aN)).map λc=>b||c)=some (match g5 q p with|true=>true|false=>iq p l);rw[ih,EL];cases g5 q p<;>rfl
def Yg{p:Pr}(h:ae H n=some (.list (l.map aN))):gU (aN p) (.ref n) H=some (iq p l):=by unfold gU;show(match bx H n with|some l=>aI (cw (aV H 3 (aN p)) 3&&dh (l.map (aV H 3)) 3) (gG (aV H 3 (aN p)) (l.map (aV H 3)))|none=>_)=_;rw[dy h];show aI (cw (aV H 3 (aN p)) 3&&dh ((l.map aN).map (aV H 3)) 3) (gG (aV H 3 (aN p)) ((l.map aN).map (aV H 3)))=_;rw[L5,Bu,Iw,Am,Yh];rfl
end
def aaq(p:Pr):g5 p p=true:=by unfold g5;rw[g6];exact g6 _
def Wc{p:Pr}:∀{l:List Pr},iq p l=false->p∉l:=by
 intro l
 induction l with
 |nil=>intro _ h;exact nomatch h
 |cons q l ih=>
  intro h hm;have h:(match g5 q p with|true=>true|false=>iq p l)=false:=h;cases e:g5 q p with
  |true=>rw[e] at h;exact nomatch h
  |false=>
   rw[e] at h;rcases bQ.mp hm with rfl|hm
   ·rw[aaq] at e;exact nomatch e
   ·exact ih h hm
def Vs{a b:Ky}{made:List Pr}(h:made.Nodup):(lH a b made).Nodup:=by
 cases a with
 |nil=>exact h
 |cons x a=>cases b with
  |nil=>exact h
  |cons y b=>
   show(match Nat.beq x y with
    |false=>made
    |true=>match iq (cZ a b) made with|true=>made|false=>bj made [cZ a b]).Nodup
   cases Nat.beq x y with
   |false=>exact h
   |true=>
    cases e:iq (cZ a b) made with
    |true=>exact h
    |false=>show(bj made [cZ a b]).Nodup;rw[fR];refine sm.mpr ⟨h,by simp,λx hx y hy q=>?_⟩;rw[fW.mp hy] at q;rw[q] at hx;exact Wc e hx
abbrev CN:S:=bg yC.body 1
abbrev CM:S:=bg (bz CN) 0
abbrev zV:S:=bg (bz CM) 0
noncomputable def jb(ap aw am:Nat)(x3 x4 x5 x6 x7:Option AV):aC:=[some (.ref ap),some (.ref aw),some (.ref am),x3,x4,x5,x6,x7]
section
variable {d ap aw:Nat}{K0 H:Hp}{ws:List Ky}{ps:List Pr}
def I6(a b:Ky):(match bu b a with|true=>b|false=>a)=(cZ a b).1/\(match bu a b with|true=>b|false=>a)=(cZ a b).2:=by
 unfold cZ;cases e:bu b a with
 |true=>rw[AE e];exact⟨rfl,rfl⟩
 |false=>
  cases e2:bu a b with
  |true=>exact⟨rfl,rfl⟩
  |false=>rw[Dy e e2];exact⟨rfl,rfl⟩
def Mo(K0:Hp)(made:List Pr)(H:Hp):Prop:=ba K0.length K0 H/\ae H K0.length=some (.list (made.map aN))
def TR{a b:Ky}{made:List Pr}{x3 x4 x7:Option AV}(ha:a≠[])(hb:b≠[])(hz:made.length<az)(M:Mo K0 made H):
  ∃H' nV,RB P (d+1) true (bz zV) (jb ap aw K0.length x3 x4 (some (.str a)) (some (.str b)) x7) H .next (jb ap aw K0.length x3 x4 (some (.str a)) (some (.str b)) nV) H'/\Mo K0 (lH a b made) H'/\(lH a b made).length<=made.length+1:=by
 cases a with
 |nil=>exact absurd rfl ha
 |cons x a=>cases b with
  |nil=>exact absurd rfl hb
  |cons y b=>
   have c1:RC P (d+1) (.glob 16) [.str a,.str b] H (.str (cZ a b).1) H:=gk (b:=.min) rfl (by show some (AV.str (match bu b a with|true=>b|false=>a),H)=_;rw[(I6 a b).1])
   have c2:RC P (d+1) (.glob 33) [.str a,.str b] H (.str (cZ a b).2) H:=gk (b:=.max) rfl (by show some (AV.str (match bu a b with|true=>b|false=>a),H)=_;rw[(I6 a b).2])
   have sl:∀(k:Nat) (r:Ky),kC (.str (k::r)) (.int 1) .none H=some (.str r):=λk r=>Cy (n:=1) (by decide);have s1:RS P (d+1) true (bg (bz zV) 0) (jb ap aw K0.length x3 x4 (some (.str (x::a))) (some (.str (y::b))) x7) H .next (jb ap aw K0.length x3 x4 (some (.str (x::a))) (some (.str (y::b))) (some (aN (cZ a b)))) H:=bC (e9 (bb:=false) (aB rfl (bO (bL rfl) rfl (aB rfl (jc (af rfl) (iO aS λO=>rfl) jD (sl x a)) (aB rfl (jc (af rfl) (iO aS λO=>rfl) jD (sl y b)) aE)) c1) (aB rfl (bO (bL rfl) rfl (aB rfl (jc (af rfl) (iO aS λO=>rfl) jD (sl x a)) (aB rfl (jc (af rfl) (iO aS λO=>rfl) jD (sl y b)) aE)) c2) aE)) rfl) (λO=>rfl) rfl rfl
   have t1:∀p1 p2 p3 p4 p5 p6 p7,RT P (d+1) true (.cmp .Eq (.sub (.var "one" 5 p1) (.cst (.int 0) (.int 0) 0 p2) p3) (.sub (.var "two" 6 p4) (.cst (.int 0) (.int 0) 0 p5) p6) p7) (jb ap aw K0.length x3 x4 (some (.str (x::a))) (some (.str (y::b))) (some (aN (cZ a b)))) H (Nat.beq x y) (jb ap aw K0.length x3 x4 (some (.str (x::a))) (some (.str (y::b))) (some (aN (cZ a b)))) H:=λp1 p2 p3 p4 p5 p6 p7=>bH (dP (af rfl) aS (uL (n:=0) rfl)) (dP (af rfl) aS (uL (n:=0) rfl)) (by rw[nB,EM])
   have t2:∀p1 p2 p3,RT P (d+1) true (.cmp .NotIn (.var "pair" 7 p1) (.var "made" 2 p2) p3) (jb ap aw K0.length x3 x4 (some (.str (x::a))) (some (.str (y::b))) (some (aN (cZ a b)))) H (!iq (cZ a b) made) (jb ap aw K0.length x3 x4 (some (.str (x::a))) (some (.str (y::b))) (some (aN (cZ a b)))) H:=λp1 p2 p3=>bH (af rfl) (af rfl) (by show(gU (aN (cZ a b)) (.ref K0.length) H).map (!·)=_;rw[Yg M.2];rfl)
   show ∃H' nV,_/\Mo K0 (match Nat.beq x y with
    |false=>made
    |true=>match iq (cZ a b) made with|true=>made|false=>bj made [cZ a b]) H'/\(match Nat.beq x y with
    |false=>made
    |true=>match iq (cZ a b) made with|true=>made|false=>bj made [cZ a b]).length<=made.length+1
   cases e:Nat.beq x y with
   |false=>rw[e] at t1;exact⟨H,_,aj s1 (aj (bM (t:=false) (uR (t1 ..)) aO) aO),M,i3 _⟩
   |true=>
    rw[e] at t1;cases e2:iq (cZ a b) made with
    |true=>rw[e2] at t2;exact⟨H,_,aj s1 (aj (bM (t:=false) (mW (t1 ..) (t2 ..)) aO) aO),M,i3 _⟩
    |false=>
     rw[e2] at t2;have oS:=kR (v:=aN (cZ a b)) M.2 (by rw[aJ];exact hz);have e0:made.map aN++[aN (cZ a b)]=(bj made [cZ a b]).map aN:=by rw[fR,eB];rfl
     rw[e0] at oS;exact⟨_,_,aj s1 (aj (bM (t:=true) (mW (t1 ..) (t2 ..)) (aj (eM (eN (mk:=.list) (af rfl) (gF M.2) rfl rfl (aB rfl (af rfl) aE) oS)) aO)) aO),⟨M.1.trans (ba.upd (bf _)),cV (bk M.2)⟩,by show(bj made [cZ a b]).length<=_;rw[fR,bF];exact bf _⟩
end
end
section
def o4(Q:Hp->Prop):bJ->List AV->Prop
 |src,[]=>∀H,Q H->src.next H=some none
 |src,x::r=>∃src',(∀H,Q H->src.next H=some (some (x,src')))/\o4 Q src' r
def Lc(Q:Hp->Prop):∀l:List AV,o4 Q (.fix l) l:=by
 intro l
 induction l with
 |nil=>exact λH O=>rfl
 |cons x l ih=>exact⟨.fix l,λH O=>rfl,ih⟩
def Zs{Q:Hp->Prop}{n:Nat}{l:List AV}(h:∀H,Q H->ae H n=some (.list l)):∀(k i:Nat),i+k=l.length->o4 Q (.lst n i) (l.drop i):=by
 intro k
 induction k with
 |zero=>intro i e;rw[pD (by exact hU ‹_›)];exact λH q=>by rw[oE (h H q),pX (by exact hU ‹_›)];rfl
 |succ k ih=>intro i e;refine ue (je (l:=l) (n:=i) (by exact pb ‹_›)) λx hx=>?_;rw[j8 hx];exact⟨.lst n (i+1),λH q=>by rw[oE (h H q),hx];rfl,ih (i+1) (by exact km ‹_›)⟩
def ED{Q:Hp->Prop}{n:Nat}{l:List AV}(h:∀H,Q H->ae H n=some (.list l)):o4 Q (.lst n 0) l:=by have:=Zs h l.length 0 (gA _);rwa[qB] at this
section
variable {d ap aw:Nat}{K0 H:Hp}{ws:List Ky}{ps:List Pr}
variable {a:Ky}
def TO{x3 x4:Option AV}(ha:a≠[]):∀(l:List Ky) {src:bJ} {made:List Pr} {H:Hp} {x6 x7:Option AV},o4 (ba K0.length K0) src (l.map .str)->(∀b∈l,b≠[])->made.length+l.length<az->Mo K0 made H ->
  ∃H' wF nV,RF P (d+1) (gC zV) src (bz zV) (jb ap aw K0.length x3 x4 (some (.str a)) x6 x7) H .next (jb ap aw K0.length x3 x4 (some (.str a)) wF nV) H'/\Mo K0 (bI (λmade b=>lH a b made) l made) H'/\(bI (λmade b=>lH a b made) l made).length<=made.length+l.length:=by
 intro l
 induction l with
 |nil=>intro src made H x6 x7 g hb hz M;exact⟨H,x6,x7,gR (g H M.1),M,bf _⟩
 |cons b l ih=>intro src made H x6 x7 g hb hz M;rw[i5] at hz;obtain⟨src',g1,g2⟩:=g;obtain⟨H1,y7,r1,M1,l1⟩:=TR (d:=d) (ap:=ap) (aw:=aw) (x3:=x3) (x4:=x4) (x7:=x7) ha (hb b bA) (cU (eE ..) hz) M;obtain⟨H',Qy,Qx,r2,M2,l2⟩:=ih (x6:=some (.str b)) (x7:=y7) g2 (λc hc=>hb c (bS _ hc)) (cU (zc l1 _) (by exact OO hz)) M1;exact⟨H',Qy,Qx,e8 (f:=.next) (g1 H M.1) rfl r1 rfl r2,M2,aM l2 (by rw[i5];exact ON l1)⟩
def Ir(hw:∀w∈ws,w≠[]):∀b∈jF ws a,b≠[]:=by
 cases a with
 |nil=>exact hw
 |cons x a=>intro b hb;rw[fW.mp hb];exact nofun
def Iu(h3:ws.length=3):(jF ws a).length<=3:=by
 cases a with
 |nil=>exact aW h3
 |cons x a=>exact(by decide:1<=3)
def HQ{k:Nat}{nm:Str}{U:aC}(hw:ae K0 aw=some (.list (ws.map .str)))(M:ba K0.length K0 H)(h1:ae U k=some (some (.str a)))(h2:ae U 1=some (some (.ref aw))):
  ∃v src,(∀p1 p2 p3 p4 p5 p6 p7,RE P d true (.oF (.cmp .Eq (.var nm k p1) (.cst (.str "") (.str []) 0 p2) p3) (.var "words" 1 p4) (.list (.cons (.var nm k p5) .nil) false p6) p7) U H v U H)/\eS v H=some src/\o4 (ba K0.length K0) src ((jF ws a).map .str):=by
 have t1:∀p1 p2 p3,RT P d true (.cmp .Eq (.var nm k p1) (.cst (.str "") (.str []) 0 p2) p3) U H (fc a) U H:=λp1 p2 p3=>bH (af h1) aS (by rw[nB,tF]);cases a with
 |nil=>exact⟨.ref aw,.lst aw 0,λp1 p2 p3 p4 p5 p6 p7=>HZ (t:=true) (t1 ..) (af h2),lC ((M.low aw (bk hw)).trans hw),ED λH' q=>(q.low aw (bk hw)).trans hw⟩
 |cons x a=>exact⟨.lst [.str (x::a)],.fix [.str (x::a)],λp1 p2 p3 p4 p5 p6 p7=>HZ (t:=false) (t1 ..) (e9 (bb:=false) (aB rfl (af h1) aE) rfl),rfl,Lc _ _⟩
def TQ{p:Pr}(hw:ae K0 aw=some (.list (ws.map .str)))(h3:ws.length=3)(hn:∀w∈ws,w≠[]):∀(l:List Ky) {src:bJ} {made:List Pr} {H:Hp} {x5 x6 x7:Option AV},o4 (ba K0.length K0) src (l.map .str)->(∀b∈l,b≠[])->made.length+3*l.length<az->Mo K0 made H ->
  ∃H' wG wF nV,RF P (d+1) (gC CM) src (bz CM) (jb ap aw K0.length (some (.str p.1)) (some (.str p.2)) x5 x6 x7) H .next (jb ap aw K0.length (some (.str p.1)) (some (.str p.2)) wG wF nV) H'/\Mo K0 (bI (λmade a=>bI (λmade b=>lH a b made) (jF ws p.2) made) l made) H'/\(bI (λmade a=>bI (λmade b=>lH a b made) (jF ws p.2) made) l made).length<=made.length+3*l.length:=by
 intro l
 induction l with
 |nil=>intro src made H x5 x6 x7 g hb hz M;exact⟨H,x5,x6,x7,gR (g H M.1),M,bf _⟩
 |cons a l ih=>intro src made H x5 x6 x7 g hb hz M;rw[i5,Nat.mul_succ] at hz;obtain⟨src',g1,g2⟩:=g;have ol:=Iu (a:=p.2) h3;obtain⟨v,s2,r0,e0,gg⟩:=HQ (d:=d+1) (a:=p.2) (k:=4) (nm:="right") (U:=jb ap aw K0.length (some (.str p.1)) (some (.str p.2)) (some (.str a)) x6 x7) hw M.1 rfl rfl;obtain⟨H1,y6,y7,r1,M1,l1⟩:=TO (d:=d) (ap:=ap) (aw:=aw) (x3:=some (.str p.1)) (x4:=some (.str p.2)) (hb a bA) (jF ws p.2) (x6:=x6) (x7:=x7) gg (Ir hn) (by exact OM ol hz) M;obtain⟨H',z5,z6,z7,r2,M2,l2⟩:=ih (x5:=some (.str a)) (x6:=y6) (x7:=y7) g2 (λc hc=>hb c (bS _ hc)) (by exact OK l1 ol hz) M1;exact⟨H',z5,z6,z7,e8 (f:=.next) (g1 H M.1) rfl (aj (iN (r0 ..) e0 r1) aO) rfl r2,M2,aM l2 (by rw[i5];exact OJ l1 ol)⟩
def TP(hw:ae K0 aw=some (.list (ws.map .str)))(h3:ws.length=3)(hn:∀w∈ws,w≠[]):∀(l:List Pr) {src:bJ} {made:List Pr} {H:Hp} {x3 x4 x5 x6 x7:Option AV},o4 (ba K0.length K0) src (l.map aN)->made.length+9*l.length<az->Mo K0 made H ->
  ∃H' Qz uB wG wF nV,RF P (d+1) (gC CN) src (bz CN) (jb ap aw K0.length x3 x4 x5 x6 x7) H .next (jb ap aw K0.length Qz uB wG wF nV) H'/\Mo K0 (bI (λmade p=>bI (λmade a=>bI (λmade b=>lH a b made) (jF ws p.2) made) (jF ws p.1) made) l made) H':=by
 intro l
 induction l with
 |nil=>intro src made H x3 x4 x5 x6 x7 g hz M;exact⟨H,x3,x4,x5,x6,x7,gR (g H M.1),M⟩
 |cons p l ih=>intro src made H x3 x4 x5 x6 x7 g hz M;rw[i5,Nat.mul_succ] at hz;obtain⟨src',g1,g2⟩:=g;have ol:=Iu (a:=p.1) h3;obtain⟨v,s2,r0,e0,gg⟩:=HQ (d:=d+1) (a:=p.1) (k:=3) (nm:="left") (U:=jb ap aw K0.length (some (.str p.1)) (some (.str p.2)) x5 x6 x7) hw M.1 rfl rfl;obtain⟨H1,y5,y6,y7,r1,M1,l1⟩:=TQ (d:=d) (ap:=ap) (aw:=aw) (p:=p) hw h3 hn (jF ws p.1) (x5:=x5) (x6:=x6) (x7:=x7) gg (Ir hn) (by exact OI ol hz) M;obtain⟨H',z3,z4,z5,z6,z7,r2,M2⟩:=ih (x3:=some (.str p.1)) (x4:=some (.str p.2)) (x5:=y5) (x6:=y6) (x7:=y7) g2 (by exact OH l1 ol hz) M1;exact⟨H',z3,z4,z5,z6,z7,e8 (f:=.next) (g1 H M.1) rfl (aj (iN (r0 ..) e0 r1) aO) rfl r2,M2⟩
def EF{α:Type}{f:List Pr->α->List Pr}(h:∀m x,m.Nodup->(f m x).Nodup):∀(l:List α) {m:List Pr},m.Nodup->(bI f l m).Nodup:=by
 intro l
 induction l with
 |nil=>intro m hm;exact hm
 |cons x l ih=>intro m hm;exact ih (h m x hm)
def Ub:(fA ws ps).Nodup:=EF (λm p hm=>EF (λm a hm=>EF (λm b hm=>Vs hm) _ hm) _ hm) ps mz
def Uv(hp:ae K0 ap=some (.list (ps.map aN)))(hw:ae K0 aw=some (.list (ws.map .str)))(h3:ws.length=3)(hn:∀w∈ws,w≠[])(hz:ps.length<1000)(kM:(fA ws ps).length<64):
  ∃H',RC P (d+2) (.glob 12) [.ref ap,.ref aw] K0 (.lst ((cC dw (fA ws ps)).map aN)) H'/\ba K0.length K0 H':=by
 have lw:ba K0.length K0 (K0++[.list []]):=ba.app _ (bf _);obtain⟨H',y3,y4,y5,y6,y7,r,M⟩:=TP (d:=d) (ap:=ap) hw h3 hn ps (x3:=none) (x4:=none) (x5:=none) (x6:=none) (x7:=none) (made:=[]) (H:=K0++[.list []]) (ED λH q=>(q.low ap (bk hp)).trans hp) (dW (by show 0+9*ps.length<9001;exact OG hz) (by decide)) ⟨lw,dY⟩;refine⟨H',eT (fd:=yC) (fl:=.ret (.lst ((cC dw (fA ws ps)).map aN))) (ρ1:=[some (.ref ap),some (.ref aw),none,none,none,none,none,none]) rfl rfl ⟨_,aj (bC (e9 (bb:=true) aE rfl) (λO=>rfl) rfl rfl) (aj (iN (af rfl) (lC (cb hp)) r) (cK (fX (bO (bL rfl) rfl (aB rfl (af rfl) aE) (gk (b:=.sorted) rfl ?_)) λO=>rfl) nofun))⟩ rfl,M.1⟩;show((bx H' K0.length).bind λl=>aI (Nat.blt l.length 64) ((jA l).map λr=>(AV.lst r,H')))=_;rw[dy M.2];show aI (Nat.blt ((fA ws ps).map aN).length 64) ((jA ((fA ws ps).map aN)).map λr=>(AV.lst r,H'))=_;rw[aJ,bG.mpr kM,Sp Ub kM];rfl
end
end
section
def fE(N:Nat)(H H':Hp):Prop:=H.length<=H'.length/\∀n o,n≠N->n≠N+1->n≠N+2->ae H n=some o->ae H' n=some o
section
variable {N:Nat}{H H1 H2:Hp}
def fE.refl:fE N H H:=⟨bf _,λ_ _ _ _ _ h=>h⟩
def fE.trans(a:fE N H H1)(b:fE N H1 H2):fE N H H2:=⟨aM a.1 b.1,λn o h1 h2 h3 h=>b.2 n o h1 h2 h3 (a.2 n o h1 h2 h3 h)⟩
def fE.app(Y:Hp):fE N H (H++Y):=⟨by rw[bF];exact eE ..,λn o _ _ _ h=>cb h⟩
def fE.low(l:ba H.length H H1):fE N H H1:=⟨l.len,λn o _ _ _ h=>(l.low n (bk h)).trans h⟩
def fE.upd{n:Nat}{o:AO}(h:n=N\/n=N+1\/n=N+2):fE N H (ai H o n):=⟨by rw[cB];exact bf _,λm o' h1 h2 h3 e=>(bh (by rcases h with rfl|rfl|rfl<;>exact λq=>by first|exact h1 q.symm|exact h2 q.symm|exact h3 q.symm)).trans e⟩
end
def yW(N n:Nat):Prop:=n≠N/\n≠N+1/\n≠N+2
def oV(N:Nat)(H:Hp):List AV->List (List Pr)->Prop
 |[],ss=>ss=[]
 |v::vs,ss=>∃n s r,v=.ref n/\yW N n/\ae H n=some (.list (s.map aN))/\ss=s::r/\oV N H vs r
def oV.G3{N:Nat}{H H1:Hp}(st:fE N H H1):∀{vs:List AV} {ss:List (List Pr)},oV N H vs ss->oV N H1 vs ss:=by
 intro vs
 induction vs with
 |nil=>intro ss h;exact h
 |cons v vs ih=>intro ss h;obtain⟨n,s,r,e1,a,e2,e3,e4⟩:=h;exact⟨n,s,r,e1,a,st.2 n _ a.1 a.2.1 a.2.2 e2,e3,ih e4⟩
def oV.snoc{N n:Nat}{H:Hp}{s:List Pr}(a:yW N n)(h:ae H n=some (.list (s.map aN))):∀{vs:List AV} {ss:List (List Pr)},oV N H vs ss->oV N H (vs++[.ref n]) (bj ss [s]):=by
 intro vs
 induction vs with
 |nil=>intro ss e;rw[show ss=[] from e];exact⟨n,s,[],rfl,a,h,rfl,rfl⟩
 |cons v vs ih=>intro ss e;obtain⟨m,t,r,e1,a1,e2,e3,e4⟩:=e;subst e3;exact⟨m,t,bj r [s],e1,a1,e2,rfl,ih e4⟩
section
variable {N ap:Nat}{H:Hp}{ps:List Pr}
def Bt{n:Nat}(h:ae H n=some (.list (ps.map aN))):aV H 3 (.ref n)=.lst (ps.map aN):=by show(match cG H (.ref n) with|some l=>AV.lst (l.map (aV H 2))|none=>.ref n)=_;rw[show cG H (.ref n)=_ from dy h];exact congrArg AV.lst (L5 2 ps)
def Dc(ps:List Pr):cw (.lst (ps.map aN)) 3=true:=by simp only[cw];exact Iw 1 ps
def aam:∀l m:List Pr,fw (l.map aN) (m.map aN)=some (oP l m):=by
 intro l
 induction l with
 |nil=>intro m;cases m<;>simp only[k7,bE,fw]<;>rfl
 |cons a l ih=>
  intro m;cases m with
  |nil=>simp only[k7,bE,fw];rfl
  |cons b m=>simp only[bE,fw,EL,Option.bind];show(match g5 a b with|true=>fw (l.map aN) (m.map aN)|false=>some false)=some (match g5 a b with|true=>oP l m|false=>false);rw[ih m];cases g5 a b<;>rfl
def J8:∀{vs:List AV} {ss:List (List Pr)},oV N H vs ss->dh (vs.map (aV H 3)) 3=true/\gG (.lst (ps.map aN)) (vs.map (aV H 3))=some (lM ps ss):=by
 intro vs
 induction vs with
 |nil=>intro ss h;rw[show ss=[] from h];exact⟨by simp only[k7,dh],rfl⟩
 |cons v vs ih=>
  intro ss h;obtain⟨n,s,r,e1,a,e2,e3,e4⟩:=h;subst e1 e3;obtain⟨i1,i2⟩:=ih e4;refine⟨by simp only[bE,dh,Bt e2,Dc,i1],?_⟩;rw[bE,Bt e2];show((c6 (.lst (s.map aN)) (.lst (ps.map aN))).bind λb=>(gG (.lst (ps.map aN)) (vs.map (aV H 3))).map λc=>b||c)=some (match oP s ps with|true=>true|false=>lM ps r);rw[i2];have:c6 (.lst (s.map aN)) (.lst (ps.map aN))=some (oP s ps):=by simp only[c6,AV.ng,Option.bind];exact aam s ps
  rw[this];cases oP s ps<;>rfl
def Yd{vs:List AV}{ss:List (List Pr)}(hp:ae H ap=some (.list (ps.map aN)))(hs:ae H N=some (.list vs))(h:oV N H vs ss):gU (.ref ap) (.ref N) H=some (lM ps ss):=by unfold gU;show(match bx H N with|some l=>aI (cw (aV H 3 (.ref ap)) 3&&dh (l.map (aV H 3)) 3) (gG (aV H 3 (.ref ap)) (l.map (aV H 3)))|none=>_)=_;rw[dy hs];show aI (cw (aV H 3 (.ref ap)) 3&&dh (vs.map (aV H 3)) 3) (gG (aV H 3 (.ref ap)) (vs.map (aV H 3)))=_;rw[Bt hp,Dc,(J8 (ps:=ps) h).1,(J8 h).2];rfl
def aai(h:ae H ap=some (.list (ps.map aN))):gK (.ref ap) (.lst []) H=some ps.isEmpty:=by
 have e1:ql H (.ref ap)=none:=by show(cD H ap).map _=none;unfold cD;rw[h];rfl
 unfold gK;rw[e1];show iU (aV H 3 (.ref ap)) (aV H 3 (.lst []))=_;have e3:aV H 3 (.lst [])=.lst []:=rfl;rw[Bt h,e3];unfold iU;have e5:cw (.lst []) 3=true:=by simp only[cw,dh]
 rw[Dc,e5];show c6 (.lst (ps.map aN)) (.lst [])=_;cases ps with
 |nil=>simp only[c6,k7,AV.ng,Option.bind,fw,List.isEmpty]
 |cons x l=>simp only[c6,bE,AV.ng,Option.bind,fw,List.isEmpty]
def I1(h:ae H ap=some (.list (ps.map aN))):fQ .NotEq (.ref ap) (.lst []) H=some !ps.isEmpty:=by show(gK (.ref ap) (.lst []) H).map (!·)=_;rw[aai h];rfl
def VT(p:Pr):fQ .NotEq (aN p) (.lst [.str [],.str []]) H=some !jq p:=by
 show(gK (aN p) (aN ([],[])) H).map (!·)=_;have:gK (aN p) (aN ([],[])) H=some (g5 p ([],[])):=by show iU (aV H 3 (aN p)) (aV H 3 (aN ([],[])))=_;rw[Bu,Bu];unfold iU;rw[Am,Am];exact EL p ([],[])
 rw[this];have:g5 p ([],[])=jq p:=by
  obtain⟨a,b⟩:=p;cases a with
  |nil=>exact tF b
  |cons x a=>rfl
 rw[this];rfl
end
noncomputable def dR(R:List (Ky×Nat)):List (List Nat×AV):=R.map λp=>(p.1,.int p.2)
def Ep(k:Ky)(R:List (Ky×Nat)):c5 k (dR R)=di k R:=by rw[yl,KS];unfold dR;rw[cI];rfl
noncomputable def Bw(t deep:Nat)(l:List Pr):Nat:=match l with|[]=>deep|_::_=>t
def abf(t:Nat)(l:List Pr):Bw t t l=t:=by cases l<;>rfl
def Sd(N:Nat)(vs:List AV)(R:List (Ky×Nat))(D:List Nat)(H:Hp):Prop:=ae H N=some (.list vs)/\(∃ep,ae H (N+1)=some (.dict ep (dR R)))/\ae H (N+2)=some (.list (bR D))
abbrev w4:S:=bg vJ.body 6
abbrev Cz:S:=bg (bz w4) 3
abbrev qW:C:=jX (bg (bz w4) 4)
noncomputable def gu(aw:Nat)(x1:Option AV)(N:Nat)(x5 x6 x7 x8 x9 x12:Option AV):aC:=[some (.ref aw),x1,some (.ref N),some (.ref (N+1)),some (.ref (N+2)),x5,x6,x7,x8,x9,none,none,x12]
section
variable {d aw N:Nat}{H:Hp}{vs:List AV}
def SN{x1 x7:Option AV}{t:Nat}:∀(l:List Pr) {R:List (Ky×Nat)} {D:List Nat} {H:Hp} {deep:Nat} {x8 x9:Option AV},Sd N vs R D H->R.length+l.length<100000->D.length+l.length<100000 ->
  ∃H' zj zi,RF P d (gC Cz) (.fix (l.map aN)) (bz Cz) (gu aw x1 N (some (.int (t:Nat))) (some (.int (deep:Nat))) x7 x8 x9 none) H .next (gu aw x1 N (some (.int (t:Nat))) (some (.int (Bw t deep l:Nat))) x7 zj zi none) H'/\Sd N vs (bI (fY t) l (R,D)).1 (bI (fY t) l (R,D)).2 H'/\fE N H H'/\H'.length=H.length:=by
 intro l
 induction l with
 |nil=>intro R D H deep x8 x9 S zR zD;exact⟨H,x8,x9,gR rfl,S,fE.refl,rfl⟩
 |cons p l ih=>
  intro R D H deep x8 x9 S zR zD;rw[i5] at zR zD;obtain⟨s1,⟨ep,s2⟩,s3⟩:=S;have hz:(100000:Nat)<=az:=by decide
  have ih:=λ{R:List (Ky×Nat)} {D:List Nat} {H:Hp} (S:Sd N vs R D H) (h1:R.length+l.length<100000) (h2:D.length+l.length<100000)=>ih (deep:=t) (x8:=some (.str p.1)) (x9:=some (.str p.2)) S h1 h2;rw[abf] at ih;obtain⟨a,b⟩:=p;have ta:∀p1 p2 p3,RT P d true (.cmp .Eq (.var "one" 8 p1) (.cst (.str "") (.str []) 0 p2) p3) (gu aw x1 N (some (.int (t:Nat))) (some (.int (t:Nat))) x7 (some (.str a)) (some (.str b)) none) H (fc a) (gu aw x1 N (some (.int (t:Nat))) (some (.int (t:Nat))) x7 (some (.str a)) (some (.str b)) none) H:=λp1 p2 p3=>bH (af rfl) aS (by rw[nB,tF]);have tb:∀p1 p2 p3,RT P d true (.cmp .Eq (.var "two" 9 p1) (.cst (.str "") (.str []) 0 p2) p3) (gu aw x1 N (some (.int (t:Nat))) (some (.int (t:Nat))) x7 (some (.str a)) (some (.str b)) none) H (fc b) (gu aw x1 N (some (.int (t:Nat))) (some (.int (t:Nat))) x7 (some (.str a)) (some (.str b)) none) H:=λp1 p2 p3=>bH (af rfl) aS (by rw[nB,tF]);have tc:∀p1 p2 p3,RT P d true (.cmp .NotIn (.var "two" 9 p1) (.var "least" 3 p2) p3) (gu aw x1 N (some (.int (t:Nat))) (some (.int (t:Nat))) x7 (some (.str a)) (some (.str b)) none) H (!di b R) (gu aw x1 N (some (.int (t:Nat))) (some (.int (t:Nat))) x7 (some (.str a)) (some (.str b)) none) H:=λp1 p2 p3=>bH (af rfl) (af rfl) (by have:=AS (k:=b) s2;rw[Ep] at this;show(gU _ _ _).map (!·)=_;rw[show gU (.str b) (.ref (N+1)) H=_ from this];rfl)
  have s0:RS P d true (bg (bz Cz) 0) (gu aw x1 N (some (.int (t:Nat))) (some (.int (deep:Nat))) x7 (some (.str a)) (some (.str b)) none) H .next (gu aw x1 N (some (.int (t:Nat))) (some (.int (t:Nat))) x7 (some (.str a)) (some (.str b)) none) H:=bC (af rfl) (λO=>rfl) rfl rfl;cases a with
  |cons x a=>obtain⟨H',y8,y9,r,S',st,hh⟩:=ih ⟨s1,⟨ep,s2⟩,s3⟩ (by exact uA zR) (by exact uA zD);exact⟨H',y8,y9,e8 (f:=.next) rfl rfl (aj s0 (aj (bM (t:=false) (uR (ta ..)) (aj (bM (t:=false) (uR (ta ..)) aO) aO)) aO)) rfl r,S',st,hh⟩
  |nil=>
   cases b with
   |nil=>
    have BL:=kR (v:=.int (t:Nat)) s3 (by unfold bR;rw[aJ];exact FX hz zD);have e0:bR D++[.int (t:Nat)]=bR (bj D [t]):=by unfold bR;rw[fR,eB];rfl
    rw[e0] at BL;obtain⟨H',y8,y9,r,S',st,hh⟩:=ih (R:=R) (D:=bj D [t]) (H:=ai H (.list (bR (bj D [t]))) (N+2)) ⟨(bh (oA (by decide)).symm).trans s1,⟨ep,(bh (pZ (by decide))).trans s2⟩,cV (bk s3)⟩ (by exact uA zR) (by rw[fR,bF];show D.length+1+l.length<_;exact FW zD);exact⟨H',y8,y9,e8 (f:=.next) rfl rfl (aj s0 (aj (bM (t:=true) (mW (ta ..) (tb ..)) (aj (eM (eN (mk:=.list) (af rfl) (gF s3) rfl rfl (aB rfl (af rfl) aE) BL)) aO)) aO)) rfl r,S',(fE.upd (.inr (.inr rfl))).trans st,hh.trans cB⟩
   |cons y b=>
    show ∃H' zj zi,_/\Sd N vs (bI (fY t) l (match di (y::b) R with|true=>(R,D)|false=>(bj R [(y::b,t)],D))).1 (bI (fY t) l (match di (y::b) R with|true=>(R,D)|false=>(bj R [(y::b,t)],D))).2 H'/\_;cases hr:di (y::b) R with
    |true=>rw[hr] at tc;obtain⟨H',y8,y9,r,S',st,hh⟩:=ih ⟨s1,⟨ep,s2⟩,s3⟩ (by exact uA zR) (by exact uA zD);exact⟨H',y8,y9,e8 (f:=.next) rfl rfl (aj s0 (aj (bM (t:=false) (mW (ta ..) (tb ..)) (aj (bM (t:=false) (mW (ta ..) (tc ..)) aO) aO)) aO)) rfl r,S',st,hh⟩
    |false=>
     rw[hr] at tc;have st:=w7 (k:=y::b) (v:=.int (t:Nat)) s2 (by unfold dR;rw[aJ];exact FX hz zR);have nk:(y::b)∉(dR R).map (·.1):=λhm=>by have:=(mZ _ _).mpr hm;rw[<- yl,Ep,hr] at this;exact nomatch this
     have e0:eJ (y::b) (.int (t:Nat)) (dR R)=dR (bj R [(y::b,t)]):=by rw[(C0 nk).1];unfold dR;rw[fR,eB];rfl
     rw[e0,Ep,hr] at st;obtain⟨H',y8,y9,r,S',pM,hh⟩:=ih (R:=bj R [(y::b,t)]) (D:=D) (H:=ai H (.dict (ep+1) (dR (bj R [(y::b,t)]))) (N+1)) ⟨(bh (oA (by decide)).symm).trans s1,⟨ep+1,cV (bk s2)⟩,(bh (pZ (by decide))).trans s3⟩ (by rw[fR,bF];show R.length+1+l.length<_;exact FW zR) (by exact uA zD);exact⟨H',y8,y9,e8 (f:=.next) rfl rfl (aj s0 (aj (bM (t:=false) (mW (ta ..) (tb ..)) (aj (bM (t:=true) (mW (ta ..) (tc ..)) (aj (pR (af rfl) (λO=>rfl) (af rfl) (af rfl) st) aO)) aO)) aO)) rfl r,S',(fE.upd (.inr (.inl rfl))).trans pM,hh.trans cB⟩
end
end
section
def X9{α:Type}(lt:α->α->Bool)(x:α):∀l:List α,(jj lt x l).length=l.length+1:=by
 intro l
 induction l with
 |nil=>rfl
 |cons y l ih=>
  show(match lt y x with|true=>y::jj lt x l|false=>x::y::l).length=_;cases lt y x with
  |true=>exact congrArg (·+1) ih
  |false=>rfl
def Si{α:Type}(lt:α->α->Bool):∀l:List α,(cC lt l).length=l.length:=by
 intro l
 induction l with
 |nil=>rfl
 |cons x l ih=>exact(X9 lt x _).trans (congrArg (·+1) ih)
def VF{t:Nat}:∀(l:List Pr) {R:List (Ky×Nat)} {D:List Nat},(bI (fY t) l (R,D)).1.length<=R.length+l.length/\(bI (fY t) l (R,D)).2.length<=D.length+l.length:=by
 intro l
 induction l with
 |nil=>intro R D;exact⟨bf _,bf _⟩
 |cons p l ih=>
  intro R D;show(bI (fY t) l (fY t (R,D) p)).1.length<=_/\(bI (fY t) l (fY t (R,D) p)).2.length<=_;rw[i5];obtain⟨a,b⟩:=p;cases a with
  |cons x a=>have:=ih (R:=R) (D:=D);exact⟨by exact aM this.1 (by exact uz),by exact aM this.2 (by exact uz)⟩
  |nil=>cases b with
   |nil=>have:=ih (R:=R) (D:=bj D [t]);rw[fR,bF] at this;have e:([t]:List Nat).length=1:=rfl;rw[e] at this;rw[<- fR] at this;exact⟨by exact aM this.1 (by exact uz),by exact aM this.2 (by exact B8)⟩
   |cons y b=>
    show(bI (fY t) l (match di (y::b) R with|true=>(R,D)|false=>(bj R [(y::b,t)],D))).1.length<=_/\(bI (fY t) l (match di (y::b) R with|true=>(R,D)|false=>(bj R [(y::b,t)],D))).2.length<=_;cases di (y::b) R with
    |true=>have:=ih (R:=R) (D:=D);exact⟨by exact aM this.1 (by exact uz),by exact aM this.2 (by exact uz)⟩
    |false=>
     have:=ih (R:=bj R [(y::b,t)]) (D:=D);have e:(bj R [(y::b,t)]).length=R.length+1:=by rw[fR,bF];rfl
     rw[e] at this;exact⟨by exact aM this.1 (by exact B8),by exact aM this.2 (by exact uz)⟩
section
variable {d aw N:Nat}{K1:Hp}{ws:List Ky}
def SP{x1 x5 x6 x8 x9:Option AV}{H:Hp}{made:List Pr}(hz:made.length<az):
  ∃Y,RM P d (eV qW) (eQ qW) (eU qW) (gI qW) (gu aw x1 N x5 x6 (some (.lst (made.map aN))) x8 x9 none) H (.ref H.length) (gu aw x1 N x5 x6 (some (.lst (made.map aN))) x8 x9 none) (H++.list ((d9 (λp=>!jq p) made).map aN)::Y):=by
 have q:=uU (d:=d) (H:=H) (Hz:=H) (tg:=eQ qW) (elt:=eV qW) (it:=eU qW) (ifs:=gI qW) (I:=Is H) (e:=λo=>gu aw x1 N x5 x6 (some (.lst (made.map aN))) x8 x9 o)
  (t:=λv=>match v with|.lst l=>!jq (((l.headD .none).de).getD [],((l.tail.headD .none).de).getD [])|_=>false) (f:=λv=>v) (λO O O=>rfl) (U:=gu aw x1 N x5 x6 (some (.lst (made.map aN))) x8 x9 none) (H0:=H) (af rfl) (src:=.fix (made.map aN)) rfl (Bj _) rfl (λv hv o K=>rfl) (λv hv K hK hn Y=>?_) (λv hv ht K hK hn Y=>⟨[],by rw[eW];exact af rfl⟩) (by rw[aJ];exact hz)
 ·refine ue q λY q=>⟨Y,?_⟩;have e:(((made.map aN).filter λv=>match v with|.lst l=>!jq (((l.headD .none).de).getD [],((l.tail.headD .none).de).getD [])|_=>false).map λv=>v)=(d9 (λp=>!jq p) made).map aN:=by rw[nA,sE,cI];rfl
  rw[e] at q;exact q.1
 ·refine aq (bW.mp hv) λp hp e=>?_;subst e;refine⟨[],?_⟩;rw[eW];exact oq (bH (af rfl) (e9 (bb:=false) (aB rfl aS (aB rfl aS aE)) rfl) (VT p))
def SO(hw:ae K1 aw=some (.list (ws.map .str)))(aA:yW N aw)(h3:ws.length=3)(hn:∀w∈ws,w≠[]){S:rZ}:∀(m:Nat) {ps:List Pr} {SE:List (List Pr)} {R:List (Ky×Nat)} {D:List Nat} {t deep:Nat} {H:Hp} {ap:Nat} {vs:List AV} {x7 x8 x9:Option AV},
  j0 ws m ps SE R D t deep=some S->fE N K1 H->yW N ap->ae H ap=some (.list (ps.map aN))->oV N H vs SE->Sd N vs R D H->ps.length<1000->R.length+64*m<50000->D.length+64*m<50000->vs.length+m<50000 ->
  ∃(H':Hp) (oS:Nat) (xB:List Pr) (jV:List AV) (wG nV zj zi:Option AV),RW P (d+2) true (gB w4) (bz w4) (iV w4) (gu aw (some (.ref ap)) N (some (.int (t:Nat))) (some (.int (deep:Nat))) x7 x8 x9 none) H .next (gu aw (some (.ref oS)) N wG (some (.int (S.2.2.2:Nat))) nV zj zi none) H'/\ae H' oS=some (.list (xB.map aN))/\(!xB.isEmpty)=S.2.2.1/\Sd N jV S.1 S.2.1 H'/\fE N K1 H':=by
 intro m
 induction m with
 |zero=>intro ps SE R D t deep H ap vs x7 x8 x9 e;exact aR e
 |succ m ih=>
  intro ps SE R D t deep H ap vs x7 x8 x9 e st aP hp so sd zp zR zD zv;have t1:∀p1 p2 p3,RT P (d+2) true (.cmp .NotEq (.var "pairs" 1 p1) (.list .nil false p2) p3) (gu aw (some (.ref ap)) N (some (.int (t:Nat))) (some (.int (deep:Nat))) x7 x8 x9 none) H (!ps.isEmpty) (gu aw (some (.ref ap)) N (some (.int (t:Nat))) (some (.int (deep:Nat))) x7 x8 x9 none) H:=λp1 p2 p3=>bH (af rfl) (e9 (bb:=false) aE rfl) (I1 hp);have t2:∀p1 p2 p3,RT P (d+2) true (.cmp .NotIn (.var "pairs" 1 p1) (.var "seen" 2 p2) p3) (gu aw (some (.ref ap)) N (some (.int (t:Nat))) (some (.int (deep:Nat))) x7 x8 x9 none) H (!lM ps SE) (gu aw (some (.ref ap)) N (some (.int (t:Nat))) (some (.int (deep:Nat))) x7 x8 x9 none) H:=λp1 p2 p3=>bH (af rfl) (af rfl) (by show(gU (.ref ap) (.ref N) H).map (!·)=_;rw[Yd hp sd.1 so];rfl)
  cases ps with
  |nil=>obtain rfl:=sj e;exact⟨H,ap,[],vs,_,x7,x8,x9,mV (uR (t1 ..)) aO,hp,rfl,sd,st⟩
  |cons p ps=>
   have e:(match lM (p::ps) SE with
    |true=>some (R,D,true,deep)
    |false=>match Nat.blt (fA ws (p::ps)).length 64 with
     |false=>none
     |true=>j0 ws m (d9 (λp=>!jq p) (cC dw (fA ws (p::ps)))) (bj SE [p::ps]) (bI (fY (t+1)) (cC dw (fA ws (p::ps))) (R,D)).1 (bI (fY (t+1)) (cC dw (fA ws (p::ps))) (R,D)).2 (t+1) (Bw (t+1) deep (cC dw (fA ws (p::ps)))))=some S:=e
   cases hm:lM (p::ps) SE with
   |true=>rw[hm] at e t2;obtain rfl:=sj e;exact⟨H,ap,p::ps,vs,_,x7,x8,x9,mV (mW (t1 ..) (t2 ..)) aO,hp,rfl,sd,st⟩
   |false=>
   rw[hm] at e t2;cases hb:Nat.blt (fA ws (p::ps)).length 64 with
   |false=>rw[hb] at e;exact aR e
   |true=>
   rw[hb] at e;have hb:=bG.mp hb;have ir:(50000:Nat)<=az:=by decide
   have BL:=kR (v:=.ref ap) sd.1 (by exact OE ir zv);have u1:fE N H (ai H (.list (vs++[.ref ap])) N):=fE.upd (.inl rfl);have xa:Sd N (vs++[.ref ap]) R D (ai H (.list (vs++[.ref ap])) N):=⟨cV (bk sd.1),ue sd.2.1 λep h=>⟨ep,(bh (oA (by decide))).trans h⟩,(bh (oA (by decide))).trans sd.2.2⟩;have Ks:=u1.2 ap _ aP.1 aP.2.1 aP.2.2 hp;have Sx:=(so.G3 u1).snoc aP Ks;have kk:=gF (P:=P) (m:=0) sd.1;generalize ai H (.list (vs++[.ref ap])) N=H1 at *;have nr:=(st.trans u1).2 aw _ aA.1 aA.2.1 aA.2.2 hw;obtain⟨H2,r2,jg⟩:=Uv (d:=d) Ks nr h3 hn zp hb;have u2:=fE.low (N:=N) jg;have Te:Sd N (vs++[.ref ap]) R D H2:=⟨(jg.low _ (bk xa.1)).trans xa.1,ue xa.2.1 λep h=>⟨ep,(jg.low _ (bk h)).trans h⟩,(jg.low _ (bk xa.2.2)).trans xa.2.2⟩;have ml:(cC dw (fA ws (p::ps))).length<64:=by rw[Si];exact hb
   generalize cC dw (fA ws (p::ps))=made at *;obtain⟨H3,y8,y9,r3,zQ,u3,hl3⟩:=SN (d:=d+2) (aw:=aw) (x1:=some (.ref ap)) (x7:=some (.lst (made.map aN))) (t:=t+1) made (deep:=deep) (x8:=x8) (x9:=x9) Te (by exact FV ml zR) (by exact FV ml zD);have nl:=VF (t:=t+1) made (R:=R) (D:=D);refine ue (SP (d:=d+2) (aw:=aw) (N:=N) (x1:=some (.ref ap)) (x5:=some (.int (t+1:Nat))) (x6:=some (.int (Bw (t+1) deep made:Nat))) (x8:=y8) (x9:=y9) (H:=H3) (by exact OD ml ir:made.length<az)) λY r4=>?_;have n4:ae (H3++.list ((d9 (λp=>!jq p) made).map aN)::Y) H3.length=some (.list ((d9 (λp=>!jq p) made).map aN)):=dY;have u4:=fE.app (N:=N) (H:=H3) (.list ((d9 (λp=>!jq p) made).map aN)::Y);have Td:Sd N (vs++[.ref ap]) (bI (fY (t+1)) made (R,D)).1 (bI (fY (t+1)) made (R,D)).2 (H3++.list ((d9 (λp=>!jq p) made).map aN)::Y):=⟨cb zQ.1,ue zQ.2.1 λep h=>⟨ep,cb h⟩,cb zQ.2.2⟩;have fl:(d9 (λp=>!jq p) made).length<=made.length:=by rw[nA];exact zf ..
   have hN:=bk zQ.2.2;obtain⟨H',oS,xB,jV,z5,z7,z8,z9,r5,q1,q2,q3,q4⟩:=ih (x7:=some (.lst (made.map aN))) (x8:=y8) (x9:=y9) e (((st.trans u1).trans u2).trans (u3.trans u4)) (⟨by exact OC hN,by exact OB hN,by exact OA hN⟩:yW N H3.length) n4 (Sx.G3 (u2.trans (u3.trans u4))) Td (by exact Oz fl ml) (by exact Oy nl ml zR) (by exact Ox nl ml zD) (by rw[bF];show vs.length+1+m<50000;exact Ow zv);refine⟨H',oS,xB,jV,z5,z7,z8,z9,kD (f:=.next) (mW (t1 ..) (t2 ..)) (aj (eM (eN (mk:=.list) (af rfl) kk rfl rfl (aB rfl (af rfl) aE) BL)) (aj (bC (bO (bL rfl) rfl (aB rfl (af rfl) (aB rfl (af rfl) aE)) r2) (λO=>rfl) rfl rfl) (aj (HK rfl aS rfl rfl) (aj (iN (af rfl) rfl r3) (aj (rh r4 rfl rfl) aO))))) rfl r5,q1,q2,q3,q4⟩
end
end
section
abbrev pN:C:=jX (bg vJ.body 0)
abbrev Hl:C:=match eV pN with|.gen t _ _=>t|_=>.nil
abbrev Hm:C:=match eV pN with|.gen _ _ e=>e|_=>.nil
noncomputable def lD(aw:Nat)(k j:Option AV):aC:=[some (.ref aw),none,none,none,none,none,none,none,none,none,k,j,none]
section
variable {d aw:Nat}{K0:Hp}{a b c:Ky}
def Cv{k j:Nat}{x y:Ky}{acc:List Pr}{l:List AV}{oj:Option AV}{ρ':aC}{H':Hp}(hw:ae K0 aw=some (.list ([a,b,c].map .str)))(hx:ae [a,b,c] j=some x)(hy:ae [a,b,c] k=some y)(hz:acc.length<10)(r:RK P d Hl (.fix l) .nil Hm K0.length (lD aw (some (.int k)) (some (.int j))) (K0++[.list ((acc++[(x,y)]).map aN)]) ρ' H'):
  RK P d Hl (.fix (.int j::l)) .nil Hm K0.length (lD aw (some (.int k)) oj) (K0++[.list (acc.map aN)]) ρ' H':=by
 have nr:=cb (m:=[.list (acc.map aN)]) hw;have e1:∀{i:Nat} {z:Ky},ae [a,b,c] i=some z->lB (.ref aw) (.int i) (K0++[.list (acc.map aN)])=some (.str z):=λ{i z} h=>sQ nr (show ae ([a,b,c].map AV.str) i=_ by rw[ip,h];rfl);have ac:=Fo (H:=K0) (Y:=[]) (l:=acc.map aN) (x:=aN (x,y)) (by rw[aJ];exact dW hz (by decide));have e0:acc.map aN++[aN (x,y)]=(acc++[(x,y)]).map aN:=by rw[eB];rfl
 rw[e0] at ac;exact rj (v:=.int j) (jd rfl) rfl xh ⟨_,_,CP (λO O O=>rfl) (e9 (bb:=false) (aB rfl (dP (af rfl) (af rfl) (e1 hx)) (aB rfl (dP (af rfl) (af rfl) (e1 hy)) aE)) rfl) ac,r⟩
def Ur{S:rZ}(hw:ae K0 aw=some (.list ([a,b,c].map .str)))(hn:∀w∈[a,b,c],w≠[])(e:j0 [a,b,c] 100 [(a,b),(a,c),(b,c)] [] [([],0)] [] 0 0=some S):
  ∃H' r ep,RC P (d+3) (.glob 13) [.ref aw] K0 (.tup [.ref r,.lst ((bR S.2.1).take 1),.bool S.2.2.1,.int (S.2.2.2:Nat)]) H'/\ba K0.length K0 H'/\ae H' r=some (.dict ep (dR S.1)):=by
 have dF:∀{k:Nat} {j:Option AV} {H:Hp} p1 p2 p3,k<=3->RE P (d+2) true (.call (.glob "range" 11 p1) (.cons (.var "k" 10 p2) .nil) p3) (lD aw (some (.int k)) j) H (.dF 0 k 1) (lD aw (some (.int k)) j) H:=λ{k j H} p1 p2 p3 hk=>bO (bL rfl) rfl (aB rfl (af rfl) aE) (xr (aM hk (by decide)));have rk:RK P (d+2) (eQ pN) (.fix [.int (0:Nat),.int (1:Nat),.int (2:Nat)]) (gI pN) (eV pN) K0.length (lD aw none none) (K0++[.list []]) (lD aw (some (.int (2:Nat))) (some (.int (1:Nat)))) (K0++[.list ([(a,b),(a,c),(b,c)].map aN)]):=
  rj (v:=.int (0:Nat)) (jd rfl) (ρ1:=lD aw (some (.int (0:Nat))) none) rfl xh ⟨_,_,CQ (dF (k:=0) _ _ _ (by decide)) (src:=.fix []) rfl (xm rfl),
   rj (v:=.int (1:Nat)) (jd rfl) (ρ1:=lD aw (some (.int (1:Nat))) none) rfl xh ⟨_,_,CQ (dF (k:=1) _ _ _ (by decide)) (src:=.fix [.int (0:Nat)]) rfl (Cv (acc:=[]) hw rfl rfl (by decide) (xm rfl)),
   rj (v:=.int (2:Nat)) (jd rfl) (ρ1:=lD aw (some (.int (2:Nat))) (some (.int (0:Nat)))) rfl xh ⟨_,_,CQ (dF (k:=2) _ _ _ (by decide)) (src:=.fix [.int (0:Nat),.int (1:Nat)]) rfl (Cv (acc:=[(a,b)]) hw rfl rfl (by decide:1<10) (Cv (acc:=[(a,b),(a,c)]) hw rfl rfl (by decide:2<10) (xm rfl))),
   xm rfl⟩⟩⟩
 have ln:=xu (d:=d+2) hw (by decide:3<=az);have rm:RM P (d+2) (eV pN) (eQ pN) (eU pN) (gI pN) (lD aw none none) K0 (.ref K0.length) (lD aw none none) (K0++[.list ([(a,b),(a,c),(b,c)].map aN)]):=CO (bO (bL rfl) rfl (aB rfl (bO (bL rfl) rfl (aB rfl (af rfl) aE) ln) aE) (xr (k:=3) (by decide))) rfl rk
 have n0:ae (K0++[.list ([(a,b),(a,c),(b,c)].map aN)]) K0.length=some (.list ([(a,b),(a,c),(b,c)].map aN)):=dY;have nr:=cb (m:=[.list ([(a,b),(a,c),(b,c)].map aN)]) hw;have lK:(K0++[AO.list ([(a,b),(a,c),(b,c)].map aN)]).length=K0.length+1:=bF;have Wy:=ba.app [.list ([(a,b),(a,c),(b,c)].map aN)] (bf K0.length);generalize K0++[AO.list ([(a,b),(a,c),(b,c)].map aN)]=K1 at *;have yc:=bk hw;obtain⟨H',oS,xB,jV,z5,z7,z8,z9,r,q1,q2,q3,q4⟩:=SO (d:=d) (N:=K1.length) (K1:=K1) (x7:=none) (x8:=none) (x9:=none) (H:=K1++[.list [],.dict 1 [([],.int 0)],.list []]) (ap:=K0.length) (vs:=[]) nr ⟨by exact F8 yc lK,by exact F7 yc lK,by exact F6 yc lK⟩ rfl hn 100 e (fE.app _) ⟨by exact Ql lK,by exact Qk lK,by exact Qj lK⟩ (cb n0) rfl ⟨dY,⟨1,jG (n:=1)⟩,jG (n:=2)⟩ (by show 3<1000;decide) (by show 1+6400<50000;decide) (by show 0+6400<50000;decide) (by show 0+100<50000;decide);obtain⟨s1,⟨ep,s2⟩,s3⟩:=q3;have sl:kC (.ref (K1.length+2)) .none (.int 1) H'=some (.lst ((bR S.2.1).take 1)):=by show((bx H' (K1.length+2)).bind λl=>some (AV.lst (l.take 1)))=_;rw[dy s3];rfl
 have lw:ba K0.length K0 H':=ba.mk (by have:=q4.1;exact Qh this lK) λx hx=>by
  have AW:=Wy.low x hx;cases h:ae K0 x with
  |none=>exact absurd hx (hZ.mpr (by
    rcases sD x K0.length with q|q
    ·exact ue (je q) λy hy=>by rw[hy] at h;exact nomatch h
    ·exact q))
  |some o=>rw[h] at AW;exact q4.2 x o (by exact F8 hx lK) (by exact F7 hx lK) (by exact F6 hx lK) AW
 refine⟨H',K1.length+1,ep,eT (fd:=vJ) (fl:=.ret (.tup [.ref (K1.length+1),.lst ((bR S.2.1).take 1),.bool S.2.2.1,.int (S.2.2.2:Nat)])) (ρ1:=lD aw none none) rfl rfl ⟨gu aw (some (.ref oS)) K1.length z5 (some (.int (S.2.2.2:Nat))) z7 z8 z9 none,?_⟩ rfl,lw,s2⟩;refine aj (rh rm rfl rfl) ?_;refine aj (bC (e9 (bb:=true) aE rfl) (λO=>rfl) rfl rfl) ?_;refine aj (bC (H8 aS aS) (λO=>rfl) rfl rfl) ?_;refine aj (bC (e9 (bb:=true) aE rfl) (λO=>rfl) rfl rfl) ?_;have eK:((K1++[AO.list []])++[AO.dict 1 [([],.int 0)]])++[AO.list []]=K1++[.list [],.dict 1 [([],.int 0)],.list []]:=by rw[eX,eX];rfl
 have e1:(K1++[AO.list []]).length=K1.length+1:=bF;have e2:((K1++[AO.list []])++[AO.dict 1 [([],.int 0)]]).length=K1.length+2:=by rw[bF,e1];rfl
 rw[eK,e1,e2];refine aj (bC aS (λO=>rfl) rfl rfl) (aj (bC aS (λO=>rfl) rfl rfl) ?_);refine aj (kF r) (cK (fX (ou (aB rfl (af rfl) (aB rfl (jc (af rfl) jD (iO aS λO=>rfl) sl) (aB rfl (zZ (af rfl) (e9 (bb:=false) aE rfl) ?_) (aB rfl (af rfl) aE))))) λO=>rfl) nofun);show(fQ .NotEq (.ref oS) (.lst []) H').map AV.bool=_;rw[I1 q1,q2];rfl
end
end
section
def ZS:∀a b:Nat,((a:Nat):Int).fmod (b:Nat)=((a%b:Nat):Int):=by
 intro n0
 induction n0 with
 |zero=>intro b;rw[Nat.zero_mod];rfl
 |succ n0 ih=>intro _;rfl
section
variable {d:Nat}{H:Hp}
variable {b:Nat}
def EW{a:Nat}(h0:ji (b:Nat) 0=false)(hs:fM (b:Nat)=true):iA .FloorDiv (.int (a:Nat)) (.int (b:Nat)) H=some (.int ((a/b:Nat):Int)):=by show(aI (!ji (b:Nat) 0&&fM (b:Nat)) (some ((a:Int).fdiv (b:Nat)))).map AV.int=_;rw[h0,hs,LA];rfl
def xN{a:Nat}(h0:ji (b:Nat) 0=false):iA .Mod (.int (a:Nat)) (.int (b:Nat)) H=some (.int ((a%b:Nat):Int)):=by show(aI (!ji (b:Nat) 0) (some ((a:Int).fmod (b:Nat)))).map AV.int=_;rw[h0,ZS];rfl
variable {k:Nat}
def U7(hk:k<=1000000)(hb:Nat.blt b (2^64)=true):iA .Pow (.int (b:Nat)) (.int (k:Nat)) H=some (.int ((b^k:Nat):Int)):=by show(aI (Nat.ble k 1000000&&Nat.blt b (2^64)) (some (((b:Nat):Int)^k))).map AV.int=_;rw[eP.mpr hk,hb,Int.natCast_pow];rfl
def aew(i:Int):tT .abs (.int i) H=some (.int (i.natAbs:Nat),H):=by
 cases i with
 |ofNat n=>rfl
 |negSucc n=>rfl
def CY(i:Int):RC P d (.glob 15) [.int i] H (.int (i.natAbs:Nat)) H:=gk (b:=.abs) rfl (aew i)
def XW{n:Nat}(h:0<n):ji (n:Nat) 0=false:=by
 cases n with
 |zero=>cases h
 |succ n=>rfl
def U6(hb:b<=16)(hk:k<=40):fM ((b^k:Nat):Int)=true:=by refine bG.mpr (cU (show b^k<=16^40 from ?_) (by decide));exact aM (Nat.pow_le_pow_left hb k) (Nat.pow_le_pow_right (by decide) hk)
variable {l:List AV}
def SG(hk:k<=az):kC (.lst l) .none (.int (k:Nat)) H=some (.lst (l.take k)):=by show(((some none).bind λa=>(aI (Nat.ble k az) (some (some (k:Int)))).map λb=>AV.lst (dA a b l)))=_;rw[eP.mpr hk];rfl
def Hh(hk:k<=az):kC (.lst l) (.int (k:Nat)) .none H=some (.lst (l.drop k)):=by show((aI (Nat.ble k az) (some (some (k:Int)))).bind λa=>(some none).map λb=>AV.lst (dA a b l))=_;rw[eP.mpr hk];rfl
def W0(hw:l.length<=az):RC P d (.glob 10) [.lst l] H (.int (l.length:Nat)) H:=gk (b:=.len) rfl (by show((some l.length).bind λn=>aI (Nat.ble n az) (some (AV.int n,H)))=_;show aI (Nat.ble l.length az) _=_;rw[eP.mpr hw];rfl)
def M5{m:List AV}(hz:l.length+m.length<=az):iA .Add (.lst l) (.lst m) H=some (.lst (l++m)):=by show aI (Nat.ble (l.length+m.length) az) _=_;rw[eP.mpr hz];rfl
def aem{n:Nat}{m:List AV}(h:ae H n=some (.list l))(hz:l.length+m.length<=az):iA .Add (.ref n) (.lst m) H=some (.lst (l++m)):=by show((bx H n).bind λa=>aI (Nat.ble (a.length+m.length) az) (some (AV.lst (a++m))))=_;rw[dy h];show aI (Nat.ble (l.length+m.length) az) _=_;rw[eP.mpr hz];rfl
def UQ(a b:Nat):pU (a:Nat) (b:Nat) 1=b-a:=by
 show(match Nat.blt a b with|true=>(((b:Nat)-(a:Nat)-1:Int)/1+1).toNat|false=>0)=_;cases h:Nat.blt a b with
 |false=>
  have:¬ a<b:=λq=>by rw[bG.mpr q] at h;cases h
  exact(Nat.sub_eq_zero_of_le (Nat.le_of_not_lt this)).symm
 |true=>rw[Int.ediv_one];show((b:Int)-a-1+1).toNat=_;rw[Int.sub_add_cancel];exact Int.toNat_sub b a
def UR:∀n a:Nat,Ab 1 n (a:Nat)=bR (List.range' a n):=by
 intro n
 induction n with
 |zero=>intro a;rfl
 |succ n ih=>intro a;exact congrArg (AV.int a::·) (ih (a+1))
def Sl(b:Nat):eS (.dF (0:Nat) (b:Nat) 1) H=some (.fix (bR (List.range' 0 b))):=by show some (bJ.fix (Ab 1 (pU (0:Nat) b 1) (0:Nat)))=_;rw[UQ,UR];rfl
end
def jM(a:Nat)(H:Hp)(v:AV)(r:List Nat):Prop:=v=jC r\/∃n,v=.ref n/\n≠a/\ae H n=some (.list (cM r))
noncomputable def iW(a:Nat)(H:Hp):List AV->List (List Nat)->Prop
 |[],rs=>rs=[]
 |v::vs,rs=>∃r t,rs=r::t/\jM a H v r/\iW a H vs t
def jM.mono{a:Nat}{H H':Hp}{v:AV}{r:List Nat}(h:∀n o,n≠a->ae H n=some o->ae H' n=some o)(k:jM a H v r):jM a H' v r:=by
 rcases k with e|⟨n,e,q,k⟩
 ·exact .inl e
 ·exact .inr ⟨n,e,q,h n _ q k⟩
def iW.mono{a:Nat}{H H':Hp}(h:∀n o,n≠a->ae H n=some o->ae H' n=some o):∀{vs:List AV} {rs:List (List Nat)},iW a H vs rs->iW a H' vs rs:=by
 intro vs
 induction vs with
 |nil=>intro rs k;exact k
 |cons v vs ih=>intro rs k;obtain⟨r,t,e,k1,k2⟩:=k;exact⟨r,t,e,k1.mono h,ih k2⟩
def iW.snoc{a:Nat}{H:Hp}{v:AV}{r:List Nat}(k:jM a H v r):∀{vs:List AV} {rs:List (List Nat)},iW a H vs rs->iW a H (vs++[v]) (rs++[r]):=by
 intro vs
 induction vs with
 |nil=>intro rs e;rw[show rs=[] from e];exact⟨r,[],rfl,k,rfl⟩
 |cons w vs ih=>intro rs e;obtain⟨r1,t,e,k1,k2⟩:=e;subst e;exact⟨r1,t++[r],rfl,k1,ih k2⟩
section
variable {a:Nat}{H:Hp}
def ET(k:Nat)(l:List Nat):(cM l).map (aV H k)=cM l:=by unfold cM;rw[cI];exact i6 λx O=>by cases k<;>rfl
variable {r:List Nat}
def jM.EU{v:AV}(k:jM a H v r):aV H 3 v=jC r:=by
 rcases k with e|⟨n,e,q,k⟩
 ·rw[e];exact congrArg AV.lst (ET 2 r)
 ·rw[e];show(match cG H (.ref n) with|some l=>AV.lst (l.map (Mine.aV H 2))|none=>.ref n)=_;rw[show cG H (.ref n)=_ from dy k];exact congrArg AV.lst (ET 2 r)
def jM.lst{v:AV}(k:jM a H v r):cG H v=some (cM r):=by
 rcases k with e|⟨n,e,q,k⟩
 ·rw[e];rfl
 ·rw[e];exact dy k
def Iy(k:Nat)(l:List Nat):dh (cM l) k=true:=by
 unfold cM
 induction l with
 |nil=>simp only[k7,dh]
 |cons x l ih=>simp only[bE,dh,cw,ih]
def Iv(k:Nat)(l:List Nat):cw (jC l) (k+1)=true:=by unfold jC;simp only[cw];exact Iy k l
def LQ:∀l m:List Nat,fw (cM l) (cM m)=some (ak l m):=by
 intro l
 induction l with
 |nil=>intro m;cases m<;>simp only[cM,k7,bE,fw]<;>try rfl
 |cons x l ih=>
  intro m;cases m with
  |nil=>simp only[cM,k7,bE,fw];try rfl
  |cons y m=>
   have e:fw (cM (x::l)) (cM (y::m))=(c6 (.int x) (.int y)).bind λb=>match b with|true=>fw (cM l) (cM m)|false=>some false:=by simp only[cM,bE,fw];try rfl
   have e2:c6 (.int (x:Nat)) (.int (y:Nat))=some (Nat.beq y x):=by simp only[c6,AV.int?,Option.map];try rfl
   rw[e,e2,ih m];show(match Nat.beq y x with|true=>some (ak l m)|false=>some false)=some (match Nat.beq x y with|true=>ak l m|false=>false);cases h:Nat.beq y x with
   |true=>rw[bV h,fV]
   |false=>rw[vY λq=>by rw[q,fV] at h;exact nomatch h]
def aag(r s:List Nat):c6 (jC r) (jC s)=some (ak r s):=by unfold jC;simp only[c6,AV.ng,Option.bind];exact LQ r s
def J9:∀{vs:List AV} {rs:List (List Nat)},iW a H vs rs->dh (vs.map (aV H 3)) 3=true/\gG (jC r) (vs.map (aV H 3))=some (aU r rs):=by
 intro vs
 induction vs with
 |nil=>intro rs k;rw[show rs=[] from k];exact⟨by simp only[k7,dh],rfl⟩
 |cons v vs ih=>intro rs k;obtain⟨s,t,e,k1,k2⟩:=k;subst e;obtain⟨i1,i2⟩:=ih k2;refine⟨by simp only[bE,dh,k1.EU,Iv,i1],?_⟩;rw[bE,k1.EU];show((c6 (jC s) (jC r)).bind λb=>(gG (jC r) (vs.map (aV H 3))).map λc=>b||c)=some (match ak s r with|true=>true|false=>aU r t);rw[i2,aag];cases ak s r<;>rfl
def Ye{v:AV}{vs:List AV}{rs:List (List Nat)}(hv:jM a H v r)(hs:ae H a=some (.list vs))(k:iW a H vs rs):gU v (.ref a) H=some (aU r rs):=by unfold gU;show(match bx H a with|some l=>aI (cw (aV H 3 v) 3&&dh (l.map (aV H 3)) 3) (gG (aV H 3 v) (l.map (aV H 3)))|none=>_)=_;rw[dy hs];show aI (cw (aV H 3 v) 3&&dh (vs.map (aV H 3)) 3) (gG (aV H 3 v) (vs.map (aV H 3)))=_;rw[hv.EU,Iv,(J9 (r:=r) k).1,(J9 k).2];rfl
end
end
section
noncomputable def sg(lV W n:Nat):Nat:=match n with|0=>lV|_+1=>W
def bZ(lV W n:Nat):Ky:=(List.range' 0 (1+n%4)).map λk=>sg lV W (n/4/2^k%2)
def cq(W:Nat)(rs:List Ky)(m:Nat):Ky->Option Ky:=Nat.rec (motive:=λO=>Ky->Option Ky) (λO=>none) (λO ih r=>match aU r rs with|true=>ih (bj r [W])|false=>some r) m
def uT(lV W:Nat)(xs:List Nat):List Ky->Option (List Ky):=List.rec (motive:=λO=>List Ky->Option (List Ky)) (λrs=>some rs) (λn O ih rs=>(cq W rs 4 (bZ lV W n)).bind λr=>ih (bj rs [r])) xs
abbrev zU:S:=bg f1.body 4
abbrev sV:C:=jX (bg (bz zU) 0)
abbrev zT:S:=bg (bz zU) 1
noncomputable abbrev oo(S D F:AV)(lV W a:Nat)(x r k:Option AV):aC:=[some S,some D,some F,some (.lst [.int lV,.int W]),some (.ref a),x,r,k]
section
variable {d a lV W:Nat}{S D F:AV}{H:Hp}
def SR{n:Nat}(h:n<2):j7 (n:Int) [AV.int lV,.int W]=some (.int (sg lV W n:Nat)):=by
 rcases n with _|_|n
 ·rfl
 ·rfl
 ·exact absurd h (hZ.mpr (i4 2 n))
def Tz{xi:Int}{r:Option AV}:∃Y,RM P d (eV sV) (eQ sV) (eU sV) (gI sV) (oo S D F lV W a (some (.int xi)) r none) H (.ref H.length) (oo S D F lV W a (some (.int xi)) r none) (H++.list (cM (bZ lV W xi.natAbs))::Y):=by
 have l3:1+xi.natAbs%4<=5:=mB (fG (k9 _ (by decide))) 1;have q:=sW (d:=d) (H:=H) (tg:=eQ sV) (elt:=eV sV) (it:=eU sV) (e:=λo=>oo S D F lV W a (some (.int xi)) r o) (f:=λv=>match v with|.int i=>.int (sg lV W (xi.natAbs/4/2^i.toNat%2):Nat)|v=>v) (λO O O=>rfl) (U:=oo S D F lV W a (some (.int xi)) r none) (H0:=H)
  (bO (bL rfl) rfl (aB rfl (du aS (du (bO (bL rfl) rfl (aB rfl (af rfl) aE) (CY xi)) aS (xN (b:=4) rfl)) (kT (k:=((1+xi.natAbs%4:Nat):Int)) rfl)) aE) (xr (aM l3 (by decide)))) (Sl _) (Bj _) rfl (λO O O O=>rfl) (λv hv Y=>?_) (by unfold bR;rw[aJ,List.length_range'];exact cU l3 (by decide))
 ·have e:(bR (List.range' 0 (1+xi.natAbs%4))).map (λv=>match v with|.int i=>AV.int (sg lV W (xi.natAbs/4/2^i.toNat%2):Nat)|v=>v)=cM (bZ lV W xi.natAbs):=by unfold bR cM bZ;rw[cI,cI];rfl
  rw[e] at q;exact q
 ·unfold bR at hv;refine aq (bW.mp hv) λk hk e=>?_;subst e;have KA:k<=40:=by have:=List.mem_range'.mp hk;obtain⟨i,hi,e⟩:=this;exact Qg e hi
  refine⟨[],?_⟩;rw[eW];exact dP (af rfl) (du (du (du (bO (bL rfl) rfl (aB rfl (af rfl) aE) (CY xi)) aS (EW (b:=4) rfl rfl)) (du aS (af rfl) (U7 (b:=2) (aM KA (by decide)) rfl)) (EW (XW (Nat.pow_pos (by decide))) (U6 (by decide) KA))) aS (xN (b:=2) rfl)) (SR (k9 _ (by decide)))
def Tw{vs:List AV}{rs:List Ky}{x k:Option AV}{r:Ky}(hs:ae H a=some (.list vs))(k0:iW a H vs rs):∀(m:Nat) {r0:Ky} {v:AV},cq W rs m r0=some r->jM a H v r0->r0.length+m<=100 ->
  ∃v',RW P d true (gB zT) (bz zT) (iV zT) (oo S D F lV W a x (some v) k) H .next (oo S D F lV W a x (some v') k) H/\jM a H v' r:=by
 intro m
 induction m with
 |zero=>intro r0 v e;exact aR e
 |succ m ih=>
  intro r0 v e kv hl;have e:(match aU r0 rs with|true=>cq W rs m (bj r0 [W])|false=>some r0)=some r:=e;have t:RT P d true (gB zT) (oo S D F lV W a x (some v) k) H (aU r0 rs) (oo S D F lV W a x (some v) k) H:=bH (af rfl) (af rfl) (Ye kv hs k0);cases hm:aU r0 rs with
  |false=>rw[hm] at e t;obtain rfl:=sj e;exact⟨v,mV t aO,kv⟩
  |true=>
   rw[hm] at e t;have ad:iA .Add v (.lst [.int W]) H=some (jC (bj r0 [W])):=by
    have hz:(cM r0).length+1<=az:=by unfold cM;rw[aJ];exact aM (by exact Qf hl:r0.length+1<=101) (by decide)
    have e0:jC (bj r0 [W])=.lst (cM r0++[.int W]):=by unfold jC cM;rw[fR,eB];rfl
    rw[e0];rcases kv with q|⟨n,q,_,q2⟩
    ·rw[q];exact M5 hz
    ·rw[q];exact aem q2 hz
   obtain⟨v',r1,k1⟩:=ih (v:=jC (bj r0 [W])) e (.inl rfl) (by rw[fR,bF];show r0.length+1+m<=100;exact Qe hl);exact⟨v',kD (f:=.next) t (aj (bC (du (af rfl) (e9 (bb:=false) (aB rfl (dP (af rfl) aS rfl) aE) rfl) ad) (λO=>rfl) rfl rfl) aO) rfl r1,k1⟩
def Tx:∀(xs:List Int) {vs:List AV} {rs R:List Ky} {H:Hp} {x r:Option AV},uT lV W (xs.map (·.natAbs)) rs=some R->ae H a=some (.list vs)->iW a H vs rs->vs.length+xs.length<1000 ->
  ∃H' jV x' r',RF P d (gC zU) (.fix (xs.map .int)) (bz zU) (oo S D F lV W a x r none) H .next (oo S D F lV W a x' r' none) H'/\ae H' a=some (.list jV)/\iW a H' jV R/\H.length<=H'.length/\(∀n o,n≠a->ae H n=some o->ae H' n=some o):=by
 intro xs
 induction xs with
 |nil=>intro vs rs R H x r e hs k hz;obtain rfl:=sj e;exact⟨H,vs,x,r,gR rfl,hs,k,bf _,λ_ _ _ h=>h⟩
 |cons xi xs ih=>
  intro vs rs R H x r e hs k hz;rw[i5] at hz;have e:((cq W rs 4 (bZ lV W xi.natAbs)).bind λr=>uT lV W (xs.map (·.natAbs)) (bj rs [r]))=some R:=e;refine ub e λrow e1 e2=>?_;refine ue (Tz (d:=d) (S:=S) (D:=D) (F:=F) (lV:=lV) (W:=W) (a:=a) (H:=H) (xi:=xi) (r:=r)) λY rc=>?_;have n1:ae (H++.list (cM (bZ lV W xi.natAbs))::Y) H.length=some (.list (cM (bZ lV W xi.natAbs))):=dY;have ha:=bk hs;have oH:=cb (m:=.list (cM (bZ lV W xi.natAbs))::Y) hs;have ms:∀n o,n≠a->ae H n=some o->ae (H++.list (cM (bZ lV W xi.natAbs))::Y) n=some o:=λn o _ h=>cb h;have hl:H.length<=(H++.list (cM (bZ lV W xi.natAbs))::Y).length:=by rw[bF];exact eE ..
  have k1:=k.mono ms;have kr:jM a (H++.list (cM (bZ lV W xi.natAbs))::Y) (.ref H.length) (bZ lV W xi.natAbs):=.inr ⟨H.length,rfl,dM ha,n1⟩;generalize H++.list (cM (bZ lV W xi.natAbs))::Y=H1 at *;have bl:(bZ lV W xi.natAbs).length+4<=100:=by unfold bZ;rw[aJ,List.length_range'];have:=k9 xi.natAbs (by decide:0<4);exact Qd
  obtain⟨v,r2,k2⟩:=Tw (d:=d) (S:=S) (D:=D) (F:=F) (lV:=lV) (x:=some (.int xi)) (k:=none) oH k1 4 e1 kr bl;have ap:=kR (v:=v) oH (by exact dW (by exact Qc hz:vs.length<1000) (by decide));have m2:∀n o,n≠a->ae H1 n=some o->ae (ai H1 (.list (vs++[v])) a) n=some o:=λn o q h=>(bh (fi q)).trans h;have e0:rs++[row]=bj rs [row]:=(fR _ _).symm;have k3:=(k1.snoc k2).mono m2;rw[e0] at k3;obtain⟨H',jV,x',r',r3,b1,b2,b3,b4⟩:=ih (x:=some (.int xi)) (r:=some v) e2 (cV (bk oH)) k3 (by rw[bF];show vs.length+1+xs.length<1000;exact Qb hz);refine⟨H',jV,x',r',e8 (f:=.next) rfl rfl (aj (rh rc rfl rfl) (aj (kF r2) (aj (eM (eN (mk:=.list) (af rfl) (gF oH) rfl rfl (aB rfl (af rfl) aE) ap)) aO))) rfl r3,b1,b2,aM hl (by rw[cB] at b3;exact b3),λn o q h=>b4 n o q (m2 n o q (ms n o q h))⟩
def ZJ:∀l:List Int,∃a b c e,l.take 4++[0,0,9,6].drop (l.take 4).length=[a,b,c,e]
 |[]=>⟨_,_,_,_,rfl⟩
 |[a]=>⟨_,_,_,_,rfl⟩
 |[a,b]=>⟨_,_,_,_,rfl⟩
 |[a,b,c]=>⟨_,_,_,_,rfl⟩
 |a::b::c::e::l=>⟨_,_,_,_,rfl⟩
def ri(f b c e:Nat):Option (List Ky):=uT (1+f%15) (1+(f+1+f/15%14)%15) [b,c,e] []
def Ut(s:List Int)(G:∀f b c e,∃R,ri f b c e=some R):∃H' vs f b c e R,RC P (d+1) (.glob 1) [.lst (s.map .int)] H (.ref H.length) H'/\ba H.length H H'/\ae H' H.length=some (.list vs)/\iW H.length H' vs R/\ri f b c e=some R:=by
 obtain⟨x,y,z,u,h4⟩:=ZJ s;have lt:(s.take 4).length<=4:=by rw[ux];exact Nat.min_le_left _ _
 have l4:(s.take 4).length<=az:=aM lt (by decide);have s0:∀H:Hp,kC (.lst (s.map .int)) .none (.int 4) H=some (.lst ((s.take 4).map .int)):=λH=>by rw[List.map_take];exact SG (k:=4) (by decide)
 have dr:RE P d true (jX (bg f1.body 0)) [some (.lst (s.map .int)),none,none,none,none,none,none,none] H (.lst [.int x,.int y,.int z,.int u]) [some (.lst (s.map .int)),none,none,none,none,none,none,none] H:=by have ln:=W0 (d:=d) (H:=H) (l:=(s.take 4).map .int) (by rw[aJ];exact l4);rw[aJ] at ln;refine du (jc (af rfl) jD (iO aS λO=>rfl) (s0 _)) (jc (e9 (bb:=false) (aB rfl aS (aB rfl aS (aB rfl aS (aB rfl aS aE)))) rfl) (iO (bO (bL rfl) rfl (aB rfl (jc (af rfl) jD (iO aS λO=>rfl) (s0 _)) aE) ln) λO=>rfl) jD (Hh l4)) ?_;have:=M5 (H:=H) (l:=(s.take 4).map .int) (m:=([0,0,9,6].drop (s.take 4).length).map .int) (by rw[aJ,aJ,qC];show _+(4-_)<=_;exact aM (aW (Nat.add_sub_of_le lt)) (by decide));rw[<- eB,h4] at this;rw[List.map_drop] at this;exact this
 obtain⟨R,hR⟩:=G x.natAbs y.natAbs z.natAbs u.natAbs;have Z2:∀H:Hp,iA .Add (.int 1) (.int ((x.natAbs%15:Nat):Int)) H=some (.int ((1+x.natAbs%15:Nat):Int)):=λH=>kT rfl;have SS:RE P d true (jX (bg f1.body 2)) [some (.lst (s.map .int)),some (.lst [.int x,.int y,.int z,.int u]),some (.int (x.natAbs:Nat)),none,none,none,none,none] H (.lst [.int (1+x.natAbs%15:Nat),.int (1+(x.natAbs+1+x.natAbs/15%14)%15:Nat)]) [some (.lst (s.map .int)),some (.lst [.int x,.int y,.int z,.int u]),some (.int (x.natAbs:Nat)),none,none,none,none,none] H:=e9 (bb:=false) (aB rfl (du aS (du (af rfl) aS (xN (b:=15) rfl)) (Z2 _)) (aB rfl (du aS (du (du (du (af rfl) aS (kT (k:=((x.natAbs+1:Nat):Int)) rfl)) (du (du (af rfl) aS (EW (b:=15) rfl rfl)) aS (xN (b:=14) rfl)) (kT (k:=((x.natAbs+1+x.natAbs/15%14:Nat):Int)) rfl)) aS (xN (b:=15) rfl)) (kT (k:=((1+(x.natAbs+1+x.natAbs/15%14)%15:Nat):Int)) rfl)) aE)) rfl
 obtain⟨H',jV,x',r',r1,b1,b2,b3,b4⟩:=Tx (d:=d) (a:=H.length) (S:=.lst (s.map .int)) (D:=.lst [.int x,.int y,.int z,.int u]) (F:=.int (x.natAbs:Nat)) [y,z,u] (vs:=[]) (H:=H++[.list []]) (x:=none) (r:=none) hR dY rfl (show 0+3<1000 by decide);refine⟨H',jV,x.natAbs,y.natAbs,z.natAbs,u.natAbs,R,?_,ba.mk (by rw[bF] at b3;exact nR b3) λn hn=>?_,b1,b2,hR⟩
 ·exact eT (fd:=f1) (fl:=.ret (.ref H.length)) (ρ1:=[some (.lst (s.map .int)),none,none,none,none,none,none,none]) rfl rfl ⟨_,aj (bC dr (λO=>rfl) rfl rfl)
   (aj (bC (bO (bL rfl) rfl (aB rfl (dP (af rfl) aS rfl) aE) (CY x)) (λO=>rfl) rfl rfl)
   (aj (bC SS (λO=>rfl) rfl rfl)
   (aj (bC (e9 (bb:=true) aE rfl) (λO=>rfl) rfl rfl)
   (aj (iN (jc (af rfl) (iO aS λO=>rfl) jD (Hh (k:=1) (by decide))) rfl r1)
   (cK (fX (af rfl) λO=>rfl) nofun)))))⟩ rfl
 ·refine ue (je hn) λo ho=>?_;rw[ho];exact b4 n o (dU hn) (cb ho)
end
end
section
section
variable {d:Nat}{H:Hp}{v:AV}{row:List Nat}
variable {l:List AV}
def Jp(h:cG H v=some l):v=.lst l\/∃n,v=.ref n/\ae H n=some (.list l):=by
 cases v with
 |lst k=>obtain rfl:=sj h;exact .inl rfl
 |ref n=>
  refine .inr ⟨n,rfl,?_⟩;have h:(ae H n).bind (λo=>match o with|.list l=>some l|_=>none)=some l:=h;refine ub h λo e1 e2=>?_;cases o with
  |list k=>rw[e1,sj e2]
  |_=>exact aR e2
 |_=>exact aR h
def Ha{tg:C}(h:cG H v=some l):∃src,eS v H=some src/\o5 (Is H) tg H src l H/\o4 (λK=>K=H) src l:=by
 rcases Jp h with e|⟨n,e,hn⟩
 ·rw[e];exact⟨_,rfl,Bj _,Lc _ _⟩
 ·rw[e];exact⟨_,lC hn,rQ hn,ED λK q=>by rw[q];exact hn⟩
def Jq(h:cG H v=some l)(Y:Hp):cG (H++Y) v=some l:=by
 rcases Jp h with e|⟨n,e,hn⟩
 ·rw[e];rfl
 ·rw[e];exact dy (cb hn)
abbrev AK:C:=vZ (jX (bg f5.body 0))
def UD(hv:cG H v=some (cM row))(EA:∀c∈row,c<16)(hz:row.length<az):∃Y,RC P (d+1) (.glob 5) [v] H (.str row) (H++Y):=by
 obtain⟨src,hs,F,_⟩:=Ha (tg:=eQ AK) hv;obtain⟨Y,r⟩:=sW (d:=d) (H:=H) (tg:=eQ AK) (elt:=eV AK) (it:=eU AK) (U:=[some v,none]) (e:=λo=>[some v,o]) (f:=λv=>match v with|.int i=>.str [i.toNat]|v=>v) (λO O O=>rfl) (af rfl) hs F rfl (λO O O O=>rfl)
  (λx hx Y=>by refine aq (bW.mp hx) λc hc aa=>?_;subst aa;refine⟨[],?_⟩;rw[eW];refine dP aS (af rfl) ?_;show(j7 (c:Int) [0,1,2,3,4,5,6,7,8,9,10,11,12,13,14,15]).map (λc=>AV.str [c])=_;rw[aeB c (EA c hc)];rfl) (by unfold cM;rw[aJ];exact hz)
 have e:(cM row).map (λv=>match v with|.int i=>AV.str [i.toNat]|v=>v)=(row.map λc=>[c]).map AV.str:=by unfold cM;rw[cI,cI];rfl
 rw[e] at r;refine⟨.list ((row.map λc=>[c]).map .str)::Y,eT (fd:=f5) (fl:=.ret (.str row)) (ρ1:=[some v,none]) rfl rfl ⟨_,cK (fX (eN (mk:=.str) aS rfl rfl rfl (aB rfl (uV r) aE) ?_) λO=>rfl) nofun⟩ rfl⟩;have:=JM (H:=H++.list ((row.map λc=>[c]).map .str)::Y) dY (by rw[Bg];exact fG hz);rwa[Bg] at this
def VC:∀(l pre:List Nat) {src:bJ} {u:Option AV},o4 (λK=>K=H) src (cM l)->(∀c∈pre++l,c<16)->(pre++l).length<=40 ->
  ∃u',RF P d (gC (bg f2.body 1)) src (bz (bg f2.body 1)) [some v,some (.int (cA pre:Nat)),u] H .next [some v,some (.int (cA (pre++l):Nat)),u'] H:=by
 intro l
 induction l with
 |nil=>intro pre src u g _ _;exact⟨u,by rw[eW];exact gR (g H rfl)⟩
 |cons c l ih=>
  intro pre src u g h hl;have e:pre++c::l=(pre++[c])++l:=by rw[eX];rfl
  obtain⟨src',g1,g2⟩:=g;refine ue (ih (pre++[c]) (u:=some (.int c)) g2 (by rw[<- e];exact h) (by rw[<- e];exact hl)) λu' r=>?_;rw[<- e] at r;refine⟨u',e8 (f:=.next) (g1 H rfl) rfl (aj (bC (du (du aS (af rfl) (Dp (by decide) (SD (l:=pre) (λx hx=>h x (nT _ hx)) (by rw[bF] at hl;exact NI ‹_›)) rfl)) (af rfl) (kT (k:=(cA (pre++[c]):Nat)) ?_)) (λO=>rfl) rfl rfl) aO) rfl r⟩;rw[Ck];show(16:Int)*(cA pre:Nat)+(c:Nat)=_
  rfl
def UB(hv:cG H v=some (cM row))(h:∀c∈row,c<16)(hl:row.length<=40):RC P (d+1) (.glob 2) [v] H (.int (cA row:Nat)) H:=by obtain⟨src,hs,_,g⟩:=Ha (tg:=.nil) hv;refine ue (VC (d:=d) (v:=v) row [] (u:=none) g h hl) λu' r=>?_;exact eT (fd:=f2) (fl:=.ret (.int (cA row:Nat))) (ρ1:=[some v,none,none]) rfl rfl ⟨_,aj (bC aS (λO=>rfl) rfl rfl) (aj (iN (af rfl) hs r) (cK (fX (af rfl) λO=>rfl) nofun))⟩ rfl
end
def aab{W:Nat}{rs:List Ky}{Q:Nat->Prop}(hW:Q W):∀(m:Nat) {r0 r:Ky},cq W rs m r0=some r->(∀c∈r0,Q c)->(∀c∈r,Q c)/\r0.length<=r.length/\r.length<=r0.length+m:=by
 intro m
 induction m with
 |zero=>intro r0 r e;exact aR e
 |succ m ih=>
  intro r0 r e h;have e:(match aU r0 rs with|true=>cq W rs m (bj r0 [W])|false=>some r0)=some r:=e;cases hm:aU r0 rs with
  |false=>rw[hm] at e;obtain rfl:=sj e;exact⟨h,bf _,eE _ _⟩
  |true=>
   rw[hm] at e;have e:cq W rs m (bj r0 [W])=some r:=e;rw[fR] at e;obtain⟨a,b,c⟩:=ih e λc hc=>by
    rcases ko.mp hc with hc|hc
    ·exact h c hc
    ·rw[fW.mp hc];exact hW
   rw[bF] at b c;exact⟨a,aM (eE _ _) b,aM c (by show r0.length+1+m<=r0.length+(m+1);exact B8)⟩
def Wd(r:Ky):Prop:=(∀c∈r,1<=c/\c<16)/\1<=r.length/\r.length<=10
def TL{lV W:Nat}(hV:1<=lV/\lV<16)(hW:1<=W/\W<16):∀(xs:List Nat) {rs R:List Ky},uT lV W xs rs=some R->(∀r∈rs,Wd r)->(∀r∈R,Wd r)/\R.length=rs.length+xs.length:=by
 intro xs
 induction xs with
 |nil=>intro rs R e h;obtain rfl:=sj e;exact⟨h,rfl⟩
 |cons n xs ih=>
  intro rs R e h;have e:((cq W rs 4 (bZ lV W n)).bind λr=>uT lV W xs (bj rs [r]))=some R:=e;refine ub e λr e1 e2=>?_;have bl:(bZ lV W n).length=1+n%4:=by unfold bZ;rw[aJ,List.length_range']
  have:=k9 n (by decide:0<4);obtain⟨a,b,c⟩:=aab (Q:=λc=>1<=c/\c<16) hW 4 e1 λc hc=>by
   unfold bZ at hc;refine aq (bW.mp hc) λk _ e=>?_;rw[<- e];unfold sg;cases n/4/2^k%2 with
   |zero=>exact hV
   |succ _=>exact hW
  rw[fR] at e2;obtain⟨i1,i2⟩:=ih e2 λs hs=>by
   rcases ko.mp hs with hs|hs
   ·exact h s hs
   ·rw[fW.mp hs];exact⟨a,by exact Qa b bl,by exact P9 c bl⟩
  refine⟨i1,?_⟩;rw[i2,bF];show rs.length+1+xs.length=rs.length+(xs.length+1);exact P8
def TM{f b c e:Nat}{R:List Ky}(h:ri f b c e=some R):(∀r∈R,Wd r)/\R.length=3:=by have:=k9 f (by decide:0<15);have:=k9 (f+1+f/15%14) (by decide:0<15);exact TL ⟨by exact P6,by exact P5⟩ ⟨by exact P4,by exact P2⟩ [b,c,e] h nofun
end
section
abbrev tA:C:=jX (bg f0.body 1)
abbrev Wz:S:=bg f0.body 2
abbrev tw:C:=match Wz with|.iff (.cmp _ _ c _) _ _ _=>c|_=>.nil
noncomputable abbrev oD(x0 x1 x2 x3 x4 x5 x6 x7 x8 x9 x10 x11 x12 QB QA:Option AV):aC:=[x0,x1,x2,x3,x4,x5,x6,x7,x8,x9,x10,x11,x12,QB,QA]
def xj(H:Hp)(v:AV):Ky:=((cG H v).getD []).map λx=>((x.int?).getD 0).toNat
def CL{a:Nat}{H:Hp}{v:AV}{r:Ky}(k:jM a H v r):xj H v=r:=by unfold xj;rw[k.lst];show(cM r).map _=r;unfold cM;rw[cI];exact List.map_id r
def HM{a:Nat}{H:Hp}:∀{vs:List AV} {R:List Ky},iW a H vs R->vs.map (λv=>AV.str (xj H v))=R.map .str:=by
 intro vs
 induction vs with
 |nil=>intro R k;rw[show R=[] from k];rfl
 |cons v vs ih=>intro R k;obtain⟨r,t,e,k1,k2⟩:=k;subst e;rw[bE,CL k1,ih k2];rfl
def HN{a:Nat}{H:Hp}:∀{vs:List AV} {R:List Ky},iW a H vs R->(∀v∈vs,∃r∈R,jM a H v r)/\vs.length=R.length:=by
 intro vs
 induction vs with
 |nil=>intro R k;rw[show R=[] from k];exact⟨nofun,rfl⟩
 |cons v vs ih=>
  intro R k;obtain⟨r,t,e,k1,k2⟩:=k;subst e;obtain⟨i1,i2⟩:=ih k2;refine⟨λw hw=>?_,congrArg (·+1) i2⟩;rcases bQ.mp hw with rfl|hw
  ·exact⟨r,bA,k1⟩
  ·exact aq (i1 w hw) λr' a b=>⟨r',bS _ a,b⟩
section
variable {d a:Nat}{H:Hp}{vs:List AV}{R:List Ky}{x0 x2 x3 x4 x5 x6 x7 x8 x9 x10 x11 x12:Option AV}
def Ww(hs:ae H a=some (.list vs))(k:iW a H vs R)(hR:∀r∈R,Wd r)(h3:R.length=3):
  ∃Y,RM P (d+1) (eV tA) (eQ tA) (eU tA) (gI tA) (oD x0 (some (.ref a)) x2 x3 x4 x5 x6 x7 x8 x9 x10 x11 x12 none none) H (.ref H.length) (oD x0 (some (.ref a)) x2 x3 x4 x5 x6 x7 x8 x9 x10 x11 x12 none none) (H++.list (R.map .str)::Y):=by
 obtain⟨m1,m2⟩:=HN k;have q:=sW (d:=d+1) (H:=H) (tg:=eQ tA) (elt:=eV tA) (it:=eU tA) (e:=λo=>oD x0 (some (.ref a)) x2 x3 x4 x5 x6 x7 x8 x9 x10 x11 x12 o none) (f:=λv=>.str (xj H v)) (λO O O=>rfl) (U:=oD x0 (some (.ref a)) x2 x3 x4 x5 x6 x7 x8 x9 x10 x11 x12 none none) (H0:=H) (af rfl) (lC hs) (rQ hs) rfl (λO O O O=>rfl) (λv hv Y=>?_) (by rw[m2,h3];decide)
 ·rw[HM k] at q;exact q
 ·obtain⟨r,hr,kr⟩:=m1 v hv;obtain⟨w1,w2,w3⟩:=hR r hr;have DH:∀c∈r,c<16:=λc hc=>(w1 c hc).2;have JE:r.length<=40:=aM w3 (by decide);have n1:=UB (d:=d) (Jq kr.lst Y) DH JE;have n2:=UH (d:=d) (H:=H++Y) DH JE λc t e=>(w1 c (by rw[e];exact bA)).1;obtain⟨Y2,n3⟩:=Um (d:=d) (H:=H++Y) DH (cU w3 (by decide));rw[CL kr];rw[eX] at n3;exact⟨Y2,bO (bL rfl) rfl (aB rfl (bO (bL rfl) rfl (aB rfl (CW (bO (bL rfl) rfl (aB rfl (af rfl) aE) n1) rfl) aE) n2) aE) n3⟩
def Wx(hs:ae H a=some (.list vs))(k:iW a H vs R)(hR:∀r∈R,Wd r)(h3:R.length=3):
  ∃Y,RM P (d+1) (eV tw) (eQ tw) (eU tw) (gI tw) (oD x0 (some (.ref a)) x2 x3 x4 x5 x6 x7 x8 x9 x10 x11 x12 none none) H (.ref H.length) (oD x0 (some (.ref a)) x2 x3 x4 x5 x6 x7 x8 x9 x10 x11 x12 none none) (H++.list (R.map .str)::Y):=by
 obtain⟨m1,m2⟩:=HN k;have q:=sW (d:=d+1) (H:=H) (tg:=eQ tw) (elt:=eV tw) (it:=eU tw) (e:=λo=>oD x0 (some (.ref a)) x2 x3 x4 x5 x6 x7 x8 x9 x10 x11 x12 none o) (f:=λv=>.str (xj H v)) (λO O O=>rfl) (U:=oD x0 (some (.ref a)) x2 x3 x4 x5 x6 x7 x8 x9 x10 x11 x12 none none) (H0:=H) (af rfl) (lC hs) (rQ hs) rfl (λO O O O=>rfl) (λv hv Y=>?_) (by rw[m2,h3];decide)
 ·rw[HM k] at q;exact q
 ·obtain⟨r,hr,kr⟩:=m1 v hv;obtain⟨w1,w2,w3⟩:=hR r hr;obtain⟨Y2,n3⟩:=UD (d:=d) (Jq kr.lst Y) (λc hc=>(w1 c hc).2) (cU w3 (by decide));rw[CL kr];rw[eX] at n3;exact⟨Y2,bO (bL rfl) rfl (aB rfl (af rfl) aE) n3⟩
end
section
variable {H:Hp}
def LR:∀l:List Ky,fw (l.map .str) (l.map .str)=some true:=by
 intro l
 induction l with
 |nil=>simp only[k7,fw]
 |cons x l ih=>simp only[bE,fw,c6,AV.de,Option.map,Option.bind,g6];exact ih
def aal:∀l:List Nat,fw (bR l) (bR l)=some true:=by intro l;have:=LQ l l;rw[g6] at this;exact this
def VS{n m:Nat}{l:List Ky}(h1:ae H n=some (.list (l.map .str)))(h2:ae H m=some (.list (l.map .str))):fQ .NotEq (.ref n) (.ref m) H=some false:=by
 have e1:ql H (.ref n)=none:=by show(cD H n).map _=none;unfold cD;rw[h1];rfl
 have dr:∀{n},ae H n=some (.list (l.map .str))->aV H 3 (.ref n)=.lst (l.map .str):=λ{n} h=>by show(match cG H (.ref n) with|some l=>AV.lst (l.map (aV H 2))|none=>.ref n)=_;rw[show cG H (.ref n)=_ from dy h];exact congrArg AV.lst (yF 2 l)
 show(gK (.ref n) (.ref m) H).map (!·)=_;unfold gK;rw[e1];show(iU (aV H 3 (.ref n)) (aV H 3 (.ref m))).map (!·)=_;rw[dr h1,dr h2];unfold iU;have e4:cw (.lst (l.map .str)) 3=true:=by simp only[cw];exact xE 2 l
 rw[e4];show(c6 (.lst (l.map .str)) (.lst (l.map .str))).map (!·)=_;simp only[c6,AV.ng,Option.bind,LR];rfl
def LP{l:List AV}(h1:l.map (aV H 2)=l)(h2:dh l 2=true)(h3:fw l l=some true):gK (.lst l) (.lst l) H=some true:=by
 show iU (aV H 3 (.lst l)) (aV H 3 (.lst l))=_;have e:aV H 3 (.lst l)=.lst l:=congrArg AV.lst h1;rw[e];unfold iU;have e4:cw (.lst l) 3=true:=by simp only[cw];exact h2
 rw[e4];show c6 (.lst l) (.lst l)=_;simp only[c6,AV.ng,Option.bind,h3]
def aak(b:Bool):gK (.bool b) (.bool b) H=some true:=by
 show iU (.bool b) (.bool b)=_;unfold iU;have e4:cw (.bool b) 3=true:=by simp only[cw]
 rw[e4];show c6 (.bool b) (.bool b)=_;simp only[c6,AV.bool?,Option.map];cases b<;>rfl
def aaj(n:Nat):fQ .Eq (.int n) (.int n) H=some true:=by
 show iU (.int n) (.int n)=_;unfold iU;have e4:cw (.int n) 3=true:=by simp only[cw]
 rw[e4];show c6 (.int n) (.int n)=_;simp only[c6,AV.int?,Option.map];show some (Nat.beq n n)=_;rw[fV]
def WS(k:Ky):∀{R:List (Ky×Nat)},di k R=true->cy k (dR R)=some (.int (jh k R:Nat)):=by
 intro R
 induction R with
 |nil=>intro h;exact nomatch h
 |cons p R ih=>
  intro h;have h:(match ak p.1 k with|true=>true|false=>di k R)=true:=h;show(match ak p.1 k with|true=>some (AV.int p.2)|false=>cy k (dR R))=some (.int ((match ak p.1 k with|true=>p.2|false=>jh k R:Nat):Int));cases e:ak p.1 k with
  |true=>rfl
  |false=>rw[e] at h;exact ih h
variable {b:List (Ky×Nat)}
def RY:∀l:List (Ky×Nat),(∀p∈l,di p.1 b=true/\jh p.1 b=p.2)->sR (l.map λp:Ky×Nat=>(p.1,AV.int p.2)) (dR b)=some true:=by
 intro l
 induction l with
 |nil=>intro _;rfl
 |cons p l ih=>
  intro h;obtain⟨h1,h2⟩:=h p bA;show(match cy p.1 (dR b) with
   |some v=>((AV.int p.2).int?).bind λi=>(v.int?).bind λj=>(sR (l.map λp:Ky×Nat=>(p.1,AV.int p.2)) (dR b)).map λc=>dQ i j&&c
   |none=>some false)=_
  rw[WS p.1 h1,h2];show(sR (l.map λp:Ky×Nat=>(p.1,AV.int p.2)) (dR b)).map (λc=>Nat.beq p.2 p.2&&c)=_;rw[fV,ih λq hq=>h q (bS _ hq)];rfl
variable {a:List (Ky×Nat)}
def aan(h:nC a b=true):yE (eH a) (dR b)=some true:=by
 have h:(match Nat.beq a.length b.length with|true=>zy a b|false=>false)=true:=h;cases e:Nat.beq a.length b.length with
 |false=>rw[e] at h;exact nomatch h
 |true=>
  rw[e] at h;have hl:Nat.beq (eH a).length (dR b).length=true:=by unfold eH dR;rw[aJ,ig,aJ];exact e
  unfold yE;rw[hl];refine RY a.reverse λp hp=>?_;have hp:=wy.mp hp;have h:(!(ke (λp=>match di p.1 b with|true=>!(Nat.beq (jh p.1 b) p.2)|false=>true) a))=true:=h;rw[Fp] at h;have h:=(Bool.not_eq_true' _).mp h;have:=(List.any_eq_false.mp h) p hp;cases h1:di p.1 b with
  |false=>rw[h1] at this;exact absurd rfl this
  |true=>
   rw[h1] at this;cases h2:Nat.beq (jh p.1 b) p.2 with
   |true=>exact⟨rfl,bV h2⟩
   |false=>exact absurd (by show(!(Nat.beq (jh p.1 b) p.2))=true;rw[h2];rfl) this
def VU{n m ep EN:Nat}(h1:ae H n=some (.dict ep (eH a)))(h2:ae H m=some (.dict EN (dR b)))(h:nC a b=true):fQ .NotEq (.ref n) (.ref m) H=some false:=by
 have e1:∀{n ep l},ae H n=some (.dict ep l)->ql H (.ref n)=some l:=λ{n ep l} h=>by show(cD H n).map (·.2)=_;rw[kc h];rfl
 show(gK (.ref n) (.ref m) H).map (!·)=_;unfold gK;rw[e1 h1];show((ql H (.ref m)).bind λb=>yE (eH a) b).map (!·)=_;rw[e1 h2];show(yE (eH a) (dR b)).map (!·)=_;rw[aan h];rfl
def aar:∀{l m:List Ky},oQ l m=true->l=m:=by
 intro l
 induction l with
 |nil=>intro m h;cases m with
  |nil=>rfl
  |cons _ _=>exact nomatch h
 |cons a l ih=>
  intro m h;cases m with
  |nil=>exact nomatch h
  |cons b m=>
   have h:(match ak a b with|true=>oQ l m|false=>false)=true:=h;cases e:ak a b with
   |false=>rw[e] at h;exact nomatch h
   |true=>rw[e] at h;rw[g7 e,ih h]
end
end
section
section
variable {P:bP}{d:Nat}{U ρ1 ρ2:aC}{H H1 H2:Hp}{a b c:C}{p:Pos}{v:AV}
def TA{t:Bool}{ρ3:aC}{H3:Hp}(h1:RT P d true a U H false ρ1 H1)(h2:RT P d true b ρ1 H1 false ρ2 H2)(h3:RT P d true c ρ2 H2 t ρ3 H3):RT P d true (.fx false (.cons a (.cons b (.cons c .nil))) p) U H t ρ3 H3:=by refine .step (.bind h1 (.bind h2 (.bind h3 ?_)));cases t<;>exact .ret
def Ue(h1:RE P d true a U H v ρ1 H1)(h:gQ v H1=some true){w:AV}(h2:RE P d true b ρ1 H1 w ρ2 H2):RE P d true (.fx true (.cons a (.cons b .nil)) p) U H w ρ2 H2:=.step (.bind h1 (.bind (.rd h) h2))
end
def vg{H H':Hp}{n:Nat}{o:AO}(l:ba H.length H H')(h:ae H n=some o):ae H' n=some o:=(l.low n (bk h)).trans h
def Dm(l:List Nat):(bR l).take 1=bR (gW l):=by unfold bR gW;rw[List.map_take]
def Xl{a b c:Ky}(h:j5 a b c=true):∃F o S fr,pP a b c=some F/\kG F.1.reverse F.2.1.reverse=some o/\j0 [a,b,c] 100 [(a,b),(a,c),(b,c)] [] [([],0)] [] 0 0=some S/\iw F.2.1.reverse 100 (cJ (·.1) F.1.reverse) []=some fr/\nC F.1 S.1=true/\gW F.2.2.reverse=gW S.2.1/\o.1=S.2.2.1/\o.2.1=fr/\(o.1=true\/o.2.2=S.2.2.2):=by
 unfold j5 at h;cases e1:pP a b c with
 |none=>rw[e1] at h;exact nomatch h
 |some F=>
 rw[e1] at h;have h:(match kG (dq F.1 []) (dq F.2.1 []) with
  |none=>false
  |some o=>match j0 [a,b,c] 100 [(a,b),(a,c),(b,c)] [] [([],0)] [] 0 0 with
   |none=>false
   |some S=>match iw (dq F.2.1 []) 100 (cJ (·.1) (dq F.1 [])) [] with
    |none=>false
    |some fr=>nC F.1 S.1&&(ak (gW (dq F.2.2 [])) (gW S.2.1)&&(vM o.1 S.2.2.1&&(oQ o.2.1 fr&&(o.1||Nat.beq o.2.2 S.2.2.2)))))=true:=h
 rw[xo,xo,xo] at h;cases e2:kG F.1.reverse F.2.1.reverse with
 |none=>rw[e2] at h;exact nomatch h
 |some o=>
 rw[e2] at h;cases e3:j0 [a,b,c] 100 [(a,b),(a,c),(b,c)] [] [([],0)] [] 0 0 with
 |none=>rw[e3] at h;exact nomatch h
 |some S=>
 rw[e3] at h;cases e4:iw F.2.1.reverse 100 (cJ (·.1) F.1.reverse) [] with
 |none=>rw[e4] at h;exact nomatch h
 |some fr=>
 rw[e4] at h;have h:(nC F.1 S.1&&(ak (gW F.2.2.reverse) (gW S.2.1)&&(vM o.1 S.2.2.1&&(oQ o.2.1 fr&&(o.1||Nat.beq o.2.2 S.2.2.2)))))=true:=h;refine QT h λa1 a2 a3 a4 a5=>?_;refine⟨F,o,S,fr,rfl,e2,rfl,e4,a1,g7 a2,?_,aar a4,?_⟩
 ·generalize o.1=x at a3;generalize S.2.2.1=y at a3;cases x<;>cases y<;>first|rfl|exact nomatch a3
 ·cases ho:o.1 with
  |true=>exact .inl rfl
  |false=>rw[ho] at a5;exact .inr (bV a5)
def UE{d:Nat}(s:List Int)(H:Hp)(G:∀f b c e,∃x y z,ri f b c e=some [x,y,z]/\j5 x y z=true):∃H',RC P (d+6) (.glob 0) [.lst (s.map .int)] H (.bool true) H':=by
 obtain⟨H1,vs,f,i,j,k,R,r1,j4,n1,IB,eR⟩:=Ut (d:=d+4) (H:=H) s λf b c e=>by obtain⟨x,y,z,h,_⟩:=G f b c e;exact⟨_,h⟩
 obtain⟨x,y,z,e,hT⟩:=G f i j k;rw[eR] at e;obtain rfl:=sj e;obtain⟨wd,h3⟩:=TM eR;obtain⟨F,o,S,fr,e1,e2,e3,e4,q1,q2,q3,q4,q5⟩:=Xl hT;obtain⟨Y1,r2⟩:=Ww (d:=d+4) (x0:=some (.lst (s.map .int))) (x2:=none) (x3:=none) (x4:=none) (x5:=none) (x6:=none) (x7:=none) (x8:=none) (x9:=none) (x10:=none) (x11:=none) (x12:=none) n1 IB wd h3;have w2:ae (H1++.list ([x,y,z].map .str)::Y1) H1.length=some (.list ([x,y,z].map .str)):=dY;have n2:=cb (m:=.list ([x,y,z].map .str)::Y1) n1;have Vv:=IB.mono (H':=H1++.list ([x,y,z].map .str)::Y1) λn o _ h=>cb h;generalize H1++.list ([x,y,z].map AV.str)::Y1=H2 at *;obtain⟨Y2,r3⟩:=Wx (d:=d+4) (x0:=some (.lst (s.map .int))) (x2:=some (.ref H1.length)) (x3:=none) (x4:=none) (x5:=none) (x6:=none) (x7:=none) (x8:=none) (x9:=none) (x10:=none) (x11:=none) (x12:=none) n2 Vv wd h3;have w3:=cb (m:=.list ([x,y,z].map .str)::Y2) w2;have l3:ae (H2++.list ([x,y,z].map .str)::Y2) H2.length=some (.list ([x,y,z].map .str)):=dY;generalize H2++.list ([x,y,z].map AV.str)::Y2=H3 at *;obtain⟨H4,r4,S4,z4⟩:=Us (d:=d+1) w3 (λw hw=>aM (wd w hw).2.2 (by decide)) e1;have z4:0+(F.1.length+(F.2.1.length+F.2.2.length))<3000:=z4;obtain⟨a1,a2,a3,a4,⟨ep,a5⟩,a6⟩:=S4;obtain⟨H5,r5,Dw⟩:=Uz (dd:=d) a5 a4 (by exact F5 z4) (by rw[ig];exact F4 z4) e2;have w5:=vg Dw (vg a1 w3);obtain⟨H6,rr,ep6,r6,Jf,n6⟩:=Ur (d:=d+2) w5 (λw hw e=>by have:=(wd w hw).2.1;rw[e] at this;exact nomatch this) e3;have Nc:=vg Jf (vg Dw a5);have a4':=vg Jf (vg Dw a4);obtain⟨H7,r7,lw7⟩:=UK (d:=d+4) Nc a4' (by exact F5 z4) (by rw[ig];exact F4 z4) e4;have t1:=VU Nc n6 q1;have ed:((F.2.2.reverse).map λn:Nat=>AV.int n).take 1=(bR S.2.1).take 1:=by show(bR F.2.2.reverse).take 1=_;rw[Dm,Dm,q2]
 have t2:fQ .NotEq (.lst (((F.2.2.reverse).map λn:Nat=>AV.int n).take 1)) (.lst ((bR S.2.1).take 1)) H6=some false:=by show(gK (.lst (((F.2.2.reverse).map λn:Nat=>AV.int n).take 1)) (.lst ((bR S.2.1).take 1)) H6).map (!·)=_;rw[ed,Dm,LP (l:=bR (gW S.2.1)) (H:=H6) (ET 2 (gW S.2.1)) (Iy 2 (gW S.2.1)) (aal _)];rfl
 have t3:fQ .NotEq (.bool o.1) (.bool S.2.2.1) H6=some false:=by show(gK (.bool o.1) (.bool S.2.2.1) H6).map (!·)=_;rw[q3,aak];rfl
 have t4:fQ .Eq (.lst (o.2.1.map .str)) (.lst (fr.map .str)) H7=some true:=by show gK (.lst (o.2.1.map .str)) (.lst (fr.map .str)) H7=_;rw[q4,LP (yF 2 fr) (xE 2 fr) (LR _)]
 let ρe:aC:=oD (some (.lst (s.map .int))) (some (.ref H.length)) (some (.ref H1.length)) (some (.ref (H3.length+2))) (some (.ref (H3.length+1))) (some (.lst (((F.2.2.reverse).map λn:Nat=>AV.int n).take 1))) (some (.bool o.1)) (some (.lst (o.2.1.map .str))) (some (.int (o.2.2:Nat))) (some (.ref rr)) (some (.lst ((bR S.2.1).take 1))) (some (.bool S.2.2.1)) (some (.int (S.2.2.2:Nat))) none none
 have last:∀p1 p2 p3 p4 p5,RE P (d+5) true (.fx false (.cons (.var "ring" 6 p1) (.cons (.cmp .Eq (.var "greatest" 8 p2) (.var "deepest" 12 p3) p4) .nil)) p5) ρe H7 (.bool true) ρe H7:=λp1 p2 p3 p4 p5=>by
  rcases q5 with q5|q5
  ·exact CV (af (show some (some (AV.bool o.1))=_ by rw[q5])) rfl
  ·cases ho:o.1 with
   |true=>exact CV (af (show some (some (AV.bool o.1))=_ by rw[ho])) rfl
   |false=>exact HY (af (show some (some (AV.bool o.1))=_ by rw[ho])) rfl (zZ (af rfl) (af rfl) (by show(fQ .Eq (.int o.2.2) (.int S.2.2.2) H7).map AV.bool=_;rw[q5,aaj];rfl))
 refine⟨H7,eT (fd:=f0) (fl:=.ret (.bool true)) (ρ1:=oD (some (.lst (s.map .int))) none none none none none none none none none none none none none none) rfl rfl ⟨ρe,?_⟩ rfl⟩;refine aj (bC (bO (bL rfl) rfl (aB rfl (af rfl) aE) r1) (λO=>rfl) rfl rfl) ?_;refine aj (rh r2 rfl rfl) ?_;refine aj (bM (t:=false) (bH (af rfl) (uV r3) (VS w3 l3)) aO) ?_;refine aj (uS (bO (bL rfl) rfl (aB rfl (af rfl) aE) r4) (λO=>rfl) rfl) ?_;refine aj (uS (bO (bL rfl) rfl (aB rfl (af rfl) (aB rfl (af rfl) aE)) r5) (λO=>rfl) rfl) ?_;refine aj (uS (bO (bL rfl) rfl (aB rfl (af rfl) aE) r6) (λO=>rfl) rfl) ?_;refine aj (bM (t:=false) (TA (bH (af rfl) (af rfl) t1) (bH (af rfl) (af rfl) t2) (bH (af rfl) (af rfl) t3)) aO) ?_;exact cK (fX (Ue (zZ (af rfl) (bO (bL rfl) rfl (aB rfl (af rfl) (aB rfl (af rfl) aE)) r7) (by rw[show BA .Eq _ _ H7=(fQ .Eq _ _ H7).map AV.bool from rfl,t4];rfl)) rfl (last ..)) λO=>rfl) nofun
end
section
def aK(J:Nat->Nat):Prop:=∀a b,a<b->J a<J b
section
variable {J:Nat->Nat}
def aK.inj(h:aK J){a b:Nat}(e:J a=J b):a=b:=by
 rcases Nat.lt_trichotomy a b with q|q|q
 ·exact absurd e (dU (h _ _ q))
 ·exact q
 ·exact absurd e (dM (h _ _ q))
def aK.beq(h:aK J)(a b:Nat):Nat.beq (J a) (J b)=Nat.beq a b:=by
 cases e:Nat.beq a b with
 |true=>rw[bV e,fV]
 |false=>
  cases e2:Nat.beq (J a) (J b) with
  |false=>rfl
  |true=>rw[h.inj (bV e2),fV] at e;cases e
def aK.blt(h:aK J)(a b:Nat):Nat.blt (J a) (J b)=Nat.blt a b:=by
 cases e:Nat.blt a b with
 |true=>exact bG.mpr (h _ _ (bG.mp e))
 |false=>
  cases e2:Nat.blt (J a) (J b) with
  |false=>rfl
  |true=>
   have h2:=bG.mp e2;rcases Nat.lt_trichotomy a b with q|q|q
   ·rw[bG.mpr q] at e;cases e
   ·rw[q] at h2;exact absurd h2 (jQ _)
   ·exact absurd (nP h2 (h _ _ q)) (jQ _)
def aK.jm(h:aK J):∀a b:Ky,Mine.ak (a.map J) (b.map J)=Mine.ak a b
 |[],[]=>rfl
 |[],_::_=>rfl
 |_::_,[]=>rfl
 |x::a,y::b=>by
  show(match Nat.beq (J x) (J y) with|true=>Mine.ak (a.map J) (b.map J)|false=>false)=match Nat.beq x y with|true=>Mine.ak a b|false=>false
  rw[h.beq,h.jm a b]
def aK.tB(h:aK J):∀a b:Ky,Mine.bu (a.map J) (b.map J)=Mine.bu a b
 |[],[]=>rfl
 |[],_::_=>rfl
 |_::_,[]=>rfl
 |x::a,y::b=>by
  show(match Nat.beq (J x) (J y) with|true=>Mine.bu (a.map J) (b.map J)|false=>Nat.blt (J x) (J y))=match Nat.beq x y with|true=>Mine.bu a b|false=>Nat.blt x y
  rw[h.beq,h.blt,h.tB a b]
end
section
variable {α β γ:Type}{f:α->β}
variable {p:β->Bool}{q:α->Bool}
def fm(h:∀a,p (f a)=q a)(l:List α):(l.map f).filter p=(l.filter q).map f:=by rw[sE,show p∘f=q from funext h]
def aeg(h:∀a,p (f a)=q a)(l:List α):(l.map f).any p=l.any q:=by rw[List.any_map,show p∘f=q from funext h]
def aej(h:∀a,p (f a)=q a)(l:List α):(l.map f).all p=l.all q:=by rw[List.all_map,show p∘f=q from funext h]
def Wn{δ:Type}{g:β->γ}{g':α->δ}{k:δ->γ}(h:∀a,g (f a)=k (g' a))(l:List α):(l.map f).map g=(l.map g').map k:=by rw[cI,cI];exact i6 λa O=>h a
def ZU{σ τ:Type}{F:τ->β->τ}{G:σ->α->σ}{g:σ->τ}(h:∀s a,F (g s) (f a)=g (G s a)):∀(l:List α) (s:σ),(l.map f).foldl F (g s)=g (l.foldl G s):=by
 intro l
 induction l with
 |nil=>intro s;exact rfl
 |cons a l ih=>intro s;show(l.map f).foldl F (F (g s) (f a))=g (l.foldl G (G s a));rw[h,ih]
end
section
variable {J:Nat->Nat}
noncomputable def mi(J:Nat->Nat)(x:aT):aT:=(x.1,x.2.map J)
noncomputable def ma(J:Nat->Nat)(t:Ad):Ad:=(t.1.map J,t.2.1,t.2.2.map (List.map J))
noncomputable def ml(J:Nat->Nat)(l:bT):bT:=(l.1.map J,l.2.1,l.2.2.1.map J,l.2.2.2)
noncomputable def mr(J:Nat->Nat)(p:Ky×Nat):Ky×Nat:=(p.1.map J,p.2)
noncomputable def mp(J:Nat->Nat)(p:Pr):Pr:=(p.1.map J,p.2.map J)
def aK.Jl(h:aK J)(a b:aT):Mine.fZ (mi J a) (mi J b)=Mine.fZ a b:=by show(match dQ a.1 b.1 with|true=>(match Mine.ak (a.2.map J) (b.2.map J) with|true=>false|false=>Mine.bu (a.2.map J) (b.2.map J))|false=>gb a.1 b.1)=_;rw[h.jm,h.tB];rfl
def aK.HB(h:aK J)(x:aT):∀(n:Nat) (l:List aT) (p:Nat),Mine.iM (mi J x) n (l.map (mi J)) p=(Mine.iM x n l p).map (mi J):=by
 intro n
 induction n with
 |zero=>exact λl p=>lh _
 |succ n ih=>
  intro l p;cases p with
  |zero=>exact lh _
  |succ p=>
  show(match ae (l.map (mi J)) (p/2) with|none=>ai (l.map (mi J)) (mi J x) (p+1)|some y=>match Mine.fZ (mi J x) y with|true=>Mine.iM (mi J x) n (ai (l.map (mi J)) y (p+1)) (p/2)|false=>ai (l.map (mi J)) (mi J x) (p+1))=
   (match ae l (p/2) with|none=>ai l x (p+1)|some y=>match Mine.fZ x y with|true=>Mine.iM x n (ai l y (p+1)) (p/2)|false=>ai l x (p+1)).map (mi J)
  rw[ip];cases ae l (p/2) with
  |none=>exact lh _
  |some y=>show(match Mine.fZ (mi J x) (mi J y) with|true=>Mine.iM (mi J x) n (ai (l.map (mi J)) (mi J y) (p+1)) (p/2)|false=>ai (l.map (mi J)) (mi J x) (p+1))=(match Mine.fZ x y with|true=>Mine.iM x n (ai l y (p+1)) (p/2)|false=>ai l x (p+1)).map (mi J);rw[h.Jl,lh,lh,ih];cases Mine.fZ x y<;>rfl
def aK.Yz(h:aK J)(x:aT)(l:List aT):Mine.oJ (mi J x) (l.map (mi J))=(Mine.oJ x l).map (mi J):=by unfold Mine.oJ;rw[aJ,<- h.HB,eB];rfl
def aK.chd(h:aK J)(l:List aT)(c:Nat):Mine.gj (l.map (mi J)) c=Mine.gj l c:=by
 unfold Mine.gj;rw[aJ,ip,ip];cases Nat.blt (c+1) l.length with
 |false=>rfl
 |true=>
  cases ae l c with
  |none=>rfl
  |some a=>
   cases ae l (c+1) with
   |none=>rfl
   |some b=>show(match Mine.fZ (mi J a) (mi J b) with|true=>c|false=>c+1)=_;rw[h.Jl];try rfl
def aK.sup(h:aK J):∀(n:Nat) (l:List aT) (p:Nat),Mine.gq n (l.map (mi J)) p=((Mine.gq n l p).1.map (mi J),(Mine.gq n l p).2):=by
 intro n
 induction n with
 |zero=>intro l p;exact rfl
 |succ n ih=>
  intro l p;show(match Nat.blt (2*p+1) (l.map (mi J)).length with|false=>(l.map (mi J),p)|true=>match ae (l.map (mi J)) (Mine.gj (l.map (mi J)) (2*p+1)) with|some y=>Mine.gq n (ai (l.map (mi J)) y p) (Mine.gj (l.map (mi J)) (2*p+1))|none=>(l.map (mi J),p))=(λq:List aT×Nat=>(q.1.map (mi J),q.2)) (match Nat.blt (2*p+1) l.length with|false=>(l,p)|true=>match ae l (Mine.gj l (2*p+1)) with|some y=>Mine.gq n (ai l y p) (Mine.gj l (2*p+1))|none=>(l,p));rw[aJ,h.chd,ip];cases Nat.blt (2*p+1) l.length with
  |false=>rfl
  |true=>
   cases ae l (Mine.gj l (2*p+1)) with
   |none=>rfl
   |some y=>show Mine.gq n (ai (l.map (mi J)) (mi J y) p) (Mine.gj l (2*p+1))=_;rw[lh,ih]
def aK.SK(h:aK J)(x:aT)(l:List aT):Mine.og (mi J x) (l.map (mi J))=(Mine.og x l).map (mi J):=by unfold Mine.og;rw[aJ,h.sup];show Mine.iM (mi J x) _ (ai ((Mine.gq l.length l 0).1.map (mi J)) (mi J x) _) _=_;rw[lh,h.HB]
def mh(J:Nat->Nat)(q:aT×List aT):aT×List aT:=(mi J q.1,q.2.map (mi J))
def aK.YD(h:aK J)(l:List aT)(x:aT):Mine.gy (l.map (mi J)) (mi J x)=mh J (Mine.gy l x):=by
 cases l with
 |nil=>rfl
 |cons y r=>show(mi J y,Mine.og (mi J x) (ai ((y::r).map (mi J)) (mi J x) 0))=(mi J y,(Mine.og x (ai (y::r) x 0)).map (mi J));rw[lh,h.SK]
def aK.vc(h:aK J)(k:Ky):∀l:List Ky,Mine.aU (k.map J) (l.map (List.map J))=Mine.aU k l:=by
 intro l
 induction l with
 |nil=>exact rfl
 |cons x l ih=>show(match Mine.ak (x.map J) (k.map J) with|true=>true|false=>Mine.aU (k.map J) (l.map (List.map J)))=_;rw[h.jm,ih];rfl
end
section
variable {α β γ:Type}{f:α->β}
def xO{δ:Type}{g:β->γ}{g':α->δ}{k:δ->γ}(h:∀a,g (f a)=k (g' a))(l:List α):cJ g (l.map f)=(cJ g' l).map k:=by rw[nc,nc,Wn h]
variable {p:β->Bool}{q:α->Bool}
def yz(h:∀a,p (f a)=q a)(l:List α):d9 p (l.map f)=(d9 q l).map f:=by rw[nA,nA,fm h]
def M0(h:∀a,p (f a)=q a)(l:List α):ke p (l.map f)=ke q l:=by rw[Fp,Fp,aeg h]
def M3(h:∀a,p (f a)=q a)(l:List α):gL p (l.map f)=gL q l:=by rw[tY,tY,aej h]
def qj{σ τ:Type}{F:τ->β->τ}{G:σ->α->σ}{g:σ->τ}(h:∀s a,F (g s) (f a)=g (G s a))(l:List α)(s:σ):bI F (l.map f) (g s)=g (bI G l s):=by rw[Lu,Lu,ZU h]
def qp(l m:List α):bj (l.map f) (m.map f)=(bj l m).map f:=by rw[fR,fR,eB]
def HV(l:List α):dq (l.map f) []=(dq l []).map f:=by rw[xo,xo,List.map_reverse]
end
section
variable {J:Nat->Nat}
def AM(a:Ky):fc (a.map J)=fc a:=by cases a<;>rfl
def aK.DG(h:aK J)(o:Ky):∀(a b:Ky) (g:Nat),Mine.bw (o.map J) (a.map J) (b.map J) g=ml J (Mine.bw o a b g):=by
 intro a
 induction a with
 |nil=>intro b g;exact rfl
 |cons x a ih=>
  intro b g;cases b with
  |nil=>rfl
  |cons y b=>show(match Nat.beq (J x) (J y) with|true=>Mine.bw (o.map J) (a.map J) (b.map J) (g+1)|false=>(o.map J,g,[],false))=ml J (match Nat.beq x y with|true=>Mine.bw o a b (g+1)|false=>(o,g,[],false));rw[h.beq,ih];cases Nat.beq x y<;>rfl
def WI:∀(r:List aT) (x:aT),gE (mi J x) (r.map (mi J))=mi J (gE x r):=by
 intro r
 induction r with
 |nil=>intro x;exact rfl
 |cons y r ih=>exact λO=>ih y
def Yc:∀(r:List aT) (x:aT),gh (mi J x) (r.map (mi J))=(gh x r).map (mi J):=by
 intro r
 induction r with
 |nil=>intro x;exact rfl
 |cons y r ih=>exact λx=>congrArg (mi J x::·) (ih y)
def aK.Af(h:aK J)(b:Nat)(l:bT)(q:List aT):Mine.ck b (ml J l) (q.map (mi J))=(Mine.ck b l q).map (mi J):=by show(match l.2.2.2 with|true=>Mine.oJ (mi J (((b+l.2.1:Nat):Int),l.2.2.1)) (q.map (mi J))|false=>q.map (mi J))=(match l.2.2.2 with|true=>Mine.oJ (((b+l.2.1:Nat):Int),l.2.2.1) q|false=>q).map (mi J);rw[h.Yz];cases l.2.2.2<;>rfl
def aK.Er(h:aK J)(k:Ky):∀R:List (Ky×Nat),Mine.di (k.map J) (R.map (mr J))=Mine.di k R:=by
 intro R
 induction R with
 |nil=>exact rfl
 |cons p R ih=>show(match Mine.ak (p.1.map J) (k.map J) with|true=>true|false=>Mine.di (k.map J) (R.map (mr J)))=_;rw[h.jm,ih];rfl
def aK.Jw(h:aK J)(k:Ky):∀R:List (Ky×Nat),Mine.jh (k.map J) (R.map (mr J))=Mine.jh k R:=by
 intro R
 induction R with
 |nil=>exact rfl
 |cons p R ih=>show(match Mine.ak (p.1.map J) (k.map J) with|true=>p.2|false=>Mine.jh (k.map J) (R.map (mr J)))=_;rw[h.jm,ih];rfl
def mL(J:Nat->Nat)(p:List aT×List bT):List aT×List bT:=(p.1.map (mi J),p.2.map (ml J))
def aK.Xa(h:aK J)(r:Ky)(n:Nat):∀(ws:List Ky) (q:List aT) (L:List bT),Mine.fC (r.map J) n (ws.map (List.map J)) (q.map (mi J)) (L.map (ml J))=mL J (Mine.fC r n ws q L):=by
 intro ws
 induction ws with
 |nil=>intro q L;exact rfl
 |cons w ws ih=>intro q L;show Mine.fC (r.map J) n (ws.map (List.map J)) (Mine.ck n (Mine.bw (r.map J) (r.map J) (w.map J) 0) (q.map (mi J))) (Mine.bw (r.map J) (r.map J) (w.map J) 0::L.map (ml J))=_;rw[h.DG,h.Af];exact ih _ (_::L)
def aK.U8(h:aK J)(q:List aT):Mine.xC (q.map (mi J))=(Mine.xC q).map (mh J):=by
 cases q with
 |nil=>rfl
 |cons x r=>show some (Mine.gy (gh (mi J x) (r.map (mi J))) (gE (mi J x) (r.map (mi J))))=some (mh J (Mine.gy (gh x r) (gE x r)));rw[Yc,WI,h.YD]
def mF(J:Nat->Nat)(F:fU):fU:=(F.1.map (mr J),F.2.1.map (ml J),F.2.2)
def zG(ws:List Ky)(ih:List aT->fU->Option fU)(F:fU)(n:Nat)(k:Ky)(r:List aT):Option fU:=match fc k with
 |true=>ih r (F.1,F.2.1,n::F.2.2)
 |false=>match Mine.di k F.1 with
  |true=>ih r F
  |false=>match Nat.blt k.length 40 with
   |false=>none
   |true=>ih (Mine.fC k n ws r F.2.1).1 ((k,n)::F.1,(Mine.fC k n ws r F.2.1).2,F.2.2)
def Hc(ws:List Ky)(m:Nat)(q:List aT)(F:fU):iL ws (m+1) q F=match Mine.xC q with
 |none=>some F
 |some y=>match y.1.1 with
  |.negSucc _=>none
  |.ofNat n=>zG ws (iL ws m) F n y.1.2 y.2:=rfl
def aK.Sk(h:aK J)(ws:List Ky):∀(m:Nat) (q:List aT) (F:fU),Mine.iL (ws.map (List.map J)) m (q.map (mi J)) (mF J F)=(Mine.iL ws m q F).map (mF J):=by
 intro m
 induction m with
 |zero=>intro q F;exact rfl
 |succ m ih=>
  intro q F;rw[Hc,Hc,h.U8];cases Mine.xC q with
  |none=>rfl
  |some y=>
   obtain⟨⟨i,k⟩,r⟩:=y;cases i with
   |negSucc n=>rfl
   |ofNat n=>
    show zG (ws.map (List.map J)) (Mine.iL (ws.map (List.map J)) m) (mF J F) n (k.map J) (r.map (mi J))=(zG ws (Mine.iL ws m) F n k r).map (mF J);unfold zG;show(match fc (k.map J) with
     |true=>_
     |false=>match Mine.di (k.map J) (F.1.map (mr J)) with
      |true=>_
      |false=>match Nat.blt (k.map J).length 40 with
       |false=>none
       |true=>Mine.iL (ws.map (List.map J)) m (Mine.fC (k.map J) n (ws.map (List.map J)) (r.map (mi J)) (F.2.1.map (ml J))).1 ((k.map J,n)::F.1.map (mr J),(Mine.fC (k.map J) n (ws.map (List.map J)) (r.map (mi J)) (F.2.1.map (ml J))).2,F.2.2))=_
    rw[AM,h.Er,aJ,h.Xa];cases fc k with
    |true=>exact ih r (F.1,F.2.1,n::F.2.2)
    |false=>
     cases Mine.di k F.1 with
     |true=>exact ih r F
     |false=>
      cases Nat.blt k.length 40 with
      |false=>rfl
      |true=>exact ih _ ((k,n)::F.1,_,F.2.2)
def aK.Sa(h:aK J)(a b c:Ky):Mine.zC (a.map J) (b.map J) (c.map J)=(Mine.zC a b c).map (ml J):=by have q:=h.DG [];show[Mine.bw (List.map J []) (b.map J) (c.map J) 0,Mine.bw (List.map J []) (a.map J) (c.map J) 0,Mine.bw (List.map J []) (a.map J) (b.map J) 0]=_;rw[q,q,q];rfl
def aK.search(h:aK J)(a b c:Ky):Mine.pP (a.map J) (b.map J) (c.map J)=(Mine.pP a b c).map (mF J):=by
 have q:=h.DG [];have e:Mine.ck 0 (Mine.bw [] (b.map J) (c.map J) 0) (Mine.ck 0 (Mine.bw [] (a.map J) (c.map J) 0) (Mine.ck 0 (Mine.bw [] (a.map J) (b.map J) 0) []))=(Mine.ck 0 (Mine.bw [] b c 0) (Mine.ck 0 (Mine.bw [] a c 0) (Mine.ck 0 (Mine.bw [] a b 0) []))).map (mi J):=by show Mine.ck 0 (Mine.bw (List.map J []) (b.map J) (c.map J) 0) (Mine.ck 0 (Mine.bw (List.map J []) (a.map J) (c.map J) 0) (Mine.ck 0 (Mine.bw (List.map J []) (a.map J) (b.map J) 0) (List.map (mi J) [])))=_;rw[q,q,q,h.Af,h.Af,h.Af]
 unfold Mine.pP;rw[e,h.Sa];exact h.Sk [a,b,c] 100 _ ([([],0)],Mine.zC a b c,[])
end
end
section
section
variable {J:Nat->Nat}
def aK.Et(h:aK J)(k:Ky):∀g:List Ad,Mine.gX (k.map J) (g.map (ma J))=Mine.gX k g:=by
 intro g
 induction g with
 |nil=>exact rfl
 |cons p g ih=>show(match Mine.ak (p.1.map J) (k.map J) with|true=>true|false=>Mine.gX (k.map J) (g.map (ma J)))=_;rw[h.jm,ih];rfl
def aK.DK(h:aK J)(g:List Ad)(k:Ky):Mine.jJ (g.map (ma J)) (k.map J)=(Mine.jJ g k).map (ma J):=by
 unfold Mine.jJ;rw[h.Et];cases Mine.gX k g with
 |true=>rfl
 |false=>exact qp (f:=ma J) g [(k,0,[])]
def aK.Ap(h:aK J)(g:List Ad)(k:Ky)(f:Int->Int):Mine.gS (g.map (ma J)) (k.map J) f=(Mine.gS g k f).map (ma J):=xO (λt=>by show(match Mine.ak (t.1.map J) (k.map J) with|true=>(t.1.map J,f t.2.1,t.2.2.map (List.map J))|false=>ma J t)=ma J (match Mine.ak t.1 k with|true=>(t.1,f t.2.1,t.2.2)|false=>t);rw[h.jm];cases Mine.ak t.1 k<;>rfl) g
def aK.R5(h:aK J)(g:List Ad)(k x:Ky):Mine.uM (g.map (ma J)) (k.map J) (x.map J)=(Mine.uM g k x).map (ma J):=xO (λt=>by show(match Mine.ak (t.1.map J) (k.map J) with|true=>(t.1.map J,t.2.1,bj (t.2.2.map (List.map J)) ([x].map (List.map J)))|false=>ma J t)=ma J (match Mine.ak t.1 k with|true=>(t.1,t.2.1,bj t.2.2 [x])|false=>t);rw[h.jm,qp];cases Mine.ak t.1 k<;>rfl) g
def aK.aeq(h:aK J)(g:List Ad)(l:bT):Mine.qr (g.map (ma J)) (ml J l)=(Mine.qr g l).map (ma J):=by show(match fc (l.2.2.1.map J) with|true=>g.map (ma J)|false=>Mine.uM (Mine.jJ (Mine.gS (Mine.jJ (g.map (ma J)) (l.2.2.1.map J)) (l.2.2.1.map J) λn=>n+1) (l.1.map J)) (l.1.map J) (l.2.2.1.map J))=_;rw[AM,h.DK,h.Ap,h.DK,h.R5];unfold Mine.qr;cases fc l.2.2.1<;>rfl
def aK.Zn(h:aK J)(R:List (Ky×Nat))(L:List bT):Mine.nz (R.map (mr J)) (L.map (ml J))=(Mine.nz R L).map (ma J):=by unfold Mine.nz;rw[show bI (λg p=>Mine.jJ g p.1) (R.map (mr J)) []=(bI (λg p=>Mine.jJ g p.1) R []).map (ma J) from qj (g:=List.map (ma J)) (λs p=>h.DK s p.1) R []];exact qj (g:=List.map (ma J)) (λs c=>h.aeq s c) L _
def aK.Xn(h:aK J)(bq:List (Ky×Nat))(l:bT):Mine.gf (bq.map (mr J)) (ml J l)=Mine.gf bq l:=congrArg (·+l.2.1) (h.Jw l.1 bq)
def Wo{α β γ:Type}{f:α->β}{p:β->γ}{q:α->γ}(h:∀a,p (f a)=q a)(l:List α):cJ p (l.map f)=cJ q l:=by rw[xO (g':=q) (k:=id) h,List.map_id]
def aK.JD(h:aK J)(bq:List (Ky×Nat))(L:List bT):cJ (Mine.gf (bq.map (mr J))) (L.map (ml J))=cJ (Mine.gf bq) L:=Wo (λl=>h.Xn bq l) L
def aK.J1(h:aK J)(x:Ky)(l:bT):Mine.kL (x.map J) (ml J l)=Mine.kL x l:=by show(match Mine.ak (l.2.2.1.map J) (x.map J) with|true=>!fc (l.2.2.1.map J)|false=>false)=_;rw[h.jm,AM];rfl
def aK.Xo(h:aK J)(L:List bT)(bq:List (Ky×Nat))(x:Ky):Mine.rE (L.map (ml J)) (bq.map (mr J)) (x.map J)=(Mine.rE L bq x).map (mr J):=by unfold Mine.rE;rw[yz (f:=ml J) (λl=>h.J1 x l),h.JD];rfl
def Ug(g:List Ad):lF (g.map (ma J))=(lF g).map (List.map J):=by unfold lF;rw[yz (f:=ma J) (p:=λt:Ad=>dQ t.2.1 0) (q:=λt:Ad=>dQ t.2.1 0) (λO=>rfl)];exact xO (f:=ma J) (k:=List.map J) (λO=>rfl) _
def aK.RU(h:aK J)(k:Ky):∀g:List Ad,Mine.fL (g.map (ma J)) (k.map J)=(Mine.fL g k).map (List.map J):=by
 intro g
 induction g with
 |nil=>exact rfl
 |cons p g ih=>show(match Mine.ak (p.1.map J) (k.map J) with|true=>p.2.2.map (List.map J)|false=>Mine.fL (g.map (ma J)) (k.map J))=(match Mine.ak p.1 k with|true=>p.2.2|false=>Mine.fL g k).map (List.map J);rw[h.jm,ih];cases Mine.ak p.1 k<;>rfl
def aK.IG(h:aK J)(k:Ky):∀g:List Ad,Mine.gT (g.map (ma J)) (k.map J)=Mine.gT g k:=by
 intro g
 induction g with
 |nil=>exact rfl
 |cons p g ih=>show(match Mine.ak (p.1.map J) (k.map J) with|true=>p.2.1|false=>Mine.gT (g.map (ma J)) (k.map J))=_;rw[h.jm,ih];rfl
def mg(J:Nat->Nat)(q:List Ad×List Ky):List Ad×List Ky:=(q.1.map (ma J),q.2.map (List.map J))
def aK.abh(h:aK J)(q:List Ad×List Ky)(y:Ky):Mine.kN (mg J q) (y.map J)=mg J (Mine.kN q y):=by show(Mine.gS (q.1.map (ma J)) (y.map J) (λO=>Mine.gT (q.1.map (ma J)) (y.map J)-1),match dQ (Mine.gT (q.1.map (ma J)) (y.map J)-1) 0 with|true=>bj (q.2.map (List.map J)) ([y].map (List.map J))|false=>q.2.map (List.map J))=((Mine.gS q.1 y λO=>Mine.gT q.1 y-1).map (ma J),(match dQ (Mine.gT q.1 y-1) 0 with|true=>bj q.2 [y]|false=>q.2).map (List.map J));rw[h.IG,h.Ap,qp];cases dQ (Mine.gT q.1 y-1) 0<;>rfl
def Ma(x:Ky)(l:List Ky)(q:List Ad×List Ky):j9 (x::l) q=match dQ (gT q.1 x) (-1)&&(gL (λy=>gX y q.1) (fL q.1 x)&&Nat.blt (q.2.length+(fL q.1 x).length) 1000) with
  |true=>j9 l (bI kN (fL q.1 x) (gS q.1 x λO=>-2,q.2))
  |false=>none:=rfl
def aK.aa3(h:aK J):∀(l:List Ky) (q:List Ad×List Ky),Mine.j9 (l.map (List.map J)) (mg J q)=(Mine.j9 l q).map (mg J):=by
 intro l
 induction l with
 |nil=>intro q;exact rfl
 |cons x l ih=>
  intro q;rw[Ma,bE,Ma];show(match dQ (Mine.gT (q.1.map (ma J)) (x.map J)) (-1)&&(gL (λy=>Mine.gX y (q.1.map (ma J))) (Mine.fL (q.1.map (ma J)) (x.map J))&&Nat.blt ((q.2.map (List.map J)).length+(Mine.fL (q.1.map (ma J)) (x.map J)).length) 1000) with
   |true=>Mine.j9 (l.map (List.map J)) (bI Mine.kN (Mine.fL (q.1.map (ma J)) (x.map J)) (Mine.gS (q.1.map (ma J)) (x.map J) (λO=>-2),q.2.map (List.map J)))
   |false=>none)=_
  have e:bI Mine.kN ((Mine.fL q.1 x).map (List.map J)) ((Mine.gS q.1 x λO=>-2).map (ma J),q.2.map (List.map J))=mg J (bI Mine.kN (Mine.fL q.1 x) (Mine.gS q.1 x λO=>-2,q.2)):=qj (g:=mg J) (λs y=>h.abh s y) _ (Mine.gS q.1 x λO=>-2,q.2);rw[h.IG,h.RU,M3 (f:=List.map J) (λy=>h.Et y q.1),aJ,aJ,h.Ap,e,ih];cases dQ (Mine.gT q.1 x) (-1)&&(gL (λy=>Mine.gX y q.1) (Mine.fL q.1 x)&&Nat.blt (q.2.length+(Mine.fL q.1 x).length) 1000)<;>rfl
def aK.Vf(h:aK J)(g:List Ad)(l:List Ky):Mine.lG (g.map (ma J)) (l.map (List.map J))=(Mine.lG g l).map (ma J):=qj (g:=List.map (ma J)) (λs k=>h.Ap s k _) l g
def mk(J:Nat->Nat)(q:List Ky×List (Ky×Nat)):List Ky×List (Ky×Nat):=(q.1.map (List.map J),q.2.map (mr J))
def JF(L:List bT)(m:Nat)(g:List Ad)(x:Ky)(r:List Ky)(bq:List (Ky×Nat))(told:List Ky):lP L (m+1) g (x::r) bq told=match gL (λy=>gX y g) (x::r)&&Nat.blt (told.length+(x::r).length) 900 with
  |false=>none
  |true=>(j9 (x::r) (lG g (x::r),[])).bind λq=>lP L m q.1 q.2 (bI (rE L) (x::r) bq) (bj told (x::r)):=rfl
def aK.XA(h:aK J)(L:List bT):∀(m:Nat) (g:List Ad) (r:List Ky) (bq:List (Ky×Nat)) (told:List Ky),Mine.lP (L.map (ml J)) m (g.map (ma J)) (r.map (List.map J)) (bq.map (mr J)) (told.map (List.map J))=(Mine.lP L m g r bq told).map (mk J):=by
 intro m
 induction m with
 |zero=>intro g r bq told;exact rfl
 |succ m ih=>
  intro g r bq told;cases r with
  |nil=>rfl
  |cons x r=>
   rw[JF,bE,JF,<- bE];rw[M3 (f:=List.map J) (λy=>h.Et y g),aJ,aJ,h.Vf,show Mine.j9 ((x::r).map (List.map J)) ((Mine.lG g (x::r)).map (ma J),[])=_ from h.aa3 (x::r) (Mine.lG g (x::r),[]),qp];rw[qj (g:=List.map (mr J)) (λs y=>h.Xo L s y) (x::r) bq];cases gL (λy=>Mine.gX y g) (x::r)&&Nat.blt (told.length+(x::r).length) 900 with
   |false=>rfl
   |true=>
    show((Mine.j9 (x::r) (Mine.lG g (x::r),[])).map (mg J)).bind _=((Mine.j9 (x::r) (Mine.lG g (x::r),[])).bind _).map (mk J);cases Mine.j9 (x::r) (Mine.lG g (x::r),[]) with
    |none=>rfl
    |some q=>exact ih q.1 q.2 _ _
noncomputable def mf(J:Nat->Nat)(e:Fr):Fr:=(e.1.map J,e.2.map (List.map J))
def Q2:∀E:List Fr,mM (E.map (mf J))=(mM E).map λp=>(p.1.map J,p.2.map (mf J)):=by
 intro E
 induction E with
 |nil=>exact rfl
 |cons e E ih=>
  obtain⟨k,su⟩:=e;cases su with
  |nil=>exact ih
  |cons y su=>rfl
def aK.Zv(h:aK J)(k:Ky):∀g:List Ad,Mine.oN (k.map J) (g.map (ma J))=(Mine.oN k g).map (List.map (List.map J)):=by
 intro g
 induction g with
 |nil=>exact rfl
 |cons p g ih=>show(match Mine.ak (p.1.map J) (k.map J) with|true=>some (p.2.2.map (List.map J))|false=>Mine.oN (k.map J) (g.map (ma J)))=(match Mine.ak p.1 k with|true=>some p.2.2|false=>Mine.oN k g).map (List.map (List.map J));rw[h.jm,ih];cases Mine.ak p.1 k<;>rfl
noncomputable def mo(J:Nat->Nat):Option (List Ky)->Option (List Ky):=Option.map (List.map (List.map J))
def Md(g:List Ad)(m:Nat)(k:Ky)(E:List Fr)(seen:List Ky):iy g (m+1) k E seen=match Nat.blt seen.length 1000 with
 |false=>none
 |true=>match aU k seen with
  |true=>match aU k (E.map (·.1)) with|true=>some none|false=>lY (iy g m) E seen
  |false=>(oN k g).bind λsu=>lY (iy g m) ((k,su)::E) (seen++[k]):=rfl
def aK.abb(h:aK J)(g:List Ad):∀(m:Nat) (k:Ky) (E:List Fr) (seen:List Ky),Mine.iy (g.map (ma J)) m (k.map J) (E.map (mf J)) (seen.map (List.map J))=(Mine.iy g m k E seen).map (mo J):=by
 intro m
 induction m with
 |zero=>intro k E seen;exact rfl
 |succ m ih=>
  intro k E seen;have go:∀E seen,lY (Mine.iy (g.map (ma J)) m) (E.map (mf J)) (seen.map (List.map J))=(lY (Mine.iy g m) E seen).map (mo J):=λE seen=>by
   unfold lY;rw[Q2];cases mM E with
   |none=>rfl
   |some p=>exact ih p.1 p.2 seen
  rw[Md,Md,aJ,h.vc,go,h.Zv,show(E.map (mf J)).map (·.1)=(E.map (·.1)).map (List.map J) from by rw[cI,cI];rfl,h.vc];cases Nat.blt seen.length 1000 with
  |false=>rfl
  |true=>
   cases Mine.aU k seen with
   |true=>cases Mine.aU k (E.map (·.1))<;>rfl
   |false=>
    cases Mine.oN k g with
    |none=>rfl
    |some su=>have:=go ((k,su)::E) (seen++[k]);rw[eB] at this;exact this
def LB(g:List Ad)(p:Ad)(l:List Ad)(seen:List Ky):jl g (p::l) seen=match aU p.1 seen with
 |true=>jl g l seen
 |false=>(iy g 300 p.1 [] seen).bind λr=>match r with|none=>some true|some seen=>jl g l seen:=rfl
def aK.findF(h:aK J)(g:List Ad):∀(l:List Ad) (seen:List Ky),Mine.jl (g.map (ma J)) (l.map (ma J)) (seen.map (List.map J))=Mine.jl g l seen:=by
 intro l
 induction l with
 |nil=>intro seen;exact rfl
 |cons p l ih=>
  intro seen;rw[LB,bE,LB,ih,show(ma J p).1=p.1.map J from rfl,h.vc,show Mine.iy (g.map (ma J)) 300 (p.1.map J) [] (seen.map (List.map J))=(Mine.iy g 300 p.1 [] seen).map (mo J) from h.abb g 300 p.1 [] seen];generalize Mine.iy g 300 p.1 [] seen=o;cases Mine.aU p.1 seen with
  |true=>rfl
  |false=>
   cases o with
   |none=>exact(rfl:(none:Option Bool)=none)
   |some r=>
    cases r with
    |none=>exact(rfl:some true=some true)
    |some s=>exact ih s
end
end
section
section
variable {α β:Type}{f:α->β}{lt:β->β->Bool}{lt':α->α->Bool}
def X8(h:∀a b,lt (f a) (f b)=lt' a b)(x:α):∀l:List α,jj lt (f x) (l.map f)=(jj lt' x l).map f:=by
 intro l
 induction l with
 |nil=>exact rfl
 |cons y l ih=>show(match lt (f y) (f x) with|true=>f y::jj lt (f x) (l.map f)|false=>f x::f y::l.map f)=(match lt' y x with|true=>y::jj lt' x l|false=>x::y::l).map f;rw[h,ih];cases lt' y x<;>rfl
def Cu(h:∀a b,lt (f a) (f b)=lt' a b):∀l:List α,cC lt (l.map f)=(cC lt' l).map f:=by
 intro l
 induction l with
 |nil=>exact rfl
 |cons y l ih=>show jj lt (f y) (cC lt (l.map f))=_;rw[ih,X8 h];rfl
end
section
variable {J:Nat->Nat}
abbrev we:=Bool×List Ky×Nat
noncomputable def mO(J:Nat->Nat)(o:we):we:=(o.1,o.2.1.map (List.map J),o.2.2)
def Im(R:List (Ky×Nat))(L:List bT):kG R L=match Nat.blt (nz R L).length 1000 with
  |false=>none
  |true=>(jl (nz R L) (nz R L) []).bind λring=>(lP L 100 (nz R L) (lF (nz R L)) [] []).bind λq=>match Nat.blt q.1.length 64 with
   |false=>none
   |true=>some (ring,cC bu q.1,lN (cJ (gf q.2) L)):=rfl
def aK.Vg(h:aK J)(R:List (Ky×Nat))(L:List bT):Mine.kG (R.map (mr J)) (L.map (ml J))=(Mine.kG R L).map (mO J):=by
 rw[Im,Im,h.Zn,aJ,Ug];generalize Mine.nz R L=g;rw[show Mine.jl (g.map (ma J)) (g.map (ma J)) []=Mine.jl g g [] from h.findF g g [],show Mine.lP (L.map (ml J)) 100 (g.map (ma J)) ((lF g).map (List.map J)) [] []=(Mine.lP L 100 g (lF g) [] []).map (mk J) from h.XA L 100 g (lF g) [] []];generalize Mine.lP L 100 g (lF g) [] []=k;generalize Mine.jl g g []=r;cases Nat.blt g.length 1000 with
 |false=>rfl
 |true=>
  cases r with
  |none=>exact(rfl:(none:Option we)=none)
  |some r=>
   cases k with
   |none=>exact(rfl:(none:Option we)=none)
   |some q=>
    show(match Nat.blt (q.1.map (List.map J)).length 64 with
     |false=>none
     |true=>some (r,cC Mine.bu (q.1.map (List.map J)),lN (cJ (Mine.gf (q.2.map (mr J))) (L.map (ml J)))))=Option.map (mO J) (match Nat.blt q.1.length 64 with
     |false=>none
     |true=>some (r,cC Mine.bu q.1,lN (cJ (Mine.gf q.2) L)))
    rw[aJ,Cu h.tB,h.JD];cases Nat.blt q.1.length 64<;>rfl
def aK.Zp(h:aK J)(L:List bT)(left:List Ky):Mine.gi (L.map (ml J)) (left.map (List.map J))=(Mine.gi L left).map (List.map J):=yz (f:=List.map J) (q:=λr=>!(ke (λl=>match Mine.kL r l with|true=>Mine.aU l.1 left|false=>false) L)) (λr=>congrArg not (M0 (f:=ml J) (q:=λl=>match Mine.kL r l with|true=>Mine.aU l.1 left|false=>false) (λl=>by show(match Mine.kL (r.map J) (ml J l) with|true=>Mine.aU (l.1.map J) (left.map (List.map J))|false=>false)=_;rw[h.J1,h.vc]) L)) left
def Ll(L:List bT)(m:Nat)(left free:List Ky):iw L (m+1) left free=match gi L left with
 |[]=>match Nat.blt free.length 64 with|false=>none|true=>some (cC bu free)
 |x::r=>iw L m (d9 (λy=>!aU y (x::r)) left) (bj free (x::r)):=rfl
def aK.Zy(h:aK J)(L:List bT):∀(m:Nat) (left free:List Ky),Mine.iw (L.map (ml J)) m (left.map (List.map J)) (free.map (List.map J))=(Mine.iw L m left free).map (List.map (List.map J)):=by
 intro m
 induction m with
 |zero=>intro left free;exact rfl
 |succ m ih=>
  intro left free;rw[Ll,Ll,h.Zp];cases Mine.gi L left with
  |nil=>show(match Nat.blt (free.map (List.map J)).length 64 with|false=>none|true=>some (cC Mine.bu (free.map (List.map J))))=_;rw[aJ,Cu h.tB];cases Nat.blt free.length 64<;>rfl
  |cons x r=>show Mine.iw (L.map (ml J)) m (d9 (λy=>!Mine.aU y ((x::r).map (List.map J))) (left.map (List.map J))) (bj (free.map (List.map J)) ((x::r).map (List.map J)))=_;rw[yz (f:=List.map J) (λy=>congrArg not (h.vc y (x::r))),qp];exact ih _ _
def aK.LS(h:aK J)(a b:Pr):Mine.g5 (mp J a) (mp J b)=Mine.g5 a b:=by show(match Mine.ak (a.1.map J) (b.1.map J) with|true=>Mine.ak (a.2.map J) (b.2.map J)|false=>false)=_;rw[h.jm,h.jm];rfl
def aK.WG(h:aK J)(a b:Pr):Mine.dw (mp J a) (mp J b)=Mine.dw a b:=by show(match Mine.ak (a.1.map J) (b.1.map J) with|true=>Mine.bu (a.2.map J) (b.2.map J)|false=>Mine.bu (a.1.map J) (b.1.map J))=_;rw[h.jm,h.tB,h.tB];rfl
def aK.V5(h:aK J)(a b:Ky):Mine.cZ (a.map J) (b.map J)=mp J (Mine.cZ a b):=by unfold Mine.cZ;rw[h.tB];cases Mine.bu b a<;>rfl
def aK.We(h:aK J)(p:Pr):∀l:List Pr,Mine.iq (mp J p) (l.map (mp J))=Mine.iq p l:=by
 intro l
 induction l with
 |nil=>exact rfl
 |cons q l ih=>show(match Mine.g5 (mp J q) (mp J p) with|true=>true|false=>Mine.iq (mp J p) (l.map (mp J)))=_;rw[h.LS,ih];rfl
def aK.Vt(h:aK J)(a b:Ky)(made:List Pr):Mine.lH (a.map J) (b.map J) (made.map (mp J))=(Mine.lH a b made).map (mp J):=by
 cases a with
 |nil=>rfl
 |cons x a=>
  cases b with
  |nil=>rfl
  |cons y b=>
   show(match Nat.beq (J x) (J y) with
    |false=>made.map (mp J)
    |true=>match Mine.iq (Mine.cZ (a.map J) (b.map J)) (made.map (mp J)) with|true=>made.map (mp J)|false=>bj (made.map (mp J)) [Mine.cZ (a.map J) (b.map J)])=(match Nat.beq x y with
    |false=>made
    |true=>match Mine.iq (Mine.cZ a b) made with|true=>made|false=>bj made [Mine.cZ a b]).map (mp J)
   rw[h.beq,h.V5,h.We];cases Nat.beq x y with
   |false=>rfl
   |true=>
    cases Mine.iq (Mine.cZ a b) made with
    |true=>rfl
    |false=>exact qp made [Mine.cZ a b]
def It(ws:List Ky)(a:Ky):jF (ws.map (List.map J)) (a.map J)=(jF ws a).map (List.map J):=by cases a<;>rfl
def aK.Uc(h:aK J)(ws:List Ky)(ps:List Pr):Mine.fA (ws.map (List.map J)) (ps.map (mp J))=(Mine.fA ws ps).map (mp J):=qj (g:=List.map (mp J)) (λmade p=>by show bI (λmade a=>bI (λmade b=>Mine.lH a b made) (jF (ws.map (List.map J)) (p.2.map J)) made) (jF (ws.map (List.map J)) (p.1.map J)) (made.map (mp J))=_;rw[It,It];exact qj (g:=List.map (mp J)) (λmade a=>qj (g:=List.map (mp J)) (λmade b=>h.Vt a b made) _ made) _ made) ps []
def aK.aap(h:aK J):∀l m:List Pr,Mine.oP (l.map (mp J)) (m.map (mp J))=Mine.oP l m:=by
 intro l
 induction l with
 |nil=>intro m;cases m<;>rfl
 |cons a l ih=>
  intro m;cases m with
  |nil=>rfl
  |cons b m=>show(match Mine.g5 (mp J a) (mp J b) with|true=>Mine.oP (l.map (mp J)) (m.map (mp J))|false=>false)=_;rw[h.LS,ih];rfl
def aK.Wb(h:aK J)(p:List Pr):∀l:List (List Pr),Mine.lM (p.map (mp J)) (l.map (List.map (mp J)))=Mine.lM p l:=by
 intro l
 induction l with
 |nil=>exact rfl
 |cons q l ih=>show(match Mine.oP (q.map (mp J)) (p.map (mp J)) with|true=>true|false=>Mine.lM (p.map (mp J)) (l.map (List.map (mp J))))=_;rw[h.aap,ih];rfl
abbrev Fu:=List (Ky×Nat)×List Nat
def mN(J:Nat->Nat)(q:Fu):Fu:=(q.1.map (mr J),q.2)
def aK.VG(h:aK J)(n:Nat)(q:Fu)(p:Pr):Mine.fY n (mN J q) (mp J p)=mN J (Mine.fY n q p):=by
 obtain⟨a,b⟩:=p;cases a with
 |cons x a=>rfl
 |nil=>
  cases b with
  |nil=>rfl
  |cons y b=>show(match Mine.di ((y::b).map J) (q.1.map (mr J)) with|true=>mN J q|false=>(bj (q.1.map (mr J)) [((y::b).map J,n)],q.2))=mN J (match Mine.di (y::b) q.1 with|true=>q|false=>(bj q.1 [((y::b),n)],q.2));rw[h.Er,show bj (q.1.map (mr J)) [((y::b).map J,n)]=_ from qp q.1 [((y::b),n)]];cases Mine.di (y::b) q.1<;>rfl
def ac8(p:Pr):jq (mp J p)=jq p:=by
 obtain⟨a,b⟩:=p;cases a with
 |nil=>exact AM b
 |cons x a=>rfl
def mS(J:Nat->Nat)(q:rZ):rZ:=(q.1.map (mr J),q.2)
noncomputable def EV(l:List Pr)(deep n:Nat):Nat:=match l with|[]=>deep|_::_=>n
def Hk(ws:List Ky)(m:Nat)(p:Pr)(ps:List Pr)(seen:List (List Pr))(R:List (Ky×Nat))(D:List Nat)(t deep:Nat):j0 ws (m+1) (p::ps) seen R D t deep=match lM (p::ps) seen with
   |true=>some (R,D,true,deep)
   |false=>match Nat.blt (fA ws (p::ps)).length 64 with
    |false=>none
    |true=>j0 ws m (d9 (λp=>!jq p) (cC dw (fA ws (p::ps)))) (bj seen [p::ps]) (bI (fY (t+1)) (cC dw (fA ws (p::ps))) (R,D)).1 (bI (fY (t+1)) (cC dw (fA ws (p::ps))) (R,D)).2 (t+1) (EV (cC dw (fA ws (p::ps))) deep (t+1)):=rfl
def aa2(l:List Pr)(d n:Nat):EV (l.map (mp J)) d n=EV l d n:=by cases l<;>rfl
def aK.SM(h:aK J)(ws:List Ky):∀(m:Nat) (ps:List Pr) (seen:List (List Pr)) (R:List (Ky×Nat)) (D:List Nat) (t deep:Nat),Mine.j0 (ws.map (List.map J)) m (ps.map (mp J)) (seen.map (List.map (mp J))) (R.map (mr J)) D t deep=(Mine.j0 ws m ps seen R D t deep).map (mS J):=by
 intro m
 induction m with
 |zero=>intro ps seen R D t deep;exact rfl
 |succ m ih=>
  intro ps seen R D t deep;cases ps with
  |nil=>rfl
  |cons p ps=>
   rw[Hk,bE,Hk,<- bE,h.Wb,h.Uc,aJ,Cu h.WG,yz (f:=mp J) (λp=>congrArg not (ac8 p)),aa2];rw[show bI (Mine.fY (t+1)) ((cC Mine.dw (Mine.fA ws (p::ps))).map (mp J)) (R.map (mr J),D)=_ from qj (g:=mN J) (λs p=>h.VG (t+1) s p) _ (R,D)];rw[show bj (seen.map (List.map (mp J))) [(p::ps).map (mp J)]=_ from qp seen [p::ps]];cases Mine.lM (p::ps) seen with
   |true=>rfl
   |false=>
    cases Nat.blt (Mine.fA ws (p::ps)).length 64 with
    |false=>rfl
    |true=>exact ih _ _ _ _ _ _
def aK.eqR(h:aK J)(a b:List (Ky×Nat)):Mine.nC (a.map (mr J)) (b.map (mr J))=Mine.nC a b:=by
 have e:zy (a.map (mr J)) (b.map (mr J))=zy a b:=congrArg not (M0 (f:=mr J) (q:=λp:Ky×Nat=>match Mine.di p.1 b with|true=>!(Nat.beq (Mine.jh p.1 b) p.2)|false=>true) (λp=>by show(match Mine.di (p.1.map J) (b.map (mr J)) with|true=>!(Nat.beq (Mine.jh (p.1.map J) (b.map (mr J))) p.2)|false=>true)=_;rw[h.Er,h.Jw]) a)
 unfold Mine.nC;rw[aJ,aJ,e]
def aK.aas(h:aK J):∀l m:List Ky,Mine.oQ (l.map (List.map J)) (m.map (List.map J))=Mine.oQ l m:=by
 intro l
 induction l with
 |nil=>intro m;cases m<;>rfl
 |cons a l ih=>
  intro m;cases m with
  |nil=>rfl
  |cons b m=>show(match Mine.ak (a.map J) (b.map J) with|true=>Mine.oQ (l.map (List.map J)) (m.map (List.map J))|false=>false)=_;rw[h.jm,ih];rfl
def aaw(F:fU)(o:we)(S:rZ)(fr:List Ky):Bool:=Mine.nC F.1 S.1&&(Mine.ak (gW (dq F.2.2 [])) (gW S.2.1)&&(vM o.1 S.2.2.1&&(Mine.oQ o.2.1 fr&&(o.1||Nat.beq o.2.2 S.2.2.2))))
def EP(F:fU)(o:Option we)(S:Option rZ)(fr:Option (List Ky)):Bool:=match o with
 |none=>false
 |some o=>match S with
  |none=>false
  |some S=>match fr with
   |none=>false
   |some fr=>aaw F o S fr
def JC(a b c:Ky):j5 a b c=match Mine.pP a b c with
 |none=>false
 |some F=>EP F (Mine.kG (dq F.1 []) (dq F.2.1 [])) (Mine.j0 [a,b,c] 100 [(a,b),(a,c),(b,c)] [] [([],0)] [] 0 0) (Mine.iw (dq F.2.1 []) 100 (cJ (·.1) (dq F.1 [])) []):=rfl
def aK.Xm(h:aK J)(a b c:Ky):Mine.j5 (a.map J) (b.map J) (c.map J)=Mine.j5 a b c:=by
 rw[JC,JC,h.search,show Mine.j0 [a.map J,b.map J,c.map J] 100 [(a.map J,b.map J),(a.map J,c.map J),(b.map J,c.map J)] [] [([],0)] [] 0 0=_ from h.SM [a,b,c] 100 [(a,b),(a,c),(b,c)] [] [([],0)] [] 0 0];generalize Mine.j0 [a,b,c] 100 [(a,b),(a,c),(b,c)] [] [([],0)] [] 0 0=S;cases Mine.pP a b c with
 |none=>rfl
 |some F=>
  show EP (mF J F) (Mine.kG (dq (F.1.map (mr J)) []) (dq (F.2.1.map (ml J)) [])) (S.map (mS J)) (Mine.iw (dq (F.2.1.map (ml J)) []) 100 (cJ (·.1) (dq (F.1.map (mr J)) [])) [])=EP F (Mine.kG (dq F.1 []) (dq F.2.1 [])) S (Mine.iw (dq F.2.1 []) 100 (cJ (·.1) (dq F.1 [])) []);rw[HV,HV,h.Vg,xO (f:=mr J) (g:=λp:Ky×Nat=>p.1) (g':=λp:Ky×Nat=>p.1) (k:=List.map J) (λO=>rfl),show Mine.iw ((dq F.2.1 []).map (ml J)) 100 ((cJ (·.1) (dq F.1 [])).map (List.map J)) []=_ from h.Zy (dq F.2.1 []) 100 (cJ (·.1) (dq F.1 [])) []];generalize Mine.kG (dq F.1 []) (dq F.2.1 [])=o;generalize Mine.iw (dq F.2.1 []) 100 (cJ (·.1) (dq F.1 [])) []=fr;cases o with
  |none=>rfl
  |some o=>
   cases S with
   |none=>rfl
   |some S=>
    cases fr with
    |none=>rfl
    |some fr=>show(Mine.nC (F.1.map (mr J)) (S.1.map (mr J))&&(Mine.ak (gW (dq F.2.2 [])) (gW S.2.1)&&(vM o.1 S.2.2.1&&(Mine.oQ (o.2.1.map (List.map J)) (fr.map (List.map J))&&(o.1||Nat.beq o.2.2 S.2.2.2)))))=_;rw[h.eqR,h.aas];rfl
end
end
end
section
open PySem.W PyProof.Rows
noncomputable def qn:Nat->List Ky
 |0=>[[]]
 |n+1=>(qn n).map (0::·)++(qn n).map (1::·)
def fJ:List Ky:=qn 1++(qn 2++(qn 3++qn 4))
def rT(a b c:Ky):Bool:=match aU b [a] with|true=>false|false=>!aU c [a,b]
def dT(a:Ky):Bool:=gL (λb=>gL (λc=>match rT a b c with|true=>j5 a b c|false=>true) fJ) fJ
def oO(w:Nat)(a b c:Ky):Option (Ky×Ky×Ky):=(cq w [] 4 a).bind λx=>(cq w [x] 4 b).bind λy=>(cq w [x,y] 4 c).map λz=>(x,y,z)
def zI(x y z:Ky):Bool:=match rT x y z with|true=>(aU x fJ&&(aU y fJ&&aU z fJ))|false=>false
def cls(w:Nat)(a:Ky):Bool:=gL (λb=>gL (λc=>match rT a b c with
 |true=>true
 |false=>match oO w a b c with
  |none=>false
  |some p=>match zI p.1 p.2.1 p.2.2 with|true=>true|false=>j5 p.1 p.2.1 p.2.2) fJ) fJ
def b0:dT [0]=true:=by kernel_rfl
def b1:dT [1]=true:=by kernel_rfl
def b2:dT [0,0]=true:=by kernel_rfl
def b3:dT [0,1]=true:=by kernel_rfl
def b4:dT [1,0]=true:=by kernel_rfl
def b5:dT [1,1]=true:=by kernel_rfl
def b6:dT [0,0,0]=true:=by kernel_rfl
def b7:dT [0,0,1]=true:=by kernel_rfl
def b8:dT [0,1,0]=true:=by kernel_rfl
def b9:dT [0,1,1]=true:=by kernel_rfl
def kQ:dT [1,0,0]=true:=by kernel_rfl
def tV:dT [1,0,1]=true:=by kernel_rfl
def tU:dT [1,1,0]=true:=by kernel_rfl
def BJ:dT [1,1,1]=true:=by kernel_rfl
def b14:dT [0,0,0,0]=true:=by kernel_rfl
def b15:dT [0,0,0,1]=true:=by kernel_rfl
def b16:dT [0,0,1,0]=true:=by kernel_rfl
def b17:dT [0,0,1,1]=true:=by kernel_rfl
def b18:dT [0,1,0,0]=true:=by kernel_rfl
def b19:dT [0,1,0,1]=true:=by kernel_rfl
def b20:dT [0,1,1,0]=true:=by kernel_rfl
def b21:dT [0,1,1,1]=true:=by kernel_rfl
def b22:dT [1,0,0,0]=true:=by kernel_rfl
def b23:dT [1,0,0,1]=true:=by kernel_rfl
def b24:dT [1,0,1,0]=true:=by kernel_rfl
def b25:dT [1,0,1,1]=true:=by kernel_rfl
def b26:dT [1,1,0,0]=true:=by kernel_rfl
def b27:dT [1,1,0,1]=true:=by kernel_rfl
def b28:dT [1,1,1,0]=true:=by kernel_rfl
def b29:dT [1,1,1,1]=true:=by kernel_rfl
def ac5:cls 0 [0]=true:=by kernel_rfl
def ac4:cls 0 [1]=true:=by kernel_rfl
def acT:cls 0 [0,0]=true:=by kernel_rfl
def acI:cls 0 [0,1]=true:=by kernel_rfl
def acH:cls 0 [1,0]=true:=by kernel_rfl
def acG:cls 0 [1,1]=true:=by kernel_rfl
def acF:cls 0 [0,0,0]=true:=by kernel_rfl
def acE:cls 0 [0,0,1]=true:=by kernel_rfl
def acD:cls 0 [0,1,0]=true:=by kernel_rfl
def acC:cls 0 [0,1,1]=true:=by kernel_rfl
def ac3:cls 0 [1,0,0]=true:=by kernel_rfl
def ac2:cls 0 [1,0,1]=true:=by kernel_rfl
def ac1:cls 0 [1,1,0]=true:=by kernel_rfl
def ac0:cls 0 [1,1,1]=true:=by kernel_rfl
def acZ:cls 0 [0,0,0,0]=true:=by kernel_rfl
def acY:cls 0 [0,0,0,1]=true:=by kernel_rfl
def acX:cls 0 [0,0,1,0]=true:=by kernel_rfl
def acW:cls 0 [0,0,1,1]=true:=by kernel_rfl
def acV:cls 0 [0,1,0,0]=true:=by kernel_rfl
def acU:cls 0 [0,1,0,1]=true:=by kernel_rfl
def acS:cls 0 [0,1,1,0]=true:=by kernel_rfl
def acR:cls 0 [0,1,1,1]=true:=by kernel_rfl
def acQ:cls 0 [1,0,0,0]=true:=by kernel_rfl
def acP:cls 0 [1,0,0,1]=true:=by kernel_rfl
def acO:cls 0 [1,0,1,0]=true:=by kernel_rfl
def acN:cls 0 [1,0,1,1]=true:=by kernel_rfl
def acM:cls 0 [1,1,0,0]=true:=by kernel_rfl
def acL:cls 0 [1,1,0,1]=true:=by kernel_rfl
def acK:cls 0 [1,1,1,0]=true:=by kernel_rfl
def acJ:cls 0 [1,1,1,1]=true:=by kernel_rfl
def acB:cls 1 [0]=true:=by kernel_rfl
def acA:cls 1 [1]=true:=by kernel_rfl
def aco:cls 1 [0,0]=true:=by kernel_rfl
def acb:cls 1 [0,1]=true:=by kernel_rfl
def aca:cls 1 [1,0]=true:=by kernel_rfl
def ab9:cls 1 [1,1]=true:=by kernel_rfl
def ab8:cls 1 [0,0,0]=true:=by kernel_rfl
def ab7:cls 1 [0,0,1]=true:=by kernel_rfl
def ab6:cls 1 [0,1,0]=true:=by kernel_rfl
def ab5:cls 1 [0,1,1]=true:=by kernel_rfl
def acz:cls 1 [1,0,0]=true:=by kernel_rfl
def acy:cls 1 [1,0,1]=true:=by kernel_rfl
def acx:cls 1 [1,1,0]=true:=by kernel_rfl
def acw:cls 1 [1,1,1]=true:=by kernel_rfl
def acv:cls 1 [0,0,0,0]=true:=by kernel_rfl
def acu:cls 1 [0,0,0,1]=true:=by kernel_rfl
def acs:cls 1 [0,0,1,0]=true:=by kernel_rfl
def acr:cls 1 [0,0,1,1]=true:=by kernel_rfl
def acq:cls 1 [0,1,0,0]=true:=by kernel_rfl
def acp:cls 1 [0,1,0,1]=true:=by kernel_rfl
def acn:cls 1 [0,1,1,0]=true:=by kernel_rfl
def acm:cls 1 [0,1,1,1]=true:=by kernel_rfl
def ack:cls 1 [1,0,0,0]=true:=by kernel_rfl
def acj:cls 1 [1,0,0,1]=true:=by kernel_rfl
def aci:cls 1 [1,0,1,0]=true:=by kernel_rfl
def ach:cls 1 [1,0,1,1]=true:=by kernel_rfl
def acg:cls 1 [1,1,0,0]=true:=by kernel_rfl
def acf:cls 1 [1,1,0,1]=true:=by kernel_rfl
def ace:cls 1 [1,1,1,0]=true:=by kernel_rfl
def acd:cls 1 [1,1,1,1]=true:=by kernel_rfl
def QJ:fJ=[[0],[1],[0,0],[0,1],[1,0],[1,1],[0,0,0],[0,0,1],[0,1,0],[0,1,1],[1,0,0],[1,0,1],[1,1,0],[1,1,1],[0,0,0,0],[0,0,0,1],[0,0,1,0],[0,0,1,1],[0,1,0,0],[0,1,0,1],[0,1,1,0],[0,1,1,1],[1,0,0,0],[1,0,0,1],[1,0,1,0],[1,0,1,1],[1,1,0,0],[1,1,0,1],[1,1,1,0],[1,1,1,1]]:=by kernel_rfl
def CF:∀a∈fJ,dT a=true/\(cls 0 a=true/\cls 1 a=true):=λa h=>by
 rw[QJ] at h;simp only[bQ,List.not_mem_nil,or_false] at h;rcases h with rfl|rfl|rfl|rfl|rfl|rfl|rfl|rfl|rfl|rfl|rfl|rfl|rfl|rfl|rfl|rfl|rfl|rfl|rfl|rfl|rfl|rfl|rfl|rfl|rfl|rfl|rfl|rfl|rfl|rfl
 ·exact⟨b0,ac5,acB⟩
 ·exact⟨b1,ac4,acA⟩
 ·exact⟨b2,acT,aco⟩
 ·exact⟨b3,acI,acb⟩
 ·exact⟨b4,acH,aca⟩
 ·exact⟨b5,acG,ab9⟩
 ·exact⟨b6,acF,ab8⟩
 ·exact⟨b7,acE,ab7⟩
 ·exact⟨b8,acD,ab6⟩
 ·exact⟨b9,acC,ab5⟩
 ·exact⟨kQ,ac3,acz⟩
 ·exact⟨tV,ac2,acy⟩
 ·exact⟨tU,ac1,acx⟩
 ·exact⟨BJ,ac0,acw⟩
 ·exact⟨b14,acZ,acv⟩
 ·exact⟨b15,acY,acu⟩
 ·exact⟨b16,acX,acs⟩
 ·exact⟨b17,acW,acr⟩
 ·exact⟨b18,acV,acq⟩
 ·exact⟨b19,acU,acp⟩
 ·exact⟨b20,acS,acn⟩
 ·exact⟨b21,acR,acm⟩
 ·exact⟨b22,acQ,ack⟩
 ·exact⟨b23,acP,acj⟩
 ·exact⟨b24,acO,aci⟩
 ·exact⟨b25,acN,ach⟩
 ·exact⟨b26,acM,acg⟩
 ·exact⟨b27,acL,acf⟩
 ·exact⟨b28,acK,ace⟩
 ·exact⟨b29,acJ,acd⟩
end
section
section
def adh:∀r:Ky,(∀c∈r,c<2)->r∈qn r.length:=by
 intro r
 induction r with
 |nil=>exact λO=>bA
 |cons x r ih=>
  intro h;have i:=ih λc hc=>h c (bS _ hc);have hx:=h x bA;show x::r∈(qn r.length).map (0::·)++(qn r.length).map (1::·);rcases x with _|_|x
  ·exact nT _ (bW.mpr ⟨r,i,rfl⟩)
  ·exact mE _ (bW.mpr ⟨r,i,rfl⟩)
  ·exact absurd hx (hZ.mpr (i4 2 x))
def CJ{v w:Nat}(hv:v<2)(hw:w<2)(n:Nat):bZ v w n∈fJ:=by
 have bl:(bZ v w n).length=1+n%4:=by unfold bZ;rw[aJ,List.length_range']
 have m:=adh (bZ v w n) λc hc=>by
  unfold bZ at hc;refine aq (bW.mp hc) λk _ e=>?_;rw[<- e];unfold sg;cases n/4/2^k%2 with
  |zero=>exact hv
  |succ _=>exact hw
 rw[bl] at m;have h:=k9 n (show 0<4 by decide);unfold fJ;generalize n%4=k at *;rcases k with _|_|_|_|k
 ·exact nT _ m
 ·exact mE _ (nT _ m)
 ·exact mE _ (mE _ (nT _ m))
 ·exact mE _ (mE _ (mE _ m))
 ·exact absurd h (hZ.mpr (i4 4 k))
def CK(J:Nat->Nat)(v w n:Nat):bZ (J v) (J w) n=(bZ v w n).map J:=by unfold bZ;rw[cI];refine i6 λk O=>?_;show sg (J v) (J w) (n/4/2^k%2)=J (sg v w (n/4/2^k%2));cases n/4/2^k%2<;>rfl
section
variable {J:Nat->Nat}
def Bo(W:Nat)(rs:List Ky)(m:Nat)(r:Ky):cq W rs (m+1) r=match aU r rs with|true=>cq W rs m (bj r [W])|false=>some r:=rfl
def aK.EJ(h:aK J)(w:Nat)(rs:List Ky):∀(m:Nat) (r:Ky),Mine.cq (J w) (rs.map (List.map J)) m (r.map J)=(Mine.cq w rs m r).map (List.map J):=by
 intro m
 induction m with
 |zero=>intro r;exact rfl
 |succ m ih=>intro r;rw[Bo,Bo,h.vc,show bj (r.map J) [J w]=(bj r [w]).map J from qp r [w],ih];cases Mine.aU r rs<;>rfl
def aK.ext3(h:aK J)(w:Nat)(a b c:Ky):Mine.oO (J w) (a.map J) (b.map J) (c.map J)=(Mine.oO w a b c).map λp=>(p.1.map J,p.2.1.map J,p.2.2.map J):=by
 unfold Mine.oO;rw[show Mine.cq (J w) [] 4 (a.map J)=_ from h.EJ w [] 4 a];cases Mine.cq w [] 4 a with
 |none=>rfl
 |some x=>
  show((Mine.cq (J w) [x.map J] 4 (b.map J)).bind λy=>(Mine.cq (J w) [x.map J,y] 4 (c.map J)).map λz=>(x.map J,y,z))=Option.map _ ((Mine.cq w [x] 4 b).bind λy=>(Mine.cq w [x,y] 4 c).map λz=>(x,y,z));rw[show Mine.cq (J w) [x.map J] 4 (b.map J)=_ from h.EJ w [x] 4 b];cases Mine.cq w [x] 4 b with
  |none=>rfl
  |some y=>show(Mine.cq (J w) [x.map J,y.map J] 4 (c.map J)).map (λz=>(x.map J,y.map J,z))=Option.map _ ((Mine.cq w [x,y] 4 c).map λz=>(x,y,z));rw[show Mine.cq (J w) [x.map J,y.map J] 4 (c.map J)=_ from h.EJ w [x,y] 4 c];cases Mine.cq w [x,y] 4 c<;>rfl
end
def TN(f b c e:Nat){lV W:Nat}(hV:1+f%15=lV)(hW:1+(f+1+f/15%14)%15=W):ri f b c e=(oO W (bZ lV W b) (bZ lV W c) (bZ lV W e)).map λp=>[p.1,p.2.1,p.2.2]:=by
 subst hV;subst hW;generalize hV:1+f%15=lV;generalize hW:1+(f+1+f/15%14)%15=W;have e1:ri f b c e=uT lV W [b,c,e] []:=by unfold ri;rw[hV,hW]
 rw[e1];show((cq W [] 4 (bZ lV W b)).bind λx=>(cq W [x] 4 (bZ lV W c)).bind λy=>(cq W [x,y] 4 (bZ lV W e)).bind λz=>some [x,y,z])=Option.map _ ((cq W [] 4 (bZ lV W b)).bind λx=>(cq W [x] 4 (bZ lV W c)).bind λy=>(cq W [x,y] 4 (bZ lV W e)).map λz=>(x,y,z));cases cq W [] 4 (bZ lV W b) with
 |none=>rfl
 |some x=>
  show((cq W [x] 4 (bZ lV W c)).bind λy=>(cq W [x,y] 4 (bZ lV W e)).bind λz=>some [x,y,z])=Option.map _ ((cq W [x] 4 (bZ lV W c)).bind λy=>(cq W [x,y] 4 (bZ lV W e)).map λz=>(x,y,z));cases cq W [x] 4 (bZ lV W c) with
  |none=>rfl
  |some y=>show((cq W [x,y] 4 (bZ lV W e)).bind λz=>some [x,y,z])=Option.map _ ((cq W [x,y] 4 (bZ lV W e)).map λz=>(x,y,z));cases cq W [x,y] 4 (bZ lV W e)<;>rfl
def aa7{a b c:Ky}(w:Nat)(h:rT a b c=true):oO w a b c=some (a,b,c):=by
 have h:(match aU b [a] with|true=>false|false=>!aU c [a,b])=true:=h;show((cq w [a] 4 b).bind λy=>(cq w [a,y] 4 c).map λz=>(a,y,z))=_;rw[Bo];cases e:aU b [a] with
 |true=>rw[e] at h;exact nomatch h
 |false=>
  rw[e] at h;show(cq w [a,b] 4 c).map (λz=>(a,b,z))=_;rw[Bo];cases e2:aU c [a,b] with
  |true=>rw[e2] at h;exact nomatch h
  |false=>rfl
def MN{a b c:Ky}(ha:a∈fJ)(hb:b∈fJ)(hc:c∈fJ)(h:rT a b c=true):j5 a b c=true:=by have k:=(CF a ha).1;unfold dT at k;rw[tY] at k;have k:=iH.mp k b hb;rw[tY] at k;have k:=iH.mp k c hc;rw[h] at k;exact k
def Z8{w:Nat}(hw:w<2){a b c:Ky}(ha:a∈fJ)(hb:b∈fJ)(hc:c∈fJ):∃x y z,oO w a b c=some (x,y,z)/\j5 x y z=true:=by
 cases h:rT a b c with
 |true=>exact⟨a,b,c,aa7 w h,MN ha hb hc h⟩
 |false=>
  have k:cls w a=true:=by
   rcases w with _|_|w
   ·exact(CF a ha).2.1
   ·exact(CF a ha).2.2
   ·exact absurd hw (hZ.mpr (i4 2 w))
  unfold cls at k;rw[tY] at k;have k:=iH.mp k b hb;rw[tY] at k;have k:=iH.mp k c hc;rw[h] at k;have k:(match oO w a b c with
   |none=>false
   |some p=>match zI p.1 p.2.1 p.2.2 with|true=>true|false=>j5 p.1 p.2.1 p.2.2)=true:=k
  cases e:oO w a b c with
  |none=>rw[e] at k;exact nomatch k
  |some p=>
   rw[e] at k;have k:(match zI p.1 p.2.1 p.2.2 with|true=>true|false=>j5 p.1 p.2.1 p.2.2)=true:=k;refine⟨p.1,p.2.1,p.2.2,rfl,?_⟩;cases s:zI p.1 p.2.1 p.2.2 with
   |false=>rw[s] at k;exact k
   |true=>
    have s:(match rT p.1 p.2.1 p.2.2 with|true=>(aU p.1 fJ&&(aU p.2.1 fJ&&aU p.2.2 fJ))|false=>false)=true:=s;cases d:rT p.1 p.2.1 p.2.2 with
    |false=>rw[d] at s;exact nomatch s
    |true=>rw[d] at s;have s:(aU p.1 fJ&&(aU p.2.1 fJ&&aU p.2.2 fJ))=true:=s;obtain⟨s1,s2⟩:=ug.mp s;obtain⟨s2,s3⟩:=ug.mp s2;exact MN ((mZ _ _).mp s1) ((mZ _ _).mp s2) ((mZ _ _).mp s3) d
noncomputable def DB(a b n:Nat):Nat:=match n with
 |0=>a
 |n+1=>b+n
def Jo{a b:Nat}(h:a<b):aK (DB a b)
 |0,n+1,_=>dW h (eE ..)
 |m+1,n+1,q=>Nat.add_lt_add_left (zg q) b
def Xj(f b c e:Nat):∃x y z,ri f b c e=some [x,y,z]/\j5 x y z=true:=by
 have ne:1+f%15≠1+(f+1+f/15%14)%15:=by exact PY
 generalize hV:1+f%15=lV at ne;generalize hW:1+(f+1+f/15%14)%15=W at ne;rw[TN f b c e hV hW];have go:∀{p q:Nat} (v w:Nat),v<2->w<2->p<q->DB p q v=lV->DB p q w=W->∃x y z,(oO W (bZ lV W b) (bZ lV W c) (bZ lV W e)).map (λp=>[p.1,p.2.1,p.2.2])=some [x,y,z]/\j5 x y z=true:=λ{p q} v w hv hw Kq e1 e2=>by rw[<- e1,<- e2,CK,CK,CK,(Jo Kq).ext3];obtain⟨x,y,z,h1,h2⟩:=Z8 hw (CJ hv hw b) (CJ hv hw c) (CJ hv hw e);rw[h1];exact⟨_,_,_,rfl,((Jo Kq).Xm x y z).trans h2⟩
 rcases Nat.lt_or_gt_of_ne ne with q|q
 ·exact go 0 1 (by decide) (by decide) q rfl rfl
 ·exact go 1 0 (by decide) (by decide) q rfl rfl
def Xi{d:Nat}{H:Hp}{s:List Int}:∃H',RC P (d+6) (.glob 0) [.lst (s.map .int)] H (.bool true) H':=UE s H Xj
end
end
section
open PySem.W PyProof.Rows
variable {R:WRecords}{cl:Str->Option Addr}{ord:List DictEntry->List DictEntry}
def Xe{P:Params}:∀(is:List Int) {s:Shared} {q:List Value×Shared},layAllW R cl P ord (ofPys (is.map PyData.int)) s=some q->q.2.heap=s.heap/\IntsAre q.1 is:=by
 intro is
 induction is with
 |nil=>intro s q h;cases h;exact⟨rfl,.nil⟩
 |cons i is ih=>intro s q h;obtain⟨a,q',h1,h2,rfl⟩:=layAllW_cons h;cases h1;obtain⟨h3,h4⟩:=ih h2;exact⟨h3,.cons i _ h4⟩
def Xd{P:Params}{is:List Int}{s s₁:Shared}{vs:List Value}(h:layAllW R cl P ord [ofPy (.list (is.map PyData.int))] s=some (vs,s₁)):
  ∃items,vs=[.ref s.heap.objs.size]/\s₁.heap=s.heap.push {cls:=.type "list",data:=.seq (List.toArray items)}/\IntsAre items is:=by
 obtain⟨a,q,h1,h2,e⟩:=layAllW_cons h;obtain⟨q',h3,rfl⟩:=layW_list h1;obtain⟨h4,h5⟩:=Xe is h3;cases h2;cases e;exact⟨q'.1,by rw[h4],by rw[h4],h5⟩
def XU{U:aC}{H':Hp}{r:dG Fl}(h:qi U r=.ok (.bool true) U H'):DP r=true:=by
 cases r with
 |ok f ρ' H2=>cases f with
  |ret v=>have h:dG.ok v U H2=.ok (.bool true) U H':=h;cases h;rfl
  |_=>cases h
 |_=>cases h
def adb(is:List Int):uQ.row.claim.post [ofPy (PyData.list (List.map PyData.int is))] (.bool true) [ofPy (PyData.list (List.map PyData.int is))]=true:=by kernel_rfl
def Xk{w:World}{s₀ s₁:Shared}{is:List Int}{l:Addr}{fa:Addr}{mg:Str->Option Value}{as:List Addr}(y:w8 s₀.heap=qO)(L:Laid R w s₀ s₁ [ofPy (.list (is.map PyData.int))] [.ref l] as)(hl:is.length<=63)
  (hn:s₁.heap.Ns mainGlobals mg) (yh:mg "law"=some (.ref fa)) (hg:s₁.gens=#[]) {Q Ex:Value->Shared->Prop} (h:∀s',OldK s₁.heap s'.heap->s'.os=s₁.os->AllBare s'.gens->Q (.bool true) s'):
  wpAny (model pw w) callerA (call (.ref fa) [.ref l]) Q Ex s₁:=by
 obtain⟨ord,_,Ea⟩:=L.laid;obtain⟨items,e1,e2,hI⟩:=Xd Ea;cases e1;have ok:=aed y w;have R0:aZ (qa tb w s₀.heap) [] [] s₁.heap:=(aZ.mk L.keeps (λp hp=>(nomatch hp)) (λp hp=>(nomatch hp)) mz rfl (Xp y) (λn o e=>nomatch e))
 have m0:mg=s₀.heap.nsMap mainGlobals:=hn.eq_nsMap.trans ((Heap.Ns.of_isNs (Wq y)).keeps L.keeps).eq_nsMap.symm;have Ee:(qa tb w s₀.heap).gv 0=some (.ref fa):=by rw[m0] at yh;show tM s₀.heap "law"=_;unfold tM;rw[yh]
 obtain⟨H',rc⟩:=Xi (d:=14) (H:=[]) (s:=is);obtain⟨N,hN⟩:=rc.run [];refine Ro (k:=0) (fd:=f0) (xs:=[.lst (is.map .int)]) (ρ':=[some (.lst (is.map .int)),none,none,none,none,none,none,none,none,none,none,none,none,none,none]) ok.toBR (Sz ok N) R0 (d:=19) (by decide) rfl Ee (.cons (.lst (n:=0) (Sq.mk (by rw[e2];exact cY _ rfl) nofun (Gi hI) (by rw[aJ];exact aM hl (by decide):(is.map AV.int).length<=az))) .nil) rfl (XU (hN (N+1) (i3 N):qi [] (cW ((ev P N).s 19 true) (ss f0.body) [some (.lst (is.map .int)),none,none,none,none,none,none,none,none,none,none,none,none,none,none] [])=.ok (.bool true) [] H')) λφ' H' s' nx R'=>h s' (.of_keep λb o e=>?_) nx.os (.of_eq (nx.gens.trans hg));have e':=e;rw[e2] at e';rcases Heap.get?_push_cases e' with⟨_,rfl⟩|k
 ·rcases nx.ext.keep b _ e nofun nofun with k|⟨⟨es,n,k⟩,_⟩
  ·exact k
  ·cases k
 ·exact R'.keep b o k
set_option tactic.hygienic true in
theorem Rp:uQ.Holds:=by
 refine holds_law CE λCE=>?_;refine holds_openX (q:=qv) (loose:=vk) (Xt:=xt) (XP:=XL qv []) (Yf:=yf) (Ya:=λO=>qO) (N:=3346) (d:=dk.1) (kwd:=dk.2) left (λs e=>xl_of s (ug.mp e).1) XL.keeps (Option.some_get Mb).symm (by kernel_rfl) (by kernel_rfl) (λs e=>recFacts_of (ug.mp e).2) (by kernel_rfl) CE (by kernel_rfl) ⟨rfl,rfl,rfl,rfl,rfl,by decide +kernel⟩ ?hw ?hc
 case hw=>w_witness2
 intro w s₀ s₁ mg mb G y fa o pm cd doc dV kV ho hd KN hD yh hg args vals as L YB Ea Yw yc YI;have hn:=L;have hN:s₁.heap.Ns mainGlobals mg:=by refine Ground.open G ?_;intro T B D TE TW;exact T.g
 have A0:dk.1.name=("law":Str):=by kernel_rfl
 rw[A0] at yh;refine Ground.open G ?_;intro T B D TE TW
 wrow_args YB Ea Yw yc YI
 rename_i is _ _ _ _ _ _ _ _ _ _ _ _ _ _ _ _ hlen _;refine Xk y L (by omega:is.length<=63) hN yh hg λs' hK ho hb=>?_;exact⟨.inl ⟨.bool true,.bool true,[],rfl,λO=>rfl,.bool true,adb is,λO=>⟨mz,nofun⟩⟩,hK,ho,hb⟩
end
end
end Mine
theorem PySem.Challenge.cw_ny0272_03_holds : PySem.Challenge.rw_ny0272_03.Holds := by
 exact Mine.Rp
