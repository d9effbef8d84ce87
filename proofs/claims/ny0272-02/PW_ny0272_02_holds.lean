import PyProof.Rows.All
import Wide.All
import OpenK.AllK
import Wide.FinOn
import KE.KBytesWalk
import KE.KStar
import PySem.Challenge.RW_ny0272_02
open PySem
set_option maxRecDepth 1000000
set_option maxHeartbeats 0
set_option Elab.async false
set_option linter.all false
set_option linter.defProp false
set_option autoImplicit false
set_option genSizeOf false
set_option genSizeOfSpec false
set_option genInjectivity false
set_option genCtorIdx false
set_option backward.match.sparseCases false
set_option tactic.hygienic false
namespace Mine
noncomputable section
def ag:=@PySem.wpAny_bind
def aC:=@List.length_map
def aA:=@PySem.wpAny_pure
def aH:=@Nat.le_trans
def bu:=@List.length_append
def bI:=@List.mem_cons_of_mem
def bz:=@List.mem_cons_self
def aQ:=@Nat.le_refl
def ck:=@Nat.eq_of_beq_eq_true
def cw:=@PySem.Heap.get?_push_size
def bl:=@List.mem_cons
def cA:=@Nat.lt_of_lt_of_le
def bj:=@List.mem_map
def bR:=@List.map_append
def cN:=@Nat.lt_of_le_of_lt
def bG:=@Nat.le_of_lt
def bQ:=@List.map_cons
def bf:=@Nat.blt_eq
def bL:=@Nat.le_of_eq
def cE:=@List.append_nil
def fk:=@PySem.Heap.get?_push_of_some
def dA:=@List.append_assoc
def cm:=@List.map_map
def cI:=@PySem.wpAny_holding
def fb:=@List.size_toArray
def je:=@List.getElem?_eq_some_iff
def gx:=@List.mem_of_getElem?
def fR:=@List.mem_singleton
def cZ:=@PySem.Heap.lt_size
def ic:=@Nat.le_of_ble_eq_true
def fB:=@List.all_eq_true
def dz:=@Nat.ne_of_lt
def jd:=@PySem.Heap.get?_update_other
def dW:=@Nat.zero_add
def ib:=@Nat.add_le_add_left
def cH:=@PySem.wpAny_mono
def kT:=@List.getElem?_append_right
def ei:=@Nat.ne_of_gt
def jD:=@PySem.Heap.get?_update_self
def hZ:=@List.getElem?_map
def fA:=@PySem.wpAny_standAt
def kR:=@List.drop_of_length_le
def jC:=@List.map_congr_left
def hW:=@List.lookup_cons
def hV:=@Nat.le_add_right
def dU:=@Nat.ble_eq
def hU:=@List.nodup_cons
def hM:=@List.mem_append
def nZ:=@List.getElem?_eq_getElem
def kQ:=@PySem.Heap.SameBut.update
def j8:=@Int.natCast_nonneg
def kP:=@Array.length_toList
def jB:=@List.length_cons
def kO:=@Bool.false_ne_true
def fK:=@PySem.wpAny_of_eq
def jA:=@Option.some.inj
def mB:=@List.mem_map_of_mem
def qu:=@List.getElem?_eq_none_iff
def nY:=@List.getElem?_set_ne
def nW:=@Nat.add_le_add_right
def kN:=@PySem.wpAny_newObj_type
def jc:=@PySem.mem_of_lookup
def pb:=@PySem.Around.under_plainId
def cP:=@Ne.symm
def o8:=@List.mem_append_left
def qt:=@Option.map_eq_some_iff
def nV:=@List.pairwise_cons
def rP:=@List.getElem?_append_left
def j7:=@List.drop_zero
def jz:=@Nat.lt_irrefl
def rO:=@Option.isSome_iff_exists
def qs:=@List.getElem?_toArray
def mA:=@PySem.wpAny_call_entry
def jb:=@Nat.lt_trans
def nU:=@PySem.wpAny_setState_of
def jy:=@Nat.beq_refl
def tJ:=@Array.getElem?_eq_some_iff
def o7:=@PySem.wpAny_setField_rec
def mu:=@PySem.wpAny_ite_split
def mr:=@PySem.codeAny_builtin
def rN:=@List.getElem?_set_self
def hJ:=@Nat.not_lt
def o6:=@Int.toNat_natCast
def rM:=@Array.getElem?_toList
def rL:=@List.mem_append_right
def o5:=@Option.bind_some
def qr:=@List.mem_filterMap
def vJ:=@List.eq_nil_of_length_eq_zero
def jx:=@Nat.le_succ
def jw:=@PySem.wpAny_field
def nT:=@PySem.Heap.size_push
def mj:=@Nat.add_assoc
def rK:=@Bool.or_eq_true_iff
def tI:=@PySem.wpAny_callSpecial?_slot
def nR:=@List.cons.inj
def rJ:=@Int.negSucc_lt_zero
def nQ:=@PySem.wpAny_seqItems
def tH:=@Nat.lt_of_succ_lt_succ
def qp:=@List.not_mem_nil
def qo:=@List.length_drop
def mE:=@Nat.succ_pos
def mD:=@Nat.add_comm
def vK:=@Array.getElem?_eq_getElem
def pf:=@List.nodup_nil
def kU:=@Nat.zero_le
def tK:=@PySem.builtinLookup_eq_fast
def rR:=@List.nodup_append
def rQ:=@Nat.le_of_succ_le
def n7:=@Int.ofNat_lt
def n6:=@Int.ofNat_le
section
open PySem.W PyProof.Rows
inductive AV where
 |none
 |bool (b:Bool)
 |int (i:Int)
 |str (l:List Nat)
 |cj (l:List Nat)
 |tup (l:List AV)
 |lst (l:List AV)
 |fq (a b c:Int)
 |ref (n:Nat)
 |glob (k:Nat)
 |cK (n:Nat)
 |vals (n:Nat)
 |zip (n:Nat)
 |lL (l:List (List Nat))
noncomputable def AV.ctorIdx(t:AV):Nat:=@AV.casesOn (λO=>Nat) t 0 (λO=>1) (λO=>2) (λO=>3) (λO=>4) (λO=>5) (λO=>6) (λO O O=>7) (λO=>8) (λO=>9) (λO=>10) (λO=>11) (λO=>12) (λO=>13)
inductive AO where
 |list (l:List AV)
 |dict (ep:Nat) (l:List (List Nat×AV))
 |idict (ep:Nat) (l:List (List Nat×AV))
 |set (l:List (List Nat))
 |inst (c:Nat) (f:List (Option AV))
 |iter (n i:Nat)
 |zip (k:Nat)
 |gw
 |lit (a:AV) (i:Nat)
 |dead
noncomputable def AO.ctorIdx(t:AO):Nat:=@AO.casesOn (λO=>Nat) t (λO=>0) (λO O=>1) (λO O=>2) (λO=>3) (λO O=>4) (λO O=>5) (λO=>6) 7 (λO O=>8) 9
abbrev aD:=List (Option AV)
abbrev Hp:=List AO
inductive C where
 |nil
 |cons (a r:C)
 |cst (c:Const) (v:AV) (k:Nat) (p:Pos)
 |var (x:Str) (k:Nat) (p:Pos)
 |glob (x:Str) (k:Nat) (p:Pos)
 |bin (op:Operator) (a b:C) (p:Pos)
 |neg (a:C) (p:Pos)
 |not (a:C) (p:Pos)
 |cmp (op:CmpOp) (a b:C) (p:Pos)
 |gX (isAnd:Bool) (l:C) (p:Pos)
 |call (f args:C) (p:Pos)
 |star (a:C) (p:Pos)
 |bV (o:C) (x:Str) (m:Nat) (args:C) (ap p:Pos)
 |attr (o:C) (x:Str) (a:Nat) (p:Pos)
 |sub (o i:C) (p:Pos)
 |iq (o lo hi:C) (sp p:Pos)
 |list (l:C) (r:Bool) (p:Pos)
 |tup (l:C) (k:Nat) (p:Pos)
 |dict (i:Bool) (p:Pos)
 |qU (t a b:C) (p:Pos)
 |gen (tg it elt:C)
 |comp (elt tg it ifs:C) (sc:Scope) (p:Pos)
 |rV (t e:C) (p:Pos)
 |bad (e:Expr)
inductive S where
 |nil
 |cons (a r:S)
 |asg (ts e:C) (p:Pos)
 |aug (op:Operator) (t e:C) (p:Pos)
 |expr (e:C) (p:Pos)
 |iff (t:C) (a b:S) (p:Pos)
 |ie (t:C) (a b:S) (p:Pos)
 |loop (tg it:C) (b:S) (p:Pos)
 |ret (e:C) (p:Pos)
 |brk (p:Pos)
 |cont (p:Pos)
 |pass (p:Pos)
 |tri (b:S) (x:Str) (k:Nat) (np:Pos) (h:S) (hp p:Pos)
 |del (o i:C) (sp p:Pos)
 |bad (st:Stmt)
noncomputable def iB(l:List Expr):List Comprehension:=match l with
 |[tg,it]=>[⟨tg,it,[],0⟩]
 |_=>[]
noncomputable def un:C->Expr×List Expr
 |.nil=>(.List [] ⟨0,0,0,0⟩,[])
 |.cons a r=>(.List [] ⟨0,0,0,0⟩,(un a).1::(un r).2)
 |.cst c _ k p=>(.Constant c k p,[])
 |.var x _ p=>(.Name x p,[])
 |.glob x _ p=>(.Name x p,[])
 |.bin op a b p=>(.BinOp (un a).1 op (un b).1 p,[])
 |.neg a p=>(.UnaryOp .USub (un a).1 p,[])
 |.not a p=>(.UnaryOp .Not (un a).1 p,[])
 |.cmp op a b p=>(.Compare (un a).1 [op] [(un b).1] p,[])
 |.gX isAnd l p=>(.BoolOp (if isAnd then .And else .Or) (un l).2 p,[])
 |.call f args p=>(.Call (un f).1 (un args).2 [] p,[])
 |.star a p=>(.Starred (un a).1 p,[])
 |.bV o x _ args ap p=>(.Call (.Attribute (un o).1 x ap) (un args).2 [] p,[])
 |.attr o x _ p=>(.Attribute (un o).1 x p,[])
 |.sub o i p=>(.Subscript (un o).1 (un i).1 p,[])
 |.iq o lo hi sp p=>(.Subscript (un o).1 (.Slice (match lo with|.nil=>none|_=>some (un lo).1) (match hi with|.nil=>none|_=>some (un hi).1) none sp) p,[])
 |.list l _ p=>(.List (un l).2 p,[])
 |.tup l k p=>(.Tuple (un l).2 k p,[])
 |.dict _ p=>(.Dict [] [] p,[])
 |.qU t a b p=>(.IfExp (un t).1 (un a).1 (un b).1 p,[])
 |.gen tg it elt=>((un elt).1,[(un tg).1,(un it).1])
 |.comp elt tg it ifs sc p=>(.ListComp (un elt).1 (⟨(un tg).1,(un it).1,(un ifs).2,0⟩::iB (un elt).2) sc p,[])
 |.rV t e p=>(.NamedExpr (un t).1 (un e).1 p,[])
 |.bad e=>(e,[])
abbrev aB(c:C):Expr:=(un c).1
abbrev bJ(c:C):List Expr:=(un c).2
def rX(c:C):Option Expr:=match c with
 |.nil=>none
 |_=>some (aB c)
noncomputable def mL:S->Stmt×List Stmt
 |.nil=>(.Pass ⟨0,0,0,0⟩,[])
 |.cons a r=>(.Pass ⟨0,0,0,0⟩,(mL a).1::(mL r).2)
 |.asg ts e p=>(.Assign (bJ ts) (aB e) p,[])
 |.aug op t e p=>(.AugAssign (aB t) op (aB e) p,[])
 |.expr e p=>(.Expr (aB e) p,[])
 |.iff t a b p=>(.If (aB t) (mL a).2 (mL b).2 p,[])
 |.ie t a b p=>(.While (aB t) (mL a).2 (mL b).2 p,[])
 |.loop tg it b p=>(.For (aB tg) (aB it) (mL b).2 [] p,[])
 |.ret e p=>(.Return (rX e) p,[])
 |.brk p=>(.Break p,[])
 |.cont p=>(.Continue p,[])
 |.pass p=>(.Pass p,[])
 |.tri b x _ np h hp p=>(.Try (mL b).2 [.ExceptHandler (some (.Name x np)) none (mL h).2 hp] [] [] p,[])
 |.del o i sp p=>(.Delete [.Subscript (aB o) (aB i) sp] p,[])
 |.bad st=>(st,[])
abbrev vO(s:S):Stmt:=(mL s).1
abbrev cT(s:S):List Stmt:=(mL s).2
inductive Fl where
 |next|brk|cont|ret (v:AV)
noncomputable def Fl.ctorIdx(t:Fl):Nat:=@Fl.casesOn (λO=>Nat) t 0 1 2 (λO=>3)
inductive du(α:Type) where
 |ok (a:α) (U:aD) (H:Hp)
 |exc (k:Nat) (U:aD) (H:Hp)
 |stuck
variable {α:Type}
noncomputable def du.ctorIdx(t:du α):Nat:=@du.casesOn α (λO=>Nat) t (λO O O=>0) (λO O O=>1) 2
abbrev M(α:Type):=aD->Hp->du α
noncomputable def cq(a:α):M α:=λU H=>.ok a U H
noncomputable def M.bind{β:Type}(m:M α)(f:α->M β):M β:=λU H=>match m U H with
 |.ok a ρ' H'=>f a ρ' H'
 |.exc k ρ' H'=>.exc k ρ' H'
 |.stuck=>.stuck
noncomputable def M.stuck:M α:=λO O=>.stuck
noncomputable def M.calm(m:M α):M α:=λU H=>match m U H with
 |.ok a ρ' H'=>.ok a ρ' H'
 |.exc ..=>.stuck
 |.stuck=>.stuck
noncomputable def bX(f:Hp->Option α):M α:=λU H=>match f H with
 |some v=>.ok v U H
 |none=>.stuck
noncomputable def mF(f:Hp->Option (α×Hp)):M α:=λU H=>match f H with
 |some r=>.ok r.1 U r.2
 |none=>.stuck
noncomputable def ij(f:Hp->Option Hp):M Unit:=λU H=>match f H with
 |some H'=>.ok () U H'
 |none=>.stuck
noncomputable def aK(b:Bool)(x:Option α):Option α:=match b with
 |true=>x
 |false=>none
set_option genCtorIdx true in
inductive BI where
 |len|abs|divmod|min|sorted|chr|iter|range|int|tuple|bool|set|list|zip
structure FD where
 npar:Nat
 va:Bool
 dflt:List AV
 wH:Nat
 body:S
structure CD where
 init:Nat
 slots:Bool
 meths:List (Nat×Nat)
 bx:List Nat
inductive GE where
 |fn (f:FD)
 |cl (c:CD)
 |exc (k:Nat)
 |bi (b:BI)
 |cv (v:AV)
structure bO where
 gt:List GE
noncomputable def az:Nat:=1000000
noncomputable def SA:Nat:=2^200
noncomputable def ae(l:List α):Nat->Option α:=List.rec (motive:=λO=>Nat->Option α) (λO=>none) (λx O ih n=>match n with|0=>some x|n+1=>ih n) l
noncomputable def ai(l:List α)(y:α):Nat->List α:=List.rec (motive:=λO=>Nat->List α) (λO=>[]) (λx r ih n=>match n with|0=>y::r|n+1=>x::ih n) l
noncomputable def au(a:List Nat):List Nat->Bool:=List.rec (motive:=λO=>List Nat->Bool) (λl=>match l with|[]=>true|_::_=>false) (λx O ih l=>match l with|[]=>false|y::ys=>match Nat.beq x y with|true=>ih ys|false=>false) a
noncomputable def cg(a:List Nat):List Nat->Bool:=List.rec (motive:=λO=>List Nat->Bool) (λl=>match l with|[]=>false|_::_=>true) (λx O ih l=>match l with|[]=>false|y::ys=>match Nat.beq x y with|true=>ih ys|false=>Nat.blt x y) a
noncomputable def iU(i:Int)(n:Nat):Bool:=match i with
 |.ofNat m=>Nat.beq m n
 |.negSucc _=>false
def e8(i j:Int):Bool:=match i with
 |.ofNat m=>iU j m
 |.negSucc m=>match j with|.ofNat _=>false|.negSucc n=>Nat.beq m n
noncomputable def fV(i j:Int):Bool:=match i with
 |.ofNat m=>match j with|.ofNat n=>Nat.blt m n|.negSucc _=>false
 |.negSucc m=>match j with|.ofNat _=>true|.negSucc n=>Nat.blt n m
noncomputable def uj(i:Int):Option Nat:=match i with
 |.ofNat m=>some m
 |.negSucc _=>none
def fT(i:Int):Bool:=Nat.blt i.natAbs SA
def D8(op:Operator)(i j:Int):Option Int:=match op with
 |.Sub=>some (i-j)
 |.FloorDiv=>aK (!iU j 0&&fT j) (some (i.fdiv j))
 |.Mod=>aK (!iU j 0) (some (i.fmod j))
 |.Pow=>(uj j).bind λn=>aK (Nat.ble n 1000000&&Nat.blt i.natAbs (2^64)) (some (i^n))
 |.RShift=>(uj j).bind λn=>some (i.fdiv (2^n))
 |_=>none
noncomputable def AV.int?(x:AV):Option Int:=match x with|.int a=>some a|_=>.none
noncomputable def AV.ip(x:AV):Option (List Nat):=match x with|.str l=>some l|_=>.none
noncomputable def AV.KX(x:AV):Option (List Nat):=match x with|.cj l=>some l|_=>.none
noncomputable def AV.Ba(x:AV):Option (List AV):=match x with|.tup l=>some l|_=>.none
noncomputable def AV.TV(x:AV):Option (List AV):=match x with|.lst l=>some l|_=>.none
noncomputable def AV.jH(x:AV):Option Nat:=match x with|.ref n=>some n|_=>.none
noncomputable def AV.sA(x:AV):Bool:=match x with|.none=>true|_=>false
def bq(H:Hp)(n:Nat):Option (List AV):=(ae H n).bind λo=>match o with|.list l=>some l|_=>none
def cM(H:Hp)(n:Nat):Option (Nat×List (List Nat×AV)):=(ae H n).bind λo=>match o with|.dict e l=>some (e,l)|_=>none
def gT(H:Hp)(n:Nat):Option (Nat×List (List Nat×AV)):=(ae H n).bind λo=>match o with|.idict e l=>some (e,l)|_=>none
def wY(x:AV):Option (List Nat):=(x.int?).bind λi=>(uj i).map λn=>[n]
def oh(H:Hp)(n:Nat):Option (List (List Nat)):=(ae H n).bind λo=>match o with|.set l=>some l|_=>none
def xd(H:Hp)(n:Nat):Option (Nat×List (Option AV)):=(ae H n).bind λo=>match o with|.inst c f=>some (c,f)|_=>none
def sL(H:Hp)(n:Nat):Option (Nat×Nat):=(ae H n).bind λo=>match o with|.iter m i=>some (m,i)|_=>none
def aP(H:Hp)(v:AV):Option (List AV):=match v with
 |.lst l=>some l
 |.ref n=>bq H n
 |_=>none
def qG(H:Hp)(v:AV):Option (List AV):=match v with
 |.tup l=>some l
 |.lst l=>some l
 |.ref n=>bq H n
 |_=>none
noncomputable def d3(H:Hp):Nat->AV->AV
 |0,v=>v
 |n+1,v=>match aP H v with
  |some l=>.lst (l.map (d3 H n))
  |none=>v
mutual
noncomputable def lE:AV->Nat->Bool
 |.int _,_=>true
 |.str _,_=>true
 |.lst l,n=>match n with|0=>false|n+1=>fU l n
 |.tup l,n=>match n with|0=>false|n+1=>fU l n
 |_,_=>false
noncomputable def fU:List AV->Nat->Bool
 |[],_=>true
 |x::xs,n=>match lE x n with|true=>fU xs n|false=>false
end
mutual
noncomputable def xH:AV->AV->Option Bool
 |.int a,y=>(y.int?).map λb=>e8 a b
 |.str a,y=>(y.ip).map λb=>au a b
 |.lst a,y=>(y.TV).bind λb=>kC a b
 |.tup a,y=>(y.Ba).bind λb=>kC a b
 |_,_=>none
noncomputable def kC:List AV->List AV->Option Bool
 |[],ys=>match ys with|[]=>some true|_::_=>some false
 |x::xs,ys=>match ys with
  |[]=>some false
  |y::ys=>(xH x y).bind λb=>match b with|true=>kC xs ys|false=>some false
end
def DB(x y:AV):Option Bool:=aK (lE x 3&&lE y 3) (xH x y)
def zi(x y:AV):Option Bool:=match x with
 |.int a=>(y.int?).map λb=>fV a b
 |.str a=>(y.ip).map λb=>cg a b
 |_=>none
noncomputable def zh:List AV->List AV->Option Bool
 |[],ys=>match ys with|[]=>some false|_::_=>some true
 |x::xs,ys=>match ys with
  |[]=>some false
  |y::ys=>(DB x y).bind λb=>match b with|true=>zh xs ys|false=>zi x y
def gQ(x y:AV):Option Bool:=match x with
 |.tup a=>(y.Ba).bind λb=>zh a b
 |_=>zi x y
def Lr(x y:AV)(H:Hp):Option AV:=match x with
 |.int a=>(y.int?).map λb=>.int (a+b)
 |.cj a=>(y.KX).bind λb=>aK (Nat.ble (a.length+b.length) az) (some (.cj (a++b)))
 |.str a=>(y.ip).bind λb=>aK (Nat.ble (a.length+b.length) az) (some (.str (a++b)))
 |_=>(aP H x).bind λa=>(aP H y).bind λb=>aK (Nat.ble (a.length+b.length) az) (some (.lst (a++b)))
def Hs(x y:AV):Option AV:=(x.int?).bind λi=>(y.int?).bind λj=>aK (fT i&&fT j) (some (.int (i*j)))
def i6(op:Operator)(x y:AV)(H:Hp):Option AV:=match op with
 |.Add=>Lr x y H
 |.Mult=>Hs x y
 |op=>(x.int?).bind λa=>(y.int?).bind λb=>(D8 op a b).map .int
def jg(x:AV)(H:Hp):Option Bool:=match x with
 |.none=>some false
 |.bool b=>some b
 |.int a=>some (!iU a 0)
 |_=>(aP H x).map λl=>!l.isEmpty
def bT(k:List Nat)(l:List (List Nat×AV)):Option AV:=List.rec (motive:=λO=>Option AV) none (λp O ih=>match au p.1 k with|true=>some p.2|false=>ih) l
def fx(k:List Nat)(v:AV)(l:List (List Nat×AV)):List (List Nat×AV):=List.rec (motive:=λO=>List (List Nat×AV)) [(k,v)] (λp r ih=>match au p.1 k with|true=>(p.1,v)::r|false=>p::ih) l
def oN(k:List Nat)(l:List (List Nat×AV)):List (List Nat×AV):=List.rec (motive:=λO=>List (List Nat×AV)) [] (λp r ih=>match au p.1 k with|true=>r|false=>p::ih) l
def bS(k:List Nat)(l:List (List Nat×AV)):Bool:=(bT k l).isSome
def bw(k:List Nat)(l:List (List Nat)):Bool:=List.rec (motive:=λO=>Bool) false (λp O ih=>match au p k with|true=>true|false=>ih) l
noncomputable def sQ(x:AV):List AV->Option Bool
 |[]=>some false
 |y::ys=>(xH y x).bind λb=>(sQ x ys).map λc=>b||c
def iz(x c:AV)(H:Hp):Option Bool:=match aP H c with
 |some l=>aK (lE x 3&&fU l 3) (sQ x l)
 |none=>(c.jH).bind λn=>match gT H n with
  |some r=>(wY x).map λk=>bS k r.2
  |none=>(x.ip).bind λk=>match cM H n with
   |some r=>some (bS k r.2)
   |none=>(oh H n).map λl=>bw k l
def jP(x y:AV)(H:Hp):Option Bool:=DB (d3 H 3 x) (d3 H 3 y)
def gF(op:CmpOp)(x y:AV)(H:Hp):Option Bool:=match op with
 |.Eq=>jP x y H
 |.NotEq=>(jP x y H).map (!·)
 |.Lt=>gQ x y
 |.Gt=>(x.int?).bind λi=>(y.int?).map λj=>fV j i
 |.Is=>aK y.sA (some x.sA)
 |.IsNot=>aK y.sA (some !x.sA)
 |.In=>iz x y H
 |.NotIn=>(iz x y H).map (!·)
 |_=>none
def jo(i:Int)(l:List α):Option α:=match i with
 |.ofNat m=>ae l m
 |.negSucc m=>aK (Nat.blt m l.length) (ae l (l.length-(m+1)))
def jh(o i:AV)(H:Hp):Option AV:=match o with
 |.str l=>(i.int?).bind λk=>(jo k l).map λc=>.str [c]
 |.lst l=>(i.int?).bind λk=>jo k l
 |.tup l=>(i.int?).bind λk=>jo k l
 |.ref n=>match bq H n with
  |some l=>(i.int?).bind λk=>jo k l
  |none=>match gT H n with
   |some r=>(wY i).bind λk=>bT k r.2
   |none=>(cM H n).bind λr=>(i.ip).bind λk=>bT k r.2
 |_=>none
def qe(x:AV):Option (Option Int):=match x with
 |.none=>some none
 |_=>(x.int?).bind λi=>aK (Nat.ble i.natAbs az) (some (some i))
noncomputable def vk(n:Nat)(i:Int):Nat:=match i with
 |.ofNat k=>k
 |.negSucc k=>n-(k+1)
def dq(lo hi:Option Int)(l:List α):List α:=
 let l':=match hi with|none=>l|some i=>l.take (vk l.length i)
 match lo with|none=>l'|some i=>l'.drop (vk l.length i)
def mP(o lo hi:AV)(H:Hp):Option AV:=match o with
 |.cj l=>(qe lo).bind λa=>(qe hi).map λb=>.cj (dq a b l)
 |.str l=>(qe lo).bind λa=>(qe hi).map λb=>.str (dq a b l)
 |_=>(aP H o).bind λl=>(qe lo).bind λa=>(qe hi).map λb=>.lst (dq a b l)
inductive ba where
 |fix (l:List AV)
 |lst (n i:Nat)
 |dct (n i sz ep:Nat)
 |vals (n i sz ep:Nat)
 |zip (n:Nat)
noncomputable def yO(c:Int)(n:Nat):Int->List AV:=Nat.rec (motive:=λO=>Int->List AV) (λO=>[]) (λO ih a=>.int a::ih (a+c)) n
def pM(a b c:Int):Nat:=match fV a b with
 |true=>((b-a-1)/c+1).toNat
 |false=>0
def rS(H:Hp)(n:Nat):Option Nat:=(ae H n).bind λo=>match o with|.zip k=>some k|_=>none
def dX(v:AV)(H:Hp):Option ba:=match v with
 |.tup l=>some (.fix l)
 |.lst l=>some (.fix l)
 |.cj l=>some (.fix (l.map λd=>.int ((65+d:Nat):Int)))
 |.str l=>some (.fix (l.map λd=>.str [d]))
 |.fq a b c=>some (.fix (yO c (pM a b c) a))
 |.ref n=>match bq H n with
  |some _=>some (.lst n 0)
  |none=>(cM H n).map λr=>.dct n 0 r.2.length r.1
 |.vals n=>(cM H n).map λr=>.vals n 0 r.2.length r.1
 |.zip n=>(rS H n).map λO=>.zip n
 |_=>none
def ba.next(s:ba)(H:Hp):Option (Option (AV×ba)):=match s with
 |.fix l=>match l with
  |[]=>some none
  |d::r=>some (some (d,.fix r))
 |.lst n i=>(bq H n).map λl=>(ae l i).map λd=>(d,.lst n (i+1))
 |.dct n i sz e=>(cM H n).bind λr=>aK (Nat.beq r.2.length sz&&Nat.beq r.1 e) (some ((ae r.2 i).map λp=>(.str p.1,.dct n (i+1) sz e)))
 |.vals n i sz e=>(cM H n).bind λr=>aK (Nat.beq r.2.length sz&&Nat.beq r.1 e) (some ((ae r.2 i).map λp=>(p.2,.vals n (i+1) sz e)))
 |.zip _=>none
def vI(H:Hp)(n:Nat):Bool:=match ae H n with|some .gw=>true|_=>false
def pW(H:Hp)(n:Nat):Option (AV×Nat):=(ae H n).bind λo=>match o with|.lit a i=>some (a,i)|_=>none
def gy(H:Hp)(n k:Nat):Hp:=ai (ai (ai (ai H .dead n) .dead k) .dead (k+1)) .dead (k+2)
def yc(H:Hp)(n:Nat):Option (Option AV×Hp):=(rS H n).bind λk=>(pW H (k+1)).bind λr=>(pW H (k+2)).bind λt=>(aP H r.1).bind λl=>(aP H t.1).bind λm=>aK (vI H k) (some
 (match ae l r.2 with
 |some u=>(match ae m t.2 with
  |some v=>(some (.tup [u,v]),ai (ai H (.lit r.1 (r.2+1)) (k+1)) (.lit t.1 (t.2+1)) (k+2))
  |none=>(none,gy H n k))
 |none=>(none,gy H n k)))
def ba.nx(s:ba)(tg:C)(H:Hp):Option (Option (AV×ba)×Hp):=match s with
 |.zip n=>(match tg with
  |.tup ..=>(yc H n).map λr=>(r.1.map λv=>(v,.zip n),r.2)
  |_=>none)
 |s=>(s.next H).map λo=>(o,H)
noncomputable def oE(lt:α->α->Bool)(x:α)(l:List α):List α:=List.rec (motive:=λO=>List α) [x] (λy ys ih=>match lt y x with|true=>y::ih|false=>x::y::ys) l
def eZ(lt:α->α->Bool)(l:List α):List α:=List.rec (motive:=λO=>List α) [] (λx O ih=>oE lt x ih) l
noncomputable def uF:List AV->Option (List Int)
 |[]=>some []
 |x::r=>(x.int?).bind λi=>(uF r).map (i::·)
noncomputable def jF:List AV->Option (List (List Nat))
 |[]=>some []
 |x::r=>(x.ip).bind λi=>(jF r).map (i::·)
def iO(l:List AV):Option (List AV):=match uF l with
 |some ns=>some ((eZ fV ns).map .int)
 |none=>(jF l).map λts=>(eZ cg ts).map .str
def gi(l:List (List Nat)):List (List Nat):=List.rec (motive:=λO=>List (List Nat)->List (List Nat)) (λa=>a) (λx O ih a=>ih (match bw x a with|true=>a|false=>a++[x])) l []
def Cq(H:Hp)(x:AV):Option (List AV):=match x with
 |.lL l=>some (l.map .str)
 |_=>aP H x
noncomputable def kE(less:AV->AV->Option Bool):List AV->AV->Option AV
 |[],b=>some b
 |x::r,b=>(less x b).bind λc=>match c with|true=>kE less r x|false=>kE less r b
def HV(v:AV)(H:Hp):Option Nat:=match v with
 |.str l=>some l.length
 |.ref n=>match bq H n with
  |some l=>some l.length
  |none=>(cM H n).map λr=>r.2.length
 |.lst l=>some l.length
 |.tup l=>some l.length
 |_=>none
def mW(a b c:Int):Bool:=Nat.ble a.natAbs az&&Nat.ble b.natAbs az&&fV 0 c&&Nat.ble c.natAbs az
def Av(b:BI)(x:AV)(H:Hp):Option (AV×Hp):=match b with
 |.len=>(HV x H).bind λn=>aK (Nat.ble n az) (some (.int n,H))
 |.abs=>(x.int?).map λa=>(.int (match fV a 0 with|true=>-a|false=>a),H)
 |.int=>(x.int?).map λa=>(.int a,H)
 |.chr=>(x.int?).bind λa=>(uj a).bind λn=>aK (Nat.ble 65 n&&Nat.blt n 81) (some (.str [n-65],H))
 |.range=>(x.int?).bind λb=>aK (mW 0 b 1) (some (.fq 0 b 1,H))
 |.sorted=>(Cq H x).bind λl=>aK (Nat.blt l.length 64) ((iO l).map λr=>(.lst r,H))
 |.min=>(aP H x).bind λl=>match l with|[]=>none|y::ys=>(kE gQ ys y).map λr=>(r,H)
 |.set=>(aP H x).bind λl=>aK (Nat.blt l.length 64) ((jF l).map λts=>(.lL (gi ts),H))
 |.list=>(x.jH).bind λn=>(cM H n).map λr=>(.lst (r.2.map λp=>.str p.1),H)
 |.iter=>(x.jH).bind λn=>(bq H n).map λO=>(.ref H.length,H++[.iter n 0])
 |.tuple=>(aP H x).map λl=>(.tup l,H)
 |.bool=>(x.jH).bind λn=>(bq H n).map λl=>(.bool (!l.isEmpty),H)
 |_=>none
def Lf(b:BI)(x y:AV)(H:Hp):Option (AV×Hp):=match b with
 |.divmod=>(x.int?).bind λa=>(y.int?).bind λc=>aK (!iU c 0&&fT c) (some (.tup [.int (a.fdiv c),.int (a.fmod c)],H))
 |.range=>(x.int?).bind λa=>(y.int?).bind λc=>aK (mW a c 1) (some (.fq a c 1,H))
 |.zip=>(aP H x).bind λO=>(aP H y).map λO=>(.zip H.length,H++[.zip (H.length+1),.gw,.lit x 0,.lit y 0])
 |_=>none
def xR(b:BI)(args:List AV)(H:Hp):Option (AV×Hp):=match args with
 |[]=>match b with
  |.set=>some (.ref H.length,H++[.set []])
  |_=>none
 |x::r=>match r with
  |[]=>Av b x H
  |y::r=>match r with
   |[]=>Lf b x y H
   |_::_=>none
structure Ev where
 e:Nat->Bool->C->M AV
 t:Nat->Bool->C->M Bool
 s:Nat->Bool->S->M Fl
 w:Nat->Bool->C->S->S->M Fl
 f:Nat->Bool->C->ba->S->M Fl
 cp:Nat->C->ba->C->C->Nat->M Unit
 call:Nat->AV->List AV->M AV
noncomputable def cs:C->List C
 |.cons a r=>a::cs r
 |_=>[]
noncomputable def ss:S->List S
 |.cons a r=>a::ss r
 |_=>[]
noncomputable def C.lq(c:C):Option C:=match c with
 |.star a _=>some a
 |_=>Option.none
def iX(f:C->M AV)(l:List C):M (List AV):=List.rec (motive:=λO=>M (List AV)) (cq []) (λc O ih=>match c.lq with
  |some a=>M.bind (f a) λv=>bX λH=>qG H v
  |none=>M.bind (f c) λv=>M.bind ih λvs=>cq (v::vs)) l
def sZ(f:C->M AV)(c:C):M AV:=match c with
 |.nil=>cq .none
 |_=>f c
def d0(f:S->M Fl)(l:List S):M Fl:=List.rec (motive:=λO=>M Fl) (cq .next) (λs O ih=>M.bind (f s) λfl=>match fl with
  |.next=>ih
  |.brk=>cq .brk
  |.cont=>cq .cont
  |.ret v=>cq (.ret v)) l
def tP(f:C->M Bool)(isAnd:Bool)(l:List C):M Bool:=List.rec (motive:=λO=>M Bool) (cq isAnd) (λc O ih=>M.bind (f c) λb=>match b with
  |true=>match isAnd with|true=>ih|false=>cq true
  |false=>match isAnd with|true=>cq false|false=>ih) l
def Ar(f:C->M AV)(isAnd:Bool)(l:List C):M AV:=List.rec (motive:=λO=>M AV) M.stuck (λc r ih=>match r with
  |[]=>f c
  |_::_=>M.bind (f c) λv=>M.bind (bX (jg v)) λb=>match b with
   |true=>match isAnd with|true=>ih|false=>cq v
   |false=>match isAnd with|true=>cq v|false=>ih) l
def mI(k:Nat):M AV:=λU H=>match ae U k with
 |some o=>match o with
  |some v=>.ok v U H
  |none=>.stuck
 |none=>.stuck
def lx(k:Nat)(v:AV):M Unit:=λU H=>match Nat.blt k U.length with
 |true=>.ok () (ai U (some v) k) H
 |false=>.stuck
noncomputable def C.slot(c:C):Nat:=match c with
 |.var _ k _=>k
 |_=>9999
def r7(l:List C):List AV->M Unit:=List.rec (motive:=λO=>List AV->M Unit) (λvs=>match vs with|[]=>cq ()|_::_=>M.stuck) (λc O ih vs=>match vs with
 |[]=>M.stuck
 |v::vs=>M.bind (lx c.slot v) λO=>ih vs) l
noncomputable def z4(v:AV):Option (List AV):=match v with
 |.tup l=>some l
 |.lst l=>some l
 |_=>none
def iF(t:C)(v:AV):M Unit:=match t with
 |.var _ k _=>lx k v
 |.tup l _ _=>match z4 v with
  |some vs=>r7 (cs l) vs
  |none=>M.stuck
 |_=>M.stuck
inductive MK where
 |user (k:Nat)
 |list|dict|set|str
noncomputable def uk(mk:MK)(m:Nat):Bool:=match mk with
 |.list=>Nat.blt m 3
 |.dict=>Nat.beq m 6||Nat.beq m 7
 |.set=>Nat.beq m 8
 |.str=>Nat.beq m 5
 |.user _=>false
def lR(P:bO)(c:Nat):Option CD:=(ae P.gt c).bind λg=>match g with
 |.cl cd=>some cd
 |_=>none
def Sv(P:bO)(m:Nat)(o:AO):Option MK:=match o with
 |.inst c _=>(lR P c).bind λcd=>(cd.meths.lookup m).map .user
 |.list _=>some .list
 |.dict _ _=>some .dict
 |.set _=>some .set
 |_=>none
def nc(P:bO)(ov:AV)(m:Nat)(H:Hp):Option MK:=match ov with
 |.ref n=>(ae H n).bind λo=>Sv P m o
 |.str _=>some .str
 |_=>none
noncomputable def pX:List AV->Option (List Nat)
 |[]=>some []
 |x::r=>(x.ip).bind λa=>(pX r).map (a++·)
def uo(m:Nat)(n:Nat)(l:List AV)(args:List AV)(H:Hp):Option (AV×Hp):=match args with
 |[]=>match m with
  |1=>(l.getLast?).map λv=>(v,ai H (.list l.dropLast) n)
  |2=>some (.none,ai H (.list []) n)
  |_=>none
 |v::r=>match r with
  |[]=>match m with
   |0=>aK (Nat.blt l.length az) (some (.none,ai H (.list (l++[v])) n))
   |_=>none
  |_::_=>none
def wN(m:Nat)(n:Nat)(l:List (List Nat×AV))(args:List AV)(H:Hp):Option (AV×Hp):=match args with
 |[]=>aK (Nat.beq m 7) (some (.vals n,H))
 |v::r=>match r with
  |[]=>aK (Nat.beq m 6) ((v.ip).map λk=>((bT k l).getD .none,H))
  |x::r=>match r with
   |[]=>aK (Nat.beq m 6) ((v.ip).map λk=>((bT k l).getD x,H))
   |_::_=>none
def HH(n:Nat)(l:List (List Nat))(args:List AV)(H:Hp):Option (AV×Hp):=match args with
 |[]=>none
 |v::r=>match r with
  |[]=>(v.ip).bind λk=>aK (Nat.blt l.length 1000) (some (.none,match bw k l with|true=>H|false=>ai H (.set (l++[k])) n))
  |_::_=>none
def HG(sep:List Nat)(args:List AV)(H:Hp):Option (AV×Hp):=match args with
 |[]=>none
 |v::r=>match r with
  |[]=>aK sep.isEmpty ((aP H v).bind λl=>(pX l).bind λx=>aK (Nat.ble x.length az) (some (.str x,H)))
  |_::_=>none
def jK(mk:MK)(m:Nat)(ov:AV)(args:List AV)(H:Hp):Option (AV×Hp):=match mk with
 |.list=>(ov.jH).bind λn=>(bq H n).bind λl=>uo m n l args H
 |.dict=>(ov.jH).bind λn=>(cM H n).bind λr=>wN m n r.2 args H
 |.set=>(ov.jH).bind λn=>(oh H n).bind λl=>HH n l args H
 |.str=>(ov.ip).bind λl=>HG l args H
 |.user _=>none
noncomputable def fZ(l:List Nat)(a:Nat):Nat:=List.rec (motive:=λO=>Nat) 0 (λx O ih=>match Nat.beq x a with|true=>0|false=>ih+1) l
def qg(P:bO)(a:Nat)(ov:AV)(H:Hp):Option AV:=(ov.jH).bind λn=>(ae H n).bind λo=>match o with
 |.inst c fs=>(lR P c).bind λcd=>(ae fs (fZ cd.bx a)).bind λr=>r
 |.iter _ _=>aK (Nat.beq a 9) (some (.cK n))
 |_=>none
def pF(P:bO)(a:Nat)(ov v:AV)(H:Hp):Option Hp:=(ov.jH).bind λn=>(xd H n).bind λr=>(lR P r.1).bind λcd=>aK (Nat.blt (fZ cd.bx a) r.2.length) (some (ai H (.inst r.1 (ai r.2 (some v) (fZ cd.bx a))) n))
def og(o i v:AV)(H:Hp):Option Hp:=(o.jH).bind λn=>match bq H n with
 |some l=>(i.int?).bind λk=>(uj k).bind λj=>aK (Nat.blt j l.length) (some (ai H (.list (ai l v j)) n))
 |none=>match gT H n with
  |some r=>(wY i).bind λk=>aK (Nat.blt r.2.length az) (some (ai H (.idict (match bS k r.2 with|true=>r.1|false=>r.1+1) (fx k v r.2)) n))
  |none=>(cM H n).bind λr=>(i.ip).bind λk=>aK (Nat.blt r.2.length az) (some (ai H (.dict (match bS k r.2 with|true=>r.1|false=>r.1+1) (fx k v r.2)) n))
def xI(o i:AV)(H:Hp):Option Hp:=(o.jH).bind λn=>(cM H n).bind λr=>(i.ip).bind λk=>aK (bS k r.2) (some (ai H (.dict (r.1+1) (oN k r.2)) n))
def yu(P:bO)(f:C->M AV)(q:Bool)(v:AV)(t:C):M Unit:=match t with
 |.var _ k _=>lx k v
 |.sub o i _=>M.bind (f o) λov=>M.bind (f i) λiv=>ij λH=>og ov iv v H
 |.attr o _ a _=>M.bind (f o) λov=>ij λH=>pF P a ov v H
 |.tup ..=>match q with|true=>iF t v|false=>M.stuck
 |_=>M.stuck
def vX(P:bO)(f:C->M AV)(q:Bool)(v:AV)(l:List C):M Unit:=List.rec (motive:=λO=>M Unit) (cq ()) (λt O ih=>M.bind (yu P f q v t) λO=>ih) l
noncomputable def tj(v:AV):Bool:=match v with
 |.glob _=>true
 |.cK _=>true
 |_=>false
def iD(l:List Nat)(U:aD):aD:=List.rec (motive:=λO=>aD->aD) (λU=>U) (λk O ih U=>ih (ai U none k)) l U
def Ga(t:C):List Nat:=match t with
 |.var _ k _=>[k]
 |.tup l _ _=>(cs l).map C.slot
 |_=>[]
def slots(t elt:C):List Nat:=Ga t++match elt with
 |.gen t2 _ _=>Ga t2
 |_=>[]
def s9(E:Ev)(d:Nat)(elt tg ifs:C)(x:AV):M AV:=λU H=>match dX x H with
 |some src=>match E.cp d tg src ifs elt H.length (iD (slots tg elt) U) (H++[.list []]) with
  |.ok _ _ H'=>.ok (.ref H.length) U H'
  |.exc ..=>.stuck
  |.stuck=>.stuck
 |none=>.stuck
def vj(E:Ev)(d:Nat)(q:Bool)(elt tg it ifs:C):M AV:=match q with
 |true=>M.bind (E.e d true it) (s9 E d elt tg ifs)
 |false=>M.stuck
def xy(P:bO)(k:Nat):M AV:=match ae P.gt k with
 |some g=>match g with
  |.cv v=>cq v
  |_=>cq (.glob k)
 |none=>M.stuck
def Le(E:Ev)(d:Nat)(q:Bool)(op:Operator)(a b:C):M AV:=M.bind (E.e d q a) λx=>M.bind (E.e d q b) λy=>bX (i6 op x y)
noncomputable def B4(x:AV):Option AV:=(x.int?).map λa=>.int (-a)
def Hq(E:Ev)(d:Nat)(q:Bool)(a:C):M AV:=M.bind (E.e d q a) λx=>bX λO=>B4 x
def Hf(E:Ev)(d:Nat)(q:Bool)(a:C):M AV:=M.bind (E.e d q a) λx=>M.bind (bX (jg x)) λb=>cq (.bool (!b))
def xK(op:CmpOp)(x y:AV)(H:Hp):Option AV:=(gF op x y H).map .bool
def Kq(E:Ev)(d:Nat)(q:Bool)(op:CmpOp)(a b:C):M AV:=M.bind (E.e d q a) λx=>M.bind (E.e d q b) λy=>bX (xK op x y)
def KS(E:Ev)(d:Nat)(q:Bool)(f args:C):M AV:=M.bind (E.e d q f) λfv=>match tj fv&&q with
 |true=>M.bind (iX (E.e d q) (cs args)) λvs=>E.call d fv vs
 |false=>M.stuck
noncomputable def uQ(l:List C):Bool:=l.any λc=>c.lq.isSome
def zc(E:Ev)(d:Nat)(q:Bool)(mk:MK)(ov:AV)(m:Nat)(args:C):M AV:=match uk mk m&&!uQ (cs args) with
 |true=>M.bind (iX (E.e d q) (cs args)) λvs=>mF λH=>jK mk m ov vs H
 |false=>M.stuck
def Hx(E:Ev)(d:Nat)(q:Bool)(k:Nat)(ov:AV)(args:C):M AV:=match q with
 |true=>M.bind (iX (E.e d q) (cs args)) λvs=>E.call d (.glob k) (ov::vs)
 |false=>M.stuck
def B9(E:Ev)(d:Nat)(q:Bool)(mk:MK)(ov:AV)(m:Nat)(args:C):M AV:=match mk with
 |.user k=>Hx E d q k ov args
 |_=>zc E d q mk ov m args
def HE(P:bO)(E:Ev)(d:Nat)(q:Bool)(o:C)(m:Nat)(args:C):M AV:=M.bind (E.e d q o) λov=>M.bind (bX (nc P ov m)) λmk=>B9 E d q mk ov m args
def aaN(P:bO)(E:Ev)(d:Nat)(q:Bool)(o:C)(a:Nat):M AV:=M.bind (E.e d q o) λov=>bX (qg P a ov)
def FG(E:Ev)(d:Nat)(q:Bool)(o i:C):M AV:=M.bind (E.e d q o) λov=>M.bind (E.e d q i) λiv=>bX (jh ov iv)
def Gd(E:Ev)(d:Nat)(q:Bool)(o lo hi:C):M AV:=M.bind (E.e d q o) λov=>M.bind (sZ (E.e d q) lo) λa=>M.bind (sZ (E.e d q) hi) λb=>bX (mP ov a b)
noncomputable def HM(r:Bool)(vs:List AV)(H:Hp):Option (AV×Hp):=match r with
 |true=>some (.ref H.length,H++[.list vs])
 |false=>some (.lst vs,H)
def HT(E:Ev)(d:Nat)(q:Bool)(l:C)(r:Bool):M AV:=M.bind (iX (E.e d q) (cs l)) λvs=>mF (HM r vs)
def Fw(E:Ev)(d:Nat)(q:Bool)(l:C):M AV:=M.bind (iX (E.e d q) (cs l)) λvs=>cq (.tup vs)
noncomputable def Kh(i:Bool):M AV:=λU H=>.ok (.ref H.length) U (H++[match i with|true=>.idict 0 []|false=>.dict 0 []])
def II(E:Ev)(d:Nat)(q:Bool)(t a b:C):M AV:=M.bind (E.t d q t) λc=>match c with
 |true=>E.e d q a
 |false=>E.e d q b
def Nz(E:Ev)(d:Nat)(q:Bool)(t e:C):M AV:=M.bind (E.e d q e) λv=>M.bind (lx t.slot v) λO=>cq v
def FT(P:bO)(E:Ev)(d:Nat)(q:Bool)(c:C):M AV:=match c with
 |.cst _ v _ _=>cq v
 |.var _ k _=>mI k
 |.glob _ k _=>xy P k
 |.bin op a b _=>Le E d q op a b
 |.neg a _=>Hq E d q a
 |.not a _=>Hf E d q a
 |.cmp op a b _=>Kq E d q op a b
 |.gX isAnd l _=>Ar (E.e d q) isAnd (cs l)
 |.call f args _=>KS E d q f args
 |.bV o _ m args _ _=>HE P E d q o m args
 |.attr o _ a _=>aaN P E d q o a
 |.sub o i _=>FG E d q o i
 |.iq o lo hi _ _=>Gd E d q o lo hi
 |.list l r _=>HT E d q l r
 |.tup l _ _=>Fw E d q l
 |.dict i _=>Kh i
 |.qU t a b _=>II E d q t a b
 |.comp elt tg it ifs _ _=>vj E d q elt tg it ifs
 |.rV t e _=>Nz E d q t e
 |_=>M.stuck
def He(E:Ev)(d:Nat)(q:Bool)(a:C):M Bool:=M.bind (E.t d q a) λb=>cq (!b)
def Ko(E:Ev)(d:Nat)(q:Bool)(op:CmpOp)(a b:C):M Bool:=M.bind (E.e d q a) λx=>M.bind (E.e d q b) λy=>bX (gF op x y)
def E0(E:Ev)(d:Nat)(q:Bool)(c:C):M Bool:=M.bind (E.e d q c) λv=>bX (jg v)
def FP(E:Ev)(d:Nat)(q:Bool)(c:C):M Bool:=match c with
 |.not a _=>He E d q a
 |.gX isAnd l _=>tP (E.t d q) isAnd (cs l)
 |.cmp op a b _=>Ko E d q op a b
 |.qU ..=>M.stuck
 |.gen ..=>M.stuck
 |_=>E0 E d q c
noncomputable def xT(op:Operator)(x y:AV):Option AV:=(x.int?).bind λi=>(y.int?).bind λj=>match op with
 |.Add=>some (.int (i+j))
 |.Sub=>some (.int (i-j))
 |_=>none
def qA(E:Ev)(d:Nat)(q:Bool)(e:C):M AV:=match e with
 |.comp elt tg it ifs _ _=>vj E d q elt tg it ifs
 |_=>E.e d q e
def Ea(P:bO)(E:Ev)(d:Nat)(q:Bool)(ts e:C):M Fl:=M.bind (qA E d q e) λv=>M.bind (vX P (E.e d q) q v (cs ts)) λO=>cq .next
def aaL(E:Ev)(d:Nat)(q:Bool)(op:Operator)(k:Nat)(e:C):M Fl:=M.bind (mI k) λx=>M.bind (E.e d q e) λy=>M.bind (bX λO=>xT op x y) λv=>M.bind (lx k v) λO=>cq .next
def Lj(P:bO)(E:Ev)(d:Nat)(q:Bool)(op:Operator)(o:C)(a:Nat)(e:C):M Fl:=M.bind (E.e d q o) λov=>M.bind (bX (qg P a ov)) λx=>M.bind (E.e d q e) λy=>M.bind (bX λO=>xT op x y) λv=>M.bind (ij λH=>pF P a ov v H) λO=>cq .next
def Ll(P:bO)(E:Ev)(d:Nat)(q:Bool)(op:Operator)(t e:C):M Fl:=match t with
 |.var _ k _=>aaL E d q op k e
 |.attr o _ a _=>Lj P E d q op o a e
 |_=>M.stuck
def JU(E:Ev)(d:Nat)(q:Bool)(e:C):M Fl:=M.bind (E.e d q e) λO=>cq .next
def IH(E:Ev)(d:Nat)(q:Bool)(t:C)(a b:S):M Fl:=M.bind (E.t d q t) λc=>match c with
 |true=>d0 (E.s d q) (ss a)
 |false=>d0 (E.s d q) (ss b)
def zm(E:Ev)(d:Nat)(tg:C)(b:S)(x:AV):M Fl:=λU H=>match dX x H with
 |some src=>M.calm (E.f d true tg src b) U H
 |none=>.stuck
def HO(E:Ev)(d:Nat)(q:Bool)(tg it:C)(b:S):M Fl:=match q with
 |true=>M.bind (E.e d true it) (zm E d tg b)
 |false=>M.stuck
def GI(E:Ev)(d:Nat)(q:Bool)(e:C):M Fl:=M.bind (sZ (E.e d q) e) λv=>cq (.ret v)
def uR(P:bO)(E:Ev)(d:Nat)(k:Nat)(h:S)(x:Nat):M Fl:=match ae P.gt k with
 |some (.exc y)=>match Nat.beq y x with
  |true=>M.calm (d0 (E.s d false) (ss h))
  |false=>M.stuck
 |_=>M.stuck
def tQ(P:bO)(E:Ev)(d:Nat)(q:Bool)(b:S)(k:Nat)(h:S):M Fl:=match q with
 |true=>λU H=>match d0 (E.s d true) (ss b) U H with
  |.ok f ρ' H'=>.ok f ρ' H'
  |.exc x ρ' H'=>uR P E d k h x ρ' H'
  |.stuck=>.stuck
 |false=>M.stuck
def Ki(E:Ev)(d:Nat)(q:Bool)(o i:C):M Fl:=M.bind (E.e d q o) λov=>M.bind (E.e d q i) λiv=>M.bind (ij λH=>xI ov iv H) λO=>cq .next
def FQ(P:bO)(E:Ev)(d:Nat)(q:Bool)(c:S):M Fl:=match c with
 |.asg ts e _=>Ea P E d q ts e
 |.aug op t e _=>Ll P E d q op t e
 |.expr e _=>JU E d q e
 |.iff t a b _=>IH E d q t a b
 |.ie t a b _=>M.calm (E.w d q t a b)
 |.loop tg it b _=>HO E d q tg it b
 |.ret e _=>GI E d q e
 |.brk _=>cq .brk
 |.cont _=>cq .cont
 |.pass _=>cq .next
 |.tri b _ k _ h _ _=>tQ P E d q b k h
 |.del o i _ _=>Ki E d q o i
 |_=>M.stuck
def vP(again:M Fl)(fl:Fl):M Fl:=match fl with
 |.next=>again
 |.cont=>again
 |.brk=>cq .next
 |.ret v=>cq (.ret v)
def FO(E:Ev)(d:Nat)(q:Bool)(t:C)(b e:S):M Fl:=M.calm (M.bind (E.t d q t) λc=>match c with
 |true=>M.bind (d0 (E.s d q) (ss b)) (vP (E.w d q t b e))
 |false=>d0 (E.s d q) (ss e))
def W7(E:Ev)(d:Nat)(q:Bool)(tg:C)(b:S)(v:AV)(src:ba):M Fl:=M.calm (M.bind (iF tg v) λO=>M.bind (d0 (E.s d q) (ss b)) (vP (E.f d q tg src b)))
def pD(E:Ev)(d:Nat)(q:Bool)(tg:C)(src:ba)(b:S):M Fl:=λU H=>match src.nx tg H with
 |none=>.stuck
 |some r=>match r.1 with
  |none=>.ok .next U r.2
  |some p=>W7 E d q tg b p.1 p.2 U r.2
def tu(k:Nat)(x:AV)(H:Hp):Option Hp:=(bq H k).bind λl=>aK (Nat.blt l.length az) (some (ai H (.list (l++[x])) k))
def FZ(x:AV):M ba:=bX λH=>dX x H
def vc(E:Ev)(d:Nat)(elt:C)(k:Nat):M Unit:=match elt with
 |.gen tg it e=>M.bind (E.e d true it) λx=>M.bind (FZ x) λsrc=>E.cp d tg src .nil e k
 |_=>M.bind (E.e d true elt) λx=>ij (tu k x)
def YU(E:Ev)(d:Nat)(tg ifs elt:C)(k:Nat)(v:AV)(src:ba):M Unit:=M.calm (M.bind (iF tg v) λO=>M.bind (tP (E.t d true) true (cs ifs)) λb=>match b with
 |true=>M.bind (vc E d elt k) λO=>E.cp d tg src ifs elt k
 |false=>E.cp d tg src ifs elt k)
def r0(E:Ev)(d:Nat)(tg:C)(src:ba)(ifs elt:C)(k:Nat):M Unit:=λU H=>match src.nx tg H with
 |none=>.stuck
 |some r=>match r.1 with
  |none=>.ok () U r.2
  |some p=>YU E d tg ifs elt k p.1 p.2 U r.2
def nz(f:FD)(args:List AV):Option aD:=match f.va with
 |true=>aK (Nat.ble f.npar args.length&&Nat.ble args.length az) (some ((args.take f.npar).map some++[some (.tup (args.drop f.npar))]++List.replicate (f.wH-f.npar-1) none))
 |false=>aK (Nat.beq (args.length+f.dflt.length) f.npar) (some ((args++f.dflt).map some++List.replicate (f.wH-f.npar) none))
noncomputable def sX(U:aD)(r:du Fl):du AV:=match r with
 |.ok f _ H'=>match f with
  |.ret v=>.ok v U H'
  |.next=>.ok .none U H'
  |_=>.stuck
 |_=>.stuck
def xB(E:Ev)(d:Nat)(fd:FD)(args:List AV):M AV:=λU H=>match d with
 |0=>.stuck
 |d'+1=>match nz fd args with
  |some ρ'=>sX U (d0 (E.s d' true) (ss fd.body) ρ' H)
  |none=>.stuck
noncomputable def th(U:aD)(k:Nat)(r:du AV):du AV:=match r with
 |.ok v _ H'=>match v with
  |.none=>.ok (.ref k) U H'
  |_=>.stuck
 |_=>.stuck
def vm(E:Ev)(d:Nat)(k:Nat)(cd:CD)(args:List AV):M AV:=λU H=>match d with
 |0=>.stuck
 |d'+1=>match cd.slots with
  |true=>th U (H.length+1) (E.call d' (.glob cd.init) (.ref (H.length+1)::args) U (H++[.dead,.inst k (cd.bx.map λO=>none)]))
  |false=>th U H.length (E.call d' (.glob cd.init) (.ref H.length::args) U (H++[.inst k (cd.bx.map λO=>none)]))
def sm(n:Nat)(args:List AV):M AV:=λU H=>match args with
 |_::_=>.stuck
 |[]=>match sL H n with
  |none=>.stuck
  |some p=>match bq H p.1 with
   |none=>.stuck
   |some l=>match ae l p.2 with
    |some v=>.ok v U (ai H (.iter p.1 (p.2+1)) n)
    |none=>.exc 0 U (ai H .dead n)
def qc(E:Ev)(d:Nat)(k:Nat)(g:GE)(args:List AV):M AV:=match g with
 |.fn fd=>xB E d fd args
 |.cl cd=>vm E d k cd args
 |.bi b=>mF λH=>xR b args H
 |_=>M.stuck
def vY(P:bO)(E:Ev)(d:Nat)(f:AV)(args:List AV):M AV:=match f with
 |.glob k=>match ae P.gt k with
  |some g=>qc E d k g args
  |none=>M.stuck
 |.cK n=>sm n args
 |_=>M.stuck
def FR(P:bO)(E:Ev):Ev where
 e:=FT P E
 t:=FP E
 s:=FQ P E
 w:=FO E
 f:=pD E
 cp:=r0 E
 call:=vY P E
def XH:Ev where
 e:=λO O O=>M.stuck
 t:=λO O O=>M.stuck
 s:=λO O O=>M.stuck
 w:=λO O O O O=>M.stuck
 f:=λO O O O O=>M.stuck
 cp:=λO O O O O O=>M.stuck
 call:=λO O O=>M.stuck
def ev(P:bO)(n:Nat):Ev:=Nat.rec XH (λO E=>FR P E) n
end
section
open Nat.Internal
def IG(U:Linear.Context)(P:Prop)(hs:List (Linear.Expr×Linear.Expr)):Prop:=List.rec (motive:=λO=>Prop) P (λh O ih=>h.1.denote U<=h.2.denote U->ih) hs
noncomputable def tS(f:Linear.Expr×Linear.Expr->Linear.Expr)(hs:List (Linear.Expr×Linear.Expr))(e:Linear.Expr):Linear.Expr:=List.rec (motive:=λO=>Linear.Expr) e (λh O ih=>.add (f h) ih) hs
noncomputable def lX(l:List Nat):Nat->Lean.RArray Nat:=List.rec (motive:=λO=>Nat->Lean.RArray Nat) (λO=>.leaf 0) (λx O ih i=>.branch (i+1) (.leaf x) (ih (i+1))) l
theorem Uc(U:Linear.Context)(x y:Linear.Expr)(hs:List (Linear.Expr×Linear.Expr)):∀c:Nat,c+(tS (·.2) hs x).denote U<=c+(tS (·.1) hs y).denote U->IG U (x.denote U<=y.denote U) hs:=by
 induction hs with
 |nil=>exact λc h=>Nat.le_of_add_le_add_left h
 |cons r hs ih=>intro c h hp;exact ih (c+r.2.denote U) (aH (bL (mj _ _ _)) (aH h (aH (ib (nW hp _) c) (bL (mj _ _ _).symm))))
def aM(l:List Nat)(hs:List (Linear.Expr×Linear.Expr))(x y:Linear.Expr)(ok:(Linear.ExprCnstr.mk false (tS (·.2) hs x) (tS (·.1) hs y)).toNormPoly.isValid=true):IG (lX l 0) (x.denote (lX l 0)<=y.denote (lX l 0)) hs:=Uc _ x y hs 0 (ib (of_eq_true (Linear.ExprCnstr.eq_true_of_isValid (lX l 0) _ ok):Linear.Expr.denote (lX l 0) (tS (·.2) hs x)<=Linear.Expr.denote (lX l 0) (tS (·.1) hs y)) 0)
abbrev Lv:=Linear.Expr.var
abbrev Lk:=Linear.Expr.num
abbrev La:=Linear.Expr.add
abbrev Lm:=Linear.Expr.mulL
end
section
section
variable {x0 x1 x2 x3 x4 x5 x6 x7:Nat}
def me(h0:(x0+(x2+1))=x1):x0<x1:=aM [x0,x1,x2] [(La (Lv 0) (La (Lv 2) (Lk 1)),Lv 1)] (La (Lv 0) (Lk 1)) (Lv 1) rfl (bL h0)
def j5(h0:(x0+(x1+1))<x2):((x0+1)+x1)<x2:=aM [x0,x1,x2] [(La (La (Lv 0) (La (Lv 1) (Lk 1))) (Lk 1),Lv 2)] (La (La (La (Lv 0) (Lk 1)) (Lv 1)) (Lk 1)) (Lv 2) rfl h0
def ja(h0:(x0+(x1+1))=x2):((x0+1)+x1)=x2:=Nat.le_antisymm (aM [x0,x1,x2] [(La (Lv 0) (La (Lv 1) (Lk 1)),Lv 2)] (La (La (Lv 0) (Lk 1)) (Lv 1)) (Lv 2) rfl (bL h0)) (aM [x0,x1,x2] [(Lv 2,La (Lv 0) (La (Lv 1) (Lk 1)))] (Lv 2) (La (La (Lv 0) (Lk 1)) (Lv 1)) rfl (bL h0.symm))
def iJ(h0:(x1+0)=x0):x0<=x1:=aM [x0,x1] [(Lv 0,La (Lv 1) (Lk 0))] (Lv 0) (Lv 1) rfl (bL h0.symm)
def j4(h0:(x0+(x2+1))<x1):x0<x1:=aM [x0,x1,x2] [(La (La (Lv 0) (La (Lv 2) (Lk 1))) (Lk 1),Lv 1)] (La (Lv 0) (Lk 1)) (Lv 1) rfl h0
def L8(h0:x1<x2)(h1:x2<=x0):x0≠x1:=ei (aM [x0,x1,x2] [(La (Lv 1) (Lk 1),Lv 2),(Lv 2,Lv 0)] (La (Lv 1) (Lk 1)) (Lv 0) rfl h0 h1)
def nP(h0:(x0+(x1+1))<x2):(x0+x1)<x2:=aM [x0,x1,x2] [(La (La (Lv 0) (La (Lv 1) (Lk 1))) (Lk 1),Lv 2)] (La (La (Lv 0) (Lv 1)) (Lk 1)) (Lv 2) rfl h0
def AL(h0:x0<x1):x0≠x1:=dz (aM [x0,x1] [(La (Lv 0) (Lk 1),Lv 1)] (La (Lv 0) (Lk 1)) (Lv 1) rfl h0)
def LU(h0:x1<=x0):¬(x0<x1):=Nat.not_lt_of_le (aM [x0,x1] [(Lv 1,Lv 0)] (Lv 1) (Lv 0) rfl h0)
def EF :x0<=(0+x0):=aM [x0] [] (Lv 0) (La (Lk 0) (Lv 0)) rfl 
def MH(h0:x0<x1):(0+x0)<x1:=aM [x0,x1] [(La (Lv 0) (Lk 1),Lv 1)] (La (La (Lk 0) (Lv 0)) (Lk 1)) (Lv 1) rfl h0
def AU(h0:x0<=1000000):x0<=3000000:=aM [x0] [(Lv 0,Lk 1000000)] (Lv 0) (Lk 3000000) rfl h0
def rI(h0:1000<=x1)(h1:x0<1000):x0<x1:=aM [x0,x1] [(Lk 1000,Lv 1),(La (Lv 0) (Lk 1),Lk 1000)] (La (Lv 0) (Lk 1)) (Lv 1) rfl h0 h1
def Mq(h0:x0<x2)(h1:x2<=x3)(h2:x3<x1):x0<x1:=aM [x0,x1,x2,x3] [(La (Lv 0) (Lk 1),Lv 2),(Lv 2,Lv 3),(La (Lv 3) (Lk 1),Lv 1)] (La (Lv 0) (Lk 1)) (Lv 1) rfl h0 h1 h2
def ya :(x0+2)≠x0:=ei (aM [x0] [] (La (Lv 0) (Lk 1)) (La (Lv 0) (Lk 2)) rfl)
def AS :x0≠(x0+3):=dz (aM [x0] [] (La (Lv 0) (Lk 1)) (La (Lv 0) (Lk 3)) rfl)
def tG :x0≠(x0+1):=dz (aM [x0] [] (La (Lv 0) (Lk 1)) (La (Lv 0) (Lk 1)) rfl)
def x9 :x0<=(x0+x1):=aM [x0,x1] [] (Lv 0) (La (Lv 0) (Lv 1)) rfl 
def EC :(x0+1)≠(x0+3):=dz (aM [x0] [] (La (La (Lv 0) (Lk 1)) (Lk 1)) (La (Lv 0) (Lk 3)) rfl)
def AR :(x0+2)≠(x0+1):=ei (aM [x0] [] (La (La (Lv 0) (Lk 1)) (Lk 1)) (La (Lv 0) (Lk 2)) rfl)
def EB(h0:x0<x1):x0≠(x1+1):=dz (aM [x0,x1] [(La (Lv 0) (Lk 1),Lv 1)] (La (Lv 0) (Lk 1)) (La (Lv 1) (Lk 1)) rfl h0)
def EA(h0:(x1+4)<=x0):x0≠x1:=ei (aM [x0,x1] [(La (Lv 1) (Lk 4),Lv 0)] (La (Lv 1) (Lk 1)) (Lv 0) rfl h0)
def Ez(h0:x0<x1):x0≠(x1+3):=dz (aM [x0,x1] [(La (Lv 0) (Lk 1),Lv 1)] (La (Lv 0) (Lk 1)) (La (Lv 1) (Lk 3)) rfl h0)
def AQ(h0:x0<=x1):x0<=(x1+1):=aM [x0,x1] [(Lv 0,Lv 1)] (Lv 0) (La (Lv 1) (Lk 1)) rfl h0
def Ey(h0:x0<x1):x0<(x1+4):=aM [x0,x1] [(La (Lv 0) (Lk 1),Lv 1)] (La (Lv 0) (Lk 1)) (La (Lv 1) (Lk 4)) rfl h0
def Ew(h0:(x0+x2)<x1):x0<=x1:=aM [x0,x1,x2] [(La (La (Lv 0) (Lv 2)) (Lk 1),Lv 1)] (Lv 0) (Lv 1) rfl h0
def Eu(h0:x0<16):(65+x0)<128:=aM [x0] [(La (Lv 0) (Lk 1),Lk 16)] (La (La (Lk 65) (Lv 0)) (Lk 1)) (Lk 128) rfl h0
def Et(h0:x0<x2)(h1:x2<=x1):x0<x1:=aM [x0,x1,x2] [(La (Lv 0) (Lk 1),Lv 2),(Lv 2,Lv 1)] (La (Lv 0) (Lk 1)) (Lv 1) rfl h0 h1
def AP(h0:x0<x2)(h1:x1=x2):x0<x1:=aM [x0,x1,x2] [(La (Lv 0) (Lk 1),Lv 2),(Lv 2,Lv 1)] (La (Lv 0) (Lk 1)) (Lv 1) rfl h0 (bL h1.symm)
def Es(h0:(x1+4)<=x0):x0≠(x1+1):=ei (aM [x0,x1] [(La (Lv 1) (Lk 4),Lv 0)] (La (La (Lv 1) (Lk 1)) (Lk 1)) (Lv 0) rfl h0)
def Er(h0:(x1+4)<=x0):x0≠(x1+3):=ei (aM [x0,x1] [(La (Lv 1) (Lk 4),Lv 0)] (La (La (Lv 1) (Lk 3)) (Lk 1)) (Lv 0) rfl h0)
def Ep(h0:(65+x0)=(65+x1)):x0=x1:=Nat.le_antisymm (aM [x0,x1] [(La (Lk 65) (Lv 0),La (Lk 65) (Lv 1))] (Lv 0) (Lv 1) rfl (bL h0)) (aM [x0,x1] [(La (Lk 65) (Lv 1),La (Lk 65) (Lv 0))] (Lv 1) (Lv 0) rfl (bL h0.symm))
def Eo(h0:(x3+x1)<x2)(h1:x0<=x3):(x0+x1)<x2:=aM [x0,x1,x2,x3] [(La (La (Lv 3) (Lv 1)) (Lk 1),Lv 2),(Lv 0,Lv 3)] (La (La (Lv 0) (Lv 1)) (Lk 1)) (Lv 2) rfl h0 h1
def Em(h0:((x0+(8*(x1+1)))+8)<x2):(((x0+1)+(8*x1))+8)<x2:=aM [x0,x1,x2] [(La (La (La (Lv 0) (Lm 8 (La (Lv 1) (Lk 1)))) (Lk 8)) (Lk 1),Lv 2)] (La (La (La (La (Lv 0) (Lk 1)) (Lm 8 (Lv 1))) (Lk 8)) (Lk 1)) (Lv 2) rfl h0
def AN :x0<=x0:=aM [x0] [] (Lv 0) (Lv 0) rfl 
def L5 :1<=(x0+1):=aM [x0] [] (Lk 1) (La (Lv 0) (Lk 1)) rfl 
def L4 :x0≠(x0+2):=dz (aM [x0] [] (La (Lv 0) (Lk 1)) (La (Lv 0) (Lk 2)) rfl)
def El :x0<=(x0+3):=aM [x0] [] (Lv 0) (La (Lv 0) (Lk 3)) rfl 
def AM :x0<=(x0+1):=aM [x0] [] (Lv 0) (La (Lv 0) (Lk 1)) rfl 
def L3 :(x0+3)≠x0:=ei (aM [x0] [] (La (Lv 0) (Lk 1)) (La (Lv 0) (Lk 3)) rfl)
def LZ :(x0+1)≠x0:=ei (aM [x0] [] (La (Lv 0) (Lk 1)) (La (Lv 0) (Lk 1)) rfl)
def LY :2<=((x0+1)+1):=aM [x0] [] (Lk 2) (La (La (Lv 0) (Lk 1)) (Lk 1)) rfl 
def LX(h0:x0=x1):¬(x0<x1):=Nat.not_lt_of_le (aM [x0,x1] [(Lv 1,Lv 0)] (Lv 1) (Lv 0) rfl (bL h0.symm))
def LW(h0:x0<200):x0<9000:=aM [x0] [(La (Lv 0) (Lk 1),Lk 200)] (La (Lv 0) (Lk 1)) (Lk 9000) rfl h0
def Ek :(x0+1)<(x0+4):=aM [x0] [] (La (La (Lv 0) (Lk 1)) (Lk 1)) (La (Lv 0) (Lk 4)) rfl 
def LV(h0:x0<x1):x0≠(x1+2):=dz (aM [x0,x1] [(La (Lv 0) (Lk 1),Lv 1)] (La (Lv 0) (Lk 1)) (La (Lv 1) (Lk 2)) rfl h0)
def LS(h0:x0<=x1):x0<=(x1+2):=aM [x0,x1] [(Lv 0,Lv 1)] (Lv 0) (La (Lv 1) (Lk 2)) rfl h0
def LR(h0:(x0+1)<=x1):x0<=x1:=aM [x0,x1] [(La (Lv 0) (Lk 1),Lv 1)] (Lv 0) (Lv 1) rfl h0
def LQ(h0:x0<16):(65+x0)<81:=aM [x0] [(La (Lv 0) (Lk 1),Lk 16)] (La (La (Lk 65) (Lv 0)) (Lk 1)) (Lk 81) rfl h0
def MW(h0:(65+x0)<81):x0<16:=aM [x0] [(La (La (Lk 65) (Lv 0)) (Lk 1),Lk 81)] (La (Lv 0) (Lk 1)) (Lk 16) rfl h0
def MV(h0:x0<=x2)(h1:x2<x1):x0<x1:=aM [x0,x1,x2] [(Lv 0,Lv 2),(La (Lv 2) (Lk 1),Lv 1)] (La (Lv 0) (Lk 1)) (Lv 1) rfl h0 h1
def MU(h0:x0=x2)(h1:x1<x2):x0≠x1:=ei (aM [x0,x1,x2] [(Lv 2,Lv 0),(La (Lv 1) (Lk 1),Lv 2)] (La (Lv 1) (Lk 1)) (Lv 0) rfl (bL h0.symm) h1)
def EE(h0:x0<x2)(h1:x2<=x1):x0<=x1:=aM [x0,x1,x2] [(La (Lv 0) (Lk 1),Lv 2),(Lv 2,Lv 1)] (Lv 0) (Lv 1) rfl h0 h1
def MT(h0:x0<1000):(x0+1)<4096:=aM [x0] [(La (Lv 0) (Lk 1),Lk 1000)] (La (La (Lv 0) (Lk 1)) (Lk 1)) (Lk 4096) rfl h0
def MS(h0:1<=x0):1<=((16*0)+x0):=aM [x0] [(Lk 1,Lv 0)] (Lk 1) (La (Lm 16 (Lk 0)) (Lv 0)) rfl h0
def MR(h0:1<=x0):1<=((16*x0)+x1):=aM [x0,x1] [(Lk 1,Lv 0)] (Lk 1) (La (Lm 16 (Lv 0)) (Lv 1)) rfl h0
def MQ(h0:(x1+4)<=x0):x0≠(x1+2):=ei (aM [x0,x1] [(La (Lv 1) (Lk 4),Lv 0)] (La (La (Lv 1) (Lk 2)) (Lk 1)) (Lv 0) rfl h0)
def MP(h0:(x0+4)<=x1):x0<(x1+1):=aM [x0,x1] [(La (Lv 0) (Lk 4),Lv 1)] (La (Lv 0) (Lk 1)) (La (Lv 1) (Lk 1)) rfl h0
def MO(h0:(x0+1)<=(x1+1)):x0<=x1:=aM [x0,x1] [(La (Lv 0) (Lk 1),La (Lv 1) (Lk 1))] (Lv 0) (Lv 1) rfl h0
def MN(h0:x0<=x1):(1+x0)<=(x1+1):=aM [x0,x1] [(Lv 0,Lv 1)] (La (Lk 1) (Lv 0)) (La (Lv 1) (Lk 1)) rfl h0
def MM(h0:x0<16):(65+x0)<1114112:=aM [x0] [(La (Lv 0) (Lk 1),Lk 16)] (La (La (Lk 65) (Lv 0)) (Lk 1)) (Lk 1114112) rfl h0
def ED(h0:x0<=x1):(x0+1)<=(x1+1):=aM [x0,x1] [(Lv 0,Lv 1)] (La (Lv 0) (Lk 1)) (La (Lv 1) (Lk 1)) rfl h0
def ML(h0:x0<=100):x0<=(16777216+1):=aM [x0] [(Lv 0,Lk 100)] (Lv 0) (La (Lk 16777216) (Lk 1)) rfl h0
def MJ(h0:x0<=x2):(0+x0)<=(x1+x2):=aM [x0,x1,x2] [(Lv 0,Lv 2)] (La (Lk 0) (Lv 0)) (La (Lv 1) (Lv 2)) rfl h0
def AW(h0:x1<=x2):(x0+x1)<=(x0+x2):=aM [x0,x1,x2] [(Lv 1,Lv 2)] (La (Lv 0) (Lv 1)) (La (Lv 0) (Lv 2)) rfl h0
def MI(h0:(65+x0)<(65+x1)):x0<x1:=aM [x0,x1] [(La (La (Lk 65) (Lv 0)) (Lk 1),La (Lk 65) (Lv 1))] (La (Lv 0) (Lk 1)) (Lv 1) rfl h0
def MG(h0:(x0+62)<x1):(x0+60)<x1:=aM [x0,x1] [(La (La (Lv 0) (Lk 62)) (Lk 1),Lv 1)] (La (La (Lv 0) (Lk 60)) (Lk 1)) (Lv 1) rfl h0
def MF(h0:(x1+4)<=x2)(h1:x0=x2):x0≠x1:=ei (aM [x0,x1,x2] [(La (Lv 1) (Lk 4),Lv 2),(Lv 2,Lv 0)] (La (Lv 1) (Lk 1)) (Lv 0) rfl h0 (bL h1.symm))
def ME(h0:x2=(x0+1))(h1:x2<=x1):x0<=x1:=aM [x0,x1,x2] [(La (Lv 0) (Lk 1),Lv 2),(Lv 2,Lv 1)] (Lv 0) (Lv 1) rfl (bL h0.symm) h1
def MD(h0:x2=(x0+1))(h1:x2<=x1):x0<x1:=aM [x0,x1,x2] [(La (Lv 0) (Lk 1),Lv 2),(Lv 2,Lv 1)] (La (Lv 0) (Lk 1)) (Lv 1) rfl (bL h0.symm) h1
def MC(h0:(x0+4)<=x2)(h1:x1=x2):x0<x1:=aM [x0,x1,x2] [(La (Lv 0) (Lk 4),Lv 2),(Lv 2,Lv 1)] (La (Lv 0) (Lk 1)) (Lv 1) rfl h0 (bL h1.symm)
def MB(h0:(x2+((2*x0)+1))<x1):x0<=x1:=aM [x0,x1,x2] [(La (La (Lv 2) (La (Lm 2 (Lv 0)) (Lk 1))) (Lk 1),Lv 1)] (Lv 0) (Lv 1) rfl h0
def MA(h0:(x2+(x0+1))<x1):(0+x0)<x1:=aM [x0,x1,x2] [(La (La (Lv 2) (La (Lv 0) (Lk 1))) (Lk 1),Lv 1)] (La (La (Lk 0) (Lv 0)) (Lk 1)) (Lv 1) rfl h0
def Mz(h0:x0=x2)(h1:x2=(x1+1)):¬(x0<x1):=Nat.not_lt_of_le (aM [x0,x1,x2] [(Lv 2,Lv 0),(La (Lv 1) (Lk 1),Lv 2)] (Lv 1) (Lv 0) rfl (bL h0.symm) (bL h1.symm))
def My(h0:x0=x2)(h1:x2=(x1+2)):¬(x0<x1):=Nat.not_lt_of_le (aM [x0,x1,x2] [(Lv 2,Lv 0),(La (Lv 1) (Lk 2),Lv 2)] (Lv 1) (Lv 0) rfl (bL h0.symm) (bL h1.symm))
def Mx(h0:x0<(x1+1))(h1:¬(x0<x1)):x0=x1:=Nat.le_antisymm (aM [x0,x1] [(La (Lv 0) (Lk 1),La (Lv 1) (Lk 1))] (Lv 0) (Lv 1) rfl h0) (aM [x0,x1] [(Lv 1,Lv 0)] (Lv 1) (Lv 0) rfl (Nat.le_of_not_lt h1))
def Mw :((x0+x1)+x2)=(x0+(x1+x2)):=Nat.le_antisymm (aM [x0,x1,x2] [] (La (La (Lv 0) (Lv 1)) (Lv 2)) (La (Lv 0) (La (Lv 1) (Lv 2))) rfl) (aM [x0,x1,x2] [] (La (Lv 0) (La (Lv 1) (Lv 2))) (La (La (Lv 0) (Lv 1)) (Lv 2)) rfl)
def Mv(h0:x0<=x2):((0+x0)+x1)<=(x1+x2):=aM [x0,x1,x2] [(Lv 0,Lv 2)] (La (La (Lk 0) (Lv 0)) (Lv 1)) (La (Lv 1) (Lv 2)) rfl h0
def Mu(h0:(x0+x1)<=x2)(h1:x2<1000):x0<1000:=aM [x0,x1,x2] [(La (Lv 0) (Lv 1),Lv 2),(La (Lv 2) (Lk 1),Lk 1000)] (La (Lv 0) (Lk 1)) (Lk 1000) rfl h0 h1
def Mt(h0:(x1+4)<=x2)(h1:x0=x2):x0≠(x1+1):=ei (aM [x0,x1,x2] [(La (Lv 1) (Lk 4),Lv 2),(Lv 2,Lv 0)] (La (La (Lv 1) (Lk 1)) (Lk 1)) (Lv 0) rfl h0 (bL h1.symm))
def Ms(h0:(x0+4)<=x2)(h1:x1=x2):(x0+1)<x1:=aM [x0,x1,x2] [(La (Lv 0) (Lk 4),Lv 2),(Lv 2,Lv 1)] (La (La (Lv 0) (Lk 1)) (Lk 1)) (Lv 1) rfl h0 (bL h1.symm)
def Mr(h0:(x2+4)<=x0)(h1:x1<(x2+4)):x0≠x1:=ei (aM [x0,x1,x2] [(La (Lv 2) (Lk 4),Lv 0),(La (Lv 1) (Lk 1),La (Lv 2) (Lk 4))] (La (Lv 1) (Lk 1)) (Lv 0) rfl h0 h1)
def Mp(h0:x0<x1)(h1:x1=x2)(h2:x2<=100):x0<1000:=aM [x0,x1,x2] [(La (Lv 0) (Lk 1),Lv 1),(Lv 1,Lv 2),(Lv 2,Lk 100)] (La (Lv 0) (Lk 1)) (Lk 1000) rfl h0 (bL h1) h2
def Mo(h0:1000<=x1)(h1:x0=x2)(h2:x2<1000):x0<x1:=aM [x0,x1,x2] [(Lk 1000,Lv 1),(Lv 0,Lv 2),(La (Lv 2) (Lk 1),Lk 1000)] (La (Lv 0) (Lk 1)) (Lv 1) rfl h0 (bL h1) h2
def Mn(h0:((x0+(8*(x2+1)))+8)<x1):x0<x1:=aM [x0,x1,x2] [(La (La (La (Lv 0) (Lm 8 (La (Lv 2) (Lk 1)))) (Lk 8)) (Lk 1),Lv 1)] (La (Lv 0) (Lk 1)) (Lv 1) rfl h0
def Mm(h0:((x0+1)+x1)<=40):(x0+(x1+1))<=40:=aM [x0,x1] [(La (La (Lv 0) (Lk 1)) (Lv 1),Lk 40)] (La (Lv 0) (La (Lv 1) (Lk 1))) (Lk 40) rfl h0
def Ml(h0:(x2+4)<=x3)(h1:x0<x2)(h2:x1=x3):x0<x1:=aM [x0,x1,x2,x3] [(La (Lv 2) (Lk 4),Lv 3),(La (Lv 0) (Lk 1),Lv 2),(Lv 3,Lv 1)] (La (Lv 0) (Lk 1)) (Lv 1) rfl h0 h1 (bL h2.symm)
def Mk(h0:(x0+x1)<=x2):((0+x0)+x1)<=(0+x2):=aM [x0,x1,x2] [(La (Lv 0) (Lv 1),Lv 2)] (La (La (Lk 0) (Lv 0)) (Lv 1)) (La (Lk 0) (Lv 2)) rfl h0
def Mj :3<((((((0+1)+1)+1)+1)+1)+x0):=aM [x0] [] (La (Lk 3) (Lk 1)) (La (La (La (La (La (La (Lk 0) (Lk 1)) (Lk 1)) (Lk 1)) (Lk 1)) (Lk 1)) (Lv 0)) rfl 
def Mi(h0:(x0+x1)<=x3):((0+x0)+x1)<=(x2+x3):=aM [x0,x1,x2,x3] [(La (Lv 0) (Lv 1),Lv 3)] (La (La (Lk 0) (Lv 0)) (Lv 1)) (La (Lv 2) (Lv 3)) rfl h0
def Mh(h0:(x0+4)<=x2)(h1:x1=(x2+1)):(x0+1)<x1:=aM [x0,x1,x2] [(La (Lv 0) (Lk 4),Lv 2),(La (Lv 2) (Lk 1),Lv 1)] (La (La (Lv 0) (Lk 1)) (Lk 1)) (Lv 1) rfl h0 (bL h1.symm)
def Mg(h0:(x0+4)<=x2)(h1:x1=(x2+1)):(x0+3)<x1:=aM [x0,x1,x2] [(La (Lv 0) (Lk 4),Lv 2),(La (Lv 2) (Lk 1),Lv 1)] (La (La (Lv 0) (Lk 3)) (Lk 1)) (Lv 1) rfl h0 (bL h1.symm)
def Mf(h0:(x1+x2)<=x3):((x0+x1)+x2)<=(x0+x3):=aM [x0,x1,x2,x3] [(La (Lv 1) (Lv 2),Lv 3)] (La (La (Lv 0) (Lv 1)) (Lv 2)) (La (Lv 0) (Lv 3)) rfl h0
def Me(h0:((x2+1)+x0)<=40)(h1:40<=x1):(1+x0)<=x1:=aM [x0,x1,x2] [(La (La (Lv 2) (Lk 1)) (Lv 0),Lk 40),(Lk 40,Lv 1)] (La (Lk 1) (Lv 0)) (Lv 1) rfl h0 h1
def Md(h0:((x0+(100*x2))+100)<x1):(x0+62)<x1:=aM [x0,x1,x2] [(La (La (La (Lv 0) (Lm 100 (Lv 2))) (Lk 100)) (Lk 1),Lv 1)] (La (La (Lv 0) (Lk 62)) (Lk 1)) (Lv 1) rfl h0
def Mc(h0:(x0+x3)<=x2)(h1:(x1+1)<=x3):((x0+1)+x1)<=x2:=aM [x0,x1,x2,x3] [(La (Lv 0) (Lv 3),Lv 2),(La (Lv 1) (Lk 1),Lv 3)] (La (La (Lv 0) (Lk 1)) (Lv 1)) (Lv 2) rfl h0 h1
def Mb(h0:((2*x3)+1)<=x1)(h1:x0<=(x3+(x2+1))):x0<=(x1+x2):=aM [x0,x1,x2,x3] [(La (Lm 2 (Lv 3)) (Lk 1),Lv 1),(Lv 0,La (Lv 3) (La (Lv 2) (Lk 1)))] (Lv 0) (La (Lv 1) (Lv 2)) rfl h0 h1
def Ma(h0:((x0+(100*(x1+1)))+100)<x2):(((x0+3)+(100*x1))+100)<x2:=aM [x0,x1,x2] [(La (La (La (Lv 0) (Lm 100 (La (Lv 1) (Lk 1)))) (Lk 100)) (Lk 1),Lv 2)] (La (La (La (La (Lv 0) (Lk 3)) (Lm 100 (Lv 1))) (Lk 100)) (Lk 1)) (Lv 2) rfl h0
def L9(h0:((x0+(100*(x1+1)))+100)<x2):(((x0+1)+(100*x1))+100)<x2:=aM [x0,x1,x2] [(La (La (La (Lv 0) (Lm 100 (La (Lv 1) (Lk 1)))) (Lk 100)) (Lk 1),Lv 2)] (La (La (La (La (Lv 0) (Lk 1)) (Lm 100 (Lv 1))) (Lk 100)) (Lk 1)) (Lv 2) rfl h0
def Nn(h0:(x0+(1+x1))<=x2):((x1+x3)+x0)<=(x3+x2):=aM [x0,x1,x2,x3] [(La (Lv 0) (La (Lk 1) (Lv 1)),Lv 2)] (La (La (Lv 1) (Lv 3)) (Lv 0)) (La (Lv 3) (Lv 2)) rfl h0
def Nm(h0:(x0+x1)<=(x2+1))(h1:(x3+x4)<=(x0+x1))(h2:((x5+1)+x6)<=x3):((x5+x6)+x4)<=x2:=aM [x0,x1,x2,x3,x4,x5,x6] [(La (Lv 0) (Lv 1),La (Lv 2) (Lk 1)),(La (Lv 3) (Lv 4),La (Lv 0) (Lv 1)),(La (La (Lv 5) (Lk 1)) (Lv 6),Lv 3)] (La (La (Lv 5) (Lv 6)) (Lv 4)) (Lv 2) rfl h0 h1 h2
def Nh(h0:(x0+x1)<=0)(h1:(x3+x4)<=(x0+x1))(h2:((x5+1)+x6)<=x3):1<=0:=aM [x0,x1,x3,x4,x5,x6] [(La (Lv 0) (Lv 1),Lk 0),(La (Lv 2) (Lv 3),La (Lv 0) (Lv 1)),(La (La (Lv 4) (Lk 1)) (Lv 5),Lv 2)] (Lk 1) (Lk 0) rfl h0 h1 h2
def Ng(h0:(x2+((2*x0)+1))<x1):((x0+1)+1)<=x1:=aM [x0,x1,x2] [(La (La (Lv 2) (La (Lm 2 (Lv 0)) (Lk 1))) (Lk 1),Lv 1)] (La (La (Lv 0) (Lk 1)) (Lk 1)) (Lv 1) rfl h0
def Nf(h0:(x2+(x3+1))=x0)(h1:x0<x1)(h2:x4<=x2):x4<x1:=aM [x0,x1,x2,x3,x4] [(La (Lv 2) (La (Lv 3) (Lk 1)),Lv 0),(La (Lv 0) (Lk 1),Lv 1),(Lv 4,Lv 2)] (La (Lv 4) (Lk 1)) (Lv 1) rfl (bL h0) h1 h2
def Nc(h0:((x0+(100*x1))+100)<x2):(x0+50)<x2:=aM [x0,x1,x2] [(La (La (La (Lv 0) (Lm 100 (Lv 1))) (Lk 100)) (Lk 1),Lv 2)] (La (La (Lv 0) (Lk 50)) (Lk 1)) (Lv 2) rfl h0
def Nb(h0:((x0+(100*x1))+100)<x2):((x0+1)+3)<x2:=aM [x0,x1,x2] [(La (La (La (Lv 0) (Lm 100 (Lv 1))) (Lk 100)) (Lk 1),Lv 2)] (La (La (La (Lv 0) (Lk 1)) (Lk 3)) (Lk 1)) (Lv 2) rfl h0
def Nl(h0:(x0+60)<x1):((x0+1)+3)<x1:=aM [x0,x1] [(La (La (Lv 0) (Lk 60)) (Lk 1),Lv 1)] (La (La (La (Lv 0) (Lk 1)) (Lk 3)) (Lk 1)) (Lv 1) rfl h0
def Nk(h0:((x0+(100*x1))+100)<x2):((x0+1)+62)<x2:=aM [x0,x1,x2] [(La (La (La (Lv 0) (Lm 100 (Lv 1))) (Lk 100)) (Lk 1),Lv 2)] (La (La (La (Lv 0) (Lk 1)) (Lk 62)) (Lk 1)) (Lv 2) rfl h0
def Nj(h0:x0<=20):((301+(8*(x0+1)))+8)<1000:=aM [x0] [(Lm 8 (Lv 0),Lk 160)] (La (La (La (Lk 301) (Lm 8 (La (Lv 0) (Lk 1)))) (Lk 8)) (Lk 1)) (Lk 1000) rfl (Nat.mul_le_mul_left 8 h0)
def Ni(h0:x0<=20):((4+(100*(x0+1)))+100)<9900:=aM [x0] [(Lm 100 (Lv 0),Lk 2000)] (La (La (La (Lk 4) (Lm 100 (La (Lv 0) (Lk 1)))) (Lk 100)) (Lk 1)) (Lk 9900) rfl (Nat.mul_le_mul_left 100 h0)
def Bf{i l:Nat}(h:i<l):l-i=l-(i+1)+1:=(Nat.sub_add_cancel (Nat.sub_pos_of_lt h)).symm
end
variable {α:Type}
def aT{x:α}{P:Prop}(e:none=some x):P:=nomatch e
def sj{x y:α}(e:some x=some y):x=y:=jA e
def aa2{a b c:α}{p:α->Prop}(h1:p a)(h2:p b)(h3:p c):∀r∈[a,b,c],p r:=List.forall_mem_cons.mpr ⟨h1,List.forall_mem_cons.mpr ⟨h2,List.forall_mem_cons.mpr ⟨h3,nofun⟩⟩⟩
def Eb{a b c e:α}{p:α->Prop}(h1:p a)(h2:p b)(h3:p c)(h4:p e):∀r∈[a,b,c,e],p r:=List.forall_mem_cons.mpr ⟨h1,aa2 h2 h3 h4⟩
variable {ta:Type}
def ak{p1:ta->Prop}{p2:ta->Prop}{P:Prop}(h:∃a,p1 a/\p2 a)(k:∀a,p1 a->p2 a->P):P:=h.elim λa q0=>q0.elim λh1 h2=>k a h1 h2
def ua{p1:Prop}{p2:Prop}{P:Prop}(h:p1/\p2)(k:p1->p2->P):P:=h.elim λh1 h2=>k h1 h2
def ue{p1:ta->Prop}{P:Prop}(h:∃a,p1 a)(k:∀a,p1 a->P):P:=h.elim λa h1=>k a h1
def cb{tb:Type}{p1:ta->tb->Prop}{P:Prop}(h:∃a,∃b,p1 a b)(k:∀a,∀b,p1 a b->P):P:=h.elim λa q0=>q0.elim λb h1=>k a b h1
variable {tc:Type}
def cJ{tb:Type}{p1:ta->tb->tc->Prop}{p2:ta->tb->tc->Prop}{P:Prop}(h:∃a,∃b,∃c,p1 a b c/\p2 a b c)(k:∀a,∀b,∀c,p1 a b c->p2 a b c->P):P:=h.elim λa q0=>q0.elim λb q1=>q1.elim λc q2=>q2.elim λh1 h2=>k a b c h1 h2
def bo{tb:Type}{p1:ta->tb->Prop}{p2:ta->tb->Prop}{p3:ta->tb->Prop}{P:Prop}(h:∃a,∃b,p1 a b/\p2 a b/\p3 a b)(k:∀a,∀b,p1 a b->p2 a b->p3 a b->P):P:=h.elim λa q0=>q0.elim λb q1=>q1.elim λh1 q2=>q2.elim λh2 h3=>k a b h1 h2 h3
def dJ{tb:Type}{p1:ta->tb->Prop}{p2:ta->tb->Prop}{P:Prop}(h:∃a,∃b,p1 a b/\p2 a b)(k:∀a,∀b,p1 a b->p2 a b->P):P:=h.elim λa q0=>q0.elim λb q1=>q1.elim λh1 h2=>k a b h1 h2
def gc{p1:ta->Prop}{p2:ta->Prop}{p3:ta->Prop}{P:Prop}(h:∃a,p1 a/\p2 a/\p3 a)(k:∀a,p1 a->p2 a->p3 a->P):P:=h.elim λa q0=>q0.elim λh1 q1=>q1.elim λh2 h3=>k a h1 h2 h3
def gf{p1:Prop}{p2:ta->Prop}{P:Prop}(h:p1/\∃a,p2 a)(k:p1->∀a,p2 a->P):P:=h.elim λh1 q0=>q0.elim λa h2=>k h1 a h2
variable {td:Type}
def gN{tb:Type}{p1:ta->tb->tc->td->Prop}{p2:ta->tb->tc->td->Prop}{p3:ta->tb->tc->td->Prop}{P:Prop}(h:∃a,∃b,∃c,∃d,p1 a b c d/\p2 a b c d/\p3 a b c d)(k:∀a,∀b,∀c,∀d,p1 a b c d->p2 a b c d->p3 a b c d->P):P:=h.elim λa q0=>q0.elim λb q1=>q1.elim λc q2=>q2.elim λd q3=>q3.elim λh1 q4=>q4.elim λh2 h3=>k a b c d h1 h2 h3
def lp{tb:Type}{p1:Prop}{p2:ta->tb->Prop}{P:Prop}(h:p1/\∃a,∃b,p2 a b)(k:p1->∀a,∀b,p2 a b->P):P:=h.elim λh1 q0=>q0.elim λa q1=>q1.elim λb h2=>k h1 a b h2
def lj{tb:Type}{p1:ta->tb->tc->Prop}{p2:ta->tb->tc->Prop}{p3:ta->tb->tc->Prop}{P:Prop}(h:∃a,∃b,∃c,p1 a b c/\p2 a b c/\p3 a b c)(k:∀a,∀b,∀c,p1 a b c->p2 a b c->p3 a b c->P):P:=h.elim λa q0=>q0.elim λb q1=>q1.elim λc q2=>q2.elim λh1 q3=>q3.elim λh2 h3=>k a b c h1 h2 h3
def eB{tb:Type}{p1:ta->tb->tc->Prop}{P:Prop}(h:∃a,∃b,∃c,p1 a b c)(k:∀a,∀b,∀c,p1 a b c->P):P:=h.elim λa q0=>q0.elim λb q1=>q1.elim λc h1=>k a b c h1
def yo{p1:Prop}{p2:Prop}{p3:Prop}{P:Prop}(h:p1/\p2/\p3)(k:p1->p2->p3->P):P:=h.elim λh1 q0=>q0.elim λh2 h3=>k h1 h2 h3
def ka{tb:Type}{p1:ta->tb->Prop}{p2:ta->tb->Prop}{p3:ta->tb->Prop}{p4:ta->tb->Prop}{P:Prop}(h:∃a,∃b,p1 a b/\p2 a b/\p3 a b/\p4 a b)(k:∀a,∀b,p1 a b->p2 a b->p3 a b->p4 a b->P):P:=h.elim λa q0=>q0.elim λb q1=>q1.elim λh1 q2=>q2.elim λh2 q3=>q3.elim λh3 h4=>k a b h1 h2 h3 h4
def kZ{tb:Type}{p1:ta->tb->tc->Prop}{p2:ta->tb->tc->Prop}{p3:ta->tb->tc->Prop}{p4:ta->tb->tc->Prop}{P:Prop}(h:∃a,∃b,∃c,p1 a b c/\p2 a b c/\p3 a b c/\p4 a b c)(k:∀a,∀b,∀c,p1 a b c->p2 a b c->p3 a b c->p4 a b c->P):P:=h.elim λa q0=>q0.elim λb q1=>q1.elim λc q2=>q2.elim λh1 q3=>q3.elim λh2 q4=>q4.elim λh3 h4=>k a b c h1 h2 h3 h4
def kY{tb:Type}{p1:ta->tb->tc->td->Prop}{p2:ta->tb->tc->td->Prop}{P:Prop}(h:∃a,∃b,∃c,∃d,p1 a b c d/\p2 a b c d)(k:∀a,∀b,∀c,∀d,p1 a b c d->p2 a b c d->P):P:=h.elim λa q0=>q0.elim λb q1=>q1.elim λc q2=>q2.elim λd q3=>q3.elim λh1 h2=>k a b c d h1 h2
def pq{tb:Type}{p1:ta->tb->tc->td->Prop}{P:Prop}(h:∃a,∃b,∃c,∃d,p1 a b c d)(k:∀a,∀b,∀c,∀d,p1 a b c d->P):P:=h.elim λa q0=>q0.elim λb q1=>q1.elim λc q2=>q2.elim λd h1=>k a b c d h1
def Fj{tb:Type}{p1:ta->tb->tc->Prop}{p2:ta->tb->tc->Prop}{p3:ta->tb->tc->Prop}{p4:ta->tb->tc->Prop}{p5:ta->tb->tc->Prop}{P:Prop}(h:∃a,∃b,∃c,p1 a b c/\p2 a b c/\p3 a b c/\p4 a b c/\p5 a b c)(k:∀a,∀b,∀c,p1 a b c->p2 a b c->p3 a b c->p4 a b c->p5 a b c->P):P:=h.elim λa q0=>q0.elim λb q1=>q1.elim λc q2=>q2.elim λh1 q3=>q3.elim λh2 q4=>q4.elim λh3 q5=>q5.elim λh4 h5=>k a b c h1 h2 h3 h4 h5
def NX{tb:Type}{p1:ta->tb->Prop}{p2:ta->tb->Prop}{p3:ta->tb->Prop}{p4:ta->tb->Prop}{p5:ta->tb->Prop}{P:Prop}(h:∃a,∃b,p1 a b/\p2 a b/\p3 a b/\p4 a b/\p5 a b)(k:∀a,∀b,p1 a b->p2 a b->p3 a b->p4 a b->p5 a b->P):P:=h.elim λa q0=>q0.elim λb q1=>q1.elim λh1 q2=>q2.elim λh2 q3=>q3.elim λh3 q4=>q4.elim λh4 h5=>k a b h1 h2 h3 h4 h5
def Fi{tb:Type}{p1:ta->tb->tc->td->Prop}{p2:ta->tb->tc->td->Prop}{p3:ta->tb->tc->td->Prop}{p4:ta->tb->tc->td->Prop}{p5:ta->tb->tc->td->Prop}{P:Prop}(h:∃a,∃b,∃c,∃d,p1 a b c d/\p2 a b c d/\p3 a b c d/\p4 a b c d/\p5 a b c d)(k:∀a,∀b,∀c,∀d,p1 a b c d->p2 a b c d->p3 a b c d->p4 a b c d->p5 a b c d->P):P:=h.elim λa q0=>q0.elim λb q1=>q1.elim λc q2=>q2.elim λd q3=>q3.elim λh1 q4=>q4.elim λh2 q5=>q5.elim λh3 q6=>q6.elim λh4 h5=>k a b c d h1 h2 h3 h4 h5
def A9{tb:Type}{p1:ta->Prop}{p2:ta->tb->Prop}{p3:ta->tb->Prop}{P:Prop}(h:∃a,p1 a/\∃b,p2 a b/\p3 a b)(k:∀a,p1 a->∀b,p2 a b->p3 a b->P):P:=h.elim λa q0=>q0.elim λh1 q1=>q1.elim λb q2=>q2.elim λh2 h3=>k a h1 b h2 h3
variable {te:Type}
def Ff{tb tf:Type}{p1:ta->tb->tc->td->te->tf->Prop}{p2:ta->tb->tc->td->te->tf->Prop}{p3:ta->tb->tc->td->te->tf->Prop}{P:Prop}(h:∃a,∃b,∃c,∃d,∃e,∃f,p1 a b c d e f/\p2 a b c d e f/\p3 a b c d e f)(k:∀a,∀b,∀c,∀d,∀e,∀f,p1 a b c d e f->p2 a b c d e f->p3 a b c d e f->P):P:=h.elim λa q0=>q0.elim λb q1=>q1.elim λc q2=>q2.elim λd q3=>q3.elim λe q4=>q4.elim λf q5=>q5.elim λh1 q6=>q6.elim λh2 h3=>k a b c d e f h1 h2 h3
def Fh{tb:Type}{p1:ta->tb->tc->td->te->Prop}{p2:ta->tb->tc->td->te->Prop}{P:Prop}(h:∃a,∃b,∃c,∃d,∃e,p1 a b c d e/\p2 a b c d e)(k:∀a,∀b,∀c,∀d,∀e,p1 a b c d e->p2 a b c d e->P):P:=h.elim λa q0=>q0.elim λb q1=>q1.elim λc q2=>q2.elim λd q3=>q3.elim λe q4=>q4.elim λh1 h2=>k a b c d e h1 h2
def NY{tb:Type}{p1:ta->Prop}{p2:ta->tb->tc->Prop}{P:Prop}(h:∃a,p1 a/\∃b,∃c,p2 a b c)(k:∀a,p1 a->∀b,∀c,p2 a b c->P):P:=h.elim λa q0=>q0.elim λh1 q1=>q1.elim λb q2=>q2.elim λc h2=>k a h1 b c h2
def yn{tb:Type}{p1:ta->tb->tc->td->Prop}{p2:ta->tb->tc->td->Prop}{p3:ta->tb->tc->td->Prop}{p4:ta->tb->tc->td->Prop}{P:Prop}(h:∃a,∃b,∃c,∃d,p1 a b c d/\p2 a b c d/\p3 a b c d/\p4 a b c d)(k:∀a,∀b,∀c,∀d,p1 a b c d->p2 a b c d->p3 a b c d->p4 a b c d->P):P:=h.elim λa q0=>q0.elim λb q1=>q1.elim λc q2=>q2.elim λd q3=>q3.elim λh1 q4=>q4.elim λh2 q5=>q5.elim λh3 h4=>k a b c d h1 h2 h3 h4
def N3{tb:Type}{p1:Prop}{p2:ta->tb->Prop}{p3:ta->tb->Prop}{P:Prop}(h:p1/\∃a,∃b,p2 a b/\p3 a b)(k:p1->∀a,∀b,p2 a b->p3 a b->P):P:=h.elim λh1 q0=>q0.elim λa q1=>q1.elim λb q2=>q2.elim λh2 h3=>k h1 a b h2 h3
def N4{p1:Prop}{p2:ta->Prop}{p3:ta->Prop}{P:Prop}(h:p1/\∃a,p2 a/\p3 a)(k:p1->∀a,p2 a->p3 a->P):P:=h.elim λh1 q0=>q0.elim λa q1=>q1.elim λh2 h3=>k h1 a h2 h3
def NV{tb tf tg:Type}{p1:ta->tb->tc->td->te->tf->tg->Prop}{P:Prop}(h:∃a,∃b,∃c,∃d,∃e,∃f,∃g,p1 a b c d e f g)(k:∀a,∀b,∀c,∀d,∀e,∀f,∀g,p1 a b c d e f g->P):P:=h.elim λa q0=>q0.elim λb q1=>q1.elim λc q2=>q2.elim λd q3=>q3.elim λe q4=>q4.elim λf q5=>q5.elim λg h1=>k a b c d e f g h1
def NW{tb:Type}{p1:ta->tb->tc->td->te->Prop}{P:Prop}(h:∃a,∃b,∃c,∃d,∃e,p1 a b c d e)(k:∀a,∀b,∀c,∀d,∀e,p1 a b c d e->P):P:=h.elim λa q0=>q0.elim λb q1=>q1.elim λc q2=>q2.elim λd q3=>q3.elim λe h1=>k a b c d e h1
def NZ{p1:ta->Prop}{p2:ta->Prop}{p3:ta->Prop}{p4:ta->Prop}{p5:ta->Prop}{P:Prop}(h:∃a,p1 a/\p2 a/\p3 a/\p4 a/\p5 a)(k:∀a,p1 a->p2 a->p3 a->p4 a->p5 a->P):P:=h.elim λa q0=>q0.elim λh1 q1=>q1.elim λh2 q2=>q2.elim λh3 q3=>q3.elim λh4 h5=>k a h1 h2 h3 h4 h5
variable {x:Option α}
def ub{β:Type}{f:α->Option β}{y:β}{P:Prop}(e:x.bind f=some y)(k:∀a,x=some a->f a=some y->P):P:=ak (Option.bind_eq_some_iff.mp e) k
def um{β:Type}{f:α->β}{y:β}{P:Prop}(e:x.map f=some y)(k:∀a,x=some a->f a=y->P):P:=ak (qt.mp e) k
def sC{p:Prop}(h:false=true):p:=absurd h kO
def us{a b:Bool}{P:Prop}(h:(a&&b)=true)(k:a=true->b=true->P):P:=by cases a<;>cases b<;>first|exact k rfl rfl|cases h
variable {a1 a2 a3:Bool}
def jE{P:Prop}(h:((a1&&a2)&&a3)=true)(k:a1=true->a2=true->a3=true->P):P:=us h λq2 p3=>us q2 λq1 p2=>k q1 p2 p3
variable {a4:Bool}
def pk{P:Prop}(h:(((a1&&a2)&&a3)&&a4)=true)(k:a1=true->a2=true->a3=true->a4=true->P):P:=us h λq3 p4=>us q3 λq2 p3=>us q2 λq1 p2=>k q1 p2 p3 p4
variable {a5:Bool}
def A6{P:Prop}(h:((((a1&&a2)&&a3)&&a4)&&a5)=true)(k:a1=true->a2=true->a3=true->a4=true->a5=true->P):P:=us h λq4 p5=>us q4 λq3 p4=>us q3 λq2 p3=>us q2 λq1 p2=>k q1 p2 p3 p4 p5
variable {a6:Bool}
def yi{P:Prop}(h:(((((a1&&a2)&&a3)&&a4)&&a5)&&a6)=true)(k:a1=true->a2=true->a3=true->a4=true->a5=true->a6=true->P):P:=us h λq5 p6=>us q5 λq4 p5=>us q4 λq3 p4=>us q3 λq2 p3=>us q2 λq1 p2=>k q1 p2 p3 p4 p5 p6
variable {a7:Bool}
def NP{P:Prop}(h:((((((a1&&a2)&&a3)&&a4)&&a5)&&a6)&&a7)=true)(k:a1=true->a2=true->a3=true->a4=true->a5=true->a6=true->a7=true->P):P:=us h λq6 p7=>us q6 λq5 p6=>us q5 λq4 p5=>us q4 λq3 p4=>us q3 λq2 p3=>us q2 λq1 p2=>k q1 p2 p3 p4 p5 p6 p7
variable {a8:Bool}
def E7{P:Prop}(h:(((((((a1&&a2)&&a3)&&a4)&&a5)&&a6)&&a7)&&a8)=true)(k:a1=true->a2=true->a3=true->a4=true->a5=true->a6=true->a7=true->a8=true->P):P:=us h λq7 p8=>us q7 λq6 p7=>us q6 λq5 p6=>us q5 λq4 p5=>us q4 λq3 p4=>us q3 λq2 p3=>us q2 λq1 p2=>k q1 p2 p3 p4 p5 p6 p7 p8
variable {a9:Bool}
def NR{xV:Bool}{P:Prop}(h:(((((((((a1&&a2)&&a3)&&a4)&&a5)&&a6)&&a7)&&a8)&&a9)&&xV)=true)(k:a1=true->a2=true->a3=true->a4=true->a5=true->a6=true->a7=true->a8=true->a9=true->xV=true->P):P:=us h λq9 BQ=>us q9 λq8 p9=>us q8 λq7 p8=>us q7 λq6 p7=>us q6 λq5 p6=>us q5 λq4 p5=>us q4 λq3 p4=>us q3 λq2 p3=>us q2 λq1 p2=>k q1 p2 p3 p4 p5 p6 p7 p8 p9 BQ
def NQ{xV LF LD LC:Bool}{P:Prop}(h:((((((((((((a1&&a2)&&a3)&&a4)&&a5)&&a6)&&a7)&&a8)&&a9)&&xV)&&LF)&&LD)&&LC)=true)(k:a1=true->a2=true->a3=true->a4=true->a5=true->a6=true->a7=true->a8=true->a9=true->xV=true->LF=true->LD=true->LC=true->P):P:=us h λRj R2=>us Rj λRk R3=>us Rk λRn R4=>us Rn λq9 BQ=>us q9 λq8 p9=>us q8 λq7 p8=>us q7 λq6 p7=>us q6 λq5 p6=>us q5 λq4 p5=>us q4 λq3 p4=>us q3 λq2 p3=>us q2 λq1 p2=>k q1 p2 p3 p4 p5 p6 p7 p8 p9 BQ R4 R3 R2
def E6{P:Prop}(h:(a1&&(a2&&a3))=true)(k:a1=true->a2=true->a3=true->P):P:=us h λp1 q1=>us q1 λp2 q2=>k p1 p2 q2
def NN{P:Prop}(h:(a1&&(a2&&(a3&&a4)))=true)(k:a1=true->a2=true->a3=true->a4=true->P):P:=us h λp1 q1=>us q1 λp2 q2=>us q2 λp3 q3=>k p1 p2 p3 q3
def NM{P:Prop}(h:(a1&&(a2&&(a3&&(a4&&a5))))=true)(k:a1=true->a2=true->a3=true->a4=true->a5=true->P):P:=us h λp1 q1=>us q1 λp2 q2=>us q2 λp3 q3=>us q3 λp4 q4=>k p1 p2 p3 p4 q4
def NL{P:Prop}(h:(a1&&(a2&&(a3&&(a4&&(a5&&a6)))))=true)(k:a1=true->a2=true->a3=true->a4=true->a5=true->a6=true->P):P:=us h λp1 q1=>us q1 λp2 q2=>us q2 λp3 q3=>us q3 λp4 q4=>us q4 λp5 q5=>k p1 p2 p3 p4 p5 q5
def NK{P:Prop}(h:(a1&&(a2&&(a3&&(a4&&(a5&&(a6&&(a7&&(a8&&a9))))))))=true)(k:a1=true->a2=true->a3=true->a4=true->a5=true->a6=true->a7=true->a8=true->a9=true->P):P:=us h λp1 q1=>us q1 λp2 q2=>us q2 λp3 q3=>us q3 λp4 q4=>us q4 λp5 q5=>us q5 λp6 q6=>us q6 λp7 q7=>us q7 λp8 q8=>k p1 p2 p3 p4 p5 p6 p7 p8 q8
def ur{b:Bool}{y:α}{P:Prop}(h:aK b x=some y)(k:b=true->x=some y->P):P:=by
 cases b
 ·exact aT h
 ·exact k rfl h
def iu{a1 a2:Prop}(P:Prop)(e:P=(a1/\a2))(h1:a1)(h2:a2):P:=e▸⟨h1,h2⟩
def jn{a1 a2 a3:Prop}(P:Prop)(e:P=(a1/\a2/\a3))(h1:a1)(h2:a2)(h3:a3):P:=e▸⟨h1,h2,h3⟩
def eM{a1 a2 a3 a4:Prop}(P:Prop)(e:P=(a1/\a2/\a3/\a4))(h1:a1)(h2:a2)(h3:a3)(h4:a4):P:=e▸⟨h1,h2,h3,h4⟩
def jJ{a1 a2 a3 a4 a5:Prop}(P:Prop)(e:P=(a1/\a2/\a3/\a4/\a5))(h1:a1)(h2:a2)(h3:a3)(h4:a4)(h5:a5):P:=e▸⟨h1,h2,h3,h4,h5⟩
def Hw{a1 a2 a3 a4 a5 a6:Prop}(P:Prop)(e:P=(a1/\a2/\a3/\a4/\a5/\a6))(h1:a1)(h2:a2)(h3:a3)(h4:a4)(h5:a5)(h6:a6):P:=e▸⟨h1,h2,h3,h4,h5,h6⟩
def zb{a1 a2 a3 a4 a5 a6 a7:Prop}(P:Prop)(e:P=(a1/\a2/\a3/\a4/\a5/\a6/\a7))(h1:a1)(h2:a2)(h3:a3)(h4:a4)(h5:a5)(h6:a6)(h7:a7):P:=e▸⟨h1,h2,h3,h4,h5,h6,h7⟩
def Hv{a1 a2 a3 a4 a5 a6 a7 a8:Prop}(P:Prop)(e:P=(a1/\a2/\a3/\a4/\a5/\a6/\a7/\a8))(h1:a1)(h2:a2)(h3:a3)(h4:a4)(h5:a5)(h6:a6)(h7:a7)(h8:a8):P:=e▸⟨h1,h2,h3,h4,h5,h6,h7,h8⟩
end
section
open PySem.W PyProof.Rows
section
def R7(t:SetTable)(n:Nat):(t.orStandIn n).led=t.led/\((t.orStandIn n).plain=true->t.plain=true):=by
 unfold SetTable.orStandIn;by_cases q:t.fits n=true
 ·rw[if_pos q];exact⟨rfl,λh=>h⟩
 ·rw[if_neg q];exact⟨rfl,λh=>nomatch h⟩
def Uw(t:SetTable)(es:Array (Int×Value))(h:Int)(x:Value):(layNew t es h x).2.1.led=t.led/\((layNew t es h x).2.1.plain=true->t.plain=true):=by
 unfold layNew;cases t.freeSlot h with
 |none=>exact⟨rfl,λh=>nomatch h⟩
 |some p=>exact R7 ..
def Qq(t:SetTable)(es:Array (Int×Value))(k:Nat):(relayAll t es k).2.1.led=t.led/\((relayAll t es k).2.1.plain=true->t.plain=true):=by
 unfold relayAll;cases e:t.relaid (es.map (·.1)) k with
 |none=>exact⟨rfl,λh=>nomatch h⟩
 |some p=>
  obtain⟨t',order⟩:=p;have:t'.led=t.led/\t'.plain=t.plain:=by unfold SetTable.relaid SetTable.laid at e;obtain⟨o,_,e⟩:=Option.bind_eq_some_iff.mp e;cases e;exact⟨rfl,rfl⟩
  dsimp only;by_cases q:(coversAll order es.size&&t'.fits (order.filterMap (es[·]?)).size)=true
  ·rw[if_pos q];exact⟨this.1,λh=>this.2▸h⟩
  ·rw[if_neg q];exact⟨rfl,λh=>nomatch h⟩
def dT(prog:Program)(w:World)(h:Heap)(a:Addr)(S:List Str)(es:Array (Int×Value))(ep:Nat)(t:SetTable):Prop:=(h.get? a=some {cls:=.type "set",dict:=none,data:=.set es ep t,slots:=#[]})/\(ElemsOf (PySem.strKind prog w) es.toList)/\(∃us:List Str,us.Perm S/\StrsAre (es.toList.map (·.2)) us)/\(t.fits es.size=true)/\(t.led=!(w.params.followText "set-order"))/\(0<es.size->t.plain=false)
section
variable {b1 b2 b3 b4 b5 b6 b7 b8}(x:dT b1 b2 b3 b4 b5 b6 b7 b8)
def dT.mk:=Hw (dT b1 b2 b3 b4 b5 b6 b7 b8) rfl
def dT.get:=x.1
def dT.el:=x.2.1
def dT.us:=x.2.2.1
def dT.fits:=x.2.2.2.1
def dT.led:=x.2.2.2.2.1
def dT.pl:=x.2.2.2.2.2
end
noncomputable def gY(S:List Str)(y:Str):List Str:=if y∈S then S else S++[y]
section
variable {prog:Program}{w:World}{A:Around}{E:Value->Shared->Prop}{s:Shared}{a:Addr}{S:List Str}{es:Array (Int×Value)}{ep:Nat}{t:SetTable}
def dT.len{h:Heap}(F:dT prog w h a S es ep t):es.size=S.length:=by obtain⟨us,p,q⟩:=F.us;rw[<- p.length_eq,<- StrsAre.length q,aC,kP]
def Bg:∀{vs ws:List Value},vs.Perm ws->∀{us:List Str},StrsAre ws us->∃yj,StrsAre vs yj/\yj.Perm us:=by
 intro vs ws p
 induction p with
 |nil=>exact λ{us} h=>⟨us,h,.refl _⟩
 |cons x _ ih=>
  intro us h;cases h with
  |cons y t h=>obtain⟨yj,h1,h2⟩:=ih h;exact⟨y::yj,.cons y t h1,h2.cons y⟩
 |swap x y l=>
  intro us h;cases h with
  |cons a ta h=>cases h with
   |cons b tb h=>exact⟨_,.cons b tb (.cons a ta h),.swap ..⟩
 |trans _ _ Vv Vu=>intro us h;obtain⟨u1,a1,a2⟩:=Vu h;obtain⟨u2,b1,b2⟩:=Vv a1;exact⟨u2,b1,b2.trans a2⟩
def OG{vs:List Value}{us:List Str}{y:Str}{k:Tok}(x:StrsAre vs us):StrsAre (vs++[.str y k]) (us++[y]):=by
 induction x with
 |nil=>exact .cons _ _ .nil
 |cons z u r ih=>exact .cons z u ih
def dT.store{S':List Str}{lN:Array (Int×Value)}{t':SetTable}(F:dT prog w s.heap a S es ep t)(h1:ElemsOf (PySem.strKind prog w) lN.toList)(h2:∃us:List Str,us.Perm S'/\StrsAre (lN.toList.map (·.2)) us)
  (h3:t'.fits lN.size=true) (h4:t'.led=t.led) (h5:t'.plain=false):dT prog w (s.heap.update a (Obj.putSet lN t')) a S' lN (ep+1) t':=by
 have:=jD (Obj.putSet lN t') F.get (by rw[putSet_of lN t' rfl];rfl);rw[putSet_of lN t' rfl] at this;exact(dT.mk this h1 h2 h3 (h4.trans F.led) (λO=>h5))
def WU{y:Str}{k:Tok}(F:dT prog w s.heap a S es ep t)(hb:S.length+1<scanBound){Q:Bool->Shared->Prop}
  (h:∀b h' lN DC t',Heap.SameBut a s.heap h'->dT prog w h' a (gY S y) lN DC t'->Q b {s with heap:=h'}):
  wpAny (model prog w) A (setAddHashed a (.str y k) ((PySem.strKind prog w).hash y)) Q E s:=by
 have jO:=strKind_is prog w y k;have iV:=F.len;have Wh:es.size<scanBound:=by rw[iV];exact Nat.lt_of_succ_lt hb
 unfold setAddHashed setAddHashedIn;refine cI (ag (nU F.get rfl F.fits ?_));dsimp only;rw[byScan_of rfl Wh F.el];simp -iota only[↓reduceIte];unfold setAddByScan;refine ag (ag (wpAny_rule (ag (wpAny_setScan_of jO F.get rfl F.fits F.el ?_))));obtain⟨us,p,q⟩:=F.us;cases hr:List.findIdx? (λe=>(PySem.strKind prog w).is y e.2) es.toList with
 |some j=>
  dsimp only;obtain⟨hj,VP,_⟩:=List.findIdx?_eq_some_iff_getElem.mp hr;have hy:y∈S:=by
   refine p.mem_iff.mp ?_;have hv:es.toList[j].2∈es.toList.map (·.2):=mB (List.getElem_mem hj);have:∀{vs:List Value} {us:List Str},StrsAre vs us->∀v∈vs,(PySem.strKind prog w).is y v=true->y∈us:=by
    intro vs us hs
    induction hs with
    |nil=>intro v hv;cases hv
    |cons z u r ih=>
     intro v hv hi;rcases bl.mp hv with rfl|hv
     ·have:z=y:=by simpa[PySem.strKind,Value.isStrOf] using hi
      subst this;exact bz
     ·exact bI _ (ih v hv hi)
   exact this q _ hv VP
  refine aA (aA ?_);have e:s={s with heap:=s.heap}:=rfl;refine h false s.heap es ep t (Heap.SameBut.refl a s.heap) ?_;unfold gY;rw[if_pos hy];exact F
 |none=>
  dsimp only;have hn:y∉S:=λhy=>by
   have:∀{vs:List Value} {us:List Str},StrsAre vs us->y∈us->∃v∈vs,(PySem.strKind prog w).is y v=true:=by
    intro vs us hs
    induction hs with
    |nil=>intro hv;cases hv
    |cons z u r ih=>
     intro hv;rcases bl.mp hv with rfl|hv
     ·exact⟨_,bz,strKind_is ..⟩
     ·obtain⟨v,a1,a2⟩:=ih hv;exact⟨v,bI _ a1,a2⟩
   obtain⟨v,a1,a2⟩:=this q (p.mem_iff.mpr hy);obtain⟨e,he,rfl⟩:=bj.mp a1;have:=List.findIdx?_eq_none_iff.mp hr e he;rw[a2] at this;cases this
  have ea:gY S y=S++[y]:=by unfold gY;rw[if_neg hn]
  rw[ea] at h;have rl:∀(b:Bool) (s₁:Shared) (Q':Unit->Shared->Prop),Q' () s₁->wpAny (model prog w) A (match b with|true=>rule "set.scan.the-table-gave-way"|false=>pure ()) Q' E s₁:=λb s₁ Q' hq=>by cases b<;>first|exact aA hq|exact wpAny_rule hq
  have uL:=layNew_perm t es ((PySem.strKind prog w).hash y) (.str y k);have zN:=layNew_fits t es ((PySem.strKind prog w).hash y) (.str y k);have zJ:=Uw t es ((PySem.strKind prog w).hash y) (.str y k);generalize layNew t es ((PySem.strKind prog w).hash y) (.str y k)=L at uL zN zJ⊢;obtain⟨fO,t1,wd,ab0⟩:=L;dsimp only at uL zN zJ⊢;rw[Array.toList_push] at uL;have J6:ElemsOf (PySem.strKind prog w) fO.toList:=(F.el.push jO rfl).perm uL;have E8:∃us:List Str,us.Perm (S++[y])/\StrsAre (fO.toList.map (·.2)) us:=by have:=uL.map (·.2);rw[bR] at this;obtain⟨u,a1,a2⟩:=Bg this (OG q);exact⟨u,a2.trans (p.append_right _),a1⟩
  have rZ:fO.size=es.size+1:=by rw[<- kP,uL.length_eq,bu,kP];rfl
  have zR:fO.size<=sizeLine:=fits_of_scanBound (by rw[rZ,iV];exact hb);refine ag (rl _ _ _ ?_);have fin:∀t2:SetTable,t2.fits fO.size=true->t2.led=t.led->t2.plain=false->wpAny (model prog w) A (do
    storeSet a fO t2
    if(!wd&&t2.tooFull)=true then do
      (match(relayAll t2 fO (SetTable.grown fO.size)).2.2 with|true=>rule "set.scan.the-table-gave-way"|false=>pure ())
      storeSet a (relayAll t2 fO (SetTable.grown fO.size)).1 (relayAll t2 fO (SetTable.grown fO.size)).2.1
      pure (some true)
     else pure (some true)) (λr s'=>wpAny (model prog w) A (match r with|some added=>pure added|none=>setAddHashedIn a (.str y k) ((PySem.strKind prog w).hash y) 99999) Q E s') E s:=λt2 f2 l2 p2=>by
   refine ag (wpAny_storeSet_of F.get rfl ?_ zR);have F1:=F.store J6 E8 f2 l2 p2;have Gs:=kQ s.heap a (Obj.putSet fO t2);refine mu (λO=>?_) λO=>?_
   ·have hp:=relayAll_perm t2 fO (SetTable.grown fO.size);have hf:=relayAll_fits t2 fO (SetTable.grown fO.size);have hl:=Qq t2 fO (SetTable.grown fO.size);generalize relayAll t2 fO (SetTable.grown fO.size)=Rl at hp hf hl⊢;obtain⟨es2,t3,g2⟩:=Rl;dsimp only at hp hf hl⊢;refine ag (rl _ _ _ (ag (wpAny_storeSet_of F1.get rfl ?_ ?_)))
    ·refine aA (aA (h true _ _ _ _ (Gs.trans (kQ _ a _)) (F1.store (s:={s with heap:=s.heap.update a (Obj.putSet fO t2)}) (J6.perm hp) ?_ hf hl.1 ?_)))
     ·obtain⟨u,a1,a2⟩:=E8;obtain⟨u',b1,b2⟩:=Bg (hp.map (·.2)) a2;exact⟨u',b2.trans a1,b1⟩
     ·cases hq:t3.plain with
      |false=>rfl
      |true=>have:=hl.2 hq;rw[p2] at this;cases this
    ·rw[<- kP,hp.length_eq,kP];exact zR
   ·exact aA (aA (h true _ _ _ _ Gs F1))
  refine mu (λO=>?_) λhq=>?_
  ·refine ag ?_;rw[hashByValue_scannable 8 rfl];exact aA (fin {t1 with plain:=false} (SetTable.fits_plain_off zN) zJ.1 rfl)
  ·refine ag (aA ?_);exact fin t1 zN zJ.1 (by cases hz:t1.plain with|false=>rfl|true=>exact absurd hz hq)
end
end
section
section
variable {prog:Program}{w:World}{A:Around}{E:Value->Shared->Prop}{s:Shared}{a:Addr}{S:List Str}{es:Array (Int×Value)}{ep:Nat}{t:SetTable}
def ql(prog:Program)(w:World)(h:Heap)(a:Addr)(S:List Str):Prop:=∃es ep t,dT prog w h a S es ep t
def ql.keep{h h':Heap}(F:ql prog w h a S)(k:∀o,h.get? a=some o->h'.get? a=some o):ql prog w h' a S:=by obtain⟨es,ep,t,F⟩:=F;exact⟨es,ep,t,dT.mk (k _ F.get) F.el F.us F.fits F.led F.pl⟩
def Pr(hh:A.handled=none){I l:Addr}{items:List Value}{n:Nat}(Wy:I≠l)(De:I≠a)(VW:l≠a){R:Result->Shared->Prop}:∀(ys:List Str) (i:Nat) (S:List Str) (s:Shared),StrsAre (items.drop i) ys->S.length+ys.length<1000 ->
  s.heap.IsListIter I l i->IsL s.heap l items.toArray n->ql prog w s.heap a S ->
  (∀h' k,ql prog w h' a (ys.foldl gY S)->(∀b o,b≠I->b≠a->s.heap.get? b=some o->h'.get? b=some o)->R (.ok (.ret .none)) {s with heap:=h',toks:=k}) ->
  codeAny (model prog w) A (.builtin "set.update.loop" ⟨[.ref a,.ref I],[]⟩) R s:=by
 intro ys
 induction ys with
 |nil=>
  intro i S s hs hz hI hl Z h;have hd:items.drop i=[]:=StrsAre.nil_inv hs;have hx:items.toArray[i]?=none:=by rw[qs,<- List.head?_drop,hd];rfl
  refine mr F.entry_set_update_loop ?_;rw[pb F.plain_set_update_loop _];show wpAny _ A.in1 (pyNext (.ref I)>>=_) _ _ s;refine ag (wpAny_pyNext_list_end hh hI hl.isList hx λh' k=>?_);exact aA (h h' s.toks (Z.keep λo e=>k a o (cP De) e) λb o h1 O e=>k b o h1 e)
 |cons y ys ih=>
  intro i S s hs hz hI hl Z h;obtain⟨k,r,hd,hr⟩:=StrsAre.cons_inv hs;have hx:items.toArray[i]?=some (.str y k):=by rw[qs,<- List.head?_drop,hd];rfl
  have hd2:items.drop (i+1)=r:=by rw[<- List.tail_drop,hd];rfl
  refine mr F.entry_set_update_loop ?_;rw[pb F.plain_set_update_loop _];show wpAny _ A.in1 (pyNext (.ref I)>>=_) _ _ s;refine ag (wpAny_pyNext_list_item hI hl.isList hx λh1 fY gU=>?_);obtain⟨es,ep,t,F1⟩:=Z.keep (h':=h1) λo e=>(gU.2 a (cP De)).trans e;show wpAny _ A.in1 (holding [Value.str y k] (setAdd a (.str y k))>>=_) _ _ _;refine ag (cI ?_);unfold setAdd;refine cI (ag ((PySem.strKind prog w).pyHash (strKind_is ..) ?_));refine WU (s:={s with heap:=h1,toks:=s.toks+1}) F1 (jb (n:=S.length+1) (m:=1001) (Nat.succ_lt_succ (cN (hV _ _) hz)) (by decide)) λb h2 lN DC t' nj F2=>?_;have sl:(gY S y).length<=S.length+1:=by
   unfold gY;by_cases q:y∈S
   ·rw[if_pos q];exact jx _
   ·rw[if_neg q,bu];exact aQ _
  refine aA ⟨plainId_quiet F.plain_set_update_loop _,ih (i+1) (gY S y) _ (by rw[hd2];exact hr) (cN (nW sl _) (j5 hz)) (fY.at λo e=>(nj.2 I De).trans e) ((nj.2 l VW).trans ((gU.2 l (cP Wy)).trans hl:IsL h1 l items.toArray n)) ⟨lN,DC,t',F2⟩ λh' k' F' kp=>?_⟩;exact h h' k' F' λb o b1 b2 e=>kp b o b1 b2 ((nj.2 b b2).trans ((gU.2 b b1).trans e))
def SV(x:Value){Q:Value->Shared->Prop}(h:ql prog w (s.heap.push {cls:=.type "set",dict:=none,data:=.set #[] 0 (.fresh 0 0 (!(w.params.followText "set-order")))}) s.heap.objs.size []->Q (.ref s.heap.objs.size) {s with heap:=s.heap.push {cls:=.type "set",dict:=none,data:=.set #[] 0 (.fresh 0 0 (!(w.params.followText "set-order")))}}):
  codeAny (model prog w) A (.call (.builtin "set.__new__") ⟨[.type "set",x],[]⟩) (wants Q E) s:=by
 refine codeAny_of_tree ?_;show wpAny _ A.in1 (do checkBuiltinCall "set.__new__" ⟨[.type "set",x],[]⟩;again (.builtin "set.__new__" ⟨[.type "set",x],[]⟩)) _ _ s;refine ag (fK (F.newCall_set_1 x) (aA ⟨plainId_quiet F.plain_set_new _,mr F.entry_set_new ?_⟩));rw[pb F.plain_set_new _];unfold Builtin.«set.__new__» Builtin.Frozenset.newClass;have VJ:=sub_set_self;obtain⟨hp,g,d,tk,os⟩:=s;dsimp only;wp_walk;refine wpAny_askSetting (aA ?_);dsimp only;simp only[newObj];refine ag (wpAny_alloc (aA (aA (h ?_))));exact⟨#[],0,_,dT.mk (cw _ rfl) (λe he=>by simp at he) ⟨[],.refl _,.nil⟩ rfl rfl (λh=>absurd h (jz 0))⟩
end
end
variable {A:Around}{E:Value->Shared->Prop}{s:Shared}
def Nq{M:Model}{src:Source}{n:Nat}{Q:Nat->Shared->Prop}(hn:n≠0)(h:∀i,i<n->∀d,Q i {s with drawn:=d}):wpAny M A (choose src n) Q E s:=λΓ p hΓ=>by show Sem.wp M Γ (.choose src n .pure) _ _ p s;rw[Sem.wp_choose];exact⟨hn,h _ (Nat.mod_lt _ (Nat.pos_of_ne_zero hn)) _⟩
theorem Dx{α:Type}:∀{l:List α} {i:Nat} (h:i<l.length),(l[i]::l.eraseIdx i).Perm l
 |x::l,0,_=>.refl _
 |x::l,i+1,h=>(List.Perm.swap ..).trans ((Dx (l:=l) (tH h)).cons x)
theorem Yz{α:Type}{M:Model}{A:Around}{E:Value->Shared->Prop}:∀(n:Nat) (xs:List α) (s:Shared) (Q:List α->Shared->Prop),xs.length=n->(∀ys d,ys.Perm xs->Q ys {s with drawn:=d})->wpAny M A (drawOrder n xs) Q E s:=by
 intro n
 induction n with
 |zero=>intro xs s Q hl h;cases vJ hl;exact aA (h [] s.drawn (.refl _))
 |succ n ih=>
  intro t_ s Q hl h;cases t_ with
  |nil=>exact nomatch hl
  |cons x xs=>show wpAny M A (choose .order (x::xs).length>>=λi=>(match(x::xs)[i]? with|some y=>drawOrder n ((x::xs).eraseIdx i)>>=λr=>pure (y::r)|none=>unsupported "internal:drawOrder")) Q E s;refine ag (Nq (Nat.succ_ne_zero _) λi hi d=>?_);rw[nZ hi];refine ag (ih _ _ _ (by rw[List.length_eraseIdx];split<;>simp_all) λys d' p=>?_);exact aA (h _ d' ((p.cons _).trans (Dx hi)))
variable {α:Type}
def RU(next:Nat->Nat):∀(n k:Nat) (left:List α) (out:Array α),left.length=n->(pickOrder.go next n k left out).toList.Perm (out.toList++left):=by
 intro n
 induction n with
 |zero=>intro k left out hl;cases vJ hl;show List.Perm out.toList (out.toList++[]);rw[cE]
 |succ n ih=>intro k left out hl;have hi:next k%left.length<left.length:=Nat.mod_lt _ (by rw[hl];exact mE _);show(match left[next k%left.length]? with|some x=>pickOrder.go next n (k+1) (left.eraseIdx (next k%left.length)) (out.push x)|none=>out).toList.Perm _;rw[nZ hi];dsimp only;refine(ih (k+1) _ _ (by rw[List.length_eraseIdx_of_lt hi,hl];rfl)).trans ?_;rw[Array.toList_push,dA];exact(Dx hi).append_left _
def uU:Slot "set_iterator" "__next__" "set_iterator.__next__":=
 .of (owner:="set_iterator") (n:="__next__") (by rw[typeLookup_type,tK];kernel_rfl) (by decide +kernel) (by decide +kernel) (by decide +kernel)
  (by first|exact .inl (by decide +kernel)|exact .inr (by decide +kernel)) (by rw[isSubtype_type];kernel_rfl)
def JB:Slot "set_iterator" "__iter__" "set_iterator.__iter__":=
 .of (owner:="set_iterator") (n:="__iter__") (by rw[typeLookup_type,tK];kernel_rfl) (by decide +kernel) (by decide +kernel) (by decide +kernel)
  (by first|exact .inl (by decide +kernel)|exact .inr (by decide +kernel)) (by rw[isSubtype_type];kernel_rfl)
def JL:entryFor table "set_iterator.__next__"=some Builtin.«set_iterator.__next__»:=entryFor_of_tree (by kernel_rfl)
def Xp:entryFor table "set_iterator.__iter__"=some Builtin.«dict_keyiterator.__iter__»:=entryFor_alias (id':="dict_keyiterator.__iter__") (by kernel_rfl) (by first|rfl|decide +kernel|(unfold String.splitOn;simp +decide [String.splitOnAux])) (by decide +kernel) (by kernel_rfl)
def Xq:entryFor table "set.__iter__"=some Builtin.«frozenset.__iter__»:=entryFor_alias (id':="frozenset.__iter__") (by kernel_rfl) (by first|rfl|decide +kernel|(unfold String.splitOn;simp +decide [String.splitOnAux])) (by decide +kernel) (by kernel_rfl)
def JP(a:Value):argsOk "set_iterator.__next__" ⟨[a],[]⟩:=by unfold argsOk;kernel_rfl
def Xw(a:Value):argsOk "set_iterator.__iter__" ⟨[a],[]⟩:=by unfold argsOk;kernel_rfl
section
inductive nF(w:World)(es:Array (Int×Value))(ep:Nat)(a:Addr)(t:SetTable)(h:Heap)(i:Nat)(ord:List Value)(T:Addr):Value->Prop where
 |text (k:Int) (hb:w.params.followText "set-order"=true) (ho:ord=(pickOrder (w.params.setOrder a ep) es).toList.map (·.2)):nF w es ep a t h i ord T (.int k 0)
 |drawn (n:Nat) (pl:List Nat) (hT:IsT h T (pl.map λj=>rawInt (j:Nat)).toArray n) (ho:∀(j:Nat) (v:Value),ord[j]?=some v->∃p e,pl[j]?=some p/\es[p]?=some e/\e.2=v) (hl:pl.length=ord.length):nF w es ep a t h i ord T (.ref T)
 |one (k:Nat) (hb:w.params.followText "set-order"=false) (hs:es.size<=1) (hg:SetTable.below t.place k=i) (ho:ord=es.toList.map (·.2)):nF w es ep a t h i ord T (.int k 0)
def vD(h:Heap)(I:Addr)(first:Value)(i:Nat)(a:Addr)(n ep:Nat):Prop:=h.get? I=some {cls:=.type "set_iterator",dict:=none,data:=.fields #[first,.int i 0,.ref a,.int n 0,.int ep 0],slots:=#[]}
section
variable {prog:Program}{w:World}{A:Around}{E:Value->Shared->Prop}{s:Shared}{I a:Addr}{S:List Str}{es:Array (Int×Value)}{ep:Nat}{t:SetTable}{first:Value}{i:Nat}{ord:List Value}{T:Addr}
def tm{M:Model}{Q:Bool->Shared->Prop}(h:Q (M.w.params.followText "set-order") s):wpAny M A setsByText Q E s:=ag (wpAny_askSetting (aA h))
def Z0{j:Nat}:SetTable.below #[j] (j+1)=1:=by unfold SetTable.below;show SetTable.below.go #[j] (j+1) 1 0 1=1;show(if 0<1 then if(#[j]:Array Nat).getD ((0+1)/2) (j+1)<j+1 then 1 else(0:Nat) else 0)=1;exact(if_pos Nat.one_pos).trans (if_pos (Nat.lt_succ_self j))
variable {Q:Option Value->Shared->Prop}
def Pn(hI:vD s.heap I first i a es.size ep)(Z:dT prog w s.heap a S es ep t)(g:nF w es ep a t s.heap i ord T first)(Df:T≠I){x:Value}(hx:ord[i]?=some x) 
  (h:∀h' z5,vD h' I z5 (i+1) a es.size ep->nF w es ep a t h' (i+1) ord T z5->Heap.SameBut I s.heap h'->Q (some x) {s with heap:=h'}):
  wpAny (model prog w) A (pyNext (.ref I)) Q E s:=by
 have hT:s.TypeIs (.ref I) "set_iterator":=⟨_,hI,rfl⟩;unfold pyNext;refine ag (wpAny_attempt (tI (name:=Str.ofString "__next__") hT uU (mA uU hT JL ?_ (JP _))));unfold Builtin.«set_iterator.__next__»;refine ag (aA ?_);refine ag (wpAny_fieldsOf hI rfl ?_);dsimp only;refine ag (wpAny_setEntries_of Z.get rfl Z.fits ?_);rw[if_neg (by simp)];cases g with
 |text k hb ho=>
  dsimp only;refine ag ?_;unfold setNext;refine ag (nU Z.get rfl Z.fits (ag (tm ?_)));rw[show(model prog w).w=w from rfl,hb];dsimp only;rw[if_pos rfl,if_neg (by simp)];refine ag ?_;unfold setWalk;refine ag (nU Z.get rfl Z.fits (ag (tm ?_)));rw[show(model prog w).w=w from rfl,hb];rw[if_pos rfl];refine ag (wpAny_askSetting (aA (aA ?_)));show wpAny _ _ (match((pickOrder (w.params.setOrder a ep) es)[((i:Nat):Int).toNat]?).map λe=>(e.2,(k.toNat:Nat)) with|some (x,next)=>_|none=>_) _ _ s;have:((pickOrder (w.params.setOrder a ep) es)[i]?).map (·.2)=some x:=by rw[<- hx,ho,hZ,rM]
  obtain⟨e,h1,rfl⟩:=qt.mp this;rw[o6,h1];refine ag (o7 hI (by simp) λh1 fY gU=>?_);refine ag (o7 fY (by simp) λh2 sT nj=>aA ⟨_,rfl,aA (h h2 _ sT ?_ (gU.trans nj))⟩);exact .text _ hb ho
 |drawn n pl zT ho hl=>
  dsimp only;refine ag (nQ zT rfl ?_);obtain⟨p,e,e1,e2,rfl⟩:=ho i x hx;have hp:(pl.map λj=>rawInt (j:Nat)).toArray[i]?=some (rawInt (p:Nat)):=by rw[qs,hZ,e1];rfl
  dsimp only;rw[o6,hp];refine ag ?_;unfold setNextDrawn;refine ag (nU Z.get rfl Z.fits ?_);dsimp only;rw[if_neg (by simp)];rw[o6,e2];refine aA (ag (o7 hI (by simp) λh1 fY gU=>aA ⟨_,rfl,aA (h h1 _ fY (.drawn n pl ((gU.2 T Df).trans zT) ho hl) gU)⟩))
 |one k hb hs hg ho=>
  have VC:(es[i]?).map (·.2)=some x:=by rw[<- hx,ho,hZ,rM]
  obtain⟨e,h1,rfl⟩:=qt.mp VC;have hi:i<es.size:=(tJ.mp h1).1;have h0:i=0:=Nat.lt_one_iff.mp (cA hi hs);have WG:es.size=1:=Nat.le_antisymm hs (cN (kU _) hi);subst h0;have xf:t.place.size=1:=by have:=Z.fits;unfold SetTable.fits at this;rw[Bool.and_eq_true,beq_iff_eq] at this;rw[this.1,WG]
  obtain⟨j,hj⟩:∃j,t.place=#[j]:=by
   have sR:=xf;generalize t.place=z at sR;obtain⟨l⟩:=z;cases l with
   |nil=>cases sR
   |cons j l=>cases l with
    |nil=>exact⟨j,rfl⟩
    |cons=>cases sR
  dsimp only;refine ag ?_;unfold setNext;refine ag (nU Z.get rfl Z.fits (ag (tm ?_)));rw[show(model prog w).w=w from rfl,hb];dsimp only;rw[if_neg kO];refine mu (λfD=>?_) λO=>?_
  ·have fD:(!t.plain&&decide (es.size>1))=true:=fD;rw[decide_eq_false (hJ.mpr hs),Bool.and_false] at fD;cases fD
  refine ag ?_;refine mu (c:=(!t.led&&!es.isEmpty)=true) (λfD=>?_) λO=>aA ?_
  ·rw[Z.led,hb] at fD;cases fD
  rw[o6,hg,h1,hj];refine aA ?_;refine ag (o7 hI (by simp) λh1 fY gU=>?_);refine ag (o7 fY (by simp) λh2 sT nj=>aA ⟨_,rfl,aA (h h2 _ sT ?_ (gU.trans nj))⟩);exact .one (j+1) hb hs (hj▸Z0) ho
def OI{vs:Array Value}{n:Nat}(hT:∃o,s.heap.get? I=some o/\o.data=.fields vs)(hh:A.handled=none){R:PySem.Fin->Shared->Prop}(h:∀h',(∀b o,b≠I->s.heap.get? b=some o->h'.get? b=some o)->Q none {s with heap:=h'}):
  wpAny (model prog w) A.in1 (do
    let e <- newExc (.type "StopIteration") []
    raiseNew e) R (λe s'=>wpAny (model prog w) A (do
     let b <- isInstance e (.type "StopIteration")
     if b=true then pure none else throw e) Q E s') s:=by
 refine ag ?_;simp only[newExc,newTuple];refine ag (kN ?_ (by size_fits));refine ag (m:=firstArgMember _ _) (fK (a:=Value.none) (by first|rfl|(simp only[firstArgMember];rfl)) ?_);refine kN ?_ (by size_fits);simp -iota only[raiseNew];refine ag (wpAny_handled ?_);rw[show A.in1.handled=none from hh];refine ag (aA (wpAny_throw ?_));refine ag (wpAny_isInstance (T:="StopIteration") (b:=true) ⟨_,cw _ rfl,rfl⟩ isSubtype_stop ?_);exact aA (h _ λb o O e=>fk _ (fk _ e))
def Po(hh:A.handled=none)(hI:vD s.heap I first i a es.size ep)(Z:dT prog w s.heap a S es ep t)(g:nF w es ep a t s.heap i ord T first)(hx:ord[i]?=none) 
  (h:∀h',(∀b o,b≠I->s.heap.get? b=some o->h'.get? b=some o)->Q none {s with heap:=h'}):
  wpAny (model prog w) A (pyNext (.ref I)) Q E s:=by
 have hT:s.TypeIs (.ref I) "set_iterator":=⟨_,hI,rfl⟩;have fin:∀(first:Value) (s1:Shared),vD s1.heap I first i a es.size ep->(∀b o,b≠I->s.heap.get? b=some o->s1.heap.get? b=some o)->{s with heap:=s1.heap}=s1 ->
   wpAny (model prog w) A.in1 (do
    setField (.ref I) 2 .none
    let e <- newExc (.type "StopIteration") []
    raiseNew e) (λfin s'=>∃v,fin=Fin.done (Flow.ret v)/\wpAny (model prog w) A (pure (some v)) Q E s') (λe s'=>wpAny (model prog w) A (do
     let b <- isInstance e (.type "StopIteration")
     if b=true then pure none else throw e) Q E s') s1:=λfirst s1 fY k e=>by
  refine ag (o7 fY (by simp) λh2 sT nj=>?_);refine OI (s:={s1 with heap:=h2}) (n:=0) ⟨_,sT,rfl⟩ hh λh' k'=>?_;have:=h h' λb o hb e=>k' b o hb ((nj.2 b hb).trans (k b o hb e));rw[<- e];exact this
 unfold pyNext;refine ag (wpAny_attempt (tI (name:=Str.ofString "__next__") hT uU (mA uU hT JL ?_ (JP _))));unfold Builtin.«set_iterator.__next__»;refine ag (aA ?_);refine ag (wpAny_fieldsOf hI rfl ?_);dsimp only;refine ag (wpAny_setEntries_of Z.get rfl Z.fits ?_);rw[if_neg (by simp)];cases g with
 |text k hb ho=>
  have h1:(pickOrder (w.params.setOrder a ep) es)[i]?=none:=by rw[ho,hZ,rM] at hx;exact Option.map_eq_none_iff.mp hx
  dsimp only;refine ag ?_;unfold setNext;refine ag (nU Z.get rfl Z.fits (ag (tm ?_)));rw[show(model prog w).w=w from rfl,hb];dsimp only;rw[if_pos rfl,if_neg (by simp)];refine ag ?_;unfold setWalk;refine ag (nU Z.get rfl Z.fits (ag (tm ?_)));rw[show(model prog w).w=w from rfl,hb];rw[if_pos rfl];refine ag (wpAny_askSetting (aA (aA ?_)));rw[o6];show wpAny _ _ (match((pickOrder (w.params.setOrder a ep) es)[i]?).map λe=>(e.2,(k.toNat:Nat)) with|some (x,next)=>_|none=>_) _ _ s;rw[h1];exact fin _ s hI (λO O O e=>e) rfl
 |drawn n pl zT ho hl=>
  have hp:(pl.map λj=>rawInt (j:Nat)).toArray[i]?=none:=by rw[qs,hZ,List.getElem?_eq_none (by rw[hl];exact qu.mp hx)];rfl
  dsimp only;refine ag (nQ zT rfl ?_);dsimp only;rw[o6,hp];refine ag (o7 hI (by simp) λh1 fY gU=>?_);exact fin _ {s with heap:=h1} fY (λb o hb e=>(gU.2 b hb).trans e) rfl
 |one k hb hs hg ho=>
  have h1:es[i]?=none:=by rw[ho,hZ,rM] at hx;exact Option.map_eq_none_iff.mp hx
  dsimp only;refine ag ?_;unfold setNext;refine ag (nU Z.get rfl Z.fits (ag (tm ?_)));rw[show(model prog w).w=w from rfl,hb];dsimp only;rw[if_neg kO];refine mu (λfD=>?_) λO=>?_
  ·have fD:(!t.plain&&decide (es.size>1))=true:=fD;rw[decide_eq_false (hJ.mpr hs),Bool.and_false] at fD;cases fD
  refine ag ?_;refine mu (c:=(!t.led&&!es.isEmpty)=true) (λfD=>?_) λO=>aA ?_
  ·rw[Z.led,hb] at fD;cases fD
  rw[o6,hg,h1];refine aA ?_;exact fin _ s hI (λO O O e=>e) rfl
def Pm(hI:vD s.heap I first i a es.size ep){Q:Value->Shared->Prop}(h:Q (.ref I) s):wpAny (model prog w) A (pyIter (.ref I)) Q E s:=by have hT:s.TypeIs (.ref I) "set_iterator":=⟨_,hI,rfl⟩;refine wpAny_pyIter_slot hT JB (mA JB hT Xp ?_ (Xw _));show wpAny _ _ (ret (.ref I)) _ _ s;exact aA ⟨_,rfl,"set_iterator",_,hT,uU.lookup,h⟩
end
end
section
section
variable {prog:Program}{w:World}{A:Around}{E:Value->Shared->Prop}{s:Shared}{I a:Addr}{S:List Str}{es:Array (Int×Value)}{ep:Nat}{t:SetTable}{first:Value}{i:Nat}{ord:List Value}{T:Addr}
def nF.keep{h h':Heap}(g:nF w es ep a t h i ord T first)(k:∀o,h.get? T=some o->h'.get? T=some o):nF w es ep a t h' i ord T first:=by
 cases g with
 |text z hb ho=>exact .text z hb ho
 |drawn n pl hT ho hl=>exact .drawn n pl (k _ hT) ho hl
 |one z hb hs hg ho=>exact .one z hb hs hg ho
def dT.keep{h h':Heap}(F:dT prog w h a S es ep t)(k:∀o,h.get? a=some o->h'.get? a=some o):dT prog w h' a S es ep t:=(dT.mk (k _ F.get) F.el F.us F.fits F.led F.pl)
def nG(prog:Program)(w:World)(I a:Addr)(S:List Str)(es:Array (Int×Value))(ep:Nat)(t:SetTable)(ord:List Value)(T:Addr)(i:Nat)(h:Heap)(first:Value):Prop:=(vD h I first i a es.size ep)/\(dT prog w h a S es ep t)/\(nF w es ep a t h i ord T first)
section
variable {b1 b2 b3 b4 b5 b6 b7 b8 b9 gq jS nA xS}(x:nG b1 b2 b3 b4 b5 b6 b7 b8 b9 gq jS nA xS)
def nG.mk:=jn (nG b1 b2 b3 b4 b5 b6 b7 b8 b9 gq jS nA xS) rfl
def nG.it:=x.1
def nG.set:=x.2.1
def nG.go:=x.2.2
end
def Pp(hh:A.handled=none)(Ia:a≠I)(IT:T≠I)(hl:ord.length=es.size):Walks prog w A I [I,a,T] [I] es.size (λi v=>ord[i]?=some v) (λi h=>∃first,nG prog w I a S es ep t ord T i h first) where
 sub:=λb hb=>by simp at hb;simp[hb]
 frame:=λi h h' ⟨first,x⟩ k=>⟨first,nG.mk (k I (by simp) _ x.it) (x.set.keep (k a (by simp))) (x.go.keep λo=>k T (by simp) o)⟩
 item:=λi s Q E hi ⟨first,x⟩ h=>by have hx:ord[i]?=some (ord[i]'(by rw[hl];exact hi)):=nZ _;exact Pn x.it x.set x.go IT hx λh' z5 it' go' sb=>h _ h' s.toks hx ⟨z5,nG.mk it' (x.set.keep λo e=>(sb.2 a Ia).trans e) go'⟩ λb o hb e=>(sb.2 b λq=>hb (by simp[q])).trans e
 done:=λs Q E ⟨first,x⟩ h=>Po hh x.it x.set x.go (by rw[List.getElem?_eq_none];rw[hl];exact aQ _) λh' k=>h h' s.toks λb o hb e=>k b o (λq=>hb (by simp[q])) e
 self:=λi s Q E ⟨first,x⟩ h=>Pm x.it h
def Rc(l:List Value):(List.range l.length).map (λj=>(l[j]?).getD .none)=l:=by
 apply List.ext_getElem
 ·simp
 ·intro j h1 h2;simp[h2]
def Pu(Z:dT prog w s.heap a S es ep t)(hz:es.size<=1000){Q:Value->Shared->Prop}
  (h:∀(h':Heap) d I T ord first,(∀b o,s.heap.get? b=some o->h'.get? b=some o)->nG prog w I a S es ep t ord T 0 h' first->ord.Perm (es.toList.map (·.2))->s.heap.objs.size<=I->T≠I->(T=a\/s.heap.objs.size<=T)->Q (.ref I) {s with heap:=h',drawn:=d}):
  wpAny (model prog w) A (pyIter (.ref a)) Q E s:=by
 have hT:s.TypeIs (.ref a) "set":=⟨_,Z.get,rfl⟩;have ha:a<s.heap.objs.size:=cZ Z.get;refine wpAny_pyIter_slot hT F.slot_set_iter (mA F.slot_set_iter hT Xq ?_ (F.args_set_iter_1 _));unfold Builtin.«frozenset.__iter__»;refine ag (aA ?_);refine ag ?_;unfold Builtin.Frozenset.sizeOf;refine ag (wpAny_setEntries_of Z.get rfl Z.fits (aA ?_));refine ag ?_;have fin:∀(s1:Shared) (T:Addr) (ord:List Value) (first:Value),(∀b o,s.heap.get? b=some o->s1.heap.get? b=some o)->(∀x,nF w es ep a t (s1.heap.push x) 0 ord T first)->ord.Perm (es.toList.map (·.2)) ->
   T<s1.heap.objs.size->(T=a\/s.heap.objs.size<=T)->(∃h' d,s1={s with heap:=h',drawn:=d}/\s.heap.objs.size<=h'.objs.size) ->
   wpAny (model prog w) A.in1 (do
    let e <- setEpoch a
    let v <- newFields "set_iterator" [first,rawInt 0,.ref a,rawInt (es.size:Nat),rawInt (e:Nat)]
    ret v) (λfin s'=>∃v,fin=Fin.done (Flow.ret v)/\∃T r,s'.TypeIs v T/\typeLookup (.type T) "__next__"=pure (some r)/\Q v s') E s1:=by
  rintro s1 T ord first k g p Ww xr ⟨h1,d1,rfl,le⟩
  have Z1:dT prog w h1 a S es ep t:=Z.keep λo e=>k a o e;refine ag ?_;unfold setEpoch;refine ag (nU Z1.get rfl Z1.fits (aA ?_));refine ag (kN (aA ⟨_,rfl,"set_iterator",_,⟨_,cw _ rfl,rfl⟩,uU.lookup,?_⟩));exact h _ d1 _ T ord first (λb o e=>fk _ (k b o e)) (nG.mk (cw _ rfl) (Z1.keep λo e=>fk _ e) (g _)) p le (dz Ww) xr
 unfold setDrawn;refine ag (nU Z.get rfl Z.fits (ag (tm (aA ?_))));rw[show(model prog w).w=w from rfl];cases hb:w.params.followText "set-order" with
 |true=>refine ag (aA ?_);refine fin s a _ _ (λO O e=>e) (λO=>.text 0 hb rfl) ?_ ha (.inl rfl) ⟨s.heap,s.drawn,rfl,aQ _⟩;have:=RU (w.params.setOrder a ep) es.size 0 es.toList #[] kP;exact this.map (·.2)
 |false=>
  by_cases hd:(!t.plain&&decide (es.size>1))=true
  ·refine mu (λO=>?_) λq=>absurd hd q;refine ag (Yz es.size (List.range es.size) s _ List.length_range λys d p=>ag ?_);have hlen:ys.length=es.size:=by rw[p.length_eq,List.length_range]
   refine wpAny_newTuple (items:=ys.map λ(i:Nat)=>rawInt i) ?_ (by rw[aC,hlen];exact aH hz (by decide));have e1:es.toList.map (·.2)=(List.range es.size).map λj=>((es[j]?).map (·.2)).getD .none:=by have:=Rc (es.toList.map (·.2));rw[aC,kP] at this;rw[<- this];refine jC λj O=>?_;rw[hZ,rM]
   refine fin {s with heap:=s.heap.push {cls:=.type "tuple",data:=.seq (ys.map λ(i:Nat)=>rawInt i).toArray},drawn:=d} s.heap.objs.size (ys.map λj=>((es[j]?).map (·.2)).getD .none) _ (λb o e=>fk _ e)
    (λx=>.drawn 0 ys (fk _ (cw _ rfl)) (λj v hv=>?_) (by rw[aC])) (by rw[e1];exact p.map _) (by rw[nT];exact Nat.lt_succ_self _) (.inr (aQ _)) ⟨_,d,rfl,by rw[nT];exact jx _⟩
   rw[hZ] at hv;obtain⟨q,hq,rfl⟩:=qt.mp hv;have hr:q<es.size:=List.mem_range.mp (p.mem_iff.mp (gx hq));exact⟨q,es[q],hq,vK hr,by rw[vK hr];rfl⟩
  ·refine mu (λq=>absurd q hd) λO=>ag (aA ?_);have hs:es.size<=1:=by
    by_cases q:es.size<=1
    ·exact q
    ·refine absurd ?_ hd;rw[Z.pl (Nat.zero_lt_of_lt (Nat.lt_of_not_le q)),decide_eq_true (Nat.lt_of_not_le q)];rfl
   refine fin s a _ _ (λO O e=>e) (λO=>.one 0 hb hs ?_ rfl) (.refl _) ha (.inl rfl) ⟨s.heap,s.drawn,rfl,aQ _⟩;have xf:t.place.size=es.size:=by have:=Z.fits;unfold SetTable.fits at this;rw[Bool.and_eq_true,beq_iff_eq] at this;exact this.1
   unfold SetTable.below;rw[xf]
   match es.size,hs with
   |0,_=>rfl
   |1,_=>show(if 0<1 then if(t.place.getD ((0+1)/2) (0+1)<0) then SetTable.below.go t.place 0 0 1 1 else(0:Nat) else 0)=0;exact(if_pos Nat.one_pos).trans (if_neg (Nat.not_lt_zero _))
end
end
section
section
variable {prog:Program}{w:World}{A:Around}{E:Value->Shared->Prop}{s:Shared}{I a:Addr}{S:List Str}{es:Array (Int×Value)}{ep:Nat}{t:SetTable}{first:Value}{i:Nat}{ord:List Value}{T:Addr}
def Pw(hT:s.TypeIs (.ref a) "set"){Q:Bool->Shared->Prop}(h:Q false s):wpAny (model prog w) A (Builtin.List.listLengthHint (.ref a)) Q E s:=by
 unfold Builtin.List.listLengthHint;refine ag (wpAny_specialOf hT PySem.F.slot_set_len.lookup ?_);generalize I2:("set.__len__":String)=Vy
 wp_delta
 rw[show splitId Vy=some ("set","__len__") from by subst I2;decide +kernel];subst I2;refine ag (wpAny_isInstance (T:="set") (b:=true) hT (by rw[isSubtype_type];kernel_rfl) ?_);refine mu (λfD=>absurd fD (by decide)) (λO=>?_);refine mu (λO=>?_) (λfD=>absurd (by decide +kernel) fD);refine ag (wpAny_typeOf hT ?_);exact aA h
def FI{vs:List Value}(p:vs.Perm (es.toList.map (·.2)))(Z:∃us:List Str,us.Perm S/\StrsAre (es.toList.map (·.2)) us):∃us,StrsAre vs us/\us.Perm S:=by obtain⟨us,p2,q⟩:=Z;obtain⟨u,a1,a2⟩:=Bg p q;exact⟨u,a1,a2.trans p2⟩
def Px(hh:A.handled=none)(Z:dT prog w s.heap a S es ep t)(hz:es.size<=1000){R:List Value->Shared->Prop}
  (h:∀(h':Heap) tk d vs,(∀b o,s.heap.get? b=some o->h'.get? b=some o)->(∃us,StrsAre vs us/\us.Perm S)->R vs {s with heap:=h',toks:=tk,drawn:=d}):wpAny (model prog w) A (collect (.ref a)) R E s:=by
 have hT:s.TypeIs (.ref a) "set":=⟨_,Z.get,rfl⟩;have ha:a<s.heap.objs.size:=cZ Z.get;unfold collect;refine ag (wpAny_runValue (mr entry_proto_collect' ?_));rw[pb PySem.F.plain_proto_collect _];show wpAny _ A.in1 (newList []>>=λl=>again (.builtin "list.__iadd__" ⟨[l,.ref a],[]⟩)) _ _ s;refine ag (kN (aA ⟨plainId_quiet PySem.F.plain_list_iadd _,mr entry_list_iadd' ?_⟩));rw[pb PySem.F.plain_list_iadd _];show wpAny _ A.in1 (Builtin.List.listExtendWith (.ref s.heap.objs.size) (.ref a) (.ref s.heap.objs.size)) _ _ _;generalize hD:s.heap.objs.size=D at *;generalize Jp:s.heap.push {cls:=.type "list",data:=.seq ([]:List Value).toArray}=h1;have eD:h1.get? D=some {cls:=.type "list",dict:=none,data:=.seq #[] 0,slots:=#[]}:=by rw[<- Jp,<- hD];exact cw _ rfl
 have k1:∀b o,s.heap.get? b=some o->h1.get? b=some o:=λb o e=>by rw[<- Jp];exact fk _ e
 have Z1:=Z.keep λo e=>k1 a o e;have hn:Builtin.List.listSameRef (.ref D) (.ref a)=false:=by simp[Builtin.List.listSameRef,ei ha]
 unfold Builtin.List.listExtendWith;refine ag (wpAny_typeOf (T:="set") ⟨_,Z1.get,rfl⟩ ?_);simp -iota only[hn,show(Value.type "set"==Value.type "list")=false by decide,show(Value.type "set"==Value.type "tuple")=false by decide,Bool.or_false,Bool.false_eq_true,if_false];refine ag (Pu Z1 hz λh2 d I T ord first k2 at2 p hI Df xr=>?_);have hlen:ord.length=es.size:=by rw[p.length_eq,aC,kP]
 have Wv:D≠T:=by
  rcases xr with rfl|xr
  ·exact ei ha
  ·exact dz (cA (cZ eD) xr)
 have aI:a≠I:=dz (cA (cZ Z1.get) hI);have W:=Pp (A:=A.in1) (prog:=prog) (w:=w) (S:=S) (ep:=ep) (t:=t) hh aI Df hlen;have Jj:D∉[I,a,T]:=by simp only[bl,qp,or_false,not_or];exact⟨(dz (cA (cZ eD) hI):D≠I),ei ha,Wv⟩
 have key:∀(RR:Result->Shared->Prop),(∀(h4:Heap) tk c,(∀b o,s.heap.get? b=some o->h4.get? b=some o)->h4.get? D=some {cls:=.type "list",dict:=none,data:=.seq ord.toArray c,slots:=#[]}->RR (.ok (.ret (.ref D))) {s with heap:=h4,toks:=tk,drawn:=d}) ->
   ∀(h3:Heap) (c:Nat),(∀b o,b≠D->h2.get? b=some o->h3.get? b=some o)->h3.get? D=some {cls:=.type "list",dict:=none,data:=.seq #[] c,slots:=#[]} ->
   codeAny (model prog w) A (.builtin "list.extend.loop" ⟨[.ref D,.ref I,.ref D],[]⟩) RR {s with heap:=h3,drawn:=d}:=λRR fin h3 c k3 Yn=>by
  refine codeAny_extend_loopS W.toS (aH hz (by decide)) D Jj _ es.size 0 _ #[] c rfl (kU _) (W.frame 0 _ _ ⟨first,at2⟩ λb hb o e=>k3 b o (λq=>Jj (q▸hb)) e) Yn (ItemsOf.nil _) λs' Ed c' hm lJ uS=>?_;rw[Moved.eq_with hm];have ea:Ed=ord.toArray:=by
   apply Array.toList_inj.mp;apply List.ext_getElem?;intro j;rw[rM];show Ed[j]?=ord[j]?;by_cases hj:j<es.size
   ·have h1:j<Ed.size:=by rw[uS.1];exact hj
    rw[vK h1];exact(uS.2 j _ (vK h1)).symm
   ·rw[Array.getElem?_eq_none (by rw[uS.1];exact Nat.le_of_not_lt hj),List.getElem?_eq_none (by rw[hlen];exact Nat.le_of_not_lt hj)]
  refine fin s'.heap s'.toks c' (λb o e=>?_) (ea▸lJ);have hb:b<D:=by rw[<- hD];exact cZ e
  refine hm.heap b o (λVT=>?_) (k3 b o (dz hb) (k2 b o (k1 b o e)));rcases bl.mp VT with q|q
  ·exact absurd q (dz hb)
  ·rw[fR.mp q] at hb;exact absurd (cA (cZ eD) hI) (Nat.not_lt_of_lt hb)
 have DH:=k2 _ _ eD;refine ag (cI (Pw ⟨_,at2.set.get,rfl⟩ ?_));refine mu (λO=>?b) (λO=>aA ⟨plainId_quiet PySem.F.plain_extend_loop _,key _ (λh4 tk c k4 e4=>?a) h2 0 (λb o O e=>e) DH⟩)
 case a=>show wpAny _ A (load D>>=_) _ _ _;exact ag (wpAny_load e4 (aA (h h4 tk d ord k4 (FI p Z.us))))
 have e3:=jD (Obj.mapSeq (·.push Value.none)) DH rfl;have e4:=jD (Obj.mapSeq (·.pop)) e3 rfl;refine ag (wpAny_rule (ag ?_));show wpAny _ _ (updateSeq D (·.push .none)>>=λO=>updateSeq D (·.pop)) _ _ _;refine ag (wpAny_updateSeq DH rfl ?_);refine wpAny_updateSeq (hz:=by seq_fits) e3 rfl ?_;refine aA ⟨plainId_quiet PySem.F.plain_extend_loop _,key _ (λh4 tk c k4 e4=>?_) _ _ (λb o hb e=>(jd _ _ (cP hb)).trans ((jd _ _ (cP hb)).trans e)) e4⟩;show wpAny _ A (load D>>=_) _ _ _;exact ag (wpAny_load e4 (aA (h h4 tk d ord k4 (FI p Z.us))))
end
end
section
section
variable {prog:Program}{w:World}{A:Around}{E:Value->Shared->Prop}{s:Shared}
noncomputable def wk(w:World):Obj:={cls:=.type "set",dict:=none,data:=.set #[] 0 (.fresh 0 0 (!(w.params.followText "set-order")))}
def Pq{l:Addr}{items:List Value}{n:Nat}{ys:List Str}(hh:A.handled=none)(hl:IsL s.heap l items.toArray n)(hs:StrsAre items ys)(hz:ys.length<1000){Q:Value->Shared->Prop}
  (h:∀h' k,ql prog w h' s.heap.objs.size (ys.foldl gY [])->(∀b o,s.heap.get? b=some o->h'.get? b=some o)->Q (.ref s.heap.objs.size) {s with heap:=h',toks:=k}):
  wpAny (model prog w) A (call (.type "set") [.ref l]) Q E s:=by
 obtain⟨c,tl,abQ⟩:=F.called_set.mro;have abR:=F.called_set.made;have VJ:=F.called_set.sub;have h1:=F.called_set.notType;have h2:=F.called_set.canCreate;have hct:=F.typeCall_set_1 (.ref l);refine wpAny_call (codeAny_of_tree ?_);show wpAny _ _ (callAny (.type "set") _) _ _ _;refine aA ⟨Code.quiet_builtin _ (by decide +kernel),mr F.entry_type_call ?_⟩;rw[Around.under_plain (weight_type_call_type "set" [.ref l] []) rfl]
 repeat (any_goals (first|assumption|wp_step))
 refine codeAny_mono (SV (.ref l) (E:=E) (Q:=λobj s₁=>obj=.ref s.heap.objs.size/\s₁={s with heap:=s.heap.push (wk w)}) λO=>⟨rfl,rfl⟩) λr s₁ hr=>?_;cases r with
 |error e=>exact hr
 |ok fl=>
  cases fl with
  |ret obj=>
   obtain⟨rfl,rfl⟩:=hr;generalize hD:s.heap.objs.size=D at *;have eS:(s.heap.push (wk w)).get? D=some (wk w):=by rw[<- hD];exact cw _ rfl
   have k1:∀b o,s.heap.get? b=some o->(s.heap.push (wk w)).get? b=some o:=λb o e=>fk _ e;generalize s.heap.push (wk w)=sR at *;have hT:Shared.TypeIs {s with heap:=sR} (.ref D) "set":=⟨_,eS,rfl⟩;have hli:=F.called_set.init.lookup;have hbi:=F.called_set.init.bind (.ref D)
   repeat (any_goals (first|assumption|wp_step))
   refine codeAny_mono (codeAny_call_builtin (R:=wants (λr s₂=>r=.none/\∃h' tk,s₂={s with heap:=h',toks:=tk}/\ql prog w h' D (ys.foldl gY [])/\(∀b o,s.heap.get? b=some o->h'.get? b=some o)) E) F.called_set.init.plain F.entry_set_init (check_set_init_1 hT ?_)) λr₂ s₂ CU=>?_
   ·have uN:IsL sR l items.toArray n:=k1 _ _ hl;have lD:l≠D:=by rw[<- hD];exact dz (cZ hl)
    have abO:=F.sub_list_set;have abP:=F.sub_list_frozenset;have dN:(Value.type "list"==Value.type "dict")=false:=by decide
    unfold Builtin.«set.__init__» noKeywords Builtin.Frozenset.updateFrom;generalize Wx:pyIter=PI;wp_walk;subst Wx;have ID:sR.objs.size≠D:=ei (cZ eS);refine wpAny_pyIter_list uN.isList ?_;refine ag (wpAny_runValue ?_);refine Pr (n:=n) (items:=items) (l:=l) (by simp[hh]) (ei (cZ uN)) ID lD ys 0 [] _ hs (by simpa using hz) ⟨_,cw _ rfl,rfl,rfl⟩ (fk _ uN) ⟨#[],0,_,dT.mk (fk _ eS) (λe he=>by simp at he) ⟨[],.refl _,.nil⟩ rfl rfl (λh=>absurd h (jz 0))⟩ λh' k F' kp=>?_;refine aA ?_;show wpAny _ _ (ret Value.none) _ _ _;refine aA ⟨rfl,h',k,rfl,F',λb o e=>kp b o (dz (cZ (k1 b o e))) (by rw[<- hD];exact dz (cZ e)) (fk _ (k1 b o e))⟩
   ·cases r₂ with
    |error e=>exact CU
    |ok Xl=>
     cases Xl with
     |ret r=>
      obtain⟨rfl,h',tk,rfl,F',k'⟩:=CU
      repeat (any_goals (first|assumption|wp_step))
      exact h _ _ F' k'
     |_=>exact CU.elim
  |_=>exact hr.elim
end
end
section
structure Cf where
 prog:Program
 w:World
 h₀:Heap
 P:bO
 gl:List Str
 nm:List Str
 gv:Nat->Option Value
 clsAt:Nat->Addr
 fr:Frag
abbrev Ph:=List (Addr×Addr)
noncomputable def Cf.enc(V:Cf)(l:List Nat):List Nat:=l.map λc=>65+c
noncomputable def Cf.tx(V:Cf)(l:List Nat):Str:=⟨(V.enc l).toArray⟩
def cY(V:Cf)(l:List Nat):Prop:=(l.length<=az)/\(∀c∈l,c<16)
section
variable {b1 b2}(x:cY b1 b2)
def cY.mk:=iu (cY b1 b2) rfl
def cY.len:=x.1
def cY.sign:=x.2
end
def Sq(J:Ph)(a:Addr)(l:List AV)(I R:Prop):Prop:=(I)/\(a∉J.map (·.2))/\(R)/\(l.length<=az)
section
variable {b1 b2 b3 b4 b5}(x:Sq b1 b2 b3 b4 b5)
def Sq.mk:=eM (Sq b1 b2 b3 b4 b5) rfl
def Sq.at_:=x.1
def Sq.out:=x.2.1
def Sq.all:=x.2.2.1
def Sq.len:=x.2.2.2
end
def oW(V:Cf)(J:Ph)(h:Heap)(a:Addr)(l:List (List Nat)):Prop:=(ql V.prog V.w h a (l.map V.tx))/\(a∉J.map (·.2))/\(∀x∈l,cY V x)/\(l.length<=64)
section
variable {b1 b2 b3 b4 b5}(x:oW b1 b2 b3 b4 b5)
def oW.mk:=eM (oW b1 b2 b3 b4 b5) rfl
def oW.set:=x.1
def oW.out:=x.2.1
def oW.ok:=x.2.2.1
def oW.len:=x.2.2.2
end
def nI(J:Ph)(h:Heap)(n:Nat)(b a d:Addr)(o:Obj):Prop:=(J[n]?=some (a,d))/\(h.get? b=some o)/\(o.cls=.type "method-wrapper")/\(o.data=.fields #[.builtin "list_iterator.__next__",.ref a])/\(b∉J.map (·.2))
section
variable {b1 b2 b3 b4 b5 b6 b7}(x:nI b1 b2 b3 b4 b5 b6 b7)
def nI.mk:=jJ (nI b1 b2 b3 b4 b5 b6 b7) rfl
def nI.ph:=x.1
def nI.get:=x.2.1
def nI.cls:=x.2.2.1
def nI.data:=x.2.2.2.1
def nI.out:=x.2.2.2.2
end
mutual
noncomputable def VR(V:Cf)(J:Ph)(h:Heap)(v:Value):AV->Prop
 |.none=>v=.none
 |.bool b=>v=.bool b
 |.int i=>∃t,v=.int i t
 |.str l=>∃t,v=.str (V.tx l) t/\cY V l
 |.cj l=>∃b t,v=.bytes b t/\b.toList.map UInt8.toNat=V.enc l/\cY V l
 |.tup l=>∃a items n,v=.ref a/\Sq J a l (IsT h a (List.toArray items) n) (aO V J h items l)
 |.lst l=>∃a items n,v=.ref a/\Sq J a l (IsL h a (List.toArray items) n) (aO V J h items l)
 |.fq x y z=>∃a t u w,v=.ref a/\IsRange h a x y z t u w/\a∉J.map (·.2)/\mW x y z=true
 |.ref n=>∃a d,v=.ref a/\J[n]?=some (a,d)
 |.glob k=>V.gv k=some v
 |.cK n=>∃b a d o,v=.ref b/\nI J h n b a d o
 |.vals n=>∃b a d,v=.ref b/\J[n]?=some (a,d)/\h.IsValuesView b a/\b∉J.map (·.2)
 |.zip n=>∃a,v=.ref a/\J[n]?=some (a,a)
 |.lL l=>∃a,v=.ref a/\oW V J h a l
noncomputable def aO(V:Cf)(J:Ph)(h:Heap)(vs:List Value):List AV->Prop
 |[]=>vs=[]
 |d::ds=>∃v r,vs=v::r/\VR V J h v d/\aO V J h r ds
end
variable {V:Cf}{J:Ph}{h:Heap}
def VR.lit(i:Int)(t:Tok):VR V J h (.int i t) (.int i):=⟨t,rfl⟩
def VR.bool(b:Bool):VR V J h (.bool b) (.bool b):=rfl
def VR.none:VR V J h .none .none:=rfl
def VR.str{l:List Nat}{t:Tok}(o:cY V l):VR V J h (.str (V.tx l) t) (.str l):=⟨t,rfl,o⟩
variable {n:Nat}{a:Addr}
def VR.ref{d:Addr}(e:J[n]?=some (a,d)):VR V J h (.ref a) (.ref n):=⟨a,d,rfl,e⟩
variable {items:List Value}
def VR.tup{l:List AV}(x:Sq J a l (IsT h a (List.toArray items) n) (aO V J h items l)):VR V J h (.ref a) (.tup l):=⟨a,items,n,rfl,x⟩
def VR.lst{l:List AV}(x:Sq J a l (IsL h a (List.toArray items) n) (aO V J h items l)):VR V J h (.ref a) (.lst l):=⟨a,items,n,rfl,x⟩
def aO.nil:aO V J h [] []:=rfl
def aO.cons{v:Value}{d:AV}{vs:List Value}{ds:List AV}(x:VR V J h v d)(r:aO V J h vs ds):aO V J h (v::vs) (d::ds):=⟨v,vs,rfl,x,r⟩
theorem aO.length:∀{ds:List AV} {vs:List Value},aO V J h vs ds->vs.length=ds.length:=by
 intro ds
 induction ds with
 |nil=>exact λx=>congrArg List.length x
 |cons _ _ ih=>exact λq=>bo q λO O e O r=>e▸congrArg (·+1) (ih r)
theorem aO.append:∀{ds:List AV} {vs:List Value} {pg:List Value} {vd:List AV},aO V J h vs ds->aO V J h pg vd->aO V J h (vs++pg) (ds++vd):=by
 intro ds
 induction ds with
 |nil=>intro _ _ _ x y;cases x;exact y
 |cons _ _ ih=>exact λq y=>bo q λO O e x r=>e▸.cons x (ih r y)
theorem aO.take:∀{ds:List AV} {vs:List Value},aO V J h vs ds->∀n:Nat,aO V J h (vs.take n) (ds.take n)
 |[],_,x,n=>by cases x;rw[List.take_nil,List.take_nil];exact .nil
 |_::_,_,x,0=>.nil
 |_::_,_,q,n+1=>bo q λO O e x r=>e▸.cons x (r.take n)
theorem aO.drop:∀{ds:List AV} {vs:List Value},aO V J h vs ds->∀n:Nat,aO V J h (vs.drop n) (ds.drop n)
 |[],_,x,n=>by cases x;rw[List.drop_nil,List.drop_nil];exact .nil
 |_::_,_,x,0=>x
 |_::_,_,q,n+1=>bo q λO O e x r=>e▸r.drop n
theorem bY{α:Type}:∀(l:List α) (n:Nat),ae l n=l[n]?:=by
 intro l
 induction l with
 |nil=>intro _;exact rfl
 |cons _ r ih=>
  intro t_;cases t_ with
  |zero=>exact rfl
  |succ n=>exact ih n
theorem mK{α:Type}(y:α):∀(l:List α) (n:Nat),ai l y n=l.set n y:=by
 intro l
 induction l with
 |nil=>intro _;exact rfl
 |cons x r ih=>
  intro t_;cases t_ with
  |zero=>exact rfl
  |succ n=>exact congrArg (x::·) (ih n)
theorem aO.get:∀{ds:List AV} {vs:List Value},aO V J h vs ds->∀{i:Nat} {d:AV},ds[i]?=some d->∃v,vs[i]?=some v/\VR V J h v d:=by
 intro ds
 induction ds with
 |nil=>exact λO O O e=>aT e
 |cons _ _ ih=>
  intro _ k i _ e;cases i with
  |zero=>exact bo k λv O q x O=>⟨v,q▸rfl,sj e▸x⟩
  |succ i=>exact bo k λO O q O r=>q▸ih r (i:=i) e
theorem aO.set:∀{ds:List AV} {vs:List Value},aO V J h vs ds->∀(n:Nat) {v:Value} {d:AV},VR V J h v d->aO V J h (vs.set n v) (ds.set n d):=by
 intro ds
 induction ds with
 |nil=>intro _ x n _ _ _;cases x;exact .nil
 |cons _ _ ih=>
  intro _ q n _ _ y;cases n with
  |zero=>exact bo q λO O e x r=>e▸.cons y r
  |succ n=>exact bo q λO O e x r=>e▸.cons x (ih r n y)
noncomputable def uE(T:String):Bool:=T=="list_iterator"||T=="tuple_iterator"||T=="range_iterator"||T=="dict_keyiterator"||T=="dict_valueiterator"||T=="bytes_iterator"||T=="str_ascii_iterator"
structure jY(o:Obj):Prop where
 it:∃T vs,o.cls=.type T/\uE T=true/\o.data=.fields vs
noncomputable def zy(T:String):Bool:=T=="traceback"||T=="StopIteration"
def jZ(o:Obj):Prop:=(∃vs,o.data=.fields vs)/\(∀T,o.cls=.type T->zy T=true)
section
variable {b1}(x:jZ b1)
def jZ.mk:=iu (jZ b1) rfl
def jZ.data:=x.1
def jZ.cls:=x.2
end
def bM(h:Heap)(a:Addr):Prop:=∃o,h.get? a=some o
def gB(ha:h.objs.size<=a):¬ bM h a:=λ⟨_,e⟩=>absurd (cZ e) (hJ.mpr ha)
def iy(o:Obj):Prop:=∃es n,o.data=.dict es n
def i9(h':Heap)(a:Addr)(o:Obj):Prop:=h'.get? a=some o\/(iy o/\∃sl,h'.get? a=some {o with slots:=sl})
structure cG(X:List Addr)(J:Ph)(h h':Heap):Prop where
 keep:∀a o,h.get? a=some o->a∉J.map (·.2)->a∉X->i9 h' a o
def oQ(o:Obj):Prop:=iy o\/(∃v,o.data=.cell v)\/jY o\/jZ o
variable {o:Obj}
def oQ.slots(sl:Array (Option Value))(x:oQ o):oQ {o with slots:=sl}:=by
 rcases x with k|k|k|k
 ·exact .inl k
 ·exact .inr (.inl k)
 ·exact .inr (.inr (.inl ⟨k.it⟩))
 ·exact .inr (.inr (.inr (jZ.mk k.data k.cls)))
def cW(X:List Addr)(h:Heap):Prop:=∀a∈X,∃o,h.get? a=some o/\oQ o
def g7(o:Obj):Prop:=(¬ iy o)/\(∀v,o.data≠.cell v)/\(∀T,o.cls=.type T->uE T=false/\zy T=false)/\((∃T,o.cls=.type T)\/∀vs,o.data≠.fields vs)
section
variable {b1}(x:g7 b1)
def g7.mk:=eM (g7 b1) rfl
def g7.dct:=x.1
def g7.ny:=x.2.1
def g7.it:=x.2.2.1
def g7.fl:=x.2.2.2
end
def g7.own(f:g7 o):¬ oQ o:=λk=>by
 rcases k with k|⟨v,k⟩|⟨T,vs,k1,k2,k3⟩|⟨⟨vs,k1⟩,k2⟩
 ·exact f.dct k
 ·exact f.ny v k
 ·have:=(f.it T k1).1;rw[k2] at this;cases this
 ·rcases f.fl with⟨T,h⟩|h
  ·have:=(f.it T h).2;rw[k2 T h] at this;cases this
  ·exact h vs k1
def g7.ty{T:String}{dct:Option Addr}{dt:Data}{sl:Array (Option Value)}(hT:(uE T||zy T)=false)(hd:∀es n,dt≠.dict es n)(hc:∀v,dt≠.cell v):g7 {cls:=.type T,dict:=dct,data:=dt,slots:=sl}:=(g7.mk (λ⟨es,n,h⟩=>hd es n h) hc (λT' h'=>by cases h';simpa using hT) (.inl ⟨T,rfl⟩))
def g7.mk'{T:String}(ht:o.cls=.type T)(hT:(uE T||zy T)=false)(hd:∀es n,o.data≠.dict es n)(hc:∀v,o.data≠.cell v):g7 o:=(g7.mk (λ⟨es,n,h⟩=>hd es n h) hc (λT' h'=>by rw[ht] at h';cases h';simpa using hT) (.inl ⟨T,ht⟩))
def cG.refl(X:List Addr)(J:Ph)(h:Heap):cG X J h h:=⟨λO O e O O=>.inl e⟩
def cG.get{X:List Addr}{h':Heap}(E:cG X J h h')(hX:cW X h)(e:h.get? a=some o)(hφ:a∉J.map (·.2))(hc:g7 o):h'.get? a=some o:=by
 have hx:a∉X:=λhm=>by refine ak (hX a hm) λo' e' k=>?_;rw[e] at e';cases e';exact hc.own k
 rcases E.keep a o e hφ hx with k|⟨k,_⟩
 ·exact k
 ·exact absurd k hc.dct
structure Gr(J φ':Ph)(h:Heap):Prop where
 pre:∃r,φ'=J++r/\∀p∈r,¬ bM h p.2
def Gr.refl(J:Ph)(h:Heap):Gr J J h:=⟨[],by simp,by simp⟩
def Gr.get{φ':Ph}(g:Gr J φ' h){p:Addr×Addr}(e:J[n]?=some p):φ'[n]?=some p:=by refine ak g.pre λr aa O=>?_;subst aa;rw[rP (je.mp e).1];exact e
def Gr.not{φ':Ph}(g:Gr J φ' h)(hl:bM h a)(ha:a∉J.map (·.2)):a∉φ'.map (·.2):=by refine ak g.pre λr aa hr=>?_;subst aa;simp only[bR,hM,not_or];refine⟨ha,λhm=>?_⟩;refine ak (bj.mp hm) λp hp aa=>?_;subst aa;exact hr p hp hl
def Gr.trans{φ' vF:Ph}{h':Heap}(g:Gr J φ' h)(g':Gr φ' vF h')(hl:∀a,bM h a->bM h' a):Gr J vF h:=by
 refine ak g.pre λr aa hr=>?_;subst aa;refine ak g'.pre λr' aa VM=>?_;subst aa;refine⟨r++r',by simp,λp hp=>?_⟩;rcases hM.mp hp with k|k
 ·exact hr p k
 ·exact λo=>VM p k (hl _ o)
def Gr.push(J:Ph)(p:Addr×Addr)(k:¬ bM h p.2):Gr J (J++[p]) h:=⟨[p],rfl,by simpa using k⟩
section
variable {φ':Ph}{h':Heap}{X:List Addr}
mutual
theorem VR.mono(E:cG X J h h')(hX:cW X h)(g:Gr J φ' h){d:AV}{v:Value}(q:VR V J h v d):VR V φ' h' v d:=by
 cases d with
 |tup=>exact cJ q λa items n e s=>⟨a,items,n,e,Sq.mk (E.get hX s.at_ s.out (.ty (by decide) (by simp) (by simp))) (g.not ⟨_,s.at_⟩ s.out) (aO.mono E hX g s.all) s.len⟩
 |lst=>exact cJ q λa items n e s=>⟨a,items,n,e,Sq.mk (E.get hX s.at_ s.out (.ty (by decide) (by simp) (by simp))) (g.not ⟨_,s.at_⟩ s.out) (aO.mono E hX g s.all) s.len⟩
 |fq=>exact yn q λa t u w e s o z=>⟨a,t,u,w,e,E.get hX s o (.ty (by decide) (by simp) (by simp)),g.not ⟨_,s⟩ o,z⟩
 |ref=>exact dJ q λa d e s=>⟨a,d,e,g.get s⟩
 |cK=>exact kY q λb a d o e s=>⟨b,a,d,o,e,nI.mk (g.get s.ph) (E.get hX s.get s.out (.mk' s.cls (by decide) (by rw[s.data];simp) (by rw[s.data];simp))) s.cls s.data (g.not ⟨_,s.get⟩ s.out)⟩
 |vals=>exact kZ q λb a d e p k out=>gc k λo e1 hc hd=>⟨b,a,d,e,g.get p,⟨o,E.get hX e1 out (.mk' hc (by decide) (by rw[hd];simp) (by rw[hd];simp)),hc,hd⟩,g.not ⟨_,e1⟩ out⟩
 |zip=>exact ak q λa e s=>⟨a,e,g.get s⟩
 |lL=>exact ak q λa e s=>⟨a,e,eB s.set λes ep t F=>(oW.mk ⟨es,ep,t,F.keep λo k=>E.get hX k s.out (.mk' (by rw[F.get] at k;obtain rfl:=sj k;rfl) (by decide) (by rw[F.get] at k;obtain rfl:=sj k;simp) (by rw[F.get] at k;obtain rfl:=sj k;simp))⟩ (g.not ⟨_,F.get⟩ s.out) s.ok s.len)⟩
 |_=>exact q
theorem aO.mono(E:cG X J h h')(hX:cW X h)(g:Gr J φ' h){ds:List AV}{vs:List Value}(q:aO V J h vs ds):aO V φ' h' vs ds:=by
 cases ds with
 |nil=>exact q
 |cons=>exact bo q λv r e x rr=>⟨v,r,e,VR.mono E hX g x,aO.mono E hX g rr⟩
end
end
end
section
variable {V:Cf}{J φ':Ph}{h h':Heap}{X:List Addr}
def Fs{a b:List Nat}(h:V.tx a=V.tx b):a=b:=by
 have h:(V.enc a).toArray=(V.enc b).toArray:=congrArg Str.cps h;have h:V.enc a=V.enc b:=by simpa using h
 unfold Cf.enc at h;exact List.map_inj_right (λx y e=>Nat.add_left_cancel e) |>.mp h
noncomputable def kS(V:Cf):KeyKind V.prog V.w (List Nat) where
 is k:=Value.isStrOf (V.tx k)
 hash k:=(PySem.strKind V.prog V.w).hash (V.tx k)
 inj v a b h1 h2:=Fs (Value.isStrOf_inj v _ _ h1 h2)
 byValue _ v h:=(PySem.strKind V.prog V.w).byValue _ v h
 pyHash h:=(PySem.strKind V.prog V.w).pyHash h
 eqBool {_ _ _ a b _ _ _} h1 h2 h:=(PySem.strKind V.prog V.w).eqBool h1 h2 (by have:decide (V.tx a=V.tx b)=decide (a=b):=decide_eq_decide.mpr ⟨Fs,λe=>by rw[e]⟩;rw[this];exact h)
 «strs» _ x t v h:=(PySem.strKind V.prog V.w).strs _ x t v h
noncomputable def Iu(k:List Nat)(v:Value):Bool:=match k with
 |[n]=>Value.isInt (n:Int) v
 |_=>false
def sO{k:List Nat}{v:Value}(h:Iu k v=true):∃n:Nat,k=[n]/\Value.isInt (n:Int) v=true:=by
 match k,h with
 |[n],h=>exact⟨n,rfl,h⟩
def kI(V:Cf):KeyKind V.prog V.w (List Nat) where
 is:=Iu
 hash k:=(intKind V.prog V.w).hash ((k.headD 0:Nat):Int)
 inj v a b h1 h2:=by obtain⟨n,rfl,h1⟩:=sO h1;obtain⟨m,rfl,h2⟩:=sO h2;rw[Int.ofNat_inj.mp (Value.isInt_inj v _ _ h1 h2)]
 byValue k v h:=by obtain⟨n,rfl,h⟩:=sO h;exact(intKind V.prog V.w).byValue _ v h
 pyHash hv h:=by obtain⟨n,rfl,hv⟩:=sO hv;exact(intKind V.prog V.w).pyHash hv h
 eqBool h1 h2 h:=by obtain⟨n,rfl,h1⟩:=sO h1;obtain⟨m,rfl,h2⟩:=sO h2;refine(intKind V.prog V.w).eqBool h1 h2 ?_;have:decide ((n:Int)=(m:Int))=decide ([n]=[m]):=decide_eq_decide.mpr ⟨λe=>by rw[Int.ofNat_inj.mp e],λe=>by rw[(nR e).1]⟩;rw[this];exact h
 «strs» k x t v h:=by obtain⟨n,rfl,h⟩:=sO h;cases h
def kk(V:Cf)(i:Bool):KeyKind V.prog V.w (List Nat):=match i with
 |true=>kI V
 |false=>kS V
def wG(V:Cf)(i:Bool)(k:List Nat):Prop:=match i with
 |true=>True
 |false=>cY V k
def DR(V:Cf)(i:Bool)(J:Ph)(h:Heap)(e:DictEntry)(p:List Nat×AV):Prop:=((kk V i).is p.1 e.key=true)/\(e.hash=(kk V i).hash p.1)/\(VR V J h e.val p.2)/\(wG V i p.1)
section
variable {b1 b2 b3 b4 b5 b6}(x:DR b1 b2 b3 b4 b5 b6)
def DR.mk:=eM (DR b1 b2 b3 b4 b5 b6) rfl
def DR.key:=x.1
def DR.hash:=x.2.1
def DR.val:=x.2.2.1
def DR.ok:=x.2.2.2
end
def g8(V:Cf)(i:Bool)(J:Ph)(h:Heap):List (List Nat×AV)->List DictEntry->Prop
 |[]=>λes=>es=[]
 |p::ps=>λes=>∃e r,es=e::r/\DR V i J h e p/\g8 V i J h ps r
variable {ik:Bool}
def DR.mono(E:cG X J h h')(hX:cW X h)(g:Gr J φ' h){e:DictEntry}{p:List Nat×AV}(x:DR V ik J h e p):DR V ik φ' h' e p:=(DR.mk x.key x.hash (x.val.mono E hX g) x.ok)
theorem g8.mono(E:cG X J h h')(hX:cW X h)(g:Gr J φ' h):∀{ps:List (List Nat×AV)} {es:List DictEntry},g8 V ik J h ps es->g8 V ik φ' h' ps es:=by
 intro ps
 induction ps with
 |nil=>exact λx=>x
 |cons _ _ ih=>exact λk=>bo k λe r q x rr=>⟨e,r,q,x.mono E hX g,ih rr⟩
structure LH(V:Cf)(h:Heap)(a:Addr)(l:List (List Nat)):Prop where
 set:h.SetOf (strKind V.prog V.w) a (λx=>l.any λy=>V.tx y==x) l.length
def tD(V:Cf)(J:Ph)(h:Heap)(m:Str->Option Value)(names:List Nat)(fs:List (Option AV)):Prop:=(∀y val,m y=some val->∃a∈names,V.nm[a]?=some y)/\(∀(j a:Nat),names[j]?=some a->fs[j]?=some Option.none->∃x,V.nm[a]?=some x/\m x=Option.none)/\(∀(j a:Nat) (v:AV),names[j]?=some a->fs[j]?=some (Option.some v)->∃x val,V.nm[a]?=Option.some x/\m x=Option.some val/\VR V J h val v)
def tD.name{V J h m names fs}(hh:tD V J h m names fs):=hh.1
def tD.none{V J h m names fs}(hh:tD V J h m names fs):=hh.2.1
def tD.some{V J h m names fs}(hh:tD V J h m names fs):=hh.2.2
def abA(V:Cf)(J:Ph)(h:Heap)(sl:Array (Option Value))(fs:List (Option AV)):Prop:=∀(j:Nat) (v:AV),fs[j]?=some (some v)->∃val,sl[j]?=some (some val)/\VR V J h val v
def lY(V:Cf)(J:Ph)(h:Heap)(p:Addr×Addr)(c:Nat)(fs:List (Option AV))(dx:Addr)(sl:Array (Option Value)):Prop:=(p.1=p.2)/\(h.get? p.2=some {cls:=.ref (V.clsAt c),dict:=some dx,data:=.plain,slots:=sl})/\((dx,dx)∈J)/\(abA V J h sl fs)
section
variable {b1 b2 b3 b4 b5 b6 b7 b8}(x:lY b1 b2 b3 b4 b5 b6 b7 b8)
def lY.mk:=eM (lY b1 b2 b3 b4 b5 b6 b7 b8) rfl
def lY.eq:=x.1
def lY.get:=x.2.1
def lY.dct:=x.2.2.1
def lY.fld:=x.2.2.2
end
def lZ(V:Cf)(J:Ph)(h:Heap)(p:Addr×Addr)(c:Nat)(names:List Nat)(fs:List (Option AV))(m:Str->Option Value):Prop:=(p.1∉J.map (·.2))/\(h.get? p.1=some (instObj (V.clsAt c) p.2))/\(h.Ns1 p.2 m)/\(tD V J h m names fs)
section
variable {b1 b2 b3 b4 b5 b6 b7 b8}(x:lZ b1 b2 b3 b4 b5 b6 b7 b8)
def lZ.mk:=eM (lZ b1 b2 b3 b4 b5 b6 b7 b8) rfl
def lZ.out:=x.1
def lZ.get:=x.2.1
def lZ.ns:=x.2.2.1
def lZ.fld:=x.2.2.2
end
def kK(V:Cf)(J:Ph)(h:Heap)(p:Addr×Addr)(c:Nat)(fs:List (Option AV))(cd:CD):Prop:=(V.P.gt[c]?=some (.cl cd))/\(fs.length=cd.bx.length)/\(cd.slots=true->∃dx sl,lY V J h p c fs dx sl)/\(cd.slots=false->∃m,lZ V J h p c cd.bx fs m)
section
variable {b1 b2 b3 b4 b5 b6 b7}(x:kK b1 b2 b3 b4 b5 b6 b7)
def kK.mk:=eM (kK b1 b2 b3 b4 b5 b6 b7) rfl
def kK.cls:=x.1
def kK.len:=x.2.1
def kK.slo:=x.2.2.1
def kK.dct:=x.2.2.2
end
def lV(V:Cf)(J:Ph)(h:Heap)(p:Addr×Addr)(l:List AV)(items:List Value)(n:Nat):Prop:=(p.1=p.2)/\(IsL h p.2 items.toArray n)/\(aO V J h items l)/\(l.length<=az)
section
variable {b1 b2 b3 b4 b5 b6 b7}(x:lV b1 b2 b3 b4 b5 b6 b7)
def lV.mk:=eM (lV b1 b2 b3 b4 b5 b6 b7) rfl
def lV.eq:=x.1
def lV.at_:=x.2.1
def lV.all:=x.2.2.1
def lV.len:=x.2.2.2
end
def gM(V:Cf)(ik:Bool)(J:Ph)(h:Heap)(p:Addr×Addr)(ep:Nat)(l:List (List Nat×AV))(es:List DictEntry):Prop:=(p.1=p.2)/\(h.get? p.2=some {cls:=.type "dict",data:=.dict es.toArray ep})/\(g8 V ik J h l es)/\(l.length<=az)/\((l.map (·.1)).Nodup)
section
variable {b1 b2 b3 b4 b5 b6 b7 b8}(x:gM b1 b2 b3 b4 b5 b6 b7 b8)
def gM.mk:=jJ (gM b1 b2 b3 b4 b5 b6 b7 b8) rfl
def gM.eq:=x.1
def gM.at_:=x.2.1
def gM.all:=x.2.2.1
def gM.len:=x.2.2.2.1
def gM.nodup:=x.2.2.2.2
end
def oU(J:Ph)(h:Heap)(p:Addr×Addr)(n i:Nat)(q:Addr×Addr)(sl:Array (Option Value)):Prop:=(p.1=p.2)/\(J[n]?=some q)/\(h.get? p.2=some {cls:=.type "list_iterator",dict:=none,data:=.fields #[.ref q.1,.int i 0],slots:=sl})
section
variable {b1 b2 b3 b4 b5 b6 b7}(x:oU b1 b2 b3 b4 b5 b6 b7)
def oU.mk:=jn (oU b1 b2 b3 b4 b5 b6 b7) rfl
def oU.eq:=x.1
def oU.ph:=x.2.1
def oU.get:=x.2.2
end
def jT(J:Ph)(h:Heap)(p:Addr×Addr)(k:Nat)(TI TO i1 i2:Addr):Prop:=(p.1=p.2)/\(IsZip h p.2 TI TO .none)/\(IsPair h TI (.ref i1) (.ref i2))/\(J[k]?=some (TO,TO))/\(J[k+1]?=some (i1,i1))/\(J[k+2]?=some (i2,i2))/\(TI∉J.map (·.2))
section
variable {b1 b2 b3 b4 b5 b6 b7 b8}(x:jT b1 b2 b3 b4 b5 b6 b7 b8)
def jT.mk:=zb (jT b1 b2 b3 b4 b5 b6 b7 b8) rfl
def jT.eq:=x.1
def jT.zip:=x.2.1
def jT.ti:=x.2.2.1
def jT.sE:=x.2.2.2.1
def jT.m1:=x.2.2.2.2.1
def jT.m2:=x.2.2.2.2.2.1
def jT.out:=x.2.2.2.2.2.2
end
def OR(V:Cf)(J:Ph)(h:Heap)(p:Addr×Addr)(o:AO):Prop:=match o with
 |.list l=>∃items n,lV V J h p l items n
 |.dict ep l=>∃es,gM V false J h p ep l es
 |.idict ep l=>∃es,gM V true J h p ep l es
 |.set l=>p.1=p.2/\LH V h p.2 l
 |.inst c fs=>∃cd,kK V J h p c fs cd
 |.iter n i=>∃q sl,oU J h p n i q sl
 |.zip k=>∃TI TO i1 i2,jT J h p k TI TO i1 i2
 |.gw=>∃x y,IsPair h p.2 x y
 |.lit a i=>∃l,h.IsListIter p.2 l i/\VR V J h (.ref l) a
 |.dead=>True
variable {p:Addr×Addr}
def Gr.mem(g:Gr J φ' h)(e:p∈J):p∈φ':=by refine ak g.pre λr aa O=>?_;subst aa;exact o8 _ e
def WV(C d:Addr):g7 (instObj C d):=(g7.mk (λ⟨_,_,h⟩=>(nomatch h)) (λO h=>(nomatch h)) (λO h=>(nomatch h)) (.inr λO h=>(nomatch h)))
def OR.mono(E:cG X J h h')(hX:cW X h)(g:Gr J φ' h)(hp:h'.get? p.2=h.get? p.2):∀{o:AO},OR V J h p o->OR V φ' h' p o
 |.list l,q=>cb q λitems n x=>⟨items,n,lV.mk x.eq (hp.trans x.at_) (x.all.mono E hX g) x.len⟩
 |.dict ep l,q=>ue q λes x=>⟨es,gM.mk x.eq (hp.trans x.at_) (x.all.mono E hX g) x.len x.nodup⟩
 |.idict ep l,q=>ue q λes x=>⟨es,gM.mk x.eq (hp.trans x.at_) (x.all.mono E hX g) x.len x.nodup⟩
 |.set l,q=>⟨q.1,⟨kY q.2.set λo es ep t e r=>⟨o,es,ep,t,hp.trans e,r⟩⟩⟩
 |.inst c fs,q=>ue q λcd x=>⟨cd,kK.mk x.cls x.len (λhs=>cb (x.slo hs) λdx sl y=>⟨dx,sl,lY.mk y.eq (hp.trans y.get) (g.mem y.dct) (λj v z=>ak (y.fld j v z) λval y x=>⟨val,y,x.mono E hX g⟩)⟩) (
   λhs=>ue (x.dct hs) λm y=>⟨m,lZ.mk (g.not ⟨_,y.get⟩ y.out) (E.get hX y.get y.out (WV _ _)) (cJ y.ns λo es n c k=>⟨o,es,n,hp.trans c,k⟩) ⟨
    y.fld.name,y.fld.none,λj a v e1 e2=>bo (y.fld.some j a v e1 e2) λx val a b c=>⟨x,val,a,b,c.mono E hX g⟩⟩⟩)⟩
 |.iter n i,q=>cb q λq sl x=>⟨q,sl,oU.mk x.eq (g.get x.ph) (hp.trans x.get)⟩
 |.zip k,q=>pq q λTI TO i1 i2 x=>⟨TI,TO,i1,i2,jT.mk x.eq (hp.trans x.zip) (E.get hX x.ti x.out (.ty (by decide) (by simp) (by simp))) (g.get x.sE) (g.get x.m1) (g.get x.m2) (g.not ⟨_,x.ti⟩ x.out)⟩
 |.gw,q=>cb q λx y z=>⟨x,y,hp.trans z⟩
 |.lit a i,q=>ak q λl z r=>⟨l,ak z λo e k=>⟨o,hp.trans e,k⟩,r.mono E hX g⟩
 |.dead,_=>trivial
def aR(V:Cf)(J:Ph)(H:Hp)(h:Heap):Prop:=(∀a o,V.h₀.get? a=some o->h.get? a=some o)/\(∀p∈J,V.h₀.objs.size<=p.2)/\(∀p∈J,∃o,h.get? p.2=some o)/\((J.map (·.2)).Nodup)/\(J.length=H.length)/\(∃a o,V.h₀.get? a=some o/\a+1=V.h₀.objs.size)/\(∀(n:Nat) (o:AO),H[n]?=some o->∃p,J[n]?=some p/\OR V J h p o)
section
variable {b1 b2 b3 b4}(x:aR b1 b2 b3 b4)
def aR.mk:=zb (aR b1 b2 b3 b4) rfl
def aR.keep:=x.1
def aR.above:=x.2.1
def aR.live:=x.2.2.1
def aR.nodup:=x.2.2.2.1
def aR.len:=x.2.2.2.2.1
def aR.last:=x.2.2.2.2.2.1
def aR.obj:=x.2.2.2.2.2.2
end
variable {H:Hp}
def aR.base(R:aR V J H h):V.h₀.objs.size<=h.objs.size:=by refine dJ R.last λa o e k=>?_;rw[<- k];exact cZ (R.keep a o e)
def aR.at(R:aR V J H h){n:Nat}{o:AO}(e:H[n]?=some o)(hp:J[n]?=some p):OR V J h p o:=by refine ak (R.obj n o e) λq hq r=>?_;rw[hp] at hq;obtain rfl:=sj hq;exact r
def aR.out(R:aR V J H h){b:Addr}(hb:¬ bM h b):b∉J.map (·.2):=λhm=>by refine ak (bj.mp hm) λp hp e=>?_;exact hb (e▸R.live p hp)
def aR.fresh(R:aR V J H h){b:Addr}(hb:h.objs.size<=b):b∉J.map (·.2):=R.out (gB hb)
def aR.mono(R:aR V J H h)(E:cG X J h h')(hX:cW X h)(hk:∀a o,V.h₀.get? a=some o->h'.get? a=some o)(hφ:∀p∈J,h'.get? p.2=h.get? p.2):aR V J H h':=aR.mk hk R.above (λp hp=>let ⟨o,e⟩:=R.live p hp;⟨o,(hφ p hp).trans e⟩) R.nodup R.len R.last (λn o e=>let ⟨p,hp,r⟩:=R.obj n o e;⟨p,hp,r.mono E hX (Gr.refl _ _) (hφ p (gx hp))⟩)
def aR.many{H':Hp}(R:aR V J H h)(E:cG [] J h h')(hk:∀a o,V.h₀.get? a=some o->h'.get? a=some o)(hl:∀p∈J,∃o,h'.get? p.2=some o)(hn:H'.length=H.length)
  (ho:∀(n:Nat) (o:AO) (p:Addr×Addr),H'[n]?=some o->J[n]?=some p->(H[n]?=some o/\h'.get? p.2=h.get? p.2)\/OR V J h' p o):aR V J H' h':=by
 refine aR.mk hk R.above hl R.nodup (R.len.trans hn.symm) R.last λn o e=>?_;have fy:=(je.mp e).1;have hφ:n<J.length:=by rw[R.len,<- hn];exact fy
 refine⟨J[n],nZ hφ,?_⟩;rcases ho n o _ e (nZ hφ) with⟨a,b⟩|z
 ·exact(R.at a (nZ hφ)).mono E (λO ha=>nomatch ha) (Gr.refl _ _) b
 ·exact z
def cW.nil(h:Heap):cW [] h:=λO ha=>nomatch ha
def u3{n:Nat}(hp:J[n]?=some p)(hs:Heap.SameBut p.2 h h')(X:List Addr):cG X J h h':=⟨λa o e ha O=>.inl ((hs.2 a λq=>ha (q▸mB (gx hp))).trans e)⟩
def wo{L:Addr}(hs:Heap.SameBut L h h')(hx:bM h' L):∀a,bM h a->bM h' a:=λa ⟨o,e⟩=>by
 by_cases q:a=L
 ·rw[q];exact hx
 ·exact⟨o,(hs.2 a q).trans e⟩
def aR.put(R:aR V J H h){n:Nat}{o:AO}(hp:J[n]?=some p)(hs:Heap.SameBut p.2 h h')(ho:OR V J h' p o)(hx:∃o,h'.get? p.2=some o):aR V J (H.set n o) h':=by
 refine(aR.mk (λa o e=>(hs.2 a λq=>?_).trans (R.keep a o e)) R.above (λp' sS=>wo hs hx _ (R.live p' sS)) R.nodup (by rw[R.len,List.length_set]) R.last (λm o' e=>?_))
 ·exact absurd (cZ e) (hJ.mpr (q▸R.above p (gx hp)))
 ·by_cases hm:n=m
  ·subst hm;rw[rN (by rw[<- R.len];exact(je.mp hp).1)] at e;obtain rfl:=sj e;exact⟨p,hp,ho⟩
  ·rw[nY hm] at e;refine ak (R.obj m o' e) λp' sS r=>?_;refine⟨p',sS,r.mono (u3 hp hs []:cG [] J h h') (cW.nil h) (Gr.refl _ _) (hs.2 _ λq=>hm ?_)⟩;have h1:(J.map (·.2))[n]?=some p.2:=by rw[hZ,hp];rfl
   have h2:(J.map (·.2))[m]?=some p.2:=by rw[hZ,sS,<- q];rfl
   exact(List.getElem?_inj (je.mp h1).1 R.nodup).mp (h1.trans h2.symm)
def aR.push(R:aR V J H h){o:AO}(hk:∀a o,h.get? a=some o->h'.get? a=some o)
  (h1:h.objs.size<=p.2) (h2:∃o,h'.get? p.2=some o) (hφ:∀p∈J,h'.get? p.2=h.get? p.2) (ho:OR V (J++[p]) h' p o):aR V (J++[p]) (H++[o]) h':=by
 have g:Gr J (J++[p]) h:=Gr.push J p (gB h1);have mem:∀q∈J++[p],q∈J\/q=p:=λq hq=>by simpa using hq
 refine(aR.mk (λa o e=>hk a o (R.keep a o e)) (λq hq=>?_) (λq hq=>?_) ?_ (by simp[R.len]) R.last (λm o' e=>?_))
 ·rcases mem q hq with z|rfl
  ·exact R.above q z
  ·exact aH R.base h1
 ·rcases mem q hq with z|rfl
  ·refine ue (R.live q z) λo eo=>?_;exact⟨o,hk _ _ eo⟩
  ·exact h2
 ·rw[bR];refine rR.mpr ⟨R.nodup,by simp,λa ha b hb e=>?_⟩;simp at hb;subst hb e;exact R.fresh h1 ha
 ·by_cases hm:m<H.length
  ·rw[rP hm] at e;refine ak (R.obj m o' e) λq hq r=>?_;exact⟨q,g.get hq,r.mono (⟨λa o e O O=>.inl (hk a o e)⟩:cG [] J h h') (cW.nil h) g (hφ q (gx hq))⟩
  ·have VU:m=H.length:=by have:=(je.mp e).1;simp at this;exact Mx ‹_› ‹_›
   subst VU;rw[kT (aQ _)] at e;simp at e;subst e;exact⟨p,by rw[<- R.len,kT (aQ _)];simp,ho⟩
end
section
variable {V:Cf}
structure Cx where
 sc:List (Str×Nat)
 kn:List (Str×NameKind)
structure Fm where
 K:Cx
 A:Around
 env:Env
 X:List Addr
def fQ(V:Cf)(G:Fm)(J:Ph)(U:aD)(h:Heap)(x:Str)(k:Nat)(c:Addr)(ov:Option Value):Prop:=(G.env.cells.lookup x=some c)/\(G.env.kindOf x=some .cell\/G.env.kindOf x=some .free)/\(h.IsCell c ov)/\(c≠G.env.locals)/\(c∉J.map (·.2))/\(V.h₀.objs.size<=c)/\(G.K.kn.lookup x=some .cell->c∈G.X/\G.env.kindOf x=some .cell)/\(∀d,U[k]?=some (some d)->∃v,ov=some v/\VR V J h v d)
section
variable {b1 b2 b3 b4 b5 b6 b7 b8 b9}(x:fQ b1 b2 b3 b4 b5 b6 b7 b8 b9)
def fQ.mk:=Hv (fQ b1 b2 b3 b4 b5 b6 b7 b8 b9) rfl
def fQ.look:=x.1
def fQ.kind:=x.2.1
def fQ.cell:=x.2.2.1
def fQ.loc:=x.2.2.2.1
def fQ.out:=x.2.2.2.2.1
def fQ.low:=x.2.2.2.2.2.1
def fQ.own:=x.2.2.2.2.2.2.1
def fQ.val:=x.2.2.2.2.2.2.2
end
def jX(V:Cf)(G:Fm)(J:Ph)(U:aD)(h:Heap)(m:Str->Option Value):Prop:=(∀x,(∃k,G.K.sc.lookup x=some k)->G.K.kn.lookup x=some .local->G.env.kindOf x=some .local)/\(∀(x:Str) (k:Nat),G.K.sc.lookup x=some k->G.K.kn.lookup x=some .local->∀d,U[k]?=some (some d)->∃v,m x=some v/\VR V J h v d)
section
variable {b1 b2 b3 b4 b5 b6}(x:jX b1 b2 b3 b4 b5 b6)
def jX.mk:=iu (jX b1 b2 b3 b4 b5 b6) rfl
def jX.kind:=x.1
def jX.val:=x.2
end
def bP(V:Cf)(G:Fm)(J:Ph)(U:aD)(h:Heap):Prop:=(G.env.scope.kind=.function)/\(G.env.globals=mainGlobals)/\(G.env.builtins=builtinsNs)/\(cW G.X h)/\(∀a∈G.X,V.h₀.objs.size<=a)/\(∀a∈G.X,a∉J.map (·.2))/\(G.env.locals∈G.X)/\(∀x:Str,G.K.kn.lookup x=some .globalImplicit->G.env.kindOf x=some .globalImplicit)/\(∃m,h.Ns G.env.locals m/\jX V G J U h m)/\(∀(x:Str) (k:Nat),G.K.sc.lookup x=some k->(G.K.kn.lookup x=some .cell\/G.K.kn.lookup x=some .free)->∃c ov,fQ V G J U h x k c ov)/\(∀(x y:Str) (c:Addr),G.env.cells.lookup x=some c->G.env.cells.lookup y=some c->x=y)/\(∀(x y:Str) (k:Nat),G.K.sc.lookup x=some k->G.K.sc.lookup y=some k->x=y)/\(∀(x:Str) (k:Nat),G.K.sc.lookup x=some k->G.K.kn.lookup x=some .local\/G.K.kn.lookup x=some .cell\/G.K.kn.lookup x=some .free)
section
variable {b1 b2 b3 b4 b5}(x:bP b1 b2 b3 b4 b5)
def bP.mk:=λm1 m2 m3 m4 m5 m6 m7 m8 m9 kj ki mX pV=>(⟨m1,m2,m3,m4,m5,m6,m7,m8,m9,kj,ki,mX,pV⟩:bP b1 b2 b3 b4 b5)
def bP.kind:=x.1
def bP.ra:=x.2.1
def bP.rA:=x.2.2.1
def bP.fC:=x.2.2.2.1
def bP.rT:=x.2.2.2.2.1
def bP.qw:=x.2.2.2.2.2.1
def bP.kq:=x.2.2.2.2.2.2.1
def bP.zW:=x.2.2.2.2.2.2.2.1
def bP.ns:=x.2.2.2.2.2.2.2.2.1
def bP.ny:=x.2.2.2.2.2.2.2.2.2.1
def bP.apart:=x.2.2.2.2.2.2.2.2.2.2.1
def bP.inj:=x.2.2.2.2.2.2.2.2.2.2.2.1
def bP.yF:=x.2.2.2.2.2.2.2.2.2.2.2.2
end
section
variable {J φ':Ph}{h h':Heap}{X:List Addr}{G:Fm}{U:aD}
def i9.ns{L:Addr}{m:Str->Option Value}(n:h.Ns L m)(k:∀o,h.get? L=some o->i9 h' L o):h'.Ns L m:=by
 refine lj n λo es ep e hd r=>?_;clear n;rcases k o e with z|⟨_,sl,z⟩
 ·exact⟨o,es,ep,z,hd,r⟩
 ·exact⟨_,es,ep,z,hd,r⟩
def i9.cell{c:Addr}{v:Option Value}(n:h.IsCell c v)(k:∀o,h.get? c=some o->i9 h' c o):h'.IsCell c v:=by
 refine ak n λo e hd=>?_;clear n;rcases k o e with z|⟨_,sl,z⟩
 ·exact⟨o,z,hd⟩
 ·exact⟨_,z,hd⟩
def cG.Hh(E:cG [] J h h'):cG X J h h':=⟨λa o e ha O=>E.keep a o e ha (λh=>nomatch h)⟩
def bP.Cr(R:bP V G J U h)(E:cG X J h h')(hX:cW X h)(g:Gr J φ' h)(k:∀a o,(a∈G.X\/(∃v,o.data=.cell v))->h.get? a=some o->a∉J.map (·.2)->i9 h' a o):bP V G φ' U h':=by
 refine ak R.ns λm hn hm=>?_;have kx:∀a o,a∈G.X->h.get? a=some o->i9 h' a o:=λa o ha e=>k a o (.inl ha) e (R.qw a ha);refine(bP.mk R.kind R.ra R.rA (λa ha=>?_) R.rT (λa ha=>g.not (let ⟨o,e,_⟩:=R.fC a ha;⟨o,e⟩) (R.qw a ha)) R.kq R.zW (
  ⟨m,i9.ns hn λo=>kx _ o R.kq,jX.mk hm.kind (λx j hx hk d hd=>let ⟨v,e,r⟩:=hm.val x j hx hk d hd;⟨v,e,r.mono E hX g⟩)⟩) (λx j hx hk=>?_) R.apart R.inj R.yF)
 ·refine ak (R.fC a ha) λo e w=>?_;rcases kx a o ha e with z|⟨_,sl,z⟩
  ·exact⟨o,z,w⟩
  ·exact⟨_,z,w.slots sl⟩
 ·refine cb (R.ny x j hx hk) λc ov w=>?_;refine ak (id w.cell) λo e Jb=>?_;exact⟨c,ov,fQ.mk w.look w.kind (i9.cell w.cell λo' e'=>k c o' (.inr (by rw[e] at e';obtain rfl:=sj e';exact⟨_,Jb⟩)) e' w.out) w.loc (g.not ⟨o,e⟩ w.out) w.low w.own (λd hd=>let ⟨v,e,r⟩:=w.val d hd;⟨v,e,r.mono E hX g⟩)⟩
def bP.mono(R:bP V G J U h)(E:cG [] J h h')(g:Gr J φ' h):bP V G φ' U h':=R.Cr E (cW.nil h) g λa o O e ha=>E.keep a o e ha (λh=>nomatch h)
end
def Nx(X:List Addr)(J φ':Ph)(s s':Shared):Prop:=(cG X J s.heap s'.heap)/\(Gr J φ' s.heap)/\(s'.gens=s.gens)/\(s'.os=s.os)/\(∀a,bM s.heap a->bM s'.heap a)
section
variable {b1 b2 b3 b4 b5}(x:Nx b1 b2 b3 b4 b5)
def Nx.mk:=jJ (Nx b1 b2 b3 b4 b5) rfl
def Nx.ext:=x.1
def Nx.gr:=x.2.1
def Nx.gens:=x.2.2.1
def Nx.os:=x.2.2.2.1
def Nx.live:=x.2.2.2.2
end
variable {a:Addr}{h':Heap}
def i9.trans{o:Obj}{qZ:Heap}(x:i9 h' a o)(y:∀o',h'.get? a=some o'->i9 qZ a o'):i9 qZ a o:=by
 rcases x with z|⟨hc,sl,z⟩
 ·exact y o z
 ·rcases y _ z with w|⟨_,Pg,w⟩
  ·exact .inr ⟨hc,sl,w⟩
  ·exact .inr ⟨hc,Pg,w⟩
variable {X:List Addr}{J φ':Ph}{h:Heap}
def cG.trans{qZ:Heap}(E:cG X J h h')(E':cG X φ' h' qZ)(g:Gr J φ' h):cG X J h qZ:=⟨λa o e hφ hX=>(E.keep a o e hφ hX).trans λo' z=>E'.keep a o' z (g.not ⟨o,e⟩ hφ) hX⟩
variable {s s':Shared}
def Nx.trans{vF:Ph}{iP:Shared}(a:Nx X J φ' s s')(b:Nx X φ' vF s' iP):Nx X J vF s iP:=(Nx.mk (a.ext.trans b.ext a.gr) (a.gr.trans b.gr a.live) (b.gens.trans a.gens) (b.os.trans a.os) (λx h=>b.live x (a.live x h)))
def Nx.refl(X:List Addr)(J:Ph)(s:Shared):Nx X J J s s:=(Nx.mk (cG.refl ..) (Gr.refl ..) rfl rfl (λO h=>h))
noncomputable def JV(V:Cf):Nat->Value
 |0=>.type "StopIteration"
 |k+1=>.ref (V.clsAt k)
def iG(V:Cf)(J:Ph)(h₁:Heap)(a:Addr):Prop:=(¬ bM V.h₀ a)/\(a∉J.map (·.2))/\(¬ bM h₁ a)
section
variable {b1 b2 b3 b4}(x:iG b1 b2 b3 b4)
def iG.mk:=jn (iG b1 b2 b3 b4) rfl
def iG.h0:=x.1
def iG.out:=x.2.1
def iG.new:=x.2.2
end
def nE(h:Heap)(T:Addr)(oT:Obj)(ts:Array Value):Prop:=(h.get? T=some oT)/\(oT.data=.fields ts)/\(oT.cls=.type "traceback")/\(ts[3]?=some .none)
section
variable {b1 b2 b3 b4}(x:nE b1 b2 b3 b4)
def nE.mk:=eM (nE b1 b2 b3 b4) rfl
def nE.get:=x.1
def nE.data:=x.2.1
def nE.cls:=x.2.2.1
def nE.zero:=x.2.2.2
end
def l7(V:Cf)(J:Ph)(h₁:Heap)(h:Heap)(k:Nat)(e:Addr)(oe:Obj)(vs:Array Value):Prop:=(h.get? e=some oe)/\(oe.cls=JV V k)/\(oe.data=.fields vs)/\(iG V J h₁ e)/\(vs[1]?=some .none\/∃T oT ts,vs[1]?=some (.ref T)/\T≠e/\iG V J h₁ T/\nE h T oT ts)
section
variable {b1 b2 b3 b4 b5 b6 b7 b8}(x:l7 b1 b2 b3 b4 b5 b6 b7 b8)
def l7.mk:=jJ (l7 b1 b2 b3 b4 b5 b6 b7 b8) rfl
def l7.get:=x.1
def l7.cls:=x.2.1
def l7.data:=x.2.2.1
def l7.new:=x.2.2.2.1
def l7.tb:=x.2.2.2.2
end
def oX(V:Cf)(J:Ph)(h₁:Heap)(h:Heap)(v:Value)(k:Nat):Prop:=∃e oe vs,v=.ref e/\l7 V J h₁ h k e oe vs
def iG.low{h₁ h₂:Heap}(x:iG V J h₂ a)(hl:∀a,bM h₁ a->bM h₂ a):iG V J h₁ a:=(iG.mk x.h0 x.out (λo=>x.new (hl _ o)))
def oX.low{h₁ h₂:Heap}{v:Value}{k:Nat}(x:oX V J h₂ h v k)(hl:∀a,bM h₁ a->bM h₂ a):oX V J h₁ h v k:=by
 refine cJ x λe oe vs q y=>?_;clear x;refine⟨e,oe,vs,q,l7.mk y.get y.cls y.data (y.new.low hl) ?_⟩;rcases y.tb with z|⟨T,oT,ts,b1,b2,b3,b4⟩
 ·exact .inl z
 ·exact .inr ⟨T,oT,ts,b1,b2,b3.low hl,b4⟩
def fH(V:Cf)(l:List Env)(J:Ph)(h:Heap):Prop:=(h.FunFrames V.h₀ l)/\(∀L∈l.filterMap (·.frame),L∉J.map (·.2))/\(∀L∈l.filterMap (·.frame),∃o,h.get? L=some o/\iy o)
section
variable {b1 b2 b3 b4}(x:fH b1 b2 b3 b4)
def fH.mk:=jn (fH b1 b2 b3 b4) rfl
def fH.uT:=x.1
def fH.out:=x.2.1
def fH.dct:=x.2.2
end
structure dn(V:Cf)(G:Fm)(J:Ph)(h:Heap):Prop where
 fr:∃dQ outer L,G.A.frames=some (dQ::outer)/\G.env.frame=some L/\dQ.frame=some L/\fH V (dQ::outer) J h
def kG(A:Around)(d:Nat):Prop:=(A.depth+8*d+8<recursionLimit)/\(A.units+100*d+100<cLine)
section
variable {b1 b2}(x:kG b1 b2)
def kG.mk:=iu (kG b1 b2) rfl
def kG.depth:=x.1
def kG.units:=x.2
end
def aq(V:Cf)(d:Nat)(q:Bool)(G:Fm)(J:Ph)(U:aD)(H:Hp)(s:Shared):Prop:=(aR V J H s.heap)/\(bP V G J U s.heap)/\(kG G.A d)/\(q=true->G.A.handled=none)/\(dn V G J s.heap)
section
variable {b1 b2 b3 b4 b5 b6 b7 b8}(x:aq b1 b2 b3 b4 b5 b6 b7 b8)
def aq.mk:=jJ (aq b1 b2 b3 b4 b5 b6 b7 b8) rfl
def aq.rel:=x.1
def aq.er:=x.2.1
def aq.room:=x.2.2.1
def aq.hd:=x.2.2.2.1
def aq.fr:=x.2.2.2.2
end
def fH.keep{l:List Env}(F:fH V l J h)(g:Gr J φ' h)(key:∀L o,L∈l.filterMap (·.frame)->L∉J.map (·.2)->h.get? L=some o->iy o->∃o',h'.get? L=some o'/\iy o'):fH V l φ' h':=by
 have H9:∀L∈l.filterMap (·.frame),∃o',h'.get? L=some o'/\iy o':=λL hL=>by refine ak (F.dct L hL) λo e w=>?_;exact key L o hL (F.out L hL) e w
 have ff:∀l:List Env,(∀L∈l.filterMap (·.frame),∃o',h'.get? L=some o'/\iy o')->h.FunFrames V.h₀ l->h'.FunFrames V.h₀ l:=by
  intro l
  induction l with
  |nil=>intro _ _;trivial
  |cons env rest ih=>intro h1 hf;obtain⟨b1,⟨L,o,b2,b3,b4,b5⟩,b6⟩:=hf;rw[List.filterMap_cons,b2] at h1;refine NY (h1 L bz) λSw d1 es n d2=>?_;exact⟨b1,⟨L,Sw,b2,b3,d1,λvs=>by rw[d2];simp⟩,ih (λL' iA=>h1 L' (bI _ iA)) b6⟩
 refine(fH.mk (ff l H9 F.uT) (λL hL=>?_) H9);refine ak (F.dct L hL) λo e O=>?_;exact g.not ⟨o,e⟩ (F.out L hL)
def i9.dct{o:Obj}(x:i9 h' a o)(hd:iy o):∃o',h'.get? a=some o'/\iy o':=by
 rcases x with z|⟨⟨es,n,w⟩,sl,z⟩
 ·exact⟨o,z,hd⟩
 ·exact⟨_,z,es,n,w⟩
variable {G:Fm}
def dn.keep(F:dn V G J h)(g:Gr J φ' h)(key:∀L o,L∉J.map (·.2)->h.get? L=some o->iy o->∃o',h'.get? L=some o'/\iy o'):dn V G φ' h':=kZ F.fr λdQ outer L a1 a2 a3 a4=>⟨dQ,outer,L,a1,a2,a3,a4.keep g λL o O=>key L o⟩
def AE(A:Around)(C:Addr):Prop:=∀fs,A.frames=some fs->C∉fs.filterMap (·.frame)
def dn.but{C:Addr}(F:dn V G J h)(k:∀b o,b≠C->h.get? b=some o->h'.get? b=some o)(hC:AE G.A C):dn V G J h':=kZ F.fr λdQ outer L a1 a2 a3 a4=>⟨dQ,outer,L,a1,a2,a3,a4.keep (Gr.refl ..) λL o hL O e w=>⟨o,k L o (λq=>hC _ a1 (q▸hL)) e,w⟩⟩
def dn.SQ{C:Addr}(F:dn V G J h)(hC:¬ bM h C):AE G.A C:=by refine kZ F.fr λdQ outer L a1 a2 a3 a4=>?_;intro fs zM hm;rw[a1] at zM;obtain rfl:=sj zM;refine ak (a4.dct C hm) λo c2 O=>?_;exact hC ⟨o,c2⟩
def dn.mono(F:dn V G J h)(E:cG X J h h')(g:Gr J φ' h)
  (hX:∀a∈X,∀o,h.get? a=some o->iy o->∃o',h'.get? a=some o'/\iy o'):dn V G φ' h':=
 F.keep g λL o hφ e hd=>by
  by_cases hx:L∈X
  ·exact hX L hx o e hd
  ·exact(E.keep L o e hφ hx).dct hd
def dp(V:Cf)(G:Fm)(J:Ph)(s:Shared)(φ':Ph)(ρ':aD)(H':Hp)(s':Shared):Prop:=(Nx G.X J φ' s s')/\(aR V φ' H' s'.heap)/\(bP V G φ' ρ' s'.heap)/\(dn V G φ' s'.heap)
section
variable {b1 b2 b3 b4 b5 b6 b7 b8}(x:dp b1 b2 b3 b4 b5 b6 b7 b8)
def dp.mk:=eM (dp b1 b2 b3 b4 b5 b6 b7 b8) rfl
def dp.nx:=x.1
def dp.rel:=x.2.1
def dp.er:=x.2.2.1
def dp.fr:=x.2.2.2
end
def dp.up{φ₀:Ph}{s₀:Shared}{ρ':aD}{H':Hp}(a:dp V G J s φ' ρ' H' s')(n:Nx G.X φ₀ J s₀ s):dp V G φ₀ s₀ φ' ρ' H' s':=(dp.mk (n.trans a.nx) a.rel a.er a.fr)
def dp.pre{U ρ':aD}{H H':Hp}{d:Nat}{q:Bool}(a:dp V G J s φ' ρ' H' s')(p:aq V d q G J U H s):aq V d q G φ' ρ' H' s':=(aq.mk a.rel a.er p.room p.hd a.fr)
def aq.tw{U:aD}{H:Hp}{d:Nat}{q:Bool}(p:aq V d q G φ' U H s')(n:Nx G.X J φ' s s'):dp V G J s φ' U H s':=(dp.mk n p.rel p.er p.fr)
variable {α β:Type}
def kg(V:Cf)(G:Fm)(J:Ph)(s:Shared)(r:du β)(R:Ph->Heap->α->β->Prop):α->Shared->Prop:=λa s'=>∃b ρ' H' φ',r=.ok b ρ' H'/\dp V G J s φ' ρ' H' s'/\R φ' s'.heap a b
def lM(V:Cf)(G:Fm)(J:Ph)(s:Shared)(r:du β):Value->Shared->Prop:=λe s'=>∃k ρ' H' φ',r=.exc k ρ' H'/\dp V G J s φ' ρ' H' s'/\oX V φ' s.heap s'.heap e k
def TT(V:Cf)(G:Fm)(J:Ph)(s:Shared)(W:(α->Shared->Prop)->(Value->Shared->Prop)->Prop)(r:du β)(R:Ph->Heap->α->β->Prop):Prop:=r≠.stuck->W (kg V G J s r R) (lM V G J s r)
def aj(V:Cf)(G:Fm)(J:Ph)(s:Shared)(t:Sem α)(r:du β)(R:Ph->Heap->α->β->Prop):Prop:=TT V G J s (λQ E=>wpAny (model V.prog V.w) G.A t Q E s) r R
section
variable {G:Fm}{φ₀ J:Ph}{s₀ s:Shared}{U:aD}{H:Hp}{d:Nat}{q:Bool}
variable {α β:Type}{r:du β}{R:Ph->Heap->α->β->Prop}{a:α}{s':Shared}
def kg.up(n:Nx G.X φ₀ J s₀ s)(h:kg V G J s r R a s'):kg V G φ₀ s₀ r R a s':=gN h λb ρ' H' φ' e f x=>⟨b,ρ',H',φ',e,f.up n,x⟩
def lM.up(n:Nx G.X φ₀ J s₀ s){a:Value}(h:lM V G J s r a s'):lM V G φ₀ s₀ r a s':=gN h λb ρ' H' φ' e f x=>⟨b,ρ',H',φ',e,f.up n,x.low n.live⟩
def kg.not(h:kg V G J s r R a s')(e:∀b ρ' H',r≠.ok b ρ' H'){P:Prop}:P:=kY h λb ρ' H' O q O=>absurd q (e b ρ' H')
def lM.not{a:Value}(h:lM V G J s r a s')(e:∀k ρ' H',r≠.exc k ρ' H'){P:Prop}:P:=kY h λb ρ' H' O q O=>absurd q (e b ρ' H')
def Nx.vr{φ':Ph}(n:Nx G.X J φ' s s')(er:bP V G J U s.heap){v:Value}{a:AV}(x:VR V J s.heap v a):VR V φ' s'.heap v a:=x.mono n.ext er.fC n.gr
variable {v:List Value}
def Nx.j9{φ':Ph}(n:Nx G.X J φ' s s')(er:bP V G J U s.heap){a:List AV}(x:aO V J s.heap v a):aO V φ' s'.heap v a:=x.mono n.ext er.fC n.gr
variable {f:α->M β}
def tq{m:M α}{ρ':aD}{H':Hp}(e:m U H=.ok a ρ' H'):M.bind m f U H=f a ρ' H':=by unfold M.bind;rw[e]
def Ld{m:M α}{k:Nat}{ρ':aD}{H':Hp}(e:m U H=.exc k ρ' H'):M.bind m f U H=.exc k ρ' H':=by unfold M.bind;rw[e]
def vp{m:M α}(e:m U H=.stuck):M.bind m f U H=.stuck:=by unfold M.bind;rw[e]
variable {t:Sem α}
def TT.seq{α' β':Type}{m:M α'}{g:α'->M β'}{W:α->Shared->(β->Shared->Prop)->(Value->Shared->Prop)->Prop}
  {R:Ph->Heap->α->α'->Prop} {R':Ph->Heap->β->β'->Prop} (n:Nx G.X φ₀ J s₀ s) (pre:aq V d q G J U H s) (x:aj V G J s t (m U H) R)
  (y:∀a a' ρ' H' φ' s',Nx G.X J φ' s s'->Nx G.X φ₀ φ' s₀ s'->aq V d q G φ' ρ' H' s'->R φ' s'.heap a a'->TT V G φ₀ s₀ (W a s') (g a' ρ' H') R'):
  TT V G φ₀ s₀ (λQ E=>wpAny (model V.prog V.w) G.A t (λa s'=>W a s' Q E) E s) (M.bind m g U H) R':=by
 intro hs;refine cH (x λz=>hs (vp z)) (λa s' h=>?_) λe s' h=>?_
 ·refine gN h λb ρ' H' φ' e f hR=>?_;clear h;rw[tq e] at hs⊢;exact y a b ρ' H' φ' s' f.nx (n.trans f.nx) (f.pre pre) hR hs
 ·refine gN h λk ρ' H' φ' e' f r4=>?_;clear h;exact⟨k,ρ',H',φ',Ld e',f.up n,r4.low n.live⟩
def TT.last(n:Nx G.X φ₀ J s₀ s)(x:aj V G J s t r R):
  TT V G φ₀ s₀ (λQ E=>wpAny (model V.prog V.w) G.A t Q E s) r R:=λhs=>cH (x hs) (λO O h=>h.up n) λO O h=>h.up n
variable {b:β}
def TT.now(n:Nx G.X φ₀ J s₀ s)(pre:aq V d q G J U H s)(h:R J s.heap a b):
  TT V G φ₀ s₀ (λQ O=>Q a s) (.ok b U H) R:=λO=>⟨b,U,H,J,rfl,pre.tw n,h⟩
def TT.imp{W W':(α->Shared->Prop)->(Value->Shared->Prop)->Prop}(h:∀Q E,W Q E->W' Q E)(x:TT V G J s W r R):
  TT V G J s W' r R:=λhs=>h _ _ (x hs)
def aj.bind{α' β':Type}{f:α->Sem β}{m:M α'}{g:α'->M β'}{R:Ph->Heap->α->α'->Prop}{R':Ph->Heap->β->β'->Prop}(pre:aq V d q G J U H s)
  (x:aj V G J s t (m U H) R)
  (y:∀a a' ρ' H' φ' s',Nx G.X J φ' s s'->aq V d q G φ' ρ' H' s'->R φ' s'.heap a a'->aj V G φ' s' (f a) (g a' ρ' H') R'):
  aj V G J s (t>>=f) (M.bind m g U H) R':=
 TT.imp (λO O h=>ag h) (TT.seq (Nx.refl ..) pre x λa a' ρ' H' φ' s' n O p r=>TT.last n (y a a' ρ' H' φ' s' n p r))
def aj.stuck:aj V G J s t (.stuck:du β) R:=λh=>absurd rfl h
def av(s s':Shared):Prop:=(∀a o,s.heap.get? a=some o->s'.heap.get? a=some o)/\(s'.gens=s.gens)/\(s'.os=s.os)
section
variable {b1 b2}(x:av b1 b2)
def av.mk:=jn (av b1 b2) rfl
def av.keep:=x.1
def av.gens:=x.2.1
def av.os:=x.2.2
end
def av.refl(s:Shared):av s s:=(av.mk (λO O e=>e) rfl rfl)
def av.toks(s:Shared)(t:Nat):av s {s with toks:=t}:=(av.mk (λO O e=>e) rfl rfl)
def av.push(s:Shared)(o:Obj)(t:Nat):av s {s with heap:=s.heap.push o,toks:=t}:=(av.mk (λO O e=>fk _ e) rfl rfl)
def av.trans{iP:Shared}(a:av s s')(b:av s' iP):av s iP:=(av.mk (λx o e=>b.keep x o (a.keep x o e)) (b.gens.trans a.gens) (b.os.trans a.os))
def av.ext(g:av s s')(X:List Addr)(J:Ph):cG X J s.heap s'.heap:=⟨λa o e O O=>.inl (g.keep a o e)⟩
def av.live(g:av s s'):∀a,bM s.heap a->bM s'.heap a:=λa ⟨o,e⟩=>⟨o,g.keep a o e⟩
def av.nx(g:av s s')(X:List Addr)(J:Ph):Nx X J J s s':=(Nx.mk (g.ext X J) (Gr.refl ..) g.gens g.os g.live)
def av.at(g:av s s')(R:aR V J H s.heap):∀p∈J,s'.heap.get? p.2=s.heap.get? p.2:=λp hp=>let ⟨_,e⟩:=R.live p hp;(g.keep _ _ e).trans e.symm
def av.vr(g:av s s'){v:Value}{x:AV}(r:VR V J s.heap v x):VR V J s'.heap v x:=r.mono (g.ext [] J) (cW.nil _) (Gr.refl ..)
def av.j9(g:av s s'){x:List AV}(r:aO V J s.heap v x):aO V J s'.heap v x:=r.mono (g.ext [] J) (cW.nil _) (Gr.refl ..)
def aR.grow(R:aR V J H s.heap)(g:av s s'):aR V J H s'.heap:=R.mono (g.ext [] J) (cW.nil _) (λa o e=>g.keep a o (R.keep a o e)) (g.at R)
def dn.grow(F:dn V G J s.heap)(g:av s s'):dn V G J s'.heap:=F.mono (g.ext [] J) (Gr.refl ..) λO ha=>nomatch ha
def aq.grow(p:aq V d q G J U H s)(g:av s s'):aq V d q G J U H s':=(aq.mk (p.rel.grow g) (p.er.mono (g.ext [] J) (Gr.refl ..)) p.room p.hd (p.fr.grow g))
def aj.quiet(pre:aq V d q G J U H s)
  (h:∀Q E,(∀v s',av s s'->R J s'.heap v b->Q v s')->wpAny (model V.prog V.w) G.A t Q E s):aj V G J s t (.ok b U H) R:=
 λO=>h _ _ λv s' g r=>⟨b,U,H,J,rfl,(pre.grow g).tw (g.nx G.X J),r⟩
def aj.opt{f:Hp->Option β}(pre:aq V d q G J U H s)
  (h:∀b,f H=some b->∀Q E,(∀v s',av s s'->R J s'.heap v b->Q v s')->wpAny (model V.prog V.w) G.A t Q E s):aj V G J s t (bX f U H) R:=by
 unfold bX;cases e:f H with
 |none=>exact aj.stuck
 |some b=>exact aj.quiet pre (h b e)
def aj.fresh{R:Ph->Heap->α->AV->Prop}{o:AO}(pre:aq V d q G J U H s)
  (h:∀Q E,(∀v s' p,av s s'->s.heap.objs.size<=p.2->(∃o,s'.heap.get? p.2=some o)->OR V (J++[p]) s'.heap p o->R (J++[p]) s'.heap v (.ref H.length)->Q v s')->wpAny (model V.prog V.w) G.A t Q E s):
  aj V G J s t (.ok (.ref H.length) U (H++[o])) R:=by
 intro _;refine h _ _ λv s' p g hp hx ho hr=>?_;have gr:Gr J (J++[p]) s.heap:=Gr.push J p (gB hp);exact⟨_,U,_,J++[p],rfl,(dp.mk (Nx.mk (g.ext G.X J) gr g.gens g.os g.live) (pre.rel.push g.keep hp hx (g.at pre.rel) ho) (pre.er.mono (g.ext [] J) gr) (pre.fr.mono (g.ext [] J) gr (λO ha=>nomatch ha))),hr⟩
variable {h:Heap}
def yL(J:Ph)(p:Addr×Addr)(R:J.length=H.length):VR V (J++[p]) h (.ref p.1) (.ref H.length):=.ref (d:=p.2) (by rw[<- R,kT (aQ _)];simp)
def i8(s s':Shared)(a:Addr):Prop:=(Heap.SameBut a s.heap s'.heap)/\(s'.gens=s.gens)/\(s'.os=s.os)
section
variable {b1 b2 b3}(x:i8 b1 b2 b3)
def i8.mk:=jn (i8 b1 b2 b3) rfl
def i8.but:=x.1
def i8.gens:=x.2.1
def i8.os:=x.2.2
end
variable {n:Nat}{p:Addr×Addr}
def aj.put{o:AO}(pre:aq V d q G J U H s)(hp:J[n]?=some p)
  (h:∀Q E,(∀v s',i8 s s' p.2->OR V J s'.heap p o->(∃o,s'.heap.get? p.2=some o)->R J s'.heap v b->Q v s')->wpAny (model V.prog V.w) G.A t Q E s):
  aj V G J s t (.ok b U (ai H o n)) R:=by
 intro _;rw[mK];refine h _ _ λv s' hs ho hx hr=>?_;have E:∀X,cG X J s.heap s'.heap:=u3 hp hs.but;exact⟨b,U,_,J,rfl,(dp.mk (Nx.mk (E _) (Gr.refl ..) hs.gens hs.os (wo hs.but hx)) (pre.rel.put hp hs.but ho hx) (pre.er.mono (E []) (Gr.refl ..)) (pre.fr.mono (E []) (Gr.refl ..) (λO ha=>nomatch ha))),hr⟩
variable {h':Heap}
def VR.put{v:Value}{x:AV}(hp:J[n]?=some p)(hs:Heap.SameBut p.2 h h')(r:VR V J h v x):VR V J h' v x:=r.mono (u3 hp hs []) (cW.nil _) (Gr.refl ..)
def aO.put{x:List AV}(hp:J[n]?=some p)(hs:Heap.SameBut p.2 h h')(r:aO V J h v x):aO V J h' v x:=r.mono (u3 hp hs []) (cW.nil _) (Gr.refl ..)
def g8.put{ik:Bool}{v:List DictEntry}{x:List (List Nat×AV)}(hp:J[n]?=some p)(hs:Heap.SameBut p.2 h h')(r:g8 V ik J h x v):g8 V ik J h' x v:=r.mono (u3 hp hs []) (cW.nil _) (Gr.refl ..)
def aj.yQ{a:Addr}{items':List Value}{l':List AV}(pre:aq V d q G J U H s)(hp:J[n]?=some (a,a))
  (r:aO V J s.heap items' l') (z:l'.length<=az)
  (h:∀Q E,(∀v h' k',IsL h' a items'.toArray k'->Heap.SameBut a s.heap h'->R J h' v b->Q v {s with heap:=h'})->wpAny (model V.prog V.w) G.A t Q E s):
  aj V G J s t (.ok b U (ai H (.list l') n)) R:=
 aj.put pre hp λQ E hq=>h Q E λv h' k' e' hs hr=>hq v _ (i8.mk hs rfl rfl) ⟨items',k',lV.mk rfl e' (r.put hp hs) z⟩ ⟨_,e'⟩ hr
end
end
section
variable {V:Cf}
variable {b:Bool}
def yJ{α:Type}{x:Option α}{y:α}(h:aK b x=some y):b=true/\x=some y:=by
 cases b
 ·exact aT h
 ·exact⟨rfl,h⟩
def nB{a:Bool}(h:(a&&b)=true):a=true/\b=true:=by rwa[Bool.and_eq_true] at h
variable {i:Int}
def Iv{n:Nat}(h:iU i n=true):i=n:=by
 cases i with
 |ofNat m=>exact congrArg Int.ofNat (ck h)
 |negSucc m=>cases h
def zx{n:Nat}(h:iU i n=false):i≠n:=λq=>by subst q;have:iU (n:Int) n=true:=jy n;rw[h] at this;cases this
def iS(h:(!b)=true):b=false:=by cases b;rfl;cases h
def XW(i j:Int):e8 i j=(i==j):=by
 rw[Bool.eq_iff_iff,beq_iff_eq];cases i with
 |ofNat m=>
  constructor
  ·exact λh=>(Iv (i:=j) h).symm
  ·intro h;subst h;exact jy m
 |negSucc m=>
  cases j with
  |ofNat n=>exact⟨λh=>(nomatch h),λh=>(nomatch h)⟩
  |negSucc n=>
   constructor
   ·exact λh=>congrArg Int.negSucc (ck h)
   ·intro h;cases h;exact jy m
def sG(i j:Int):fV i j=decide (i<j):=by
 rw[Bool.eq_iff_iff,decide_eq_true_iff];cases i with
 |ofNat m=>cases j with
  |ofNat n=>show Nat.blt m n=true↔(m:Int)<(n:Int);rw[bf];exact n7.symm
  |negSucc n=>exact⟨λh=>(nomatch h),λh=>absurd (Int.lt_trans (show(m:Int)<Int.negSucc n from h) (rJ n)) (Int.not_lt.mpr (j8 m))⟩
 |negSucc m=>cases j with
  |ofNat n=>exact⟨λO=>Int.lt_of_lt_of_le (rJ m) (j8 n),λO=>rfl⟩
  |negSucc n=>show Nat.blt n m=true↔_;rw[bf,Int.negSucc_eq,Int.negSucc_eq];exact⟨λh=>Int.neg_lt_neg (Int.add_lt_add_right (n7.mpr h) 1),λh=>n7.mp (Int.lt_of_add_lt_add_right (Int.neg_lt_neg_iff.mp h))⟩
def wK{n:Nat}(h:uj i=some n):i=n:=by
 cases i with
 |ofNat m=>obtain rfl:=sj h;rfl
 |negSucc m=>exact aT h
def yy(h:fT i=true):i.natAbs<2^200:=bf.mp h
def F9(h:i.natAbs<2^200):i.natAbs.log2<9000:=by
 by_cases h0:i.natAbs=0
 ·rw[h0];decide
 ·have:i.natAbs.log2<200:=(Nat.log2_lt h0).mpr h;exact LW ‹_›
def cY.append{l m:List Nat}(a:cY V l)(b:cY V m)(h:l.length+m.length<=az):cY V (l++m):=(cY.mk (by rw[bu];exact h) (λc hc=>(hM.mp hc).elim (a.sign c) (b.sign c)))
def cY.one{d:Nat}(h:d<16):cY V [d]:=(cY.mk (show 1<=az by decide) (λc hc=>by rw[fR.mp hc];exact h))
theorem z9:∀(a b:List Nat),au a b=true↔a=b:=by
 intro a
 induction a with
 |nil=>
  intro t_;cases t_ with
  |nil=>exact⟨λO=>rfl,λO=>rfl⟩
  |cons _ _=>exact⟨λh=>sC h,λh=>absurd h.symm (List.cons_ne_nil _ _)⟩
 |cons x xs ih=>
  intro t_;cases t_ with
  |nil=>exact⟨λh=>sC h,λh=>absurd h (List.cons_ne_nil _ _)⟩
  |cons y ys=>
   show(match Nat.beq x y with|true=>au xs ys|false=>false)=true↔_;cases h:Nat.beq x y with
   |true=>have:=ck h;subst this;rw[List.cons.injEq,and_iff_right rfl];exact(ih ys)
   |false=>have:=Nat.ne_of_beq_eq_false h;exact⟨λh=>sC h,λh=>absurd (nR h).1 this⟩
def Tf{j:Int}(h1:fT i=true)(h3:fT j=true):IntMulOk i j:=IntMulOk.of_le (m:=200) (n:=200) (intBits_le_iff.mpr (yy h1)) (intBits_le_iff.mpr (yy h3)) (by decide)
end
section
variable {V:Cf}{G:Fm}{J:Ph}{s:Shared}{U:aD}{H:Hp}{d:Nat}{q:Bool}
variable {n:Nat}
def iN(h:n<=az):n<=sizeLine:=aH h (by decide)
def uW(h:n<=az):(n:Int)<2^63:=Int.lt_of_le_of_lt (n6.mpr h) (by decide:((1000000:Nat):Int)<2^63)
section
variable {h:Heap}{v:Value}{x:AV}
def eT{i:Int}(hx:VR V J h v x)(e:x.int?=some i):∃t,v=.int i t:=by
 cases x with
 |int a'=>obtain rfl:=sj e;exact hx
 |_=>exact aT e
def qz{l:List Nat}(hx:VR V J h v x)(e:x.ip=some l):∃t,v=.str (V.tx l) t/\cY V l:=by
 cases x with
 |str a'=>obtain rfl:=sj e;exact hx
 |_=>exact aT e
def ND{l:List Nat}(hx:VR V J h v x)(e:x.KX=some l):∃b t,v=.bytes b t/\b.toList.map UInt8.toNat=V.enc l/\cY V l:=by
 cases x with
 |cj a'=>obtain rfl:=sj e;exact hx
 |_=>exact aT e
def NB{l:List AV}(hx:VR V J h v x)(e:x.Ba=some l):∃a items n,v=.ref a/\Sq J a l (IsT h a (List.toArray items) n) (aO V J h items l):=by
 cases x with
 |tup a'=>obtain rfl:=sj e;exact hx
 |_=>exact aT e
def ig{n:Nat}(hx:VR V J h v x)(e:x.jH=some n):∃p,v=.ref p.1/\J[n]?=some p:=by
 cases x with
 |ref a'=>obtain rfl:=sj e;refine dJ hx λa b e1 e2=>?_;clear hx;exact⟨(a,b),e1,e2⟩
 |_=>exact aT e
end
variable {l:List AV}
def Ua(h:bq H n=some l):H[n]?=some (.list l):=by
 refine ub h λo h1 h2=>?_;rw[bY] at h1;cases o with
 |list=>obtain rfl:=sj h2;exact h1
 |_=>exact aT h2
variable {r:Nat×List (List Nat×AV)}
def YE(h:cM H n=some r):H[n]?=some (.dict r.1 r.2):=by
 refine ub h λo h1 h2=>?_;rw[bY] at h1;cases o with
 |dict=>obtain rfl:=sj h2;exact h1
 |_=>exact aT h2
def Vx(h:gT H n=some r):H[n]?=some (.idict r.1 r.2):=by
 refine ub h λo h1 h2=>?_;rw[bY] at h1;cases o with
 |idict=>obtain rfl:=sj h2;exact h1
 |_=>exact aT h2
def Gi{l:List (List Nat)}(h:oh H n=some l):H[n]?=some (.set l):=by
 refine ub h λo h1 h2=>?_;rw[bY] at h1;cases o with
 |set=>obtain rfl:=sj h2;exact h1
 |_=>exact aT h2
def Vm{r:Nat×List (Option AV)}(h:xd H n=some r):H[n]?=some (.inst r.1 r.2):=by
 refine ub h λo h1 h2=>?_;rw[bY] at h1;cases o with
 |inst=>obtain rfl:=sj h2;exact h1
 |_=>exact aT h2
def U6{r:Nat×Nat}(h:sL H n=some r):H[n]?=some (.iter r.1 r.2):=by
 refine ub h λo h1 h2=>?_;rw[bY] at h1;cases o with
 |iter=>obtain rfl:=sj h2;exact h1
 |_=>exact aT h2
def Ls(V:Cf)(J:Ph)(h:Heap)(v:Value)(l:List AV)(a:Addr)(items:List Value)(n:Nat):Prop:=(v=.ref a)/\(IsL h a items.toArray n)/\(aO V J h items l)/\(l.length<=az)
section
variable {b1 b2 b3 b4 b5 b6 b7 b8}(x:Ls b1 b2 b3 b4 b5 b6 b7 b8)
def Ls.mk:=eM (Ls b1 b2 b3 b4 b5 b6 b7 b8) rfl
def Ls.eq:=x.1
def Ls.at_:=x.2.1
def Ls.all:=x.2.2.1
def Ls.len:=x.2.2.2
end
variable {h:Heap}{v:Value}{items:List Value}
def Ls.small{a:Addr}(x:Ls V J h v l a items n):items.toArray.size<=az:=by rw[fb,x.all.length];exact x.len
def aR.list(R:aR V J H h)(e:bq H n=some l){p:Addr×Addr}(hp:J[n]?=some p):p=(p.1,p.1)/\∃items k,Ls V J h (.ref p.1) l p.1 items k:=by refine cb (R.at (Ua e) hp) λitems k x=>?_;have eq:=x.eq;obtain⟨a,b⟩:=p;dsimp only at eq;subst eq;exact⟨rfl,items,k,Ls.mk rfl x.at_ x.all x.len⟩
variable {x:AV}
def iK(R:aR V J H s.heap)(hx:VR V J s.heap v x)(hl:aP H x=some l):∃a items n,Ls V J s.heap v l a items n:=by
 cases x with
 |lst=>obtain rfl:=sj hl;refine cJ hx λa items n e x=>?_;clear hx;exact⟨a,items,n,Ls.mk e x.at_ x.all x.len⟩
 |ref=>refine ak (ig hx rfl) λp aa hp=>?_;subst aa;refine lp (R.list hl hp) λO items k x=>?_;exact⟨_,items,k,x⟩
 |_=>exact aT hl
def lT(V:Cf)(J:Ph)(h:Heap)(v:Value)(l:List AV)(a:Addr)(items:List Value)(n:Nat)(T:String):Prop:=(v=.ref a)/\(h.get? a=some {cls:=.type T,data:=.seq items.toArray n})/\(T="list"\/T="tuple")/\(aO V J h items l)/\(l.length<=az)
section
variable {b1 b2 b3 b4 b5 b6 b7 b8 b9}(x:lT b1 b2 b3 b4 b5 b6 b7 b8 b9)
def lT.mk:=jJ (lT b1 b2 b3 b4 b5 b6 b7 b8 b9) rfl
def lT.eq:=x.1
def lT.at_:=x.2.1
def lT.ty:=x.2.2.1
def lT.all:=x.2.2.2.1
def lT.len:=x.2.2.2.2
end
def NC(R:aR V J H s.heap)(hx:VR V J s.heap v x)(hl:qG H x=some l):∃a items n T,lT V J s.heap v l a items n T:=by
 cases x with
 |tup=>obtain rfl:=sj hl;refine cJ hx λa items n e x=>?_;clear hx;exact⟨a,items,n,_,lT.mk e x.at_ (.inr rfl) x.all x.len⟩
 |lst=>obtain rfl:=sj hl;refine cJ hx λa items n e x=>?_;clear hx;exact⟨a,items,n,_,lT.mk e x.at_ (.inl rfl) x.all x.len⟩
 |ref=>refine ak (ig hx rfl) λp aa hp=>?_;subst aa;refine lp (R.list hl hp) λO items k x=>?_;exact⟨_,items,k,_,lT.mk x.eq x.at_ (.inl rfl) x.all x.len⟩
 |_=>exact aT hl
variable {s':Shared}
def Ho(R:aR V J H s.heap)(g:av s s'){I:Prop}(e:I)(r:aO V J s.heap items l)(z:l.length<=az):Sq J s.heap.objs.size l I (aO V J s'.heap items l):=(Sq.mk e (R.fresh (aQ _)) (g.j9 r) z)
def B3(R:aR V J H s.heap)(g:av s s')(e:IsL s'.heap s.heap.objs.size items.toArray n)(r:aO V J s.heap items l)(z:l.length<=az):VR V J s'.heap (.ref s.heap.objs.size) (.lst l):=.lst (Ho R g e r z)
def Hn(R:aR V J H s.heap)(g:av s s')(e:IsT s'.heap s.heap.objs.size items.toArray n)(r:aO V J s.heap items l)(z:l.length<=az):VR V J s'.heap (.ref s.heap.objs.size) (.tup l):=.tup (Ho R g e r z)
def fG(V:Cf)(G:Fm)(J:Ph)(s:Shared)(t:Sem Value)(b:AV):Prop:=∀Q E,(∀v s',av s s'->VR V J s'.heap v b->Q v s')->wpAny (model V.prog V.w) G.A t Q E s
def DG(l m:List Nat):V.enc (l++m)=V.enc l++V.enc m:=bR
def rt(l:List Nat):(V.enc l).length=l.length:=aC _
def D3{b:Array UInt8}{l:List Nat}(h:b.toList.map UInt8.toNat=V.enc l):b.size=l.length:=by have:=congrArg List.length h;rwa[aC,kP,rt] at this
def aa6{l m:List Nat}{t u:Tok}{Q E:Value->Shared->Prop}(o1:cY V l)(o2:cY V m)(h3:l.length+m.length<=az)(h:∀v s',av s s'->VR V J s'.heap v (.str (l++m))->Q v s'):wpAny (model V.prog V.w) G.A (binaryOp .Add (.str (V.tx l) t) (.str (V.tx m) u)) Q E s:=by
 have e:V.tx l++V.tx m=V.tx (l++m):=by show(⟨(V.enc l).toArray++(V.enc m).toArray⟩:Str)=⟨(V.enc (l++m)).toArray⟩;rw[List.append_toArray,DG]
 have len:∀n,(V.tx n).length=n.length:=λn=>by show(V.enc n).toArray.size=_;rw[fb,rt]
 exact add_str (λt' tk=>h _ _ (av.toks ..) ⟨t',by rw[e],o1.append o2 h3⟩) (by rw[len,len];exact iN h3)
variable {vx vy:Value}
def abc(R:aR V J H s.heap){y b:AV}(hx:VR V J s.heap vx x)(hy:VR V J s.heap vy y)(e:Lr x y H=some b):fG V G J s (binaryOp .Add vx vy) b:=by
 intro Q E h;have lists:∀e:((aP H x).bind λa=>(aP H y).bind λb=>aK (Nat.ble (a.length+b.length) az) (some (.lst (a++b))))=some b,wpAny (model V.prog V.w) G.A (binaryOp .Add vx vy) Q E s:=λe=>by
  refine ub e λl h1 e=>?_;refine ub e λm h2 e=>?_;refine ur e λh3 h4=>?_;obtain rfl:=sj h4;have h3:=ic h3;refine eB (iK R hx h1) λa i1 n1 f1=>?_;refine eB (iK R hy h2) λb i2 n2 f2=>?_;rw[f1.eq,f2.eq];refine P.add_list f1.at_ f2.at_ (h _ _ (av.push ..) ?_) ?_
  ·refine B3 R (items:=i1++i2) (n:=0) (av.push s _ s.toks) ?_ (f1.all.append f2.all) (by rw[bu];exact h3);rw[List.append_toArray];exact IsL.new ..
  ·rw[fb,fb,f1.all.length,f2.all.length];exact iN h3
 cases x with
 |int a=>refine um e λj h1 aa=>?_;subst aa;refine ue hx λt aa=>?_;clear hx;subst aa;refine ue (eT hy h1) λu aa=>?_;subst aa;exact P.add_int (h _ _ (av.toks ..) (.lit ..))
 |cj l=>
  refine ub e λm h1 e=>?_;refine ur e λh3 h4=>?_;obtain rfl:=sj h4;have h3:=ic h3;refine bo hx λb1 t aa r1 o1=>?_;clear hx;subst aa;refine bo (ND hy h1) λb2 u aa r2 o2=>?_;subst aa;refine KBy.add_bytes ?_ λt' k=>h _ _ (av.toks ..) ⟨_,_,rfl,?_,o1.append o2 h3⟩
  ·rw[D3 r1,D3 r2];exact iN h3
  ·rw[Array.toList_append,bR,r1,r2,DG]
 |str l=>refine ub e λm h1 e=>?_;refine ur e λh3 h4=>?_;obtain rfl:=sj h4;refine ak hx λt aa o1=>?_;clear hx;subst aa;refine ak (qz hy h1) λu aa o2=>?_;subst aa;exact aa6 o1 o2 (ic h3) h
 |_=>exact lists e
def Tg{y b:AV}(hx:VR V J s.heap vx x)(hy:VR V J s.heap vy y)(e:Hs x y=some b):fG V G J s (binaryOp .Mult vx vy) b:=by intro Q E h;refine ub e λi h1 e=>?_;refine ub e λj h2 e=>?_;refine ur e λh3 e=>?_;obtain rfl:=sj e;refine us h3 λh3 h4=>?_;refine ue (eT hx h1) λt aa=>?_;subst aa;refine ue (eT hy h2) λu aa=>?_;subst aa;exact P.mul_int (h _ _ (av.toks ..) (.lit ..)) (Tf h3 h4)
def ZV{op:Operator}(xg:op≠.Add/\op≠.Mult){i j:Int}{t u:Tok}{c:Int}(e:D8 op i j=some c):fG V G J s (binaryOp op (.int i t) (.int j u)) (.int c):=by
 intro Q E h;cases op with
 |Add=>exact absurd rfl xg.1
 |Mult=>exact absurd rfl xg.2
 |Sub=>obtain rfl:=sj e;exact P.sub_int (h _ _ (av.toks ..) (.lit ..))
 |FloorDiv=>refine ur e λh1 e=>?_;obtain rfl:=sj e;refine us h1 λh1 h3=>?_;exact floordiv_int (zx (iS h1)) (h _ _ (av.toks ..) (.lit ..)) (.inl (PyProof.noPylong_of_log2 (F9 (yy h3))))
 |Mod=>refine ur e λh1 e=>?_;obtain rfl:=sj e;exact mod_int' (zx (iS h1)) (h _ _ (av.toks ..) (.lit ..))
 |Pow=>refine ub e λn h1 e=>?_;refine ur e λh2 h3=>?_;refine us h2 λh2 h4=>?_;obtain rfl:=sj h3;have hj:=wK h1;subst hj;exact pow_int_small (j8 n) (n6.mpr (ic h2)) (bf.mp h4) (h _ _ (av.toks ..) (.lit ..))
 |RShift=>refine ub e λn h1 e=>?_;obtain rfl:=sj e;have hj:=wK h1;subst hj;exact rshift_int (j8 n) (h _ _ (av.toks ..) (.lit ..))
 |_=>exact aT e
def ZU(pre:aq V d q G J U H s){op:Operator}{y:AV}(hx:VR V J s.heap vx x)(hy:VR V J s.heap vy y):
  aj V G J s (binaryOp op vx vy) (bX (i6 op x y) U H) (VR V):=aj.opt pre λb e=>by
 have Sa:∀xg:op≠.Add/\op≠.Mult,((x.int?).bind λa=>(y.int?).bind λb=>(D8 op a b).map .int)=some b->fG V G J s (binaryOp op vx vy) b:=λxg e=>by refine ub e λa h1 e=>?_;refine ub e λa2 h2 e=>?_;refine um e λc h3 aa=>?_;subst aa;refine ue (eT hx h1) λt aa=>?_;subst aa;refine ue (eT hy h2) λu aa=>?_;subst aa;exact ZV xg h3
 cases op with
 |Add=>exact abc pre.rel hx hy e
 |Mult=>exact Tg hx hy e
 |_=>exact Sa ⟨by decide,by decide⟩ e
def SW(pre:aq V d q G J U H s)(hx:VR V J s.heap vx x):aj V G J s (unaryOp .USub vx) (bX (λO=>B4 x) U H) (VR V):=aj.opt pre λb e Q E h=>by refine um e λi h1 aa=>?_;subst aa;refine ue (eT hx h1) λt aa=>?_;subst aa;exact P.neg_int (h _ _ (av.toks ..) (.lit ..))
def Iy(r:aO V J h items l):items.toArray.isEmpty=l.isEmpty:=by have:=r.length;cases items<;>cases l<;>first|rfl|cases this
def Ob(i:Int):(i != 0)=!iU i 0:=by
 cases h:iU i 0 with
 |true=>rw[Iv h];rfl
 |false=>simpa using zx h
def Bb(pre:aq V d q G J U H s)(hx:VR V J s.heap vx x):aj V G J s (truthy vx) (bX (jg x) U H) (λO O b c=>b=c):=aj.opt pre λb e Q E h=>by
 have lists:∀e:((aP H x).map λl=>!l.isEmpty)=some b,wpAny (model V.prog V.w) G.A (truthy vx) Q E s:=λe=>by refine um e λl h1 aa=>?_;subst aa;refine eB (iK pre.rel hx h1) λa i1 n1 f1=>?_;rw[f1.eq];exact wpAny_truthy_list f1.at_.isList (uW f1.small) (h _ _ (av.toks ..) (by rw[Iy f1.all]))
 cases x with
 |none=>subst hx;obtain rfl:=sj e;exact λO O O=>h _ _ (av.refl _) rfl
 |bool=>subst hx;obtain rfl:=sj e;exact wpAny_truthy_bool (h _ _ (av.refl _) rfl)
 |int a=>refine ue hx λt aa=>?_;clear hx;subst aa;obtain rfl:=sj e;exact P.truthy_int (h _ _ (av.refl _) (Ob a))
 |_=>exact lists e
end
section
variable {V:Cf}{G:Fm}{J:Ph}{s:Shared}{U:aD}{H:Hp}{d:Nat}{q:Bool}
mutual
noncomputable def PD(V:Cf):AV->PyData->Prop
 |.int i,D=>D=.int i
 |.str l,D=>D=.str (V.tx l)
 |.lst l,D=>∃Ds,D=.list Ds/\tB V l Ds
 |.tup l,D=>∃Ds,D=.tuple Ds/\tB V l Ds
 |_,_=>False
noncomputable def tB(V:Cf):List AV->List PyData->Prop
 |[],Ds=>Ds=[]
 |x::xs,Ds=>∃D r,Ds=D::r/\PD V x D/\tB V xs r
end
theorem J5:∀{a b:List Nat},V.enc a=V.enc b->a=b:=by
 intro a
 induction a with
 |nil=>
  intro t_ h;cases t_ with
  |nil=>exact rfl
  |cons _ _=>exact nomatch h
 |cons x xs ih=>
  intro t_ h;cases t_ with
  |nil=>exact nomatch h
  |cons y ys=>have h:=nR h;rw[show x=y by have:65+x=65+y:=h.1;exact Ep ‹_›,ih h.2]
def N6{a b:List Nat}(h:V.tx a=V.tx b):a=b:=by have:(V.enc a).toArray=(V.enc b).toArray:=congrArg Str.cps h;exact J5 (by simpa using this)
def Ft(a b:List Nat):(V.tx a==V.tx b)=au a b:=by rw[Bool.eq_iff_iff,beq_iff_eq,z9];exact⟨N6,λh=>by rw[h]⟩
theorem DF:∀(a b:List Nat),V.enc a<V.enc b↔cg a b=true:=by
 intro a
 induction a with
 |nil=>
  intro t_;cases t_ with
  |nil=>exact⟨λh=>absurd h (List.lt_irrefl _),λh=>(nomatch h)⟩
  |cons _ _=>exact⟨λO=>rfl,λO=>List.Lex.nil⟩
 |cons x xs fM=>
  intro t_;cases t_ with
  |nil=>exact⟨λh=>absurd h (List.not_lt_nil _),λh=>(nomatch h)⟩
  |cons y ys=>
   have ih:=fM ys;show(65+x)::V.enc xs<(65+y)::V.enc ys↔(match Nat.beq x y with|true=>cg xs ys|false=>Nat.blt x y)=true;rw[List.cons_lt_cons_iff,ih];cases h:Nat.beq x y with
   |true=>have:=ck h;subst this;exact⟨λh=>by rcases h with h|h;exact absurd h (jz _);exact h.2,λh=>.inr ⟨rfl,h⟩⟩
   |false=>
    have dN:=Nat.ne_of_beq_eq_false h;show _↔Nat.blt x y=true;rw[bf];refine⟨λh=>?_,λh=>.inl (by exact AW ‹_›)⟩;rcases h with h|h
    ·exact MI ‹_›
    ·exact absurd (by have:=h.1;exact Ep ‹_›) dN
mutual
theorem z8{x y:AV}{D D':PyData}{b:Bool}(hx:PD V x D)(hy:PD V y D')(e:xH x y=some b):D.eqv D'=b:=by
 cases x with
 |int a=>
  refine um e λa2 h1 aa=>?_;subst aa;cases y with
  |int=>obtain rfl:=sj h1;subst hx;subst hy;exact(XW _ _).symm
  |_=>exact aT h1
 |str a=>
  refine um e λa2 h1 aa=>?_;subst aa;cases y with
  |str=>obtain rfl:=sj h1;subst hx;subst hy;exact Ft _ _
  |_=>exact aT h1
 |lst a=>
  refine ak hx λDs e1 x1=>?_;clear hx;refine ub e λa2 h1 e=>?_;cases y with
  |lst=>obtain rfl:=sj h1;refine ak hy λAI aa x2=>?_;clear hy;subst aa;subst e1;exact Dy x1 x2 e
  |_=>exact aT h1
 |tup a=>
  refine ak hx λDs e1 x1=>?_;clear hx;refine ub e λa2 h1 e=>?_;cases y with
  |tup=>obtain rfl:=sj h1;refine ak hy λAI aa x2=>?_;clear hy;subst aa;subst e1;exact Dy x1 x2 e
  |_=>exact aT h1
 |_=>exact hx.elim
theorem Dy{xs ys:List AV}{Ds AI:List PyData}{b:Bool}(hx:tB V xs Ds)(hy:tB V ys AI)(e:kC xs ys=some b):PyData.eqvAll Ds AI=b:=by
 cases xs with
 |nil=>
  cases ys with
  |nil=>subst hx;subst hy;obtain rfl:=sj e;rfl
  |cons=>refine dJ hy λO O e1 O=>?_;clear hy;subst hx;subst e1;obtain rfl:=sj e;rfl
 |cons x xs=>
  cases ys with
  |nil=>refine dJ hx λO O e1 O=>?_;clear hx;subst hy;subst e1;obtain rfl:=sj e;rfl
  |cons y ys=>
   refine bo hx λD r e1 x1 x2=>bo hy λD' r' e2 y1 y2=>?_;clear hx hy;refine ub e λc h1 e=>?_;subst e1;subst e2;have h1:=z8 x1 y1 h1;show(D.eqv D'&&PyData.eqvAll r r')=_;rw[h1];cases c with
   |true=>exact Dy x2 y2 e
   |false=>obtain rfl:=sj e;rfl
end
def gK(V:Cf)(h:Heap)(v:Value)(x:AV)(n:Nat)(D:PyData)(as:List Addr):Prop:=(Reads h v D as)/\(D.canLay0=true)/\(D.depth<=n)/\(PD V x D)
section
variable {b1 b2 b3 b4 b5 b6 b7}(x:gK b1 b2 b3 b4 b5 b6 b7)
def gK.mk:=eM (gK b1 b2 b3 b4 b5 b6 b7) rfl
def gK.rd:=x.1
def gK.iE:=x.2.1
def gK.deep:=x.2.2.1
def gK.pd:=x.2.2.2
end
def iI(V:Cf)(h:Heap)(vs:List Value)(xs:List AV)(n:Nat)(Ds:List PyData)(as:List Addr):Prop:=(ReadsAll h vs Ds as)/\(PyData.canLayAll0 Ds=true)/\(PyData.depthAll Ds<=n)/\(tB V xs Ds)
section
variable {b1 b2 b3 b4 b5 b6 b7}(x:iI b1 b2 b3 b4 b5 b6 b7)
def iI.mk:=eM (iI b1 b2 b3 b4 b5 b6 b7) rfl
def iI.rd:=x.1
def iI.iE:=x.2.1
def iI.deep:=x.2.2.1
def iI.pd:=x.2.2.2
end
variable {h:Heap}{items:List Value}{n:Nat}{Ds:List PyData}
def iI.lst{a:Addr}{k:Nat}{xs:List AV}{as:List Addr}(x:iI V h items xs n Ds as)(e:IsL h a items.toArray k):gK V h (.ref a) (.lst xs) (n+1) (.list Ds) (a::as):=(gK.mk (.list e rfl rfl x.rd) x.iE (by have:=x.deep;simp only[PyData.depth];exact ED ‹_›) ⟨Ds,rfl,x.pd⟩)
def iI.tup{a:Addr}{k:Nat}{xs:List AV}{as:List Addr}(x:iI V h items xs n Ds as)(e:IsT h a items.toArray k):gK V h (.ref a) (.tup xs) (n+1) (.tuple Ds) as:=(gK.mk (.tuple e rfl rfl x.rd) x.iE (by have:=x.deep;simp only[PyData.depth];exact ED ‹_›) ⟨Ds,rfl,x.pd⟩)
def Ut{l:List Nat}{t:Tok}(o:cY V l)(n:Nat):gK V h (.str (V.tx l) t) (.str l) n (.str (V.tx l)) []:=by refine(gK.mk (.str _ t) ?_ (by simp[PyData.depth]) rfl);simp only[PyData.canLay0,PyData.strOk,Cf.tx];rw[List.all_toArray,fB];intro c hc;refine ak (bj.mp hc) λe he aa=>?_;subst aa;have:=o.sign e he;simp;exact MM ‹_›
mutual
theorem uy{x:AV}{h:Heap}{v:Value}(n:Nat)(hx:VR V J h v x)(hd:lE x n=true):∃D as,gK V h v x n D as:=by
 cases x with
 |int=>refine ue hx λt aa=>?_;clear hx;subst aa;exact⟨_,_,gK.mk (.int _ t) rfl (by simp[PyData.depth]) rfl⟩
 |str=>refine ak hx λt aa o=>?_;clear hx;subst aa;exact⟨_,_,Ut o n⟩
 |tup l=>
  cases n with
  |zero=>exact sC hd
  |succ n=>refine cJ hx λa items k aa x=>?_;clear hx;subst aa;refine cb (zu n x.all hd) λO O y=>?_;exact⟨_,_,y.tup x.at_⟩
 |lst l=>
  cases n with
  |zero=>exact sC hd
  |succ n=>refine cJ hx λa items k aa x=>?_;clear hx;subst aa;refine cb (zu n x.all hd) λO O y=>?_;exact⟨_,_,y.lst x.at_⟩
 |_=>exact sC hd
theorem zu{xs:List AV}{h:Heap}{vs:List Value}(n:Nat)(hx:aO V J h vs xs)(hd:fU xs n=true):∃Ds as,iI V h vs xs n Ds as:=by
 cases xs with
 |nil=>subst hx;exact⟨_,_,iI.mk .nil rfl (by simp[PyData.depthAll]) rfl⟩
 |cons x xs=>
  refine bo hx λv r aa hv hr=>?_;clear hx;subst aa;have hd:(match lE x n with|true=>fU xs n|false=>false)=true:=hd;cases hk:lE x n with
  |false=>rw[hk] at hd;exact sC hd
  |true=>rw[hk] at hd;refine cb (uy n hv hk) λD as y=>?_;refine cb (zu n hr hd) λDs bs z=>?_;exact⟨D::Ds,_,iI.mk (.cons y.rd z.rd) (by simp[PyData.canLayAll0,y.iE,z.iE]) (by simp only[PyData.depthAll];exact Nat.max_le.mpr ⟨y.deep,z.deep⟩) ⟨_,_,rfl,y.pd,z.pd⟩⟩
end
variable {x:AV}
def Yw(h:aP H x=none):d3 H n x=x:=by
 cases n with
 |zero=>rfl
 |succ n=>show(match aP H x with|some l=>AV.lst (l.map (d3 H n))|none=>x)=x;rw[h]
def Yv{l:List AV}(h:aP H x=some l):d3 H (n+1) x=.lst (l.map (d3 H n)):=by show(match aP H x with|some l=>AV.lst (l.map (d3 H n))|none=>x)=_;rw[h]
theorem Us(R:aR V J H s.heap)(n:Nat)(ih:∀{v:Value} {x:AV} (m:Nat),VR V J s.heap v x->lE (d3 H n x) m=true->∃D as,gK V s.heap v (d3 H n x) m D as):
  ∀{xs:List AV} {vs:List Value} (m:Nat),aO V J s.heap vs xs->fU (xs.map (d3 H n)) m=true->∃Ds as,iI V s.heap vs (xs.map (d3 H n)) m Ds as:=by
 intro xs
 induction xs with
 |nil=>intro _ _ hx _;subst hx;exact⟨_,_,iI.mk .nil rfl (by simp[PyData.depthAll]) rfl⟩
 |cons x xs fM=>
  intro _ m hx h;refine bo hx λv r aa hv hr=>?_;clear hx;subst aa;have h:(match lE (d3 H n x) m with|true=>fU (xs.map (d3 H n)) m|false=>false)=true:=h;cases hk:lE (d3 H n x) m with
  |false=>rw[hk] at h;cases h
  |true=>rw[hk] at h;refine cb (ih m hv hk) λD as y=>?_;refine cb (fM m hr h) λDs bs z=>?_;exact⟨D::Ds,_,iI.mk (.cons y.rd z.rd) (by simp[PyData.canLayAll0,y.iE,z.iE]) (by simp only[PyData.depthAll];exact Nat.max_le.mpr ⟨y.deep,z.deep⟩) ⟨_,_,rfl,y.pd,z.pd⟩⟩
def HW(R:aR V J H s.heap):∀(n:Nat) {v:Value} {x:AV} (m:Nat),VR V J s.heap v x->lE (d3 H n x) m=true->∃D as,gK V s.heap v (d3 H n x) m D as:=by
 intro n
 induction n with
 |zero=>intro v x m hx h;exact uy m hx h
 |succ n ih=>
  intro v x m hx h;cases hl:aP H x with
  |none=>rw[Yw hl] at h⊢;exact uy m hx h
  |some l=>
   rw[Yv hl] at h⊢;cases m with
   |zero=>cases h
   |succ m=>refine eB (iK R hx hl) λa items k y=>?_;refine cb (Us R n (λm=>ih m) m y.all h) λDs as z=>?_;rw[y.eq];exact⟨_,_,z.lst y.at_⟩
def Qf{A:Around}(hr:kG A d)(hn:n<=50)(m:Nat):A.units+min n m<cLine:=cN (ib (aH (Nat.min_le_left ..) hn) _) (Nc hr.units)
def oP(V:Cf)(A:Around)(s:Shared)(t:Sem Value)(b:Bool):Prop:=∀Q E,(∀s',av s s'->Q (.bool b) s')->wpAny (model V.prog V.w) A t Q E s
variable {vx vy:Value}{y:AV}{b:Bool}
def J1(pre:aq V d q G J U H s)(hx:VR V J s.heap vx x)(hy:VR V J s.heap vy y)(e:DB (d3 H 3 x) (d3 H 3 y)=some b):
  oP V G.A s (compareOp .Eq vx vy) b/\oP V G.A s (compareOp .NotEq vx vy) !b:=by
 refine ur e λh1 h2=>?_;refine us h1 λh1 h3=>?_;refine cb (HW pre.rel 3 3 hx h1) λD as y1=>?_;refine cb (HW pre.rel 3 3 hy h3) λD' bs y2=>?_;have hv:=z8 y1.pd y2.pd h2;have ru:=Qf pre.room (show D.depth<=50 from aH y1.deep (by decide)) D'.depth;exact⟨λQ E hq=>SeqAt.compareEq_reads y1.rd y2.rd y1.iE y2.iE ru (by rw[hv];exact hq _ (av.refl _)),λQ E hq=>SeqAt.compareNe_reads y1.rd y2.rd y1.iE y2.iE ru (by rw[hv];exact hq _ (av.refl _))⟩
def HK{prog:Program}{w:World}{A':Around}(hx:VR V J s.heap vx x)(hy:VR V J s.heap vy y)(e:zi x y=some b):
  ∀Q E,Q (.bool b) s->wpAny (model prog w) A' (compareOp .Lt vx vy) Q E s:=by
 intro Q E hq;cases x with
 |int a=>refine um e λa2 h1 aa=>?_;subst aa;refine ue hx λt aa=>?_;clear hx;subst aa;refine ue (eT hy h1) λu aa=>?_;subst aa;exact P.lt_int (by rw[<- sG];exact hq)
 |str l=>
  refine um e λm h1 aa=>?_;subst aa;refine ak hx λt aa O=>?_;clear hx;subst aa;refine ak (qz hy h1) λu aa O=>?_;subst aa;refine P.lt_str ?_;have:decide ((V.tx l).cps.toList<(V.tx m).cps.toList)=cg l m:=by
   rw[Bool.eq_iff_iff,decide_eq_true_iff]
   simpa[Cf.tx] using DF l m
  rw[<- this] at hq
  simpa using hq
 |_=>exact aT e
def tC(V:Cf)(J:Ph)(h:Heap)(r:Bool)(n m:Nat)(rest:List (Value×Value)):Prop:=∃vs ws ds es,rest=List.zip vs ws/\aO V J h vs ds/\aO V J h ws es/\zh ds es=some r/\(n<m↔vs.length<ws.length)
def tC.nil{r:Bool}{m:Nat}(I:tC V J h r n m []):decide (n<m)=r:=by
 refine Fi I λvs ws ds es hz r1 r2 fy iV=>?_;clear I;rw[decide_eq_decide.mpr iV];cases ds with
 |nil=>
  have q:vs=[]:=r1;subst q;cases es with
  |nil=>have q:ws=[]:=r2;subst q;exact jA fy
  |cons=>refine dJ r2 λO O aa O=>?_;clear r2;subst aa;exact(decide_eq_true (mE _)).trans (jA fy)
 |cons=>
  refine dJ r1 λO O aa O=>?_;clear r1;subst aa;cases es with
  |nil=>have q:ws=[]:=r2;subst q;exact jA fy
  |cons=>refine dJ r2 λO O aa O=>?_;clear r2;subst aa;exact nomatch hz
def LtC(V:Cf)(J:Ph)(h:Heap)(r:Bool)(n m:Nat)(rest:List (Value×Value))(y x:Value)(d e:AV)(c:Bool):Prop:=xH d e=some c/\(c=true->tC V J h r n m rest)/\(c=false->VR V J h y d/\VR V J h x e/\zi d e=some r)
def tC.cons{r:Bool}{m:Nat}{y x:Value}{rest:List (Value×Value)}(I:tC V J h r n m ((y,x)::rest)):
  ∃d e c D D' as bs,LtC V J h r n m rest y x d e c/\gK V h y d 3 D as/\gK V h x e 3 D' bs:=by
 refine Fi I λvs ws ds es hz r1 r2 fy iV=>?_;clear I;cases ds with
 |nil=>have q:vs=[]:=r1;subst q;exact nomatch hz
 |cons d1 ds=>
  refine bo r1 λv1 t1 aa a1 a2=>?_;clear r1;subst aa;cases es with
  |nil=>have q:ws=[]:=r2;subst q;exact nomatch hz
  |cons e1 es=>
   refine bo r2 λw1 t2 aa b1 b2=>?_;clear r2;subst aa;injection hz with h1 h2
   injection h1 with h3 h4
   subst h2 h3 h4;refine ub fy λc hc fy=>?_;refine ur hc λh1 h2=>?_;refine us h1 λh1 h3=>?_;refine cb (uy 3 a1 h1) λD as y1=>?_;refine cb (uy 3 b1 h3) λD' bs y2=>?_;refine⟨d1,e1,c,D,D',as,bs,⟨h2,λq=>?_,λq=>?_⟩,y1,y2⟩
   ·subst q;exact⟨t1,t2,ds,es,rfl,a2,b2,fy,iV.trans Nat.succ_lt_succ_iff⟩
   ·subst q;exact⟨a1,b1,fy⟩
def N9(V:Cf)(J:Ph)(l b:Addr)(items uD:List Value)(n n2:Nat)(xs ys:List AV)(r:Bool)(e:zh xs ys=some r):
  Meets (Builtin.«tuple.__lt__» ⟨[.ref l,.ref b],[]⟩) (λA' R s'=>A'.units+60<cLine/\IsT s'.heap l items.toArray n/\IsT s'.heap b uD.toArray n2/\aO V J s'.heap items xs/\aO V J s'.heap uD ys/\R (.ok (.ret (.bool r))) s'):=
 .of_wp λprog w A' R s' h=>by
  obtain⟨hu,hl,hb,rx,ry,h⟩:=h;have I0:tC V J s'.heap r items.length uD.length (List.zip items uD):=⟨_,_,_,_,rfl,rx,ry,e,Iff.rfl⟩;clear rx ry e;have f2:=AutoSeq1.sub_tuple_tuple;wp_walk using wpAny_loadPart' hl,wpAny_loadPart' hb,wpAny_forIn_list _ (λrest b s=>b.1=none/\s=s'/\tC V J s'.heap r items.length uD.length rest) _
  case turn=>
   rintro ⟨y,x⟩ rest b s ⟨Dc,rfl,I⟩
   obtain⟨d1,e1,c,D,D',as,bs,k,y1,y2⟩:=I.cons;refine ag (SeqAt.eqBoolOverData _ _ _ _ _ _ _ _ _ _ _ _ y1.rd y2.rd y1.iE y2.iE (cN (ib (aH (Nat.min_le_left ..) y1.deep) _) (Nl hu)) ?_);rw[z8 y1.pd y2.pd k.1];cases c with
   |true=>wp_walk;exact⟨rfl,rfl,k.2.1 rfl⟩
   |false=>have q:=k.2.2 rfl;refine wpAny_ite_true rfl ?_;refine ag (wpAny_rule (ag (HK q.1 q.2.1 q.2.2 _ _ ?_)));exact ag (aA (aA (aA ⟨_,rfl,h⟩)))
  case fin=>
   rintro ⟨b1,b2⟩ s ⟨Dc,rfl,I⟩
   simp only at Dc;subst Dc;refine aA ⟨_,rfl,?_⟩;show R (.ok (.ret (.bool (decide (items.toArray.size<uD.toArray.size))))) _;rw[fb,fb,I.nil];exact h
  case h=>exact⟨rfl,rfl,I0⟩
def HJ{prog:Program}{w:World}{A:Around}(hu:A.units+62<cLine)(hx:VR V J s.heap vx x)(hy:VR V J s.heap vy y)(e:gQ x y=some b):
  ∀Q E,Q (.bool b) s->wpAny (model prog w) A (richCompare .Lt vx vy) Q E s:=by
 intro Q E hq;cases x with
 |tup a=>refine ub e λm h1 e=>?_;refine cJ hx λa1 i1 n1 aa f1=>?_;clear hx;subst aa;refine cJ (NB hy h1) λa2 i2 n2 aa f2=>?_;subst aa;exact richCompare_meets_room (op:=.Lt) ⟨_,f1.at_,rfl⟩ ⟨_,f2.at_,rfl⟩ F.slot_tuple_lt F.entry_tuple_lt (F.args_tuple_lt_2 _ _) (N9 V J _ _ _ _ _ _ _ _ b e) ⟨by exact MG ‹_›,f1.at_,f2.at_,f1.all,f2.all,by simp,hq⟩ (by exact j4 ‹_›)
 |_=>exact HK hx hy e Q E hq
def TN(pre:aq V d q G J U H s)(hx:VR V J s.heap vx x)(hy:VR V J s.heap vy y)(e:gQ x y=some b):oP V G.A s (compareOp .Lt vx vy) b:=λQ E hq=>HJ (by have:=pre.room.units;exact Md ‹_›) hx hy e Q E (hq _ (av.refl _))
end
section
variable {V:Cf}{G:Fm}{J:Ph}{s:Shared}{U:aD}{H:Hp}{d:Nat}{q:Bool}
def US(ik:Bool)(x:AV):Option (List Nat):=match ik with
 |true=>wY x
 |false=>x.ip
variable {ik:Bool}{h:Heap}{v:Value}{x:AV}
def pj{k:List Nat}(hx:VR V J h v x)(e:US ik x=some k):(kk V ik).is k v=true/\wG V ik k:=by
 cases ik with
 |true=>refine ub e λi h1 e=>?_;refine um e λn h2 aa=>?_;subst aa;refine ue (eT hx h1) λt aa=>?_;subst aa;have:=wK h2;subst this;exact⟨(show Value.isInt (n:Int) (.int n t)=true by simp[Value.isInt]),trivial⟩
 |false=>refine ak (qz hx e) λt aa o=>?_;subst aa;exact⟨strKind_is V.prog V.w (V.tx k) t,o⟩
def H8{y:List Nat}(hy:(kk V ik).is y v=true)(x:List Nat):(kk V ik).is x v=au y x:=by rw[KeyKind.is_eq_decide hy x,Bool.eq_iff_iff,decide_eq_true_iff,z9];exact eq_comm
theorem Ah{ik:Bool}{h:Heap}:∀{l:List (List Nat×AV)} {es:List DictEntry},g8 V ik J h l es->KeysOf (kk V ik) es.toArray:=by
 intro l
 induction l with
 |nil=>intro _ x;subst x;intro e he;simp at he
 |cons p l ih=>
  intro _ bN;refine bo bN λe r q x y=>?_;clear bN;subst q;intro e' he;rw[List.mem_toArray] at he;rcases bl.mp he with rfl|he
  ·exact⟨p.1,x.key,x.hash⟩
  ·exact ih y e' (List.mem_toArray.mpr he)
theorem Ai{ik:Bool}(x:List Nat){h:Heap}:∀{l:List (List Nat×AV)} {es:List DictEntry},g8 V ik J h l es ->
  (bT x l=none/\findBy (kk V ik).is es.toArray x=none)\/∃v val,bT x l=some v/\findBy (kk V ik).is es.toArray x=some val/\VR V J h val v:=by
 intro l
 induction l with
 |nil=>intro _ e;subst e;exact .inl ⟨rfl,rfl⟩
 |cons p l fM=>
  intro _ bN;refine bo bN λe r q z y=>?_;clear bN;subst q;have ih:=fM y;unfold findBy at ih⊢;rw[List.find?_toArray] at ih⊢;rw[List.find?_cons,H8 z.key];show((match au p.1 x with|true=>some p.2|false=>bT x l)=_/\_)\/∃v val,(match au p.1 x with|true=>some p.2|false=>bT x l)=_/\_;cases au p.1 x with
  |true=>exact .inr ⟨_,_,rfl,rfl,z.val⟩
  |false=>exact ih
def g9(V:Cf)(ik:Bool)(J:Ph)(h:Heap)(a:Addr)(ep:Nat)(l:List (List Nat×AV))(es:List DictEntry):Prop:=(h.MapOf (kk V ik) a (λk=>findBy (kk V ik).is es.toArray k))/\(g8 V ik J h l es)/\(h.get? a=some {cls:=.type "dict",data:=.dict es.toArray ep})/\(l.length<=az)/\((l.map (·.1)).Nodup)
section
variable {b1 b2 b3 b4 b5 b6 b7 b8}(x:g9 b1 b2 b3 b4 b5 b6 b7 b8)
def g9.mk:=jJ (g9 b1 b2 b3 b4 b5 b6 b7 b8) rfl
def g9.map:=x.1
def g9.all:=x.2.1
def g9.at_:=x.2.2.1
def g9.len:=x.2.2.2.1
def g9.nodup:=x.2.2.2.2
end
variable {p:Addr×Addr}{ep:Nat}{l:List (List Nat×AV)}{es:List DictEntry}
def gM.map(x:gM V ik J h p ep l es):p=(p.1,p.1)/\g9 V ik J h p.1 ep l es:=by have eq:=x.eq;obtain⟨a,b⟩:=p;dsimp only at eq;subst eq;exact⟨rfl,g9.mk ⟨_,es.toArray,ep,x.at_,⟨rfl,rfl,rfl⟩,rfl,Ah x.all,λO=>rfl⟩ x.all x.at_ x.len x.nodup⟩
variable {n:Nat}{r:Nat×List (List Nat×AV)}
def aR.dict(R:aR V J H h)(e:cM H n=some r)(hp:J[n]?=some p):p=(p.1,p.1)/\∃es,g9 V false J h p.1 r.1 r.2 es:=ue (R.at (YE e) hp) λes x=>⟨x.map.1,es,x.map.2⟩
def aR.idict(R:aR V J H h)(e:gT H n=some r)(hp:J[n]?=some p):p=(p.1,p.1)/\∃es,g9 V true J h p.1 r.1 r.2 es:=ue (R.at (Vx e) hp) λes x=>⟨x.map.1,es,x.map.2⟩
def aR.set(R:aR V J H h){l:List (List Nat)}(e:oh H n=some l)(hp:J[n]?=some p):p=(p.1,p.1)/\LH V h p.1 l:=by refine ua (R.at (Gi e) hp) λeq x=>?_;obtain⟨a,b⟩:=p;dsimp only at eq;subst eq;exact⟨rfl,x⟩
def Cc(k:List Nat):∀l:List (List Nat),(l.any λy=>V.tx y==V.tx k)=bw k l:=by
 intro l
 induction l with
 |nil=>exact rfl
 |cons y l ih=>rw[List.any_cons,Ft,ih];show _=(match au y k with|true=>true|false=>bw k l);cases au y k<;>rfl
structure dR(V:Cf):Prop where
 big:10<=V.h₀.objs.size
 WJ:∀k,V.gv k≠some .none
def SJ(R:aR V J H h)(e:J[n]?=some p)(C9:10<=V.h₀.objs.size):(p.2==sysModules)=false:=by exact beq_eq_false_iff_ne.mpr λq=>absurd (aH C9 (q▸R.above p (gx e))) (by decide)
def ug(R:aR V J H h)(e:J[n]?=some p)(hp:p=(p.1,p.1))(C9:10<=V.h₀.objs.size):(p.1==sysModules)=false:=by have:=SJ R e C9;rwa[congrArg Prod.snd hp] at this
noncomputable def uC:List (List Nat×AV)->List DictEntry->List (List Nat×Value)
 |[],_=>[]
 |p::l,es=>match es with
  |[]=>[]
  |e::es=>(p.1,e.val)::uC l es
theorem UL{h:Heap}:∀{l:List (List Nat×AV)} {es:List DictEntry},g8 V false J h l es->Pairs (kk V false) es (uC l es)/\(uC l es).map (·.1)=l.map (·.1)/\(uC l es).length=l.length:=by
 intro l
 induction l with
 |nil=>intro _ e;subst e;exact⟨.nil,rfl,rfl⟩
 |cons p l ih=>intro _ bN;refine bo bN λe r q z y=>?_;clear bN;subst q;refine yo (ih y) λa b c=>?_;exact⟨.cons z.key rfl a,congrArg (p.1::·) b,congrArg (·+1) c⟩
def qj(V:Cf)(J:Ph)(h:Heap)(x:List Nat)(w:AV)(o:Option (List Nat×Value))(v:Value):Prop:=(o=some (x,v))/\(VR V J h v w)/\(cY V x)
section
variable {b1 b2 b3 b4 b5 b6 b7}(x:qj b1 b2 b3 b4 b5 b6 b7)
def qj.mk:=jn (qj b1 b2 b3 b4 b5 b6 b7) rfl
def qj.get:=x.1
def qj.val:=x.2.1
def qj.ok:=x.2.2
end
theorem UM{h:Heap}:∀{l:List (List Nat×AV)} {es:List DictEntry},g8 V false J h l es->∀(i:Nat) (p:List Nat×AV),l[i]?=some p->∃v,qj V J h p.1 p.2 (uC l es)[i]? v:=by
 intro l
 induction l with
 |nil=>intro _ e i p h;exact nomatch h
 |cons p l ih=>
  intro _ bN i p' e';refine bo bN λe r q z y=>?_;clear bN;subst q;cases i with
  |zero=>obtain rfl:=sj e';exact⟨_,qj.mk rfl z.val z.ok⟩
  |succ i=>exact ih y i p' e'
def o3(V:Cf)(J:Ph)(h:Heap)(a:Addr)(ep:Nat)(l:List (List Nat×AV))(kvs:List (List Nat×Value)):Prop:=(h.DictAt (kk V false) a kvs ep)/\(kvs.length=l.length)/\(l.length<=az)/\(∀(i:Nat) (p:List Nat×AV),l[i]?=some p->∃v,qj V J h p.1 p.2 kvs[i]? v)
section
variable {b1 b2 b3 b4 b5 b6 b7}(x:o3 b1 b2 b3 b4 b5 b6 b7)
def o3.mk:=eM (o3 b1 b2 b3 b4 b5 b6 b7) rfl
def o3.at_:=x.1
def o3.len:=x.2.1
def o3.small:=x.2.2.1
def o3.get:=x.2.2.2
end
variable {a:Addr}
def g9.at(m:g9 V false J h a ep l es):o3 V J h a ep l (uC l es):=by refine yo (UL m.all) λh2 h3 h4=>?_;exact(o3.mk ⟨_,es.toArray,m.at_,⟨rfl,rfl,rfl⟩,rfl,Ah m.all,by simpa using h2,by rw[h3];exact m.nodup⟩ h4 m.len (UM m.all))
def aR.dictAt(R:aR V J H h)(e:Mine.cM H n=some r)(hp:J[n]?=some p):p=(p.1,p.1)/\∃kvs,o3 V J h p.1 r.1 r.2 kvs:=by refine gf (R.dict e hp) λpe es m=>?_;exact⟨pe,_,m.at⟩
theorem aa1{x:AV}{D:PyData}(hx:PD V x D):∀{l:List AV} {Ds:List PyData} {b:Bool},tB V l Ds->sQ x l=some b->(Ds.any λy=>PyData.eqv y D)=b:=by
 intro l
 induction l with
 |nil=>intro _ _ r e;subst r;obtain rfl:=sj e;rfl
 |cons y l ih=>intro _ _ bN e;refine bo bN λD' r q h1 h2=>?_;clear bN;subst q;refine ub e λb e1 e=>?_;refine um e λc e2 aa=>?_;subst aa;rw[List.any_cons,z8 h1 hx e1,ih h2 e2]
variable {vx vy:Value}{b:Bool}
def Vr(pre:aq V d q G J U H s){l:List AV}{items:List Value}(hx:VR V J s.heap vx x)(y:Ls V J s.heap vy l a items n)(e:aK (lE x 3&&fU l 3) (sQ x l)=some b):
  oP V G.A s (compareOp .In vx vy) b/\oP V G.A s (compareOp .NotIn vx vy) !b:=by
 refine ur e λh1 h2=>?_;refine us h1 λh1 h3=>?_;refine cb (uy 3 hx h1) λD as y1=>?_;refine cb (zu 3 y.all h3) λDs bs y2=>?_;have hv:=aa1 y1.pd y2.pd h2;have rc:Reads s.heap vy (.list Ds) (a::bs):=by rw[y.eq];exact .list y.at_ rfl rfl y2.rd
 have ru:G.A.units+1+min (PyData.depthAll Ds) D.depth<cLine:=cN (ib (aH (Nat.min_le_right ..) y1.deep) _) (Nb pre.room.units);exact⟨λQ E hq=>SeqAt.in_list_reads rc y1.rd y2.iE y1.iE ru (by rw[hv];exact hq _ (av.refl _)),λQ E hq=>SeqAt.notIn_list_reads rc y1.rd y2.iE y1.iE ru (by rw[hv];exact hq _ (av.refl _))⟩
def IF{k:List Nat}(hk:(kk V ik).is k vx=true)(hm:(a==sysModules)=false)(m:g9 V ik J s.heap a ep l es):
  oP V G.A s (compareOp .In vx (.ref a)) (bS k l)/\oP V G.A s (compareOp .NotIn vx (.ref a)) !(bS k l):=by
 have hf:(findBy (kk V ik).is es.toArray k).isSome=bS k l:=by unfold bS;rcases Ai k m.all with⟨a1,a2⟩|⟨v,val,a1,a2,_⟩<;>rw[a1,a2]<;>rfl
 exact⟨λQ E hq=>wpAny_in_of hk hm m.map (by rw[hf];exact hq _ (av.toks ..)),λQ E hq=>wpAny_notIn_of hk hm m.map (by rw[hf];exact hq _ (av.toks ..))⟩
def IE(pre:aq V d q G J U H s)(ok:dR V){y:AV}(hx:VR V J s.heap vx x)(hy:VR V J s.heap vy y)(e:iz x y H=some b):
  oP V G.A s (compareOp .In vx vy) b/\oP V G.A s (compareOp .NotIn vx vy) !b:=by
 unfold iz at e;cases hl:aP H y with
 |some l=>rw[hl] at e;refine eB (iK pre.rel hy hl) λa items n z=>?_;exact Vr pre hx z e
 |none=>
  rw[hl] at e;refine ub e λn h2 e=>?_;refine ak (ig hy h2) λp aa hp=>?_;subst aa;cases hi:gT H n with
  |some r=>rw[hi] at e;refine um e λk h1 aa=>?_;subst aa;refine gf (pre.rel.idict hi hp) λpe es m=>?_;exact IF (pj (ik:=true) hx h1).1 (ug pre.rel hp pe ok.big) m
  |none=>
   rw[hi] at e;refine ub e λk h1 e=>?_;cases hd:cM H n with
   |some r=>rw[hd] at e;obtain rfl:=sj e;refine gf (pre.rel.dict hd hp) λpe es m=>?_;exact IF (pj (ik:=false) hx h1).1 (ug pre.rel hp pe ok.big) m
   |none=>rw[hd] at e;refine um e λl h3 aa=>?_;subst aa;refine ak (qz hx h1) λt aa o=>?_;subst aa;have jO:=strKind_is V.prog V.w (V.tx k) t;refine ua (pre.rel.set h3 hp) λpe m=>?_;rw[<- Cc (V:=V)];exact⟨λQ E hq=>wpAny_inSet_of jO rfl m.set (hq _ (av.toks ..)),λQ E hq=>wpAny_notInSet_of jO rfl m.set (hq _ (av.toks ..))⟩
def A4(ok:dR V)(hx:VR V J h v x):(v==Value.none)=x.sA:=by
 cases x with
 |none=>subst hx;rfl
 |bool=>subst hx;rfl
 |int=>refine ue hx λO aa=>?_;clear hx;subst aa;rfl
 |str=>refine ak hx λO aa O=>?_;clear hx;subst aa;rfl
 |cj=>refine dJ hx λO O aa O=>?_;clear hx;subst aa;rfl
 |tup=>refine cJ hx λO O O aa O=>?_;clear hx;subst aa;rfl
 |lst=>refine cJ hx λO O O aa O=>?_;clear hx;subst aa;rfl
 |fq=>refine kY hx λO O O O aa O=>?_;clear hx;subst aa;rfl
 |ref=>refine dJ hx λO O aa O=>?_;clear hx;subst aa;rfl
 |glob=>cases v<;>first|rfl|exact absurd hx (ok.WJ _)
 |cK=>refine kY hx λO O O O aa O=>?_;clear hx;subst aa;rfl
 |vals=>refine cJ hx λO O O aa O=>?_;clear hx;subst aa;rfl
 |zip=>refine ak hx λO aa O=>?_;clear hx;subst aa;rfl
 |lL=>refine ak hx λO aa O=>?_;clear hx;subst aa;rfl
def Kn(pre:aq V d q G J U H s)(ok:dR V){op:CmpOp}{y:AV}(hx:VR V J s.heap vx x)(hy:VR V J s.heap vy y)(e:gF op x y H=some b):
  oP V G.A s (compareOp op vx vy) b:=by
 have Ir:∀{r:Bool},aK y.sA (some r)=some b->vy=.none/\r=b:=λe=>by refine ur e λh1 h2=>?_;obtain rfl:=sj h2;rw[<- A4 ok hy] at h1;exact⟨eq_of_beq h1,rfl⟩
 cases op with
 |Eq=>exact(J1 pre hx hy e).1
 |NotEq=>refine um e λc e' aa=>?_;subst aa;exact(J1 pre hx hy e').2
 |Lt=>exact TN pre hx hy e
 |Gt=>refine ub e λi h1 e=>?_;refine um e λj h2 aa=>?_;subst aa;refine ue (eT hx h1) λt aa=>?_;subst aa;refine ue (eT hy h2) λu aa=>?_;subst aa;rw[sG];exact λQ E hq=>P.gt_int (hq _ (av.refl _))
 |Is=>refine ua (Ir e) λaa sg=>?_;subst aa;subst sg;intro Q E hq;refine is_none ?_;rw[A4 ok hx];exact hq _ (av.refl _)
 |IsNot=>refine ua (Ir e) λaa sg=>?_;subst aa;subst sg;intro Q E hq;refine isNot_none ?_;rw[A4 ok hx];exact hq _ (av.refl _)
 |In=>exact(IE pre ok hx hy e).1
 |NotIn=>refine um e λc e' aa=>?_;subst aa;exact(IE pre ok hx hy e').2
 |_=>exact aT e
end
section
variable {V:Cf}{G:Fm}{J:Ph}{s:Shared}{U:aD}{H:Hp}{d:Nat}{q:Bool}
variable {k:Nat}
def NG{v:AV}{ρ':aD}{H':Hp}(h:mI k U H=.ok v ρ' H'):U[k]?=some (some v)/\ρ'=U/\H'=H:=by
 unfold mI at h;rw[bY] at h;cases e:U[k]? with
 |none=>rw[e] at h;cases h
 |some o=>cases o with
  |none=>rw[e] at h;cases h
  |some w=>rw[e] at h;cases h;exact⟨rfl,rfl,rfl⟩
def aj.res{α β:Type}{t:Sem α}{r:du β}{R:Ph->Heap->α->β->Prop}(h:∀v,r=.ok v U H->aj V G J s t (.ok v U H) R)(hr:r=.stuck\/∃v,r=.ok v U H):aj V G J s t r R:=by
 rcases hr with e|⟨v,e⟩
 ·rw[e];exact aj.stuck
 ·rw[e];exact h v e
def NF(k:Nat)(U:aD)(H:Hp):mI k U H=.stuck\/∃v,mI k U H=.ok v U H:=by
 unfold mI;cases ae U k with
 |none=>exact .inl rfl
 |some o=>cases o with
  |none=>exact .inl rfl
  |some v=>exact .inr ⟨v,rfl⟩
variable {x:Str}
def EX(pre:aq V d q G J U H s)(hx:G.K.sc.lookup x=some k)(hn:(x==("__classdict__":Str))=false):aj V G J s (loadName G.env x) (mI k U H) (VR V):=
 aj.res (λv e=>by
  have hv:=(NG e).1;rcases pre.er.yF x k hx with hk|hk
  ·refine ak pre.er.ns λm qW hm=>?_;refine ak (hm.val x k hx hk v hv) λval e r=>?_;exact aj.quiet pre λQ E h=>wpAny_loadName_local pre.er.kind (hm.kind x ⟨k,hx⟩ hk) qW e (h _ _ (av.refl _) r)
  ·refine cb (pre.er.ny x k hx hk) λc ov w=>?_;refine ak (w.val v hv) λval aa r=>?_;subst aa;rcases w.kind with h2|h2
   ·exact aj.quiet pre λQ E h=>wpAny_loadName_cell pre.er.kind h2 w.look w.cell (h _ _ (av.refl _) r)
   ·exact aj.quiet pre λQ E h=>wpAny_loadName_free pre.er.kind h2 w.look w.cell (h _ _ (av.refl _) r) hn) (NF k U H)
def Js(V:Cf)(k:Nat)(v:Value)(e:GE):Prop:=match e with
 |.cv c=>∀J h,VR V J h v c
 |_=>V.gv k=some v
def rF(V:Cf)(k:Nat)(mg mb:Str->Option Value)(x:Str)(v:Value):Prop:=(mg x=some v\/(mg x=none/\mb x=some v))/\(∀e,V.P.gt[k]?=some e->Js V k v e)
section
variable {b1 b2 b3 b4 b5 b6}(x:rF b1 b2 b3 b4 b5 b6)
def rF.mk:=iu (rF b1 b2 b3 b4 b5 b6) rfl
def rF.val:=x.1
def rF.is:=x.2
end
structure AF(V:Cf):Prop where
 g:∃mg mb,V.h₀.Ns mainGlobals mg/\V.h₀.Ns builtinsNs mb/\∀(k:Nat) (x:Str),V.gl[k]?=some x->∃v,rF V k mg mb x v
def T6{M:Model}{A:Around}{env:Env}{E:Value->Shared->Prop}{Q:Value->Shared->Prop}{v:Value}{mg mb:Str->Option Value}(hk:env.scope.kind=.function)(hx:env.kindOf x=some .globalImplicit)
  (hg:s.heap.Ns env.globals mg) (hb:s.heap.Ns env.builtins mb) (hv:mg x=some v\/(mg x=none/\mb x=some v)) (h:Q v s):wpAny M A (loadName env x) Q E s:=by
 unfold loadName Env.blockKind;rw[hk,hx];show wpAny M A (loadGlobal env x) Q E s;unfold loadGlobal;refine ag (wpAny_nsGet hg ?_);rcases hv with e|⟨e,e'⟩
 ·rw[e];exact aA h
 ·rw[e];refine ag (wpAny_nsGet hb ?_);rw[e'];exact aA h
def Jv(pre:aq V d q G J U H s)(xw:AF V)(hx:G.K.kn.lookup x=some .globalImplicit)(hg:V.gl[k]?=some x):
  ∃v,(∀e,V.P.gt[k]?=some e->Js V k v e)/\∀Q E,Q v s->∀A,wpAny (model V.prog V.w) A (loadName G.env x) Q E s:=by
 refine bo xw.g λmg mb n1 n2 xq=>?_;refine ue (xq k x hg) λv r=>?_;exact⟨v,r.is,λQ E h A=>T6 pre.er.kind (pre.er.zW x hx) (by rw[pre.er.ra];exact n1.keeps pre.rel.keep) (by rw[pre.er.rA];exact n2.keeps pre.rel.keep) r.val h⟩
def WO(pre:aq V d q G J U H s)(xw:AF V)(hx:G.K.kn.lookup x=some .globalImplicit)(hg:V.gl[k]?=some x):
  aj V G J s (loadName G.env x) (xy V.P k U H) (VR V):=by
 refine ak (Jv pre xw hx hg) λv hv hl=>?_;unfold xy;rw[bY];cases e:V.P.gt[k]? with
 |none=>exact aj.stuck
 |some g=>
  have:=hv g e;cases g with
  |cv c=>exact aj.quiet pre λQ E h=>hl _ _ (h _ _ (av.refl _) (this _ _)) _
  |_=>exact aj.quiet pre λQ E h=>hl _ _ (h _ _ (av.refl _) this) _
section
variable {h h':Heap}{L:Addr}
variable {X:List Addr}
def wq(hs:Heap.SameBut L h h')(hL:L∈X)(J:Ph):cG X J h h':=⟨λa o e O hx=>.inl ((hs.2 a λq=>hx (q▸hL)).trans e)⟩
def aR.own(R:aR V J H h)(hX:cW X h)(hs:Heap.SameBut L h h')(hL:L∈X)(ha:V.h₀.objs.size<=L)(hφ:L∉J.map (·.2)):aR V J H h':=R.mono (wq hs hL J) hX (λa o e=>(hs.2 a λq=>absurd (cZ e) (hJ.mpr (q▸ha))).trans (R.keep a o e)) λp hp=>hs.2 _ λq=>hφ (q▸mB hp)
def cW.put(hX:cW X h)(hs:Heap.SameBut L h h')(hL:∃o,h'.get? L=some o/\oQ o):cW X h':=λa ha=>by
 by_cases q:a=L
 ·rw[q];exact hL
 ·refine ak (hX a ha) λo e k=>?_;exact⟨o,(hs.2 a q).trans e,k⟩
def bP.own(R:bP V G J U h){ρ':aD}(hs:Heap.SameBut L h h')(hL:∃o,h'.get? L=some o/\oQ o)(n:∃m,h'.Ns G.env.locals m/\jX V G J ρ' h' m)
  (c:∀(x:Str) (k:Nat),G.K.sc.lookup x=some k->(G.K.kn.lookup x=some .cell\/G.K.kn.lookup x=some .free)->∃c ov,fQ V G J ρ' h' x k c ov):bP V G J ρ' h':=
 (bP.mk R.kind R.ra R.rA (R.fC.put hs hL) R.rT R.qw R.kq R.zW n c R.apart R.inj R.yF)
def dn.own(F:dn V G J h)(hs:Heap.SameBut L h h')(hd:∀o,h.get? L=some o->iy o->∃o',h'.get? L=some o'/\iy o'):dn V G J h':=
 F.keep (Gr.refl ..) λa o O e w=>by
  by_cases q:a=L
  ·subst q;exact hd o e w
  ·exact⟨o,(hs.2 a q).trans e,w⟩
def Ge{k:Nat}{a:AV}{dd:AV}(h:(U.set k (some a))[k]?=some (some dd)):dd=a:=by
 by_cases hl:k<U.length
 ·rw[rN hl] at h;cases h;rfl
 ·rw[List.getElem?_eq_none (by simpa using hl)] at h;exact aT h
def bP.putL(R:bP V G J U h){x:Str}{k:Nat}{v:Value}{a:AV}{m:Str->Option Value}(hx:G.K.sc.lookup x=some k)(hk:G.K.kn.lookup x=some .local)(hm:jX V G J U h m)
  (hn:h'.Ns G.env.locals (λy=>if y=x then some v else m y)) (hs:Heap.SameBut G.env.locals h h') (hv:VR V J h v a):bP V G J (U.set k (some a)) h':=by
 have mono:∀{v:Value} {d:AV},VR V J h v d->VR V J h' v d:=λr=>r.mono (wq hs R.kq J) R.fC (Gr.refl ..);refine lj (id hn) λo es ep ho hd O=>?_;refine R.own hs ⟨o,ho,.inl ⟨es,ep,hd⟩⟩ ⟨_,hn,jX.mk hm.kind (λy j hy nq d hd=>?_)⟩ λy j hy nq=>?_
 ·by_cases e:y=x
  ·subst e;rw[hx] at hy;obtain rfl:=sj hy;cases Ge hd;exact⟨v,if_pos rfl,mono hv⟩
  ·rw[nY (show k≠j from λq=>e (R.inj y x k (q▸hy) hx))] at hd;refine ak (hm.val y j hy nq d hd) λv' e' r=>?_;exact⟨v',(if_neg e).trans e',mono r⟩
 ·refine cb (R.ny y j hy nq) λc ov w=>?_;refine ak w.cell λoc eo hc=>?_;refine⟨c,ov,fQ.mk w.look w.kind ⟨oc,(hs.2 c w.loc).trans eo,hc⟩ w.loc w.out w.low w.own (λd hd=>?_)⟩;rw[nY (λq=>by have:y=x:=R.inj y x k (q▸hy) hx;subst this;rw[hk] at nq;rcases nq with z|z<;>cases z)] at hd
  refine ak (w.val d hd) λv' e' r=>?_;exact⟨v',e',mono r⟩
def bP.yR(R:bP V G J U h){x:Str}{k:Nat}{v:Value}{a:AV}{c:Addr}{ov:Option Value}(hx:G.K.sc.lookup x=some k)(hk:G.K.kn.lookup x=some .cell)(w:fQ V G J U h x k c ov)
  (hn:h'.IsCell c (some v)) (hs:Heap.SameBut c h h') (hv:VR V J h v a):bP V G J (U.set k (some a)) h':=by
 have mono:∀{v:Value} {d:AV},VR V J h v d->VR V J h' v d:=λr=>r.mono (wq hs (w.own hk).1 J) R.fC (Gr.refl ..);refine ak R.ns λm hm hl=>?_;refine ak (id hn) λo ho hd=>?_;refine R.own hs ⟨o,ho,.inr (.inl ⟨_,hd⟩)⟩ ⟨m,hm.sameBut hs (cP w.loc),jX.mk hl.kind (λy j hy nq d hd=>?_)⟩ λy j hy nq=>?_
 ·rw[nY (λq=>by have:y=x:=R.inj y x k (q▸hy) hx;subst this;rw[hk] at nq;cases nq)] at hd
  refine ak (hl.val y j hy nq d hd) λv' e' r=>?_;exact⟨v',e',mono r⟩
 ·by_cases e:y=x
  ·subst e;rw[hx] at hy;obtain rfl:=sj hy;refine⟨c,some v,fQ.mk w.look w.kind hn w.loc w.out w.low w.own (λd hd=>?_)⟩;cases Ge hd;exact⟨v,rfl,mono hv⟩
  ·refine cb (R.ny y j hy nq) λc' R5 w'=>?_;refine ak w'.cell λoc eo hc=>?_;refine⟨c',R5,fQ.mk w'.look w'.kind ⟨oc,(hs.2 c' (λq=>e (R.apart y x c (q▸w'.look) w.look):c'≠c)).trans eo,hc⟩ w'.loc w'.out w'.low w'.own (λd hd=>?_)⟩;rw[nY (show k≠j from λq=>e (R.inj y x k (q▸hy) hx))] at hd;refine ak (w'.val d hd) λv' e' r=>?_;exact⟨v',e',mono r⟩
end
def FJ(pre:aq V d q G J U H s){v:Value}{a:AV}(hx:G.K.sc.lookup x=some k)(hk:G.K.kn.lookup x=some .local\/G.K.kn.lookup x=some .cell)(hv:VR V J s.heap v a):
  aj V G J s (storeName G.env x v) (lx k a U H) (λO O O O=>True):=by
 unfold lx;cases hl:Nat.blt k U.length with
 |false=>exact aj.stuck
 |true=>
  show aj V G J s _ (.ok () (ai U (some a) k) H) _;rw[mK];intro _;have R:=pre.er;rcases hk with hk|hk
  ·refine ak R.ns λm qW hm=>?_;refine wpAny_storeName_local (hm.kind x ⟨k,hx⟩ hk) qW (λh' dP hs=>?_) (by rw[R.kind];rfl:(G.env.scope.kind==.class||(G.env.scope.kind==.module&&G.env.locals != G.env.globals))=false);refine lj (id dP) λo es ep ho hd O=>?_;exact⟨(),_,H,J,rfl,(dp.mk (Nx.mk (wq hs R.kq J) (Gr.refl ..) rfl rfl (wo hs ⟨o,ho⟩)) (pre.rel.own R.fC hs R.kq (R.rT _ R.kq) (R.qw _ R.kq)) (R.putL hx hk hm dP hs hv) (pre.fr.own hs λO O O=>⟨o,ho,es,ep,hd⟩)),trivial⟩
  ·refine cb (R.ny x k hx (.inl hk)) λc ov w=>?_;refine ua (w.own hk) λh7 Wz=>?_;refine wpAny_storeName_cell R.kind Wz w.look w.cell λh' dP hs=>?_;refine ak w.cell λoc ec hc=>?_;exact⟨(),_,H,J,rfl,(dp.mk (Nx.mk (wq hs h7 J) (Gr.refl ..) rfl rfl (wo hs (ak dP λo e O=>⟨o,e⟩))) (pre.rel.own R.fC hs h7 w.low w.out) (R.yR hx hk w dP hs hv) (pre.fr.own hs λo e bN=>cb bN λes n hd=>by rw[ec] at e;obtain rfl:=sj e;rw[hc] at hd;cases hd)),trivial⟩
end
section
variable {V:Cf}{G:Fm}{J:Ph}{s:Shared}{U:aD}{H:Hp}{d:Nat}{q:Bool}
noncomputable def qS:Expr->Bool
 |.Slice ..=>true
 |_=>false
variable {slice:Expr}
def yr(h:qS slice=false)(o i:Value):subscripted slice false o i=operate [o,i] (getItem o i):=by cases slice<;>first|rfl|exact absurd h.symm kO
variable {lo hi:Option Expr}
def Be{p:Pos}(o i:Value):subscripted (.Slice lo hi none p) false o i=operate [i,o] (getItem o i):=rfl
structure Ix{α:Type}(i:Int)(l:List α)(v:α)(j:Nat):Prop where
 seq:seqIndex? i l.length=some j
 lo:-(2^63)<=i
 hi:i<2^63
 get:l[j]?=some v
variable {n:Nat}
def Gk{m:Nat}(h:m<n):seqIndex? (m:Int) n=some m:=by
 unfold seqIndex?;have e:(if(m:Int)<0 then(m:Int)+(n:Int) else(m:Int))=(m:Int):=if_neg (Int.not_lt.mpr (j8 m));dsimp only;rw[e,decide_eq_true (j8 m),decide_eq_true (n7.mpr h)]
 rfl
def PF{m:Nat}(h:m<n):seqIndex? (Int.negSucc m) n=some (n-(m+1)):=by have e1:Int.negSucc m+(n:Int)=((n-(m+1):Nat):Int):=Int.subNatNat_of_le h;have e:=Gk (m:=n-(m+1)) (n:=n) (Nat.sub_lt (cN (kU m) h) (mE m));unfold seqIndex? at e⊢;dsimp only at e⊢;rw[if_neg (Int.not_lt.mpr (j8 _))] at e;rw[if_pos (rJ m),e1];exact e
variable {α:Type}
def CI{i:Int}{l:List α}{v:α}(h:jo i l=some v)(hn:l.length<=az):∃j,Ix i l v j:=by
 cases i with
 |ofNat m=>have h:ae l m=some v:=h;rw[bY] at h;have k:=(je.mp h).1;exact⟨m,Gk k,Int.le_trans (Int.neg_nonpos_of_nonneg (Int.pow_nonneg (by decide))) (j8 m),uW (aH (bG k) hn),h⟩
 |negSucc m=>refine ur h λh1 h2=>?_;rw[bY] at h2;have h1:=bf.mp h1;exact⟨_,PF h1,by rw[Int.negSucc_eq];exact Int.neg_le_neg (Int.le_of_lt (uW (n:=m+1) (aH h1 hn))),Int.lt_of_lt_of_le (rJ m) (Int.pow_nonneg (by decide)),h2⟩
variable {value:Expr}{vo:Value}{l:List AV}{a:Addr}{items:List Value}
def Io(hs:qS slice=false){i:Int}{t:Tok}{v:AV}(x:Ls V J s.heap vo l a items n)(hi:jo i l=some v):
  fG V G J s (subscriptTail value slice vo (.int i t)) v:=by
 intro Q E h;refine ue (CI hi x.len) λj ix=>?_;refine ak (x.all.get ix.get) λw hw rw=>?_;rw[x.eq];refine tail_any x.at_.isList.typeIs slot_list_getitem.lookup ?_ (yr hs _ _);have sz:items.toArray.size=l.length:=by rw[fb,x.all.length]
 have he:=ix.seq;unfold seqIndex? at he;dsimp only at he;have zD:items.toArray[j]?=some w:=by simpa using hw
 by_cases h0:i<0
 ·rw[if_pos h0] at he
  set_option tactic.hygienic true in split at he
  ·rename_i hc;obtain rfl:=sj he;simp only[Bool.and_eq_true,decide_eq_true_iff] at hc;exact wpAny_getItem_list_neg x.at_.isList h0 (by rw[sz];exact Int.le_of_sub_nonneg (by rw[Int.sub_neg];exact hc.1)) ix.lo (by rw[sz];exact zD) (h w _ (av.refl _) rw)
  ·exact aT he
 ·rw[if_neg h0] at he;split at he
  ·obtain rfl:=sj he;exact wpAny_getItem_list x.at_.isList (Int.not_lt.mp h0) ix.hi zD (h w _ (av.refl _) rw)
  ·exact aT he
def U8(hs:qS slice=false){i:Int}{t:Tok}{v:AV}(x:Sq J a l (IsT s.heap a items.toArray n) (aO V J s.heap items l))(hi:jo i l=some v):
  fG V G J s (subscriptTail value slice (.ref a) (.int i t)) v:=by
 intro Q E h;refine ue (CI hi x.len) λj ix=>?_;refine ak (x.all.get ix.get) λw hw rw=>?_;exact tail_any (T:="tuple") ⟨_,x.at_,rfl⟩ F.slot_tuple_getitem.lookup (P.getItem_tuple x.at_ ix.lo ix.hi (by rw[fb,x.all.length];exact ix.seq) (by rw[qs];exact hw) (h w _ (av.refl _) rw)) (yr hs _ _)
def Im(hs:qS slice=false){ik:Bool}{vi:Value}{k:List Nat}{ep:Nat}{l:List (List Nat×AV)}{es:List DictEntry}{v:AV}(m:g9 V ik J s.heap a ep l es)(hk:(kk V ik).is k vi=true)(e:bT k l=some v):
  fG V G J s (subscriptTail value slice (.ref a) vi) v:=by
 intro Q E h;rcases Ai k m.all with⟨a1,_⟩|⟨w,val,a1,a2,a3⟩
 ·rw[a1] at e;exact aT e
 ·rw[a1] at e;obtain rfl:=sj e;exact tail_any m.map.typeIs slot_dict_getitem.lookup (wpAny_getItem_of hk m.map a2 (h _ _ (av.toks ..) a3)) (yr hs _ _)
def OB(pre:aq V d q G J U H s)(hs:qS slice=false){vi:Value}{o i:AV}(ho:VR V J s.heap vo o)(hi:VR V J s.heap vi i):
  aj V G J s (subscriptTail value slice vo vi) (bX (jh o i) U H) (VR V):=aj.opt pre λv e Q E h=>by
 cases o with
 |str l=>
  refine ub e λk h1 e=>?_;refine um e λc h3 aa=>?_;subst aa;refine ue (eT hi h1) λt aa=>?_;subst aa;refine ak ho λu aa o=>?_;clear ho;subst aa;refine ue (CI h3 o.len) λj ix=>?_;refine tail_any (typeIs_str _ _ _) slot_str_getitem.lookup (P.getItem_str ?_ (c:=65+c) ?_ (h _ _ (av.toks ..) (.str (.one (o.sign c (gx ix.get)))))) (yr hs _ _)
  ·rw[decide_eq_false (Int.not_lt.mpr ix.lo),decide_eq_false (Int.not_le.mpr ix.hi)];rfl
  ·show(seqIndex? _ (V.enc l).toArray.size).bind _=_;rw[fb,rt,ix.seq];show(V.enc l).toArray[j]?=_;rw[qs];unfold Cf.enc;rw[hZ,ix.get]
   rfl
 |lst l=>refine ub e λk h1 e=>?_;refine ue (eT hi h1) λt aa=>?_;subst aa;refine eB (iK (x:=.lst l) pre.rel ho rfl) λa items n x=>?_;exact Io hs x e Q E h
 |tup l=>refine ub e λk h1 e=>?_;refine ue (eT hi h1) λt aa=>?_;subst aa;refine cJ ho λa items n aa x=>?_;clear ho;subst aa;exact U8 hs x e Q E h
 |ref n=>
  have e:(match bq H n with
   |some l=>(i.int?).bind λk=>jo k l
   |none=>match gT H n with
    |some r=>(wY i).bind λk=>bT k r.2
    |none=>(cM H n).bind λr=>(i.ip).bind λk=>bT k r.2)=some v:=e
  refine ak (ig ho rfl) λp aa hp=>?_;subst aa;cases hl:bq H n with
  |some l=>rw[hl] at e;refine ub e λk h1 e=>?_;refine ue (eT hi h1) λt aa=>?_;subst aa;refine lp (pre.rel.list hl hp) λO items n x=>?_;exact Io hs x e Q E h
  |none=>
   rw[hl] at e;cases uO:gT H n with
   |some r=>rw[uO] at e;refine ub e λk h2 e=>?_;refine gf (pre.rel.idict uO hp) λO es m=>?_;exact Im (ik:=true) hs m (pj (ik:=true) hi h2).1 e Q E h
   |none=>rw[uO] at e;refine ub e λr h1 e=>?_;refine ub e λk h2 e=>?_;refine gf (pre.rel.dict h1 hp) λO es m=>?_;exact Im (ik:=false) hs m (pj (ik:=false) hi h2).1 e Q E h
 |_=>exact aT e
def Tw(x:Int)(n:Nat):(max 0 (min x (n:Int))).toNat=min x.toNat n:=by
 cases x with
 |ofNat k=>
  show(max 0 (min (k:Int) (n:Int))).toNat=min k n;rcases Nat.le_total k n with h|h
  ·rw[Int.min_eq_left (n6.mpr h)];exact(Nat.min_eq_left h).symm▸congrArg Int.toNat (Int.max_eq_right (j8 k))
  ·rw[Int.min_eq_right (n6.mpr h)];exact(Nat.min_eq_right h).symm▸congrArg Int.toNat (Int.max_eq_right (j8 n))
 |negSucc k=>rw[Int.min_eq_left (Int.le_of_lt (Int.lt_of_lt_of_le (rJ k) (j8 _))),Int.max_eq_left (Int.le_of_lt (rJ k))];exact(Nat.zero_min n).symm
def DN(n:Nat)(i:Int):clipAt n i=min (vk n i) n:=by
 unfold clipAt;rw[Tw];cases i with
 |ofNat k=>rfl
 |negSucc k=>rw[if_pos (rJ k)];show min (Int.subNatNat n (k+1)).toNat n=min (n-(k+1)) n;rw[Int.subNatNat_eq_coe,Int.toNat_sub]
def YZ(n:Nat)(i:Int):clipAt n i<=n:=DN n i▸Nat.min_le_right ..
def Yr{m:List α}(a n:Nat)(h:m.length<=n):m.drop (min a n)=m.drop a:=by
 rcases Nat.le_total a n with k|k
 ·rw[Nat.min_eq_left k]
 ·rw[Nat.min_eq_right k,List.drop_eq_nil_of_le h,List.drop_eq_nil_of_le (aH h k)]
def Aj(l:List α)(lo hi:Option Int):List.take (hi.elim l.length (clipAt l.length)-lo.elim 0 (clipAt l.length)) (List.drop (lo.elim 0 (clipAt l.length)) l)=dq lo hi l:=by
 rw[<- List.drop_take];have e:∀m:List α,m.length<=l.length->m.drop (lo.elim 0 (clipAt l.length))=match lo with|none=>m|some i=>m.drop (vk l.length i):=λm h=>by
  cases lo with
  |none=>rfl
  |some a=>show m.drop (clipAt _ a)=_;rw[DN];exact Yr _ _ h
 rw[e _ (List.length_take_le' ..)];cases hi with
 |none=>show(match lo with|none=>l.take l.length|some i=>(l.take l.length).drop (vk l.length i))=_;rw[List.take_length];rfl
 |some b=>show(match lo with|none=>l.take (clipAt _ b)|some i=>(l.take (clipAt _ b)).drop (vk l.length i))=_;rw[DN,<- List.take_eq_take_min];rfl
def uc{h:Heap}{v:Value}{x:AV}{b:Option Int}(hv:VR V J h v x)(e:qe x=some b):IsPart v b/\∃pv:Option (Int×Tok),v=partValue pv/\b=pv.map (·.1):=by
 have num:∀e:((x.int?).bind λi=>aK (Nat.ble i.natAbs az) (some (some i)))=some b,IsPart v b/\∃pv:Option (Int×Tok),v=partValue pv/\b=pv.map (·.1):=λe=>by refine ub e λi h1 e=>?_;refine ur e λO e=>?_;obtain rfl:=sj e;refine ue (eT hv h1) λt aa=>?_;subst aa;exact⟨.int _ _,some (_,t),rfl,rfl⟩
 cases x with
 |none=>subst hv;obtain rfl:=sj e;exact⟨.none,none,rfl,rfl⟩
 |_=>exact num e
def xJ(a b:Option Int)(l:List α):(dq a b l).length<=l.length/\∀c∈dq a b l,c∈l:=by
 unfold dq;cases a<;>cases b<;>dsimp only
 ·exact⟨aQ _,λO h=>h⟩
 ·exact⟨by rw[List.length_take];exact Nat.min_le_right ..,λc h=>List.mem_of_mem_take h⟩
 ·exact⟨by rw[qo];exact Nat.sub_le ..,λc h=>List.mem_of_mem_drop h⟩
 ·exact⟨by rw[qo,List.length_take];exact aH (Nat.sub_le ..) (Nat.min_le_right ..),λc h=>List.mem_of_mem_take (List.mem_of_mem_drop h)⟩
def YJ(a b:Option Int)(l:List α):(dq a b l).Sublist l:=by
 unfold dq;cases a<;>cases b
 ·exact .refl _
 ·exact List.take_sublist ..
 ·exact List.drop_sublist ..
 ·exact(List.drop_sublist ..).trans (List.take_sublist ..)
def Ak{β:Type}(f:α->β)(a b:Option Int)(l:List α):dq a b (l.map f)=(dq a b l).map f:=by unfold dq;cases a<;>cases b<;>simp only[aC,List.map_take,List.map_drop]
def aO.cut{h:Heap}{vs:List Value}(r:aO V J h vs l)(a b:Option Int):aO V J h (dq a b vs) (dq a b l):=by have e:=r.length;unfold dq;rw[e];cases b<;>cases a<;>first|exact r|exact r.drop _|exact r.take _|exact(r.take _).drop _
noncomputable def wg(s:Shared)(vl vu:Value):Shared:={s with heap:=s.heap.push {cls:=.type "slice",data:=.fields #[vl,vu,.none]}}
def Pd{prog:Program}{w:World}{A:Around}{s1:Shared}{sa:Addr}{xs:List Nat}{t:Tok}{vl vu:Value}{a b:Option Int}(ok:cY V xs)(xa:s1.heap.IsSliceOf sa vl vu .none)(hl:∃pv:Option (Int×Tok),vl=partValue pv/\a=pv.map (·.1))(hu:∃pv:Option (Int×Tok),vu=partValue pv/\b=pv.map (·.1)){Q:Value->Shared->Prop}{E:Value->Shared->Prop}
  (h:∀v s',av s1 s'->VR V J s'.heap v (.str (dq a b xs))->Q v s'):wpAny (model prog w) A (getItem (.str (V.tx xs) t) (.ref sa)) Q E s1:=by
 refine ak hl λpl aa el=>?_;clear hl;subst aa;refine ak hu λpu aa eu=>?_;clear hu;subst aa;have Vc:s1.heap.IsSlice sa pl pu none:=xa;have len:(V.tx xs).cps.size=(V.enc xs).length:=fb;have IV:slicePicked (V.tx xs) pl pu none=(List.range (b.elim (V.enc xs).length (clipAt (V.enc xs).length)-a.elim 0 (clipAt (V.enc xs).length))).map (a.elim 0 (clipAt (V.enc xs).length)+·):=by
  rw[<- sliceRange_one];show Builtin.Str.strSliceIndices _ _ 1 (V.tx xs).cps.size=_;rw[len];have:=sliceBounds_plain (pl.map (·.1)) (pu.map (·.1)) (V.enc xs).length;rw[<- el,<- eu] at this;unfold sliceBounds at this;unfold Builtin.Str.strSliceIndices;simp -iota only[Option.getD_none,Prod.mk.injEq] at this;rw[<- this.1,<- this.2.1,el,eu]
  rfl
 have zP:(slicePicked (V.tx xs) pl pu none).filterMap ((V.tx xs).cps[·]?)=V.enc (dq a b xs):=by rw[IV];show List.filterMap (λx=>(V.enc xs).toArray[x]?) _=_;rw[pick_run];exact(Aj (V.enc xs) a b).trans (Ak ..)
 have wD:cY V (dq a b xs):=(cY.mk (aH (xJ ..).1 ok.len) (λc hc=>ok.sign c ((xJ ..).2 c hc)));refine wpAny_getItem_str_slice Vc (by decide) ?_;unfold sliceMade
 set_option tactic.hygienic true in split
 ·rename_i hw;simp only[Option.map_none,Option.getD_none,Bool.and_eq_true,beq_iff_eq] at hw;have e:=congrArg List.length ((Aj (V.enc xs) a b).trans (Ak _ a b xs));rw[List.length_take,qo,aC] at e;have h2:(slicePicked (V.tx xs) pl pu none).length=(dq a b xs).length:=by
   rw[IV,aC,List.length_range,<- e];refine(Nat.min_eq_left ?_).symm;cases hb:b with
   |none=>exact aQ _
   |some k=>exact Nat.sub_le_sub_right (YZ ..) _
  have h3:(dq a b xs).length=xs.length:=by
   rw[<- h2];have:(slicePicked (V.tx xs) pl pu none).length=(V.tx xs).length:=by first|exact hw.2|exact hw.1
   rw[this];show(V.enc xs).toArray.size=_;rw[fb,rt]
  have C7:dq a b xs=xs:=(YJ a b xs).eq_of_length h3;rw[C7] at h;exact h _ _ (av.refl _) (.str ok)
 ·rw[zP];refine⟨?_,h _ _ (av.toks ..) (.str wD)⟩;show(V.enc (dq a b xs)).toArray.size<=sizeLine;rw[fb,rt];exact iN wD.len
def Pe(pre:aq V d q G J U H s){p:Pos}{vl vu:Value}{o l u:AV}(ho:VR V J s.heap vo o)(hl:VR V J s.heap vl l)(hu:VR V J s.heap vu u):
  TT V G J s (λQ E=>wpAny (model V.prog V.w) G.A (subscriptTail value (.Slice lo hi none p) vo (.ref s.heap.objs.size)) Q E (wg s vl vu)) (bX (mP o l u) U H) (VR V):=by
 have g0:av s (wg s vl vu):=av.push s _ s.toks;have BO:=pre.grow g0;have xa:(wg s vl vu).heap.IsSliceOf s.heap.objs.size vl vu .none:=Heap.IsSliceOf.new ..;have ho:=g0.vr ho;have hl:=g0.vr hl;have hu:=g0.vr hu;refine TT.imp (W:=λQ E=>wpAny (model V.prog V.w) G.A (subscriptTail value (.Slice lo hi none p) vo (.ref s.heap.objs.size)) Q E (wg s vl vu)) (λO O h=>h) (TT.last (g0.nx G.X J) ?_);generalize wg s vl vu=s1 at *;refine aj.opt BO λv e Q E h=>?_;have lists:∀e:((aP H o).bind λm=>(qe l).bind λa=>(qe u).map λb=>.lst (dq a b m))=some v,wpAny (model V.prog V.w) G.A (subscriptTail value (.Slice lo hi none p) vo (.ref s.heap.objs.size)) Q E s1:=λe=>by refine ub e λm h1 e=>?_;refine ub e λa h2 e=>?_;refine um e λb h3 aa=>?_;subst aa;refine eB (iK BO.rel ho h1) λad items n x=>?_;rw[x.eq];refine tail_any x.at_.isList.typeIs slot_list_getitem.lookup (wpAny_getItem_list_slice x.at_.isList xa (uc hl h2).1 (uc hu h3).1 .none (by simp) (h _ _ (av.push s1 _ s1.toks) ?_) (iN x.small)) (Be _ _);refine B3 BO.rel (n:=0) (items:=dq a b items) (av.push s1 _ s1.toks) ?_ (x.all.cut a b) (aH (xJ ..).1 x.len);rw[slicePick_plain,fb,Aj];exact IsL.new ..
 cases o with
 |cj m=>
  refine ub e λa h2 e=>?_;refine um e λb h3 aa=>?_;subst aa;refine bo ho λbs t aa z ok=>?_;clear ho;subst aa;have zP:(KBy.picked bs a b).toList.map UInt8.toNat=V.enc (dq a b m):=by rw[KBc.picked_eq];have:=Aj bs.toList a b;rw[kP] at this;show(List.take _ _).map _=_;refine(congrArg (List.map UInt8.toNat) this).trans ?_;rw[<- Ak,z];exact Ak ..
  have wD:cY V (dq a b m):=(cY.mk (aH (xJ ..).1 ok.len) (λc hc=>ok.sign c ((xJ ..).2 c hc)));refine tail_any (typeIs_bytes _ _ _) FB.slot_bytes_getitem.lookup (getItem_meets (typeIs_bytes _ _ _) (by decide) FB.slot_bytes_getitem FB.entry_bytes_getitem (FB.args_bytes_getitem_2 _ _) (KBc.meets_slice2 bs t _ (uc hl h2).1 (uc hu h3).1)
   ⟨xa,?_,λt' k'=>h _ _ (av.toks s1 k') ⟨_,_,rfl,zP,wD⟩⟩) (Be _ _)
  rw[D3 zP];exact iN wD.len
 |str xs=>refine ub e λa h2 e=>?_;refine um e λb h3 aa=>?_;subst aa;refine ak ho λt aa ok=>?_;clear ho;subst aa;exact tail_any (typeIs_str _ _ _) slot_str_getitem.lookup (Pd ok xa (uc hl h2).2 (uc hu h3).2 h) (Be _ _)
 |_=>exact lists e
end
section
variable {V:Cf}{G:Fm}{J:Ph}{s:Shared}{U:aD}{H:Hp}{d:Nat}{q:Bool}
variable {a:Addr}{items:List Value}
def yk{k:Nat}{f:Array Value->Array Value}{items':List Value}(e:IsL s.heap a items.toArray k)(hf:f items.toArray=items'.toArray):
  ∃k',IsL (s.heap.update a (Obj.mapSeq f)) a items'.toArray k':=⟨_,by have:=IsL.update e f;rwa[hf] at this⟩
variable {Q:Unit->Shared->Prop}{E:Value->Shared->Prop}
def Pt{A:Around}{n:Nat}{k:Int}{t:Tok}{v:Value}(h1:IsL s.heap a items.toArray n)(h0:0<=k)(zO:k<2^63)(hn:k<items.length)
  (h:Q () {s with heap:=s.heap.update a (Obj.mapSeq (·.setIfInBounds k.toNat v))}):wpAny (model V.prog V.w) A (setItem (.ref a) (.int k t) v) Q E s:=by
 have hl:=h1.isList;unfold setItem
 try with_reducible refine cI ?_
 refine ag (wpAny_sequenceKey hl.typeIs (by decide) ?_);refine ag (tI (name:=Str.ofString "__setitem__") hl.typeIs slot_list_setitem
  (mA slot_list_setitem hl.typeIs entry_list_setitem ?_ (args_list_setitem _ _ _)))
 show wpAny _ _ (Builtin.List.listSubscript? (.int k t)>>=_) _ _ s;refine ag (wpAny_listSubscript_int (fitsIndex_of h0 zO) ?_);clear zO;refine ue (Int.eq_ofNat_of_zero_le h0) λj aa=>?_;subst aa;have hj:j<items.toArray.size:=by rw[fb];exact n7.mp hn
 have VE:items.toArray[j]?=some items.toArray[j]:=vK hj;show wpAny _ _ ((seqItemAt a j>>=λr=>pure (r.map (j,·)))>>=_) _ _ s;refine ag (ag (wpAny_seqItemAt h1 rfl (aA ?_)));rw[VE];refine ag (wpAny_setSeqItemAt h1 rfl ?_)
 first
  |exact ag (wpAny_point (ag (wpAny_letGo (aA ⟨.none,rfl,aA h⟩))))
  |exact ag (wpAny_letGo (aA ⟨.none,rfl,aA h⟩))
  |exact aA ⟨.none,rfl,aA h⟩
def oZ(V:Cf)(ik:Bool)(J:Ph)(h:Heap)(x:List Nat)(l:List (List Nat×AV))(es:List DictEntry)(i:Nat):Prop:=(bS x l=true)/\(∀vv v,VR V J h vv v->g8 V ik J h (fx x v l) (es.modify i λe=>{e with val:=vv}))/\(g8 V ik J h (oN x l) (es.eraseIdx i))/\(i<es.length)
section
variable {b1 b2 b3 b4 b5 b6 b7 b8}(x:oZ b1 b2 b3 b4 b5 b6 b7 b8)
def oZ.mk:=eM (oZ b1 b2 b3 b4 b5 b6 b7 b8) rfl
def oZ.has:=x.1
def oZ.put:=x.2.1
def oZ.drop:=x.2.2.1
def oZ.lt:=x.2.2.2
end
def rG(V:Cf)(ik:Bool)(J:Ph)(h:Heap)(x:List Nat)(l:List (List Nat×AV))(es:List DictEntry):Prop:=(bS x l=false)/\(∀kv vv v,(kk V ik).is x kv=true->VR V J h vv v->g8 V ik J h (fx x v l) (es++[⟨(kk V ik).hash x,kv,vv⟩]))
section
variable {b1 b2 b3 b4 b5 b6 b7}(x:rG b1 b2 b3 b4 b5 b6 b7)
def rG.mk:=iu (rG b1 b2 b3 b4 b5 b6 b7) rfl
def rG.has:=x.1
def rG.put:=x.2
end
theorem Ke{ik:Bool}(x:List Nat)(ox:wG V ik x){h:Heap}:∀{l:List (List Nat×AV)} {es:List DictEntry},g8 V ik J h l es ->
  (es.toArray.findIdx? (λe=>(kk V ik).is x e.key)=none/\rG V ik J h x l es)\/∃i,es.toArray.findIdx? (λe=>(kk V ik).is x e.key)=some i/\oZ V ik J h x l es i:=by
 intro l
 induction l with
 |nil=>intro _ e;subst e;exact .inl ⟨by rw[List.findIdx?_toArray];rfl,rG.mk rfl (λt vv v hk hv=>⟨_,_,rfl,(DR.mk hk rfl hv ox),rfl⟩)⟩
 |cons p l fM=>
  intro _ bN;refine bo bN λe r q z y=>?_;clear bN;subst q;have ih:=fM y;rw[List.findIdx?_toArray] at ih⊢;rw[List.findIdx?_cons,H8 z.key];have hh:bS x (p::l)=(match au p.1 x with|true=>some p.2|false=>bT x l).isSome:=rfl;have hp:∀v,fx x v (p::l)=match au p.1 x with|true=>(p.1,v)::l|false=>p::fx x v l:=λv=>rfl
  have hd:oN x (p::l)=match au p.1 x with|true=>l|false=>p::oN x l:=rfl
  cases hq:au p.1 x with
  |true=>exact .inr ⟨0,rfl,oZ.mk (by rw[hh,hq];rfl) (λvv v hv=>by rw[hp,hq];exact⟨_,_,rfl,(DR.mk z.key z.hash hv z.ok),y⟩) (by rw[hd,hq];exact y) (mE _)⟩
  |false=>
   rcases ih with⟨a1,a2⟩|⟨i,a1,a2⟩
   ·exact .inl ⟨by rw[a1];rfl,rG.mk (by rw[hh,hq];exact a2.has) (λt vv v hk hv=>by rw[hp,hq];exact⟨_,_,rfl,z,a2.put t vv v hk hv⟩)⟩
   ·exact .inr ⟨i+1,by rw[a1];rfl,oZ.mk (by rw[hh,hq];exact a2.has) (λvv v hv=>by rw[hp,hq];exact⟨_,_,rfl,z,a2.put vv v hv⟩) (by rw[hd,hq];exact⟨_,_,rfl,z,a2.drop⟩) (Nat.succ_lt_succ a2.lt)⟩
theorem Kd{ik:Bool}{h:Heap}:∀{l:List (List Nat×AV)} {es:List DictEntry},g8 V ik J h l es->es.length=l.length:=by
 intro l
 induction l with
 |nil=>intro _ e;subst e;rfl
 |cons _ _ ih=>intro _ bN;refine bo bN λO O q O y=>?_;clear bN;subst q;exact congrArg (·+1) (ih y)
theorem Jd(x:List Nat):∀l:List (List Nat×AV),bS x l=true↔x∈l.map (·.1)
 |[]=>⟨λh=>(nomatch h),λh=>(nomatch h)⟩
 |p::r=>by
  show(match au p.1 x with|true=>some p.2|false=>bT x r).isSome=true↔_;rw[bQ,bl];cases h:au p.1 x with
  |true=>exact⟨λO=>.inl ((z9 _ _).mp h).symm,λO=>rfl⟩
  |false=>refine(Jd x r).trans ⟨.inr,λk=>k.resolve_left λq=>?_⟩;have:=(z9 _ _).mpr q.symm;rw[h] at this;cases this
theorem BL(x:List Nat)(v:AV):∀l:List (List Nat×AV),(fx x v l).map (·.1)=if bS x l=true then l.map (·.1) else l.map (·.1)++[x]
 |[]=>rfl
 |p::r=>by
  show List.map (λq:List Nat×AV=>q.1) (match au p.1 x with|true=>(p.1,v)::r|false=>p::fx x v r)=if(match au p.1 x with|true=>some p.2|false=>bT x r).isSome=true then _ else _;cases h:au p.1 x with
  |true=>rfl
  |false=>have ih:=BL x v r;show p.1::(fx x v r).map (·.1)=if bS x r=true then p.1::r.map (·.1) else p.1::(r.map (·.1)++[x]);rw[ih];split<;>rfl
variable {v:AV}{l:List (List Nat×AV)}
def GX{x:List Nat}(h:(l.map (·.1)).Nodup):((fx x v l).map (·.1)).Nodup:=by
 rw[BL]
 set_option tactic.hygienic true in split
 ·exact h
 ·rename_i hn;rw[Jd] at hn;rw[rR];exact⟨h,by simp,λa ha b hb=>by rw[fR.mp hb];exact λe=>hn (e▸ha)⟩
def Rw(k:List Nat)(v:AV)(l:List (List Nat×AV)):(fx k v l).length<=l.length+1:=by
 have:=congrArg List.length (BL k v l);rw[aC] at this;rw[this];split
 ·rw[aC];exact jx _
 ·rw[bu,aC];exact aQ _
def Yt(k:List Nat):∀l:List (List Nat×AV),(oN k l).Sublist l:=by
 intro r
 induction r with
 |nil=>exact .slnil
 |cons p r ih=>
  show(match au p.1 k with|true=>r|false=>p::oN k r).Sublist _;cases au p.1 k with
  |true=>exact .cons _ (.refl _)
  |false=>exact(ih).cons_cons _
def A7{o o':Obj}{f:Obj->Obj}(e:s.heap.get? a=some o)(hf:f o=o')(p0:o'.isFreed=false):(s.heap.update a f).get? a=some o':=by subst hf;exact jD _ e p0
def aj.yl{α:Type}{t:Sem α}{f:Hp->Option Hp}(h:∀H',f H=some H'->aj V G J s t (.ok () U H') (λO O O O=>True)):aj V G J s t (Mine.ij f U H) (λO O O O=>True):=by
 unfold Mine.ij;cases e:f H with
 |none=>exact aj.stuck
 |some H'=>exact h H' e
noncomputable def dO(ik:Bool)(ep:Nat)(l:List (List Nat×AV)):AO:=match ik with
 |true=>.idict ep l
 |false=>.dict ep l
variable {ik:Bool}{ep:Nat}{es:List DictEntry}
def G2{h:Heap}{p:Addr×Addr}(x:gM V ik J h p ep l es):OR V J h p (dO ik ep l):=by cases ik<;>exact⟨es,x⟩
variable {vv:Value}
def YD{k:List Nat}{kv:Value}{n:Nat}{ad:Addr}(hp:J[n]?=some (ad,ad))(m:g9 V ik J s.heap ad ep l es)(jO:(kk V ik).is k kv=true)(o:wG V ik k)(hv:VR V J s.heap vv v)(hl:l.length<az){A:Around} 
  (h:∀s',i8 s s' ad->OR V J s'.heap (ad,ad) (dO ik (match bS k l with|true=>ep|false=>ep+1) (fx k v l))->(∃o,s'.heap.get? ad=some o)->Q () s'):wpAny (model V.prog V.w) A (dictSet ad kv vv) Q E s:=by
 have C3:=Kd m.all;have len:(fx k v l).length<=az:=aH (Rw ..) hl;unfold dictSet
 try with_reducible refine cI ?_
 refine ag ((kk V ik).pyHash jO ?_);unfold dictSetHashed
 try with_reducible refine cI ?_
 refine ag (wpAny_dictFind_of (s:={s with toks:=s.toks+1}) jO m.at_ rfl (Ah m.all) ?_);rcases Ke k o m.all with⟨a1,a2⟩|⟨i,a1,a2⟩
 ·rw[a1];rw[a2.has] at h;have sb:=kQ s.heap ad (Obj.mapDictKeys (·.push (⟨(kk V ik).hash k,kv,vv⟩:DictEntry)));have e1:=A7 (o':={cls:=.type "dict",data:=.dict (es++[(⟨(kk V ik).hash k,kv,vv⟩:DictEntry)]).toArray (ep+1)}) m.at_ (f:=(Obj.mapDictKeys (·.push (⟨(kk V ik).hash k,kv,vv⟩:DictEntry)))) (congrArg (λl=>({cls:=.type "dict",data:=.dict l (ep+1)}:Obj)) (List.push_toArray ..)) rfl;exact ag (wpAny_rule (wpAny_updateDictKeys (hz:=by rw[fb,C3];exact iN m.len) (s:={s with toks:=s.toks+1}) m.at_ rfl (h _ (i8.mk sb rfl rfl) (G2 (gM.mk rfl e1 ((a2.put kv vv v jO hv).put hp sb) len (GX m.nodup))) ⟨_,e1⟩)))
 ·rw[a1];rw[a2.has] at h;have sb:=kQ s.heap ad (Obj.mapDict (·.modify i λe=>{e with val:=vv}));have e1:=A7 (o':={cls:=.type "dict",data:=.dict (es.modify i λe=>{e with val:=vv}).toArray ep}) m.at_ (f:=(Obj.mapDict (·.modify i λe=>{e with val:=vv}))) (congrArg (λl=>({cls:=.type "dict",data:=.dict l ep}:Obj)) (List.modify_toArray ..)) rfl;refine ag (wpAny_rule (ag (wpAny_updateDict (s:={s with toks:=s.toks+1}) m.at_ rfl (wpAny_point ?_))));exact h _ (i8.mk sb rfl rfl) (G2 (gM.mk rfl e1 ((a2.put vv v hv).put hp sb) len (GX m.nodup))) ⟨_,e1⟩
def Kg{k:List Nat}{kv:Value}{n:Nat}{ad:Addr}(pre:aq V d q G J U H s)(hp:J[n]?=some (ad,ad))(m:g9 V ik J s.heap ad ep l es)(hk:(kk V ik).is k kv=true/\wG V ik k)(hv:VR V J s.heap vv v)(hl:l.length<az):
  aj V G J s (setItem (.ref ad) kv vv) (.ok () U (ai H (dO ik (match bS k l with|true=>ep|false=>ep+1) (fx k v l)) n)) (λO O O O=>True):=by
 refine aj.put pre hp λQ E h=>?_;unfold setItem
 try with_reducible refine cI ?_
 refine ag (wpAny_sequenceKey m.map.typeIs (by decide) ?_);refine ag (tI (name:=Str.ofString "__setitem__") m.map.typeIs slot_dict_setitem
  (mA slot_dict_setitem m.map.typeIs entry_dict_setitem ?_ (args_dict_setitem _ _ _)))
 refine ag (wpAny_notOrdered_dict m.map.typeIs ?_);show wpAny _ _ (dictSet _ _ vv>>=_) _ _ s;exact ag (YD hp m hk.1 hk.2 hv hl λs' a b c=>aA ⟨.none,rfl,aA (h () s' a b c trivial)⟩)
def Py(pre:aq V d q G J U H s){vo vi:Value}{o i:AV}(ho:VR V J s.heap vo o)(hi:VR V J s.heap vi i)(hv:VR V J s.heap vv v):
  aj V G J s (setItem vo vi vv) (ij (og o i v) U H) (λO O O O=>True):=aj.yl λH' e=>by
 refine ub e λn h1 e=>?_;refine ak (ig ho h1) λp aa hp=>?_;subst aa;cases hl:bq H n with
 |some l=>rw[hl] at e;refine ub e λk h2 e=>?_;refine ub e λj h3 e=>?_;refine ur e λh4 e=>?_;obtain rfl:=sj e;have h4:=bf.mp h4;refine ue (eT hi h2) λt aa=>?_;subst aa;have hk:=wK h3;subst hk;refine lp (pre.rel.list hl hp) λpe items n x=>?_;rw[pe] at hp;rw[mK v];refine aj.yQ pre hp (x.all.set j hv) (by rw[List.length_set];exact x.len) λQ E h=>Pt (k:=(j:Int)) x.at_ (j8 j) (Int.lt_trans (n7.mpr h4) (uW x.len)) (by rw[x.all.length];exact n7.mpr h4) ?_;refine ue (yk x.at_ (f:=(·.setIfInBounds j vv)) (items':=items.set j vv) (by simp)) λk' e'=>?_;exact h () _ k' e' (kQ ..) trivial
 |none=>
  rw[hl] at e;cases hd:gT H n with
  |some r=>rw[hd] at e;refine ub e λk h3 e=>?_;refine ur e λh4 e=>?_;obtain rfl:=sj e;refine gf (pre.rel.idict hd hp) λpe es m=>?_;rw[pe] at hp;exact Kg (ik:=true) pre hp m (pj (ik:=true) hi h3) hv (bf.mp h4)
  |none=>rw[hd] at e;refine ub e λr h2 e=>?_;refine ub e λk h3 e=>?_;refine ur e λh4 e=>?_;obtain rfl:=sj e;refine gf (pre.rel.dict h2 hp) λpe es m=>?_;rw[pe] at hp;exact Kg (ik:=false) pre hp m (pj (ik:=false) hi h3) hv (bf.mp h4)
def YG(pre:aq V d q G J U H s){vo vi:Value}{o i:AV}(ho:VR V J s.heap vo o)(hi:VR V J s.heap vi i):
  aj V G J s (delItem vo vi) (ij (xI o i) U H) (λO O O O=>True):=aj.yl λH' e=>by
 refine ub e λn h1 e=>?_;refine ub e λr h2 e=>?_;refine ub e λk h3 e=>?_;refine ur e λh4 e=>?_;obtain rfl:=sj e;refine ak (ig ho h1) λp aa hp=>?_;subst aa;refine ua (pj (ik:=false) hi h3) λjO o=>?_;refine gf (pre.rel.dict h2 hp) λpe es m=>?_;rw[pe] at hp;have C3:=Kd m.all;refine aj.put pre hp λQ E h=>wpAny_delItem_slot m.map.typeIs (by decide) F.slot_dict_delitem (mA F.slot_dict_delitem m.map.typeIs F.entry_dict_delitem ?_ (F.args_dict_delitem_2 _ _));unfold Builtin.«dict.__delitem__»;refine ag ?_;unfold Builtin.Dict.dictSlotArgs;refine ag (wpAny_notOrdered_dict m.map.typeIs ?_);refine aA ?_;show wpAny _ _ (Builtin.Dict.takeOut _ _>>=_) _ _ s;refine ag ?_;unfold Builtin.Dict.takeOut
 try with_reducible refine cI ?_
 refine ag ((kk V false).pyHash jO ?_);refine ag (wpAny_dictFind_of (s:={s with toks:=s.toks+1}) jO m.at_ rfl (Ah m.all) ?_);rcases Ke k o m.all with⟨a1,a2⟩|⟨i,a1,a2⟩
 ·rw[a2.has] at h4;cases h4
 ·rw[a1];refine ag (wpAny_dictEntries (s:={s with toks:=s.toks+1}) m.at_ rfl ?_);have eU:es.toArray[i]?=some (es[i]'a2.lt):=by simp[a2.lt]
  rw[eU];refine ag (wpAny_updateDictKeys (hz:=by rw[fb,C3];exact iN m.len) (s:={s with toks:=s.toks+1}) m.at_ rfl (aA ?_));refine ag (wpAny_letGo (aA ⟨.none,rfl,?_⟩));have sb:=kQ s.heap p.1 (Obj.mapDictKeys (·.eraseIdxIfInBounds i));have e1:=A7 (o':={cls:=.type "dict",data:=.dict (es.eraseIdx i).toArray (r.1+1)}) m.at_ (f:=(Obj.mapDictKeys (·.eraseIdxIfInBounds i))) (congrArg (λl=>({cls:=.type "dict",data:=.dict l (r.1+1)}:Obj)) (by simp)) rfl;have sl:=Yt k r.2;exact h () _ (i8.mk sb rfl rfl) ⟨_,gM.mk rfl e1 (a2.drop.put hp sb) (aH sl.length_le m.len) ((sl.map _).nodup m.nodup)⟩ ⟨_,e1⟩ trivial
end
section
variable {V:Cf}{G:Fm}{J:Ph}{s:Shared}{U:aD}{H:Hp}{d:Nat}{q:Bool}
noncomputable def y9(m:Nat):Str:=match m with
 |0=>"append"
 |1=>"pop"
 |2=>"clear"
 |3=>"count"
 |5=>"join"
 |6=>"get"
 |7=>"values"
 |8=>"add"
 |_=>"__next__"
noncomputable def Cd(mk:MK):String:=match mk with
 |.list=>"list"
 |.dict=>"dict"
 |.set=>"set"
 |.str=>"str"
 |.user _=>""
noncomputable def wM(mk:MK)(m:Nat):String:=match mk with
 |.list=>match m with|0=>"list.append"|1=>"list.pop"|_=>"list.clear"
 |.dict=>match m with|6=>"dict.get"|_=>"dict.values"
 |.set=>"set.add"
 |_=>"str.join"
def jV(mk:MK)(m:Nat):Prop:=(PlainAttrs (Cd mk))/\(Slot (Cd mk) (y9 m) (wM mk m))/\(typeOf (.builtin (wM mk m))=pure (.type "method_descriptor"))
section
variable {b1 b2}(x:jV b1 b2)
def jV.mk:=jn (jV b1 b2) rfl
def jV.plain:=x.1
def jV.slot:=x.2.1
def jV.ty:=x.2.2
end
variable {m:Nat}
def TC{mk:MK}(h:uk mk m=true):jV mk m:=by
 cases mk with
 |user=>cases h
 |list=>
  have:m<3:=bf.mp h
  match m,this with
  |0,_=>exact(jV.mk F.plainAttrs_list F.slot_list_append F.type_list_append)
  |1,_=>exact(jV.mk F.plainAttrs_list F.slot_list_pop F.type_list_pop)
  |2,_=>exact(jV.mk F.plainAttrs_list F.slot_list_clear F.type_list_clear)
 |dict=>
  rcases rK.mp h with h|h<;>cases ck h
  ·exact(jV.mk F.plainAttrs_dict F.slot_dict_get F.type_dict_get)
  ·exact(jV.mk F.plainAttrs_dict F.slot_dict_values F.type_dict_values)
 |set=>cases ck h;exact(jV.mk F.plainAttrs_set F.slot_set_add F.type_set_add)
 |str=>cases ck h;exact(jV.mk F.plainAttrs_str F.slot_str_join F.type_str_join)
def aj.A0{α β:Type}{t:Sem α}{f:Hp->Option (β×Hp)}{R:Ph->Heap->α->β->Prop}(h:∀r,f H=some r->aj V G J s t (.ok r.1 U r.2) R):aj V G J s t (Mine.mF f U H) R:=by
 unfold Mine.mF;cases e:f H with
 |none=>exact aj.stuck
 |some r=>exact h r e
theorem UW{h:Heap}:∀{l:List AV} {items:List Value} {x:List Nat},aO V J h items l->pX l=some x ->
  ∃ps:List (Str×Tok),items=strValues ps/\((ps.map (·.1)).map (·.cps.toList)).flatten=V.enc x/\∀c∈x,c<16:=by
 intro l
 induction l with
 |nil=>intro _ _ r e;subst r;obtain rfl:=sj e;exact⟨[],rfl,rfl,λc h=>nomatch h⟩
 |cons d l ih=>intro _ _ bN e;refine bo bN λv r q hv hr=>?_;clear bN;refine ub e λy h1 e=>?_;refine um e λz h2 aa=>?_;subst aa;refine gc (ih hr h2) λps aa h3 h4=>?_;subst aa;refine ak (qz hv h1) λt aa o=>?_;subst aa;exact⟨(V.tx y,t)::ps,q,by simp only[bQ,List.flatten_cons,h3,DG];rfl,λc hc=>(hM.mp hc).elim (o.sign c) (h4 c)⟩
def UZ(ps:List Str):Builtin.Str.glued ⟨#[]⟩ ps=⟨((ps.map (·.cps.toList)).flatten).toArray⟩:=by
 have g:∀(ps:List Str) (acc:Array Nat),List.foldl (λacc (p:Str)=>acc++(⟨#[]⟩:Str).cps++p.cps) acc ps=acc++((ps.map (·.cps.toList)).flatten).toArray:=by
  intro ps
  induction ps with
  |nil=>intro acc;simp
  |cons p r ih=>intro acc;rw[List.foldl_cons,ih];apply Array.ext';simp
 unfold Builtin.Str.glued;rw[g];cases ps with
 |nil=>rfl
 |cons p r=>congr 1;apply Array.ext';simp
def W9:∀(ps:List Str) (n:Nat),List.foldl (λ(a:Nat) (x:Str)=>a+x.length+(⟨#[]⟩:Str).length) n ps=n+((ps.map (·.cps.toList)).flatten).length:=by
 intro r
 induction r with
 |nil=>intro n;simp
 |cons p r ih=>intro n;rw[List.foldl_cons,ih];simp[Str.length];exact Mw
def UX{ps:List (Str×Tok)}{x:List Nat}(h2:((ps.map (·.1)).map (·.cps.toList)).flatten=V.enc x)(ok:cY V x){Q:Value->Shared->Prop}
  (h:∀v s',av s s'->VR V J s'.heap v (.str x)->Q v s'):(joinMade ⟨#[]⟩ ps).post Q s:=by
 have gen:(Made.str (Builtin.Str.glued ⟨#[]⟩ (ps.map (·.1)))).post Q s:=by rw[UZ,h2];exact⟨(by show(V.enc x).toArray.size<=sizeLine;rw[fb,rt];exact iN ok.len),h _ _ (av.toks ..) (.str ok)⟩
 match ps,gen,h2 with
 |[],gen,_=>exact gen
 |[p],_,h2=>
  have:p.1=V.tx x:=by
   obtain⟨⟨c⟩,t⟩:=p;have h2:c.toList=V.enc x:=by simpa using h2
   unfold Cf.tx;rw[<- h2]
  show Q (.str p.1 p.2) s;rw[this];exact h _ _ (av.refl _) (.str ok)
 |_::_::_,gen,_=>exact gen
variable {p:Addr×Addr}{vs:List Value}{args:List AV}{r:AV×Hp}
def HF(pre:aq V d q G J U H s){n:Nat}{l:List AV}(hp:J[n]?=some p)(hl:bq H n=some l)(hs:aO V J s.heap vs args)(e:uo m n l args H=some r):
  aj V G J s (call (.builtin (wM .list m)) (.ref p.1::vs)) (.ok r.1 U r.2) (VR V):=by
 refine lp (pre.rel.list hl hp) λpe items k x=>?_;rw[pe] at hp;have hT:s.TypeIs (.ref p.1) "list":=⟨_,x.at_,rfl⟩;have hz:=iN x.small;cases args with
 |nil=>
  subst hs
  match m,e with
  |1,e=>
   refine um e λv h1 aa=>?_;subst aa;rw[List.getLast?_eq_getElem?] at h1;refine ak (x.all.get h1) λy hy ry=>?_;rw[<- x.all.length] at hy;refine aj.yQ (items':=items.dropLast) pre hp (by rw[List.dropLast_eq_take,List.dropLast_eq_take,x.all.length];exact x.all.take _) (aH (by rw[List.length_dropLast];exact Nat.sub_le ..) x.len) λQ E h=>call_meets F.slot_list_pop hT F.entry_list_pop (F.args_list_pop_1 _) (MeetsSeq.list_pop_last _ _ k y (by simpa using hy) hz) ⟨x.at_,?_⟩
   refine ue (yk x.at_ (f:=(·.eraseIdxIfInBounds (items.toArray.size-1))) (items':=items.dropLast) (by simp[List.eraseIdx_length_sub_one])) λk' e'=>?_;exact h _ _ k' e' (kQ ..) (ry.put hp (kQ ..))
  |2,e=>obtain rfl:=sj e;refine aj.yQ pre hp .nil (kU _) λQ E h=>call_meets F.slot_list_clear hT F.entry_list_clear (F.args_list_clear_1 _) (AutoSeq1.list_clear_list_0 _ _ k hz) ⟨x.at_,?_⟩;refine ue (yk x.at_ (f:=(λO=>#[])) (items':=[]) rfl) λk' e'=>?_;exact h _ _ k' e' (kQ ..) .none
  |0,e=>exact aT e
  |_+3,e=>exact aT e
 |cons v as=>
  refine bo hs λvv r' aa hv hr=>?_;clear hs;subst aa;cases as with
  |cons=>exact aT e
  |nil=>
   subst hr
   match m,e with
   |0,e=>refine ur e λh1 e=>?_;obtain rfl:=sj e;refine aj.yQ pre hp (x.all.append (.cons hv .nil)) (by rw[bu];exact(bf.mp h1)) λQ E h=>call_meets F.slot_list_append hT F.entry_list_append (F.args_list_append_2 _ _) (list_append _ _ k _ hz) ⟨x.at_,?_⟩;refine ue (yk x.at_ (f:=(·.push vv)) (items':=items++[vv]) (by simp)) λk' e'=>?_;exact h _ _ k' e' (kQ ..) .none
   |_+1,e=>exact aT e
def TF(pre:aq V d q G J U H s)(ok:dR V){n:Nat}{dd:Nat×List (List Nat×AV)}(hp:J[n]?=some p)(hl:cM H n=some dd)(hs:aO V J s.heap vs args)(e:wN m n dd.2 args H=some r):
  aj V G J s (call (.builtin (wM .dict m)) (.ref p.1::vs)) (.ok r.1 U r.2) (VR V):=by
 obtain⟨pe,es,x⟩:=pre.rel.dict hl hp;have qW:=ug pre.rel hp pe ok.big;cases args with
 |nil=>
  subst hs;obtain⟨h1,e⟩:=yJ e;obtain rfl:=sj e;cases ck h1;rw[pe] at hp;refine aj.quiet pre λQ E h=>call_meetsIn F.slot_dict_values x.map.typeIs F.entry_dict_values (F.args_dict_values_1 _) (meets_dict_values (kk V false) _ qW) ⟨?_,h _ _ (av.push s _ s.toks) ?_⟩
  ·exact⟨_,x.at.at_.dictOf⟩
  ·exact⟨_,_,_,rfl,hp,⟨_,cw _ rfl,rfl,rfl⟩,pre.rel.fresh (aQ _)⟩
 |cons v as=>
  obtain⟨vv,r',rfl,hv,hr⟩:=hs;cases as with
  |cons w as=>
   obtain⟨ww,r',rfl,hw,hr⟩:=hr;cases as with
   |cons=>exact aT e
   |nil=>
    subst hr;obtain⟨h1,e⟩:=yJ e;cases ck h1;obtain⟨k,h2,rfl⟩:=qt.mp e;refine aj.quiet pre λQ E h=>call_meetsIn F.slot_dict_get x.map.typeIs F.entry_dict_get (F.args_dict_get_3 _ _ _) (meets_dict_get_default (kk V false) _ ((pj (ik:=false) hv h2).1) qW ww) ⟨_,x.map,?_⟩;refine h _ _ (av.toks ..) ?_;rcases Ai k x.all with⟨a1,a2⟩|⟨w,val,a1,a2,a3⟩
    ·rw[a1,a2];exact hw
    ·rw[a1,a2];exact a3
  |nil=>
   subst hr;obtain⟨h1,e⟩:=yJ e;cases ck h1;obtain⟨k,h2,rfl⟩:=qt.mp e;refine aj.quiet pre λQ E h=>call_meetsIn F.slot_dict_get x.map.typeIs F.entry_dict_get (F.args_dict_get_2 _ _) (meets_dict_get (kk V false) _ ((pj (ik:=false) hv h2).1) qW) ⟨_,x.map,?_⟩;refine h _ _ (av.toks ..) ?_;rcases Ai k x.all with⟨a1,a2⟩|⟨w,val,a1,a2,a3⟩
   ·rw[a1,a2];exact .none
   ·rw[a1,a2];exact a3
def TB(pre:aq V d q G J U H s){n:Nat}{l:List (List Nat)}(hp:J[n]?=some p)(hl:oh H n=some l)(hs:aO V J s.heap vs args)(e:HH n l args H=some r):
  aj V G J s (call (.builtin "set.add") (.ref p.1::vs)) (.ok r.1 U r.2) (VR V):=by
 refine ua (pre.rel.set hl hp) λpe x=>?_;rw[pe] at hp;cases args with
 |nil=>exact aT e
 |cons v as=>
  refine bo hs λvv r' aa hv hr=>?_;clear hs;subst aa;cases as with
  |cons=>exact aT e
  |nil=>
   subst hr;refine ub e λk h1 e=>?_;refine ur e λh2 e=>?_;obtain rfl:=sj e;have h2:=bf.mp h2;refine ak (qz hv h1) λt aa o=>?_;subst aa;have hm:=Cc (V:=V) k l;have go:∀l',(λk':Str=>(l.any λy=>V.tx y==k')||decide (k'=V.tx k))=(λk'=>l'.any λy=>V.tx y==k')->(if(l.any λy=>V.tx y==V.tx k)=true then l.length else l.length+1)=l'.length ->
     aj V G J s (call (.builtin "set.add") (.ref p.1::[.str (V.tx k) t])) (.ok .none U (ai H (.set l') n)) (VR V):=λl' h3 h4=>by
    refine aj.put pre hp λQ E h=>call_set_add (strKind_is V.prog V.w (V.tx k) t) rfl x.set (by show l.length+1<4096;exact MT ‹_›) λh' gD lJ=>?_;have Ji:h'.SetOf (strKind V.prog V.w) p.1 (λk'=>l'.any λy=>V.tx y==k') l'.length:=by rw[<- h3,<- h4];exact lJ
    refine kY (id Ji) λo es ep t' e1 e2=>?_;exact h _ _ (i8.mk gD rfl rfl) ⟨rfl,⟨Ji⟩⟩ ⟨o,e1⟩ .none
   cases hc:bw k l with
   |true=>
    rw[hc] at hm;have:ai H (.set l) n=H:=by rw[mK];obtain⟨h,e⟩:=je.mp (Gi hl);rw[<- e];exact List.set_getElem_self h
    have:=this▸go l (by
     funext x
     by_cases hx:x=V.tx k
     ·subst hx;rw[hm];rfl
     ·simp[hx]) (if_pos hm)
    exact this
   |false=>
    rw[hc] at hm;refine go (l++[k]) ?_ ?_
    ·funext x
     rw[List.any_append,List.any_cons,List.any_nil,Bool.or_false]
     congr 1
     rw[Bool.eq_iff_iff,decide_eq_true_iff,beq_iff_eq];exact eq_comm
    ·rw[if_neg (by rw[hm];simp),bu];rfl
def TA(pre:aq V d q G J U H s){t:Tok}{sep:List Nat}(hs:aO V J s.heap vs args)(e:HG sep args H=some r):
  aj V G J s (call (.builtin "str.join") (.str (V.tx sep) t::vs)) (.ok r.1 U r.2) (VR V):=by
 cases args with
 |nil=>exact aT e
 |cons v as=>
  refine bo hs λvv r' aa hv hr=>?_;clear hs;subst aa;cases as with
  |cons=>exact aT e
  |nil=>
   subst hr;refine ur e λh1 e=>?_;refine ub e λl h2 e=>?_;refine ub e λx h3 e=>?_;refine ur e λh4 e=>?_;obtain rfl:=sj e;have h4:=ic h4;cases sep with
   |cons=>cases h1
   |nil=>refine eB (iK pre.rel hv h2) λa items n y=>?_;refine gc (UW y.all h3) λps aa h5 h6=>?_;subst aa;rw[y.eq];refine aj.quiet pre λQ E h=>call_meets F.slot_str_join (typeIs_str _ _ _) F.entry_str_join (F.args_str_join_2 _ _) (meets_str_join_list ⟨#[]⟩ t a ps ?_) ⟨y.at_.isList,UX (V:=V) (J:=J) h5 (cY.mk h4 h6) h⟩;have:=W9 (ps.map (·.1)) 0;rw[h5,rt] at this;unfold Builtin.Str.tooLong;rw[List.foldl_toArray,this];have:=iN h4;simp;simpa using this
def Ts(pre:aq V d q G J U H s)(ok:dR V){mk:MK}{vo:Value}{ov:AV}(ho:VR V J s.heap vo ov)(hs:aO V J s.heap vs args):
  aj V G J s (call (.builtin (wM mk m)) (vo::vs)) (mF (λH=>jK mk m ov args H) U H) (VR V):=aj.A0 λr e=>by
 cases mk with
 |user=>exact aT e
 |list=>refine ub e λn h1 e=>?_;refine ub e λl h2 e=>?_;refine ak (ig ho h1) λp aa hp=>?_;subst aa;exact HF pre hp h2 hs e
 |dict=>refine ub e λn h1 e=>?_;refine ub e λl h2 e=>?_;refine ak (ig ho h1) λp aa hp=>?_;subst aa;exact TF pre ok hp h2 hs e
 |set=>refine ub e λn h1 e=>?_;refine ub e λl h2 e=>?_;refine ak (ig ho h1) λp aa hp=>?_;subst aa;exact TB pre hp h2 hs e
 |str=>refine ub e λl h1 e=>?_;refine ak (qz ho h1) λt aa O=>?_;subst aa;exact TA pre hs e
end
section
noncomputable def pQ(x:Str):Bool:=!(x==("__debug__":Str))&&!(x==("__classdict__":Str))
noncomputable def Cn(l:List (Str×Nat))(x:Str)(k:Nat):Bool:=decide (l.lookup x=some k)
noncomputable def sH(K:Cx)(x:Str)(k:NameKind):Bool:=decide (K.kn.lookup x=some k)
noncomputable def y5(V:Cf)(a:Nat)(x:Str):Bool:=decide (V.nm[a]?=some x)
def BV(l:List Nat):Bool:=Nat.ble l.length az&&l.all λc=>Nat.blt c 16
def KL(v:AV)(c:Const):Bool:=match v with
 |.none=>decide (c=.none)
 |.bool b=>decide (c=.bool b)
 |.int i=>decide (c=.int i)
 |.str l=>BV l&&decide (c=.str ⟨(l.map λc=>65+c).toArray⟩)
 |.cj l=>BV l&&decide (c=.bytes (l.map λc=>UInt8.ofNat (65+c)))
 |_=>false
noncomputable def wX(e:Expr):Nat:=match e with
 |.Starred _ _=>1
 |.ListComp ..=>2
 |.SetComp ..=>2
 |.DictComp ..=>2
 |.Set ..=>3
 |.Tuple ..=>4
 |.Attribute ..=>5
 |.Slice ..=>6
 |_=>0
noncomputable def yS(e:Expr):Bool:=match e with
 |.Call _ as ks _=>!(as.isEmpty&&ks.isEmpty)
 |_=>true
def wI(e:Expr):Bool:=!Nat.beq (wX e) 1
def qL(e:Expr):Bool:=!Nat.beq (wX e) 2
def sy(e:Expr):Bool:=!Nat.beq (wX e) 3
def yY(e:Expr):Bool:=!Nat.beq (wX e) 4
def BZ(e:Expr):Bool:=!Nat.beq (wX e) 5
noncomputable def lQ(K:Cx)(names:List (Str×NameKind))(ts:List (Str×Nat)):Cx where
 sc:=names.filterMap λp=>if p.2=.local\/p.2=.cell then(ts.lookup p.1).map (p.1,·) else if p.2=.free then(K.sc.lookup p.1).map (p.1,·) else none
 kn:=names
noncomputable def C.SR(c:C):Option (Str×Nat):=match c with
 |.var x k _=>some (x,k)
 |_=>none
def FC(t:C):List (Str×Nat):=match t with
 |.var x k _=>[(x,k)]
 |.tup l _ _=>(cs l).filterMap C.SR
 |_=>[]
def mM(t elt:C):List (Str×Nat):=FC t++match elt with
 |.gen t2 _ _=>FC t2
 |_=>[]
noncomputable def y4(c:C):Bool:=match c with
 |.gen ..=>false
 |_=>true
def KC(K:Cx)(ts:List Nat)(p:Str×NameKind):Bool:=match p.2 with
 |.local=>true
 |.cell=>true
 |.free=>(match K.sc.lookup p.1 with|some k=>!ts.contains k|none=>false)&&(sH K p.1 .cell||sH K p.1 .free)
 |.globalImplicit=>true
 |_=>false
def KA(K:Cx)(sc:Scope)(nms:List (Str×Nat))(ts:List Nat):Bool:=decide (sc.kind=.function)&&sc.names.all (λp=>decide (sc.names.lookup p.1=some p.2)&&KC K ts p)&&nms.all (λp=>ts.contains p.2)&&decide (((lQ K sc.names nms).sc.map (·.2)).Nodup)
def n9(K:Cx)(c:C):Bool:=match c with
 |.var x k _=>pQ x&&Cn K.sc x k&&(sH K x .local||sH K x .cell)
 |_=>false
noncomputable def sN:C->Bool
 |.nil=>true
 |.cons _ r=>sN r
 |_=>false
def mG(K:Cx)(c:C):Bool:=match c with
 |.tup l _ _=>sN l&&(cs l).all (n9 K)
 |_=>n9 K c
noncomputable def qT(c:C):Bool:=match c with
 |.nil=>true
 |_=>false
mutual
noncomputable def wf(V:Cf):C->Cx->Bool
 |.cst c v _ _,_=>KL v c
 |.var x k _,K=>pQ x&&Cn K.sc x k
 |.glob x k _,K=>pQ x&&sH K x .globalImplicit&&decide (V.gl[k]?=some x)
 |.bin _ a b _,K=>wf V a K&&wf V b K
 |.neg a _,K=>wf V a K
 |.not a _,K=>wf V a K
 |.cmp op a b _,K=>wf V a K&&wf V b K&&!behindInMarks op (aB b)
 |.gX _ l _,K=>mH V l K
 |.call f args _,K=>BZ (aB f)&&wf V f K&&qx V args K&&Nat.blt (cs args).length 30
 |.bV o x m args ap p,K=>wf V o K&&yS (aB o)&&y5 V m x&&qx V args K&&ap.endLine==p.line&&Nat.blt (cs args).length 30
 |.attr o x a _,K=>wf V o K&&yS (aB o)&&y5 V a x
 |.sub o i _,K=>wf V o K&&wf V i K&&!qS (aB i)
 |.iq o lo hi _ _,K=>wf V o K&&(qT lo||wf V lo K)&&(qT hi||wf V hi K)
 |.list l _ _,K=>mH V l K&&Nat.ble (cs l).length 100
 |.tup l _ _,K=>mH V l K&&Nat.ble (cs l).length 100
 |.dict _ _,_=>true
 |.qU t a b _,K=>wf V t K&&wf V a K&&wf V b K
 |.gen tg it e,K=>mG K tg&&wf V it K&&sy (aB it)&&wf V e K&&y4 e&&qL (aB e)
 |.comp elt tg it ifs sc _,K=>wf V it K&&sy (aB it)&&KA K sc (mM tg elt) (slots tg elt)&&mG (lQ K sc.names (mM tg elt)) tg&&wf V elt (lQ K sc.names (mM tg elt))&&mH V ifs (lQ K sc.names (mM tg elt))
 |.rV t e _,K=>n9 K t&&wf V e K
 |.star a _,K=>wf V a K
 |_,_=>false
noncomputable def mH(V:Cf):C->Cx->Bool
 |.nil,_=>true
 |.cons a r,K=>wI (aB a)&&wf V a K&&mH V r K
 |_,_=>false
noncomputable def qx(V:Cf):C->Cx->Bool
 |.nil,_=>true
 |.cons a r,K=>wf V a K&&match a.lq with
  |some _=>qT r
  |none=>wI (aB a)&&qx V r K
 |_,_=>false
end
variable {V:Cf}{G:Fm}{J:Ph}{s:Shared}{U:aD}{H:Hp}{d:Nat}{q:Bool}
def i7(V:Cf)(K:Cx)(c:C):Prop:=(wI (aB c)=true)/\(wf V c K=true)
section
variable {b1 b2 b3}(x:i7 b1 b2 b3)
def i7.mk:=iu (i7 b1 b2 b3) rfl
def i7.plain:=x.1
def i7.wf:=x.2
end
def cR{p:Prop}(h:false=true):p:=absurd h kO
variable {l:C}
def CA:sN l=true->bJ l=(cs l).map aB:=by
 induction l with
 |nil=>exact λO=>rfl
 |cons a r _ ih=>exact λh=>congrArg (aB a::·) (ih h)
 |_=>exact cR
def vN{K:Cx}:mH V l K=true->bJ l=(cs l).map aB/\∀c∈cs l,i7 V K c:=by
 induction l with
 |nil=>exact λO=>⟨rfl,λc h=>nomatch h⟩
 |cons a r _ ih=>
  intro h;refine jE h λh1 h2 h3=>?_;refine ua (ih h3) λh4 h5=>?_;exact⟨congrArg (aB a::·) h4,λc hc=>by
   rcases bl.mp hc with rfl|hc
   ·exact(i7.mk h1 h2)
   ·exact h5 c hc⟩
 |_=>exact cR
variable {a b:C}
def OM:a.lq=some b->∃p,a=.star b p:=by
 cases a with
 |star c p=>intro h;obtain rfl:=sj h;exact⟨p,rfl⟩
 |_=>exact λh=>aT h
def kF(V:Cf)(K:Cx)(l m:List C):Prop:=(∀c∈m,i7 V K c/\c.lq=none)/\(l=m\/∃a p,l=m++[.star a p]/\wf V a K=true)
section
variable {b1 b2 b3 b4}(x:kF b1 b2 b3 b4)
def kF.mk:=iu (kF b1 b2 b3 b4) rfl
def kF.all:=x.1
def kF.is:=x.2
end
def A2{K:Cx}:qx V l K=true->bJ l=(cs l).map aB/\∃m:List C,kF V K (cs l) m:=by
 induction l with
 |nil=>exact λO=>⟨rfl,[],kF.mk (λc h=>(nomatch h)) (.inl rfl)⟩
 |cons a r _ ih=>
  intro h;refine us h λh1 h2=>?_;cases hs:a.lq with
  |some b=>
   rw[hs] at h2;refine ue (OM hs) λp aa=>?_;subst aa;cases r with
   |nil=>exact⟨rfl,[],kF.mk (λc h=>(nomatch h)) (.inr ⟨b,p,rfl,h1⟩)⟩
   |_=>exact cR h2
  |none=>
   rw[hs] at h2;refine us h2 λh2 h3=>?_;refine gf (ih h3) λh4 m h5=>?_;refine⟨congrArg (aB a::·) h4,a::m,kF.mk (λc hc=>?_) ?_⟩
   ·rcases bl.mp hc with rfl|hc
    ·exact⟨(i7.mk h2 h1),hs⟩
    ·exact h5.all c hc
   ·rcases h5.is with h6|⟨b,p,h6,h7⟩
    ·exact .inl (congrArg (a::·) h6)
    ·exact .inr ⟨b,p,congrArg (a::·) h6,h7⟩
 |_=>exact cR
variable {x:Str}
def BU(h:pQ x=true):(x==("__debug__":Str))=false:=iS (nB h).1
def G4(h:pQ x=true):(x==("__classdict__":Str))=false:=iS (nB h).2
def G5{l:List Nat}(h:BV l=true):cY V l:=by refine us h λh1 h2=>?_;rw[fB] at h2;exact(cY.mk (ic h1) (λc hc=>bf.mp (h2 c hc)))
theorem Ss:∀{l:List Nat},(∀c∈l,c<16)->(l.map λc=>UInt8.ofNat (65+c)).map UInt8.toNat=V.enc l:=by
 intro l
 induction l with
 |nil=>intro _;exact rfl
 |cons c l ih=>intro h;rw[bQ,bQ,ih λc hc=>h c (bI _ hc)];refine congrArg (·::V.enc l) ?_;have:=h c bz;exact UInt8.toNat_ofNat_of_lt' (jb (by exact Eu ‹_›:65+c<128) (by decide))
def YL(pre:aq V d q G J U H s){v:AV}{c:Const}(h:KL v c=true):aj V G J s (constValue G.env c) (.ok v U H) (VR V):=by
 cases v with
 |none=>cases of_decide_eq_true h;exact aj.quiet pre λQ E hq=>aA (hq _ _ (av.refl _) .none)
 |bool b=>cases of_decide_eq_true h;exact aj.quiet pre λQ E hq=>aA (hq _ _ (av.refl _) (.bool _))
 |int a=>cases of_decide_eq_true h;exact aj.quiet pre λQ E hq=>λO O O=>hq _ _ (av.toks ..) (.lit ..)
 |str l=>refine us h λh1 h2=>?_;cases of_decide_eq_true h2;exact aj.quiet pre λQ E hq=>wpAny_mkText (hq _ _ (av.toks ..) (VR.str (G5 h1)))
 |cj l=>refine us h λh1 h2=>?_;cases of_decide_eq_true h2;have o:=G5 (V:=V) h1;exact aj.quiet pre λQ E hq=>wpAny_mkTextBytes (hq _ _ (av.toks ..) ⟨_,_,rfl,Ss o.sign,o⟩)
 |_=>exact cR h
structure Ok(V:Cf):Prop extends dR V,AF V where
 WZ:V.fr.In V.h₀
 keeps:∀k v,V.gv k=some v->(∃id,v=.builtin id)\/(∃T,v=.type T)\/keepIn V.fr v=true
 nms:∀m,m<10->m≠4->V.nm[m]?=some (y9 m)
def d7(V:Cf)(J:Ph)(h:Heap)(f:Flow)(g:Fl):Prop:=match g with
 |.next=>f=.next
 |.brk=>f=.brk
 |.cont=>f=.cont
 |.ret a=>∃v,f=.ret v/\VR V J h v a
structure ew(V:Cf)(E:Ev):Prop where
 e:∀{d q G J U H s c},aq V d q G J U H s->wf V c G.K=true->aj V G J s (eval (aB c) G.env) (E.e d q c U H) (VR V)
 t:∀{d q G J U H s c},aq V d q G J U H s->wf V c G.K=true->aj V G J s (isTrue (aB c) G.env (eval (aB c) G.env)) (E.t d q c U H) (λO O a b=>a=b)
variable {E:Ev}
variable {pos:Pos}
def Ym(S:ew V E)(pre:aq V d q G J U H s){op:Operator}(ha:wf V a G.K=true)(hb:wf V b G.K=true):
  aj V G J s (eval (.BinOp (aB a) op (aB b) pos) G.env) (Le E d q op a b U H) (VR V):=
 TT.imp (λO O h=>wpAny_BinOp h) (TT.seq (Nx.refl ..) pre (S.e pre ha) λa x ρ1 H1 φ1 s1 n1 m1 p1 r1=>TT.seq m1 p1 (S.e p1 hb) λb y ρ2 H2 φ2 s2 n2 m2 p2 r2=>TT.last m2 (ZU p2 (n2.vr p1.er r1) r2))
def Yd(S:ew V E)(pre:aq V d q G J U H s)(ha:wf V a G.K=true):
  aj V G J s (eval (.UnaryOp .USub (aB a) pos) G.env) (Hq E d q a U H) (VR V):=
 TT.imp (λO O h=>wpAny_UnaryOp h) (TT.seq (Nx.refl ..) pre (S.e pre ha) λa x ρ1 H1 φ1 s1 n1 m1 p1 r1=>TT.last m1 (SW p1 r1))
def NU{M:Model}{A:Around}{E':Value->Shared->Prop}{Q:Value->Shared->Prop}{v:Value}(h:wpAny M A (truthy v) (λb s'=>Q (.bool (!b)) s') E' s):wpAny M A (unaryOp .Not v) Q E' s:=by unfold unaryOp;refine cI ?_;show wpAny M A (truthy v>>=λb=>pure (Value.bool (!b))) Q E' s;exact ag (cH h (λb s' h'=>aA h') λO O e=>e)
def Yc(S:ew V E)(pre:aq V d q G J U H s)(ha:wf V a G.K=true):
  aj V G J s (eval (.UnaryOp .Not (aB a) pos) G.env) (Hf E d q a U H) (VR V):=
 TT.imp (λO O h=>wpAny_UnaryOp h) (TT.seq (Nx.refl ..) pre (S.e pre ha) λa x ρ1 H1 φ1 s1 n1 m1 p1 r1=>TT.imp (λO O h=>NU h) (TT.seq m1 p1 (Bb p1 r1) λb c ρ2 H2 φ2 s2 n2 m2 p2 r2=>TT.now m2 p2 (by subst r2;exact .bool _)))
variable {op:CmpOp}
def YT(pre:aq V d q G J U H s)(ok:dR V){vx vy:Value}{x y:AV}(hx:VR V J s.heap vx x)(hy:VR V J s.heap vy y):
  aj V G J s (compareOp op vx vy) (bX (xK op x y) U H) (VR V):=aj.opt pre λv e Q E h=>by
 refine um e λb e' aa=>?_;subst aa;exact Kn pre ok hx hy e' Q E λs' g=>h _ _ g (.bool _)
def Yk(ok:dR V)(S:ew V E)(pre:aq V d q G J U H s)(ha:wf V a G.K=true)(hb:wf V b G.K=true)(hm:behindInMarks op (aB b)=false):
  aj V G J s (eval (.Compare (aB a) [op] [aB b] pos) G.env) (Kq E d q op a b U H) (VR V):=
 TT.imp (λO O h=>wpAny_Compare1 h hm) (TT.seq (Nx.refl ..) pre (S.e pre ha) λa x ρ1 H1 φ1 s1 n1 m1 p1 r1=>TT.seq m1 p1 (S.e p1 hb) λb y ρ2 H2 φ2 s2 n2 m2 p2 r2=>TT.last m2 (YT p2 ok (n2.vr p1.er r1) r2))
noncomputable def As(isAnd:Bool):BoolOp:=if isAnd then .And else .Or
set_option backward.match.sparseCases true in
theorem Kb(S:ew V E){pos:Pos}{isAnd:Bool}:∀(l:List C) {J:Ph} {U:aD} {H:Hp} {s:Shared},aq V d q G J U H s->(∀c∈l,i7 V G.K c) ->
  aj V G J s (boolOp pos (As isAnd) (evalEach (l.map aB) G.env)) (Ar (E.e d q) isAnd l U H) (VR V)
 |[],_,_,_,_,_,_=>aj.stuck
 |[c],_,_,_,_,pre,h=>S.e pre (h c bz).wf
 |c::c2::l,J,U,H,s,pre,h=>by
  show aj V G J s (do
   let v <- eval (aB c) G.env
   standAt pos
   let t <- holding [v] (truthy v)
   match(As isAnd),t with
   |.And,false|.Or,true=>pure v
   |_,_=>boolOp pos (As isAnd) (evalEach ((c2::l).map aB) G.env)) (M.bind (E.e d q c) (λv=>M.bind (bX (jg v)) λb=>match b with
    |true=>match isAnd with|true=>Ar (E.e d q) isAnd (c2::l)|false=>cq v
    |false=>match isAnd with|true=>cq v|false=>Ar (E.e d q) isAnd (c2::l)) U H) (VR V)
  have ih:=λ{J:Ph} {U:aD} {H:Hp} {s:Shared} (p:aq V d q G J U H s)=>Kb S (pos:=pos) (isAnd:=isAnd) (c2::l) p λc hc=>h c (bI _ hc);refine aj.bind pre (S.e pre ((h c bz).wf)) λv x ρ1 H1 φ1 s1 n1 p1 r1=>?_;refine TT.imp (λO O h=>ag (fA (ag (cI h)))) ?_;refine TT.seq (Nx.refl ..) p1 (Bb p1 r1) λb c' ρ2 H2 φ2 s2 n2 m2 p2 r2=>?_;subst r2;have yP:=n2.vr p1.er r1;cases isAnd<;>cases b
  ·exact TT.last m2 (ih p2)
  ·exact TT.imp (λO O h=>aA h) (TT.now m2 p2 yP)
  ·exact TT.imp (λO O h=>aA h) (TT.now m2 p2 yP)
  ·exact TT.last m2 (ih p2)
def vZ{e:Expr}{rest:List Expr}{env:Env}(h:wI e=true):backTo pos (starEach (e::rest) env)=(false,eval e env)::backTo pos (starEach rest env):=by
 have:starEach (e::rest) env=(false,eval e env)::starEach rest env:=by cases e<;>first|rfl|exact cR h
 rw[this];rfl
variable {c:C}
def JX(f:C->M AV)(l:List C)(h:c.lq=none):iX f (c::l)=M.bind (f c) λv=>M.bind (iX f l) λvs=>cq (v::vs):=by show(match c.lq with|some a=>_|none=>_)=_;rw[h];rfl
def ON(h:wI (aB c)=true):c.lq=none:=by cases c<;>first|rfl|exact cR h
def JW(S:ew V E):∀(l:List C) {J:Ph} {U:aD} {H:Hp} {s:Shared},aq V d q G J U H s->(∀c∈l,i7 V G.K c) ->
  aj V G J s (spliced (backTo pos (starEach (l.map aB) G.env))) (iX (E.e d q) l U H) (λφ' h' vs xs=>aO V φ' h' vs xs/\xs.length=l.length):=by
 intro l
 induction l with
 |nil=>intro _ _ _ _ pre _;exact TT.imp (λO O h=>aA h) (TT.now (Nx.refl ..) pre ⟨.nil,rfl⟩)
 |cons c l ih=>intro J U H s pre h;have hc:=h c bz;rw[bQ,vZ hc.plain,JX _ _ (ON hc.plain)];refine TT.imp (λO O h=>Calls.spliced_cons h) (TT.seq (Nx.refl ..) pre (S.e pre hc.wf) λv x ρ1 H1 φ1 s1 n1 m1 p1 r1=>?_);exact TT.seq m1 p1 (ih p1 λc hc=>h c (bI _ hc)) λvs xs ρ2 H2 φ2 s2 n2 m2 p2 r2=>TT.now m2 p2 ⟨.cons (n2.vr p1.er r1) r2.1,congrArg (·+1) r2.2⟩
def F8{h:Heap}{vs:List Value}{xs:List AV}{l:List C}(r:aO V J h vs xs/\xs.length=l.length)(hl:l.length<=100):xs.length<=az/\vs.length<=sizeLine:=by
 have:xs.length<=az:=by rw[r.2];exact aH hl (by decide)
 exact⟨this,by rw[r.1.length];exact iN this⟩
def Yg(S:ew V E)(pre:aq V d q G J U H s){b:Bool}(h:mH V l G.K=true)(hl:(cs l).length<=100):
  aj V G J s (eval (.List (bJ l) pos) G.env) (HT E d q l b U H) (VR V):=by
 refine ua (vN h) λe h=>?_;rw[e,arm_eval_List];refine TT.imp (W:=λQ Ex=>wpAny (model V.prog V.w) G.A (spliced (backTo pos (starEach ((cs l).map aB) G.env))) (λvs s'=>wpAny (model V.prog V.w) G.A (newList vs) Q Ex s') Ex s) (λO O h=>ag (fA (ag h))) ?_;refine TT.seq (Nx.refl ..) pre (JW S (pos:=pos) (cs l) pre h) λvs xs ρ1 H1 φ1 s1 n1 m1 p1 r1=>?_;refine ua (F8 r1 hl) λz1 z2=>?_;refine TT.last m1 (aj.A0 λr e=>?_);cases b with
 |true=>
  obtain rfl:=sj e;exact aj.fresh p1 λQ E h=>wpAny_newList (h _ _ (s1.heap.objs.size,s1.heap.objs.size) (av.push s1 _ s1.toks) (aQ _) ⟨_,cw _ rfl⟩
   ⟨vs,0,lV.mk rfl (IsL.new ..) (r1.1.mono ((av.push s1 _ s1.toks).ext [] φ1) (cW.nil _) (Gr.push φ1 _ (gB (aQ _)))) z1⟩ (yL _ _ p1.rel.len)) z2
 |false=>obtain rfl:=sj e;exact aj.quiet p1 λQ E h=>wpAny_newList (h _ _ (av.push s1 _ s1.toks) (B3 p1.rel (av.push s1 _ s1.toks) (n:=0) (IsL.new ..) r1.1 z1)) z2
def X7(S:ew V E)(pre:aq V d q G J U H s){k:Nat}(h:mH V l G.K=true)(hl:(cs l).length<=100):
  aj V G J s (eval (.Tuple (bJ l) k pos) G.env) (Fw E d q l U H) (VR V):=by
 refine ua (vN h) λe h=>?_;rw[e,arm_eval_Tuple];refine TT.imp (W:=λQ Ex=>wpAny (model V.prog V.w) G.A (spliced (backTo pos (starEach ((cs l).map aB) G.env))) (λvs s'=>wpAny (model V.prog V.w) G.A (newTuple vs) Q Ex s') Ex s) (λO O h=>ag (fA (ag h))) ?_;refine TT.seq (Nx.refl ..) pre (JW S (pos:=pos) (cs l) pre h) λvs xs ρ1 H1 φ1 s1 n1 m1 p1 r1=>?_;refine ua (F8 r1 hl) λz1 z2=>?_;refine TT.last m1 (aj.quiet p1 λQ E h=>kN (h _ _ (av.push s1 _ s1.toks) (Hn p1.rel (av.push s1 _ s1.toks) (n:=0) (cw _ rfl) r1.1 z1)) ?_);show vs.toArray.size<=sizeLine;rw[fb];exact z2
def Yj(pre:aq V d q G J U H s){i:Bool}:aj V G J s (eval (.Dict [] [] pos) G.env) (Kh i U H) (VR V):=
 aj.fresh pre λQ E h=>wpAny_Dict_empty (h _ _ (s.heap.objs.size,s.heap.objs.size) (av.push s _ s.toks) (aQ _) ⟨_,cw _ rfl⟩
  (by cases i<;>exact⟨[],gM.mk rfl (cw _ rfl) rfl (kU _) pf⟩) (yL _ _ pre.rel.len))
def Yh(S:ew V E)(pre:aq V d q G J U H s){t:C}(ht:wf V t G.K=true)(ha:wf V a G.K=true)(hb:wf V b G.K=true):
  aj V G J s (eval (.IfExp (aB t) (aB a) (aB b) pos) G.env) (II E d q t a b U H) (VR V):=by
 rw[arm_eval_IfExp];refine aj.bind pre (S.t pre ht) λc c' ρ1 H1 φ1 s1 n1 p1 r1=>?_;subst r1;cases c with
 |true=>exact S.e p1 ha
 |false=>exact S.e p1 hb
def X8(S:ew V E)(pre:aq V d q G J U H s){o i:C}(ho:wf V o G.K=true)(hi:wf V i G.K=true)(hs:qS (aB i)=false):
  aj V G J s (eval (.Subscript (aB o) (aB i) pos) G.env) (FG E d q o i U H) (VR V):=
 TT.imp (λO O h=>Subscript_ h) (TT.seq (Nx.refl ..) pre (S.e pre ho) λa x ρ1 H1 φ1 s1 n1 m1 p1 r1=>TT.seq m1 p1 (S.e p1 hi) λb y ρ2 H2 φ2 s2 n2 m2 p2 r2=>TT.last m2 (OB p2 hs (n2.vr p1.er r1) r2))
def J9(S:ew V E)(pre:aq V d q G J U H s)(h:(qT c||wf V c G.K)=true):aj V G J s (evalPart (rX c) G.env) (sZ (E.e d q) c U H) (VR V):=by
 cases c with
 |nil=>exact TT.imp (λO O h=>aA h) (TT.now (Nx.refl ..) pre .none)
 |_=>exact S.e pre h
def TT.up{α β:Type}{W:(α->Shared->Prop)->(Value->Shared->Prop)->Prop}{φ₀:Ph}{s₀:Shared}{r:du β}{R:Ph->Heap->α->β->Prop}(n:Nx G.X φ₀ J s₀ s)(mono:∀{Q Q' E E'},W Q E->(∀a s,Q a s->Q' a s)->(∀a s,E a s->E' a s)->W Q' E')(x:TT V G J s W r R):TT V G φ₀ s₀ W r R:=λhs=>mono (x hs) (λO O h=>h.up n) λO O h=>h.up n
def Yb(S:ew V E)(pre:aq V d q G J U H s){o lo hi:C}{p:Pos}(ho:wf V o G.K=true)(hl:(qT lo||wf V lo G.K)=true)(hu:(qT hi||wf V hi G.K)=true):
  aj V G J s (eval (.Subscript (aB o) (.Slice (rX lo) (rX hi) none p) pos) G.env) (Gd E d q o lo hi U H) (VR V):=by
 refine TT.imp (λO O h=>Subscript_ h) (TT.seq (Nx.refl ..) pre (S.e pre ho) λa x ρ1 H1 φ1 s1 n1 m1 p1 r1=>?_);refine TT.imp (λO O h=>wpAny_Slice h) (TT.seq m1 p1 (J9 S p1 hl) λb y ρ2 H2 φ2 s2 n2 m2 p2 r2=>?_);refine TT.seq m2 p2 (J9 S p2 hu) λc z ρ3 H3 φ3 s3 n3 m3 p3 r3=>?_;rw[evalPart_none];refine TT.imp (λO O h=>aA h) ?_;exact TT.up m3 cH (Pe p3 (value:=aB o) (lo:=rX lo) (hi:=rX hi) (p:=p) (n3.vr p2.er (n2.vr p1.er r1)) (n3.vr p2.er r2) r3)
def X6(pre:aq V d q G J U H s){k:Nat}(h:(pQ x&&Cn G.K.sc x k)=true):aj V G J s (eval (.Name x pos) G.env) (mI k U H) (VR V):=by have h:=nB h;exact TT.imp (λO O h'=>wpAny_Name h' (BU h.1)) (EX pre (of_decide_eq_true h.2) (G4 h.1))
def Yi(ok:Ok V)(pre:aq V d q G J U H s){k:Nat}(h:(pQ x&&sH G.K x .globalImplicit&&decide (V.gl[k]?=some x))=true):
  aj V G J s (eval (.Name x pos) G.env) (xy V.P k U H) (VR V):=by
 have h:=nB h;have h':=nB h.1;exact TT.imp (λO O h=>wpAny_Name h (BU h'.1)) (WO pre ok.toAF (of_decide_eq_true h'.2) (of_decide_eq_true h.2))
def Oq(S:ew V E)(pre:aq V d q G J U H s)(h:wf V c G.K=true)(he:isTrue (aB c) G.env (eval (aB c) G.env)=(do let v <- eval (aB c) G.env;standAt (aB c).pos;holding [v] (truthy v))):
  aj V G J s (isTrue (aB c) G.env (eval (aB c) G.env)) (E0 E d q c U H) (λO O a b=>a=b):=
 TT.imp (λO O h=>wpAny_isTrue_value h he) (TT.seq (Nx.refl ..) pre (S.e pre h) λa x ρ1 H1 φ1 s1 n1 m1 p1 r1=>TT.last m1 (Bb p1 r1))
variable {whole:Sem Value}
def Ou(S:ew V E)(pre:aq V d q G J U H s)(ha:wf V a G.K=true):
  aj V G J s (isTrue (.UnaryOp .Not (aB a) pos) G.env whole) (He E d q a U H) (λO O a b=>a=b):=
 TT.imp (λO O h=>wpAny_isTrue_Not h) (TT.seq (Nx.refl ..) pre (S.t pre ha) λb c ρ1 H1 φ1 s1 n1 m1 p1 r1=>TT.now m1 p1 (by rw[r1]))
theorem Ow(S:ew V E){isAnd:Bool}:∀(l:List C) {J:Ph} {U:aD} {H:Hp} {s:Shared},aq V d q G J U H s->(∀c∈l,i7 V G.K c) ->
  aj V G J s (allTrue (As isAnd) (l.map aB) G.env) (tP (E.t d q) isAnd l U H) (λO O a b=>a=b):=by
 intro l
 induction l with
 |nil=>intro _ _ _ _ pre _;exact TT.imp (λO O h=>aA h) (TT.now (Nx.refl ..) pre (by cases isAnd<;>rfl))
 |cons c l fM=>
  intro J U H s pre h;have ih:=λ{J:Ph} {U:aD} {H:Hp} {s:Shared} (p:aq V d q G J U H s)=>fM p λc hc=>h c (bI _ hc);rw[bQ,arm_allTrue_cons];refine aj.bind pre (S.t pre (h c bz).wf) λb c' ρ1 H1 φ1 s1 n1 p1 r1=>?_;subst r1;cases isAnd<;>cases b
  ·exact ih p1
  ·exact TT.imp (λO O h=>aA h) (TT.now (Nx.refl ..) p1 rfl)
  ·exact TT.imp (λO O h=>aA h) (TT.now (Nx.refl ..) p1 rfl)
  ·exact ih p1
def YV(pre:aq V d q G J U H s)(ok:dR V){vx vy:Value}{x y:AV}(hx:VR V J s.heap vx x)(hy:VR V J s.heap vy y):
  aj V G J s (compareOp op vx vy) (bX (gF op x y) U H) (λO O v b=>v=.bool b):=aj.opt pre λv e Q E h=>Kn pre ok hx hy e Q E λs' g=>h _ _ g rfl
def ZQ{α:Type}(m:M α)(U:aD)(H:Hp):M.bind m cq U H=m U H:=by unfold M.bind cq;cases m U H<;>rfl
def Ov(ok:dR V)(S:ew V E)(pre:aq V d q G J U H s)(ha:wf V a G.K=true)(hb:wf V b G.K=true)(hm:behindInMarks op (aB b)=false):
  aj V G J s (isTrue (.Compare (aB a) [op] [aB b] pos) G.env whole) (Ko E d q op a b U H) (λO O a b=>a=b):=by
 refine TT.imp (λO O h=>wpAny_isTrue_Compare1 h hm) (TT.seq (Nx.refl ..) pre (S.e pre ha) λa x ρ1 H1 φ1 s1 n1 m1 p1 r1=>?_);refine TT.seq m1 p1 (S.e p1 hb) λb y ρ2 H2 φ2 s2 n2 m2 p2 r2=>?_;show TT V G J s _ (bX (gF op x y) ρ2 H2) _;rw[<- ZQ (bX (gF op x y)) ρ2 H2];refine TT.seq m2 p2 (YV p2 ok (n2.vr p1.er r1) r2) λc z ρ3 H3 φ3 s3 n3 m3 p3 r3=>?_;subst r3;exact TT.imp (λO O h=>wpAny_truthy_bool h) (TT.now m3 p3 rfl)
end
section
variable {V:Cf}{G:Fm}{J:Ph}{s:Shared}{U:aD}{H:Hp}{d:Nat}{q:Bool}
def nN(V:Cf)(J:Ph)(h:Heap)(I:Addr)(l:List AV)(a:Addr)(items:List Value)(n i:Nat):Prop:=(h.IsListIter I a i)/\(IsL h a items.toArray n)/\(a∉J.map (·.2))/\(aO V J h (items.drop i) l)
section
variable {b1 b2 b3 b4 b5 b6 b7 b8 b9}(x:nN b1 b2 b3 b4 b5 b6 b7 b8 b9)
def nN.mk:=eM (nN b1 b2 b3 b4 b5 b6 b7 b8 b9) rfl
def nN.it:=x.1
def nN.at_:=x.2.1
def nN.out:=x.2.2.1
def nN.all:=x.2.2.2
end
def nM(V:Cf)(J:Ph)(h:Heap)(I:Addr)(l:List AV)(a:Addr)(items:List Value)(n i:Nat):Prop:=(h.IsTupleIter I a i)/\(IsT h a items.toArray n)/\(a∉J.map (·.2))/\(aO V J h (items.drop i) l)
section
variable {b1 b2 b3 b4 b5 b6 b7 b8 b9}(x:nM b1 b2 b3 b4 b5 b6 b7 b8 b9)
def nM.mk:=eM (nM b1 b2 b3 b4 b5 b6 b7 b8 b9) rfl
def nM.it:=x.1
def nM.at_:=x.2.1
def nM.out:=x.2.2.1
def nM.all:=x.2.2.2
end
def oS(V:Cf)(h:Heap)(I:Addr)(l:List AV)(b:Array UInt8)(t:Tok)(i:Nat)(m:List Nat):Prop:=(KBw.IsBytesIter h I b t i)/\((b.toList.drop i).map UInt8.toNat=V.enc m)/\(l=m.map λd=>.int ((65+d:Nat):Int))
section
variable {b1 b2 b3 b4 b5 b6 b7 b8}(x:oS b1 b2 b3 b4 b5 b6 b7 b8)
def oS.mk:=jn (oS b1 b2 b3 b4 b5 b6 b7 b8) rfl
def oS.it:=x.1
def oS.enc:=x.2.1
def oS.is:=x.2.2
end
def nL(V:Cf)(h:Heap)(I:Addr)(l:List AV)(x:Str)(t:Tok)(i:Nat)(m:List Nat):Prop:=(h.IsStrIter I "str_ascii_iterator" x t i)/\(x.cps.toList.drop i=V.enc m)/\(l=m.map λd=>.str [d])/\(∀c∈m,c<16)
section
variable {b1 b2 b3 b4 b5 b6 b7 b8}(x:nL b1 b2 b3 b4 b5 b6 b7 b8)
def nL.mk:=eM (nL b1 b2 b3 b4 b5 b6 b7 b8) rfl
def nL.it:=x.1
def nL.enc:=x.2.1
def nL.is:=x.2.2.1
def nL.ok:=x.2.2.2
end
inductive Eh(V:Cf)(J:Ph)(h:Heap)(I:Addr)(l:List AV):Prop where
 |lst (a:Addr) (items:List Value) (n i:Nat) (x:nN V J h I l a items n i)
 |tup (a:Addr) (items:List Value) (n i:Nat) (x:nM V J h I l a items n i)
 |fq (z c:Int) (n:Nat) (x:IsRangeIter h I z n c) (e:l=yO c n z)
 |cj (b:Array UInt8) (t:Tok) (i:Nat) (m:List Nat) (x:oS V h I l b t i m)
 |str (y:Str) (t:Tok) (i:Nat) (m:List Nat) (x:nL V h I l y t i m)
def Eg(V:Cf)(J:Ph)(h:Heap)(I:Addr)(src:ba):Prop:=match src with
 |.fix l=>Eh V J h I l
 |.lst n i=>∃a,J[n]?=some (a,a)/\h.IsListIter I a i
 |.dct n i sz ep=>∃a,J[n]?=some (a,a)/\h.IsKeyIter I a i sz ep
 |.vals n i sz ep=>∃a,J[n]?=some (a,a)/\h.IsValIter I a i sz ep
 |.zip _=>False
def cD(V:Cf)(J:Ph)(h:Heap)(I:Addr)(src:ba):Prop:=(Eg V J h I src)/\(V.h₀.objs.size<=I)/\(I∉J.map (·.2))
section
variable {b1 b2 b3 b4 b5}(x:cD b1 b2 b3 b4 b5)
def cD.mk:=jn (cD b1 b2 b3 b4 b5) rfl
def cD.st:=x.1
def cD.new:=x.2.1
def cD.out:=x.2.2
end
variable {h:Heap}{I:Addr}
def qR{T:String}{vs:Array Value}(hT:uE T=true)(x:∃o,h.get? I=some o/\o.cls=.type T/\o.data=.fields vs):∃o,h.get? I=some o/\jY o:=gc x λo e h1 h2=>⟨o,e,T,vs,h1,hT,h2⟩
variable {src:ba}
def lG(x:Eg V J h I src):∃o,h.get? I=some o/\jY o:=by
 cases src with
 |fix l=>
  cases x with
  |lst a items n i x=>exact qR (by decide) x.it
  |tup a items n i x=>exact qR (by decide) x.it
  |fq x c n e _=>exact qR (T:="range_iterator") (by decide) ⟨_,e,rfl,rfl⟩
  |cj b t i m x=>exact qR (by decide) x.it
  |str y t i m x=>exact qR (by decide) x.it
 |lst n i=>obtain⟨a,_,x⟩:=x;exact qR (by decide) x
 |dct n i sz ep=>obtain⟨a,_,x⟩:=x;exact qR (by decide) x
 |vals n i sz ep=>obtain⟨a,_,x⟩:=x;exact qR (by decide) x
 |zip n=>exact x.elim
def yU(x:∃o,h.get? I=some o/\jY o):cW [I] h:=λa ha=>by rw[fR.mp ha];refine ak x λo e w=>?_;clear x;exact⟨o,e,.inr (.inr (.inl w))⟩
def jY.nd{o:Obj}(x:jY o):¬ iy o:=λbN=>cb bN λes n k=>by refine bo x.it λT vs O O k3=>?_;rw[k] at k3;cases k3
variable {h':Heap}
def cD.mono{X:List Addr}{φ':Ph}(x:cD V J h I src)(E:cG X J h h')(hX:cW X h)(g:Gr J φ' h)(hI:I∉X):cD V φ' h' I src:=by
 refine ak (lG x.st) λo e ho=>?_;have e':h'.get? I=some o:=by
  rcases E.keep I o e x.out hI with k|⟨k,_⟩
  ·exact k
  ·exact absurd k ho.nd
 have same:∀{o'},h.get? I=some o'->h'.get? I=some o':=λe2=>by rw[e] at e2;obtain rfl:=sj e2;exact e'
 have xs:=x.st;refine(cD.mk ?_ x.new (g.not ⟨o,e⟩ x.out));cases src with
 |fix l=>
  cases xs with
  |lst a items n i y=>exact .lst a items n i (nN.mk (ak y.it λo e r=>⟨o,same e,r⟩) (E.get hX y.at_ y.out (.ty (by decide) (by simp) (by simp))) (g.not ⟨_,y.at_⟩ y.out) (y.all.mono E hX g))
  |tup a items n i y=>exact .tup a items n i (nM.mk (ak y.it λo e r=>⟨o,same e,r⟩) (E.get hX y.at_ y.out (.ty (by decide) (by simp) (by simp))) (g.not ⟨_,y.at_⟩ y.out) (y.all.mono E hX g))
  |fq z c n e q=>exact .fq z c n (same e) q
  |cj b t i m y=>exact .cj b t i m (oS.mk (ak y.it λo e r=>⟨o,same e,r⟩) y.enc y.is)
  |str y0 t i m y=>exact .str y0 t i m (nL.mk (ak y.it λo e r=>⟨o,same e,r⟩) y.enc y.is y.ok)
 |lst n i=>refine A9 xs λa h1 o2 e2 h2=>?_;clear xs;exact⟨a,g.get h1,o2,same e2,h2⟩
 |dct n i sz ep=>refine A9 xs λa h1 o2 e2 h2=>?_;clear xs;exact⟨a,g.get h1,o2,same e2,h2⟩
 |vals n i sz ep=>refine A9 xs λa h1 o2 e2 h2=>?_;clear xs;exact⟨a,g.get h1,o2,same e2,h2⟩
 |zip n=>exact xs.elim
def eg(I:Addr)(s s':Shared):Prop:=(∀b o,b≠I->s.heap.get? b=some o->s'.heap.get? b=some o)/\(s'.gens=s.gens)/\(s'.os=s.os)
section
variable {b1 b2 b3}(x:eg b1 b2 b3)
def eg.mk:=jn (eg b1 b2 b3) rfl
def eg.keep:=x.1
def eg.gens:=x.2.1
def eg.os:=x.2.2
end
variable {s':Shared}
def eg.ext(k:eg I s s')(J:Ph):cG [I] J s.heap s'.heap:=⟨λa o e O hx=>.inl (k.keep a o (λq=>hx (by simp[q])) e)⟩
def aq.Lg(pre:aq V d q G J U H s)(k:eg I s s')(hI:∃o,s.heap.get? I=some o/\oQ o/\∀v,o.data≠.cell v)(hf:dn V G J s'.heap)(hn:V.h₀.objs.size<=I)(hφ:I∉J.map (·.2))(hX:I∉G.X):
  aq V d q G J U H s':=by
 refine gc hI λoI eI w wc=>?_;clear hI;have xk:cW [I] s.heap:=λa ha=>by rw[fR.mp ha];exact⟨oI,eI,w⟩
 have E:=k.ext J;refine(aq.mk (pre.rel.mono E xk (λa o e=>k.keep a o (λq=>absurd (cZ e) (hJ.mpr (q▸hn))) (pre.rel.keep a o e)) λp hp=>?_) (pre.er.Cr E xk (Gr.refl ..) λa o ha e O=>.inl (k.keep a o (λq=>?_) e)) pre.room pre.hd hf)
 ·refine ue (pre.rel.live p hp) λo e=>?_;exact(k.keep _ o (λq=>hφ (q▸mB hp)) e).trans e.symm
 ·subst q;rcases ha with ha|⟨v,ha⟩
  ·exact hX ha
  ·rw[eI] at e;obtain rfl:=sj e;exact wc v ha
def aq.it(pre:aq V d q G J U H s)(k:eg I s s')(hI:∃o,s.heap.get? I=some o/\jY o)(hn:V.h₀.objs.size<=I)(hφ:I∉J.map (·.2))(hX:I∉G.X):aq V d q G J U H s':=by refine ak hI λo e w=>?_;clear hI;exact pre.Lg k ⟨o,e,.inr (.inr (.inl w)),λv hv=>by refine bo w.it λT vs O O k3=>?_;rw[hv] at k3;cases k3⟩ (pre.fr.mono (k.ext J) (Gr.refl ..) λa ha o' e' hd=>by rw[fR.mp ha,e] at e';obtain rfl:=sj e';exact absurd hd w.nd) hn hφ hX
def Af{α:Type}{l:List α}{i:Nat}{x:α}{r:List α}(h:l.drop i=x::r):l[i]?=some x/\l.drop (i+1)=r:=by
 constructor
 ·rw[<- List.head?_drop,h];rfl
 ·rw[<- List.tail_drop,h];rfl
def Ae{α:Type}{l:List α}{i:Nat}(h:l.drop i=[]):l[i]?=none:=by rw[<- List.head?_drop,h];rfl
def oj(hs:Heap.SameBut I s.heap h')(t:Nat):eg I s {s with heap:=h',toks:=t}:=(eg.mk (λb o hb e=>(hs.2 b hb).trans e) rfl rfl)
def ET(hs:Heap.SameBut I s.heap h')(hI:∃o,s.heap.get? I=some o/\jY o){vs:List Value}{l:List AV}(r:aO V J s.heap vs l):aO V J h' vs l:=r.mono ((oj hs s.toks).ext J) (yU hI) (Gr.refl ..)
def yh(hs:Heap.SameBut I s.heap h')(hI:∃o,s.heap.get? I=some o/\jY o){v:Value}{l:AV}(r:VR V J s.heap v l):VR V J h' v l:=r.mono ((oj hs s.toks).ext J) (yU hI) (Gr.refl ..)
def LJ(V:Cf)(A:Around)(J:Ph)(s:Shared)(I:Addr)(v:AV)(src':ba):Prop:=∀Q E,(∀xv s',eg I s s'->VR V J s'.heap xv v->cD V J s'.heap I src'->Q (some xv) s')->wpAny (model V.prog V.w) A (pyNext (.ref I)) Q E s
def Hd{a:Addr}(hI:∃o,s.heap.get? I=some o/\jY o){o:Obj}(e:s.heap.get? a=some o)(h:∀vs,o.data≠.fields vs):I≠a:=λq=>by subst q;refine ak hI λo' e' w=>?_;clear hI;rw[e] at e';obtain rfl:=sj e';refine bo w.it λT vs O O k=>?_;exact h vs k
variable {A:Around}
def Hj{r:List AV}{v:AV}(x:cD V J s.heap I (.fix (v::r))):LJ V A J s I v (.fix r):=by
 intro Q E h;have hI:=lG x.st;have xs:Eh V J s.heap I (v::r):=x.st;cases xs with
 |lst a items n i y=>have dN:=Hd hI y.at_ (by simp);refine bo y.all λxv r' hd hv hr=>?_;refine ua (Af hd) λk1 k2=>?_;exact wpAny_pyNext_list_item y.it y.at_.isList (by simpa using k1) λh' i' hs=>h xv _ (oj hs _) (yh hs hI hv) (cD.mk (.lst a items n (i+1) (nN.mk i' ((hs.2 a (cP dN)).trans y.at_) y.out (k2▸ET hs hI hr))) x.new x.out)
 |tup a items n i y=>have dN:=Hd hI y.at_ (by simp);refine bo y.all λxv r' hd hv hr=>?_;refine ua (Af hd) λk1 k2=>?_;exact wpAny_pyNext_tuple_item y.it ⟨_,y.at_,rfl,_,rfl⟩ (by simpa using k1) λh' i' hs=>h xv _ (oj hs _) (yh hs hI hv) (cD.mk (.tup a items n (i+1) (nM.mk i' ((hs.2 a (cP dN)).trans y.at_) y.out (k2▸ET hs hI hr))) x.new x.out)
 |fq z c n y e=>
  cases n with
  |zero=>cases e
  |succ n=>cases e;refine wpAny_pyNext_range_item y (n7.mpr (mE n)) λh' i' hs=>h _ _ (oj hs _) (.lit z _) (cD.mk (.fq (z+c) c n ?_ rfl) x.new x.out);have:((n+1:Nat):Int)-1=(n:Int):=Int.add_sub_cancel (n:Int) 1;rw[this] at i';exact i'
 |cj b t i m y=>
  have y2:=y.is;have y1:=y.enc;cases m with
  |nil=>cases y2
  |cons k m=>
   cases y2;cases hd:b.toList.drop i with
   |nil=>rw[hd] at y1;cases y1
   |cons c r'=>rw[hd] at y1;have y1:=nR y1;have ek:c.toNat=65+k:=y1.1;refine ua (Af hd) λk1 k2=>?_;refine KBw.next_item y.it (by simpa using k1) λh' i' hs=>?_;refine h _ _ (oj hs _) ?_ (cD.mk (.cj b t (i+1) m (oS.mk i' (by rw[k2];exact y1.2) rfl)) x.new x.out);rw[ek];exact .lit ..
 |str y0 t i m y=>
  have y2:=y.is;have y1:=y.enc;cases m with
  |nil=>cases y2
  |cons k m=>cases y2;refine ua (Af y1) λk1 k2=>?_;refine wpAny_pyNext_ascii_item y.it (by simpa using k1) λh' i' hs=>h _ _ (oj hs _) ⟨_,rfl,.one (y.ok k bz)⟩ (cD.mk (.str y0 t (i+1) m (nL.mk i' k2 rfl (λc hc=>y.ok c (bI _ hc)))) x.new x.out)
def SU(R:aR V J H s.heap){src':ba}{v:AV}(x:cD V J s.heap I src)(e:src.next H=some (some (v,src'))):LJ V A J s I v src':=by
 cases src with
 |fix l=>
  cases l with
  |nil=>cases e
  |cons y r=>cases e;exact Hj x
 |lst n i=>intro Q E h;have hI:=lG x.st;refine ak x.st λa h1 h2=>?_;refine um e λl h3 e=>?_;refine um e λy h4 e=>?_;cases e;rw[bY] at h4;refine lp (R.list h3 h1) λO items n' z=>?_;refine ak (z.all.get h4) λxv k1 k2=>?_;exact wpAny_pyNext_list_item h2 z.at_.isList (by simpa using k1) λh' i' hs=>h xv _ (oj hs _) (yh hs hI k2) (cD.mk ⟨a,h1,i'⟩ x.new x.out)
 |dct n i sz ep=>intro Q E h;have hI:=lG x.st;refine ak x.st λa h1 h2=>?_;refine ub e λl h3 e=>?_;refine ur e λh4 e=>?_;refine us h4 λh4 h5=>?_;refine um (jA e) λy h6 e=>?_;cases e;cases ck h4;cases ck h5;rw[bY] at h6;refine gf (R.dictAt h3 h1) λO kvs z=>?_;refine ue (z.get i y h6) λval k=>?_;rw[<- z.len] at h2;refine wpAny_pyNext_dict_item (knd:=kk V false) h2 z.at_ k.get λkey h' jO i' hs=>?_;refine ue (Value.isStrOf_shape (x:=V.tx y.1) jO) λt aa=>?_;subst aa;rw[z.len] at i';exact h _ _ (oj hs _) (.str k.ok) (cD.mk ⟨a,h1,i'⟩ x.new x.out)
 |vals n i sz ep=>intro Q E h;have hI:=lG x.st;refine ak x.st λa h1 h2=>?_;refine ub e λl h3 e=>?_;refine ur e λh4 e=>?_;refine us h4 λh4 h5=>?_;refine um (jA e) λy h6 e=>?_;cases e;cases ck h4;cases ck h5;rw[bY] at h6;refine gf (R.dictAt h3 h1) λO kvs z=>?_;refine ue (z.get i y h6) λval k=>?_;rw[<- z.len] at h2;refine wpAny_pyNext_values_item (knd:=kk V false) h2 z.at_ k.get λh' i' hs=>?_;rw[z.len] at i';exact h _ _ (oj hs _) (yh hs hI k.val) (cD.mk ⟨a,h1,i'⟩ x.new x.out)
 |zip n=>exact x.st.elim
def Hk(R:aR V J H s.heap)(hh:A.handled=none)(x:cD V J s.heap I src)(e:src.next H=some none):
  ∀Q E,(∀s',eg I s s'->Q none s')->wpAny (model V.prog V.w) A (pyNext (.ref I)) Q E s:=by
 intro Q E h;have fin:∀h':Heap,Heap.ExtBut I s.heap h'->Q none {s with heap:=h'}:=λh' k=>h _ (eg.mk (λb o hb e=>k b o hb e) rfl rfl);cases src with
 |fix l=>
  cases l with
  |cons y r=>cases e
  |nil=>
   have xs:Eh V J s.heap I []:=x.st;cases xs with
   |lst a items n i y=>exact wpAny_pyNext_list_end hh y.it y.at_.isList (by simpa using Ae y.all) fin
   |tup a items n i y=>exact wpAny_pyNext_tuple_end hh y.it ⟨_,y.at_,rfl,_,rfl⟩ (by simpa using Ae y.all) fin
   |fq z c n y e'=>
    cases n with
    |succ n=>cases e'
    |zero=>exact wpAny_pyNext_range_end hh y (Int.le_refl 0) fin
   |cj b t i m y=>
    have y2:=y.is;have y1:=y.enc;cases m with
    |cons=>cases y2
    |nil=>exact KBw.next_end hh y.it (by simpa using Ae (List.map_eq_nil_iff.mp y1)) fin
   |str y0 t i m y=>
    have y2:=y.is;have y1:=y.enc;cases m with
    |cons=>cases y2
    |nil=>exact wpAny_pyNext_ascii_end hh y.it (by simpa using Ae y1) fin
 |lst n i=>refine ak x.st λa h1 h2=>?_;refine um e λl h3 e=>?_;have e:=Option.map_eq_none_iff.mp e;rw[bY,qu] at e;refine lp (R.list h3 h1) λO items n' z=>?_;exact wpAny_pyNext_list_end hh h2 z.at_.isList (by simpa[z.all.length] using e) fin
 |dct n i sz ep=>refine ak x.st λa h1 h2=>?_;refine ub e λl h3 e=>?_;refine ur e λh4 e=>?_;refine us h4 λh4 h5=>?_;cases ck h4;cases ck h5;have e:=Option.map_eq_none_iff.mp (jA e);rw[bY,qu] at e;refine gf (R.dictAt h3 h1) λO kvs z=>?_;rw[<- z.len] at h2 e;exact wpAny_pyNext_dict_end (knd:=kk V false) hh h2 z.at_ (qu.mpr e) fin
 |vals n i sz ep=>refine ak x.st λa h1 h2=>?_;refine ub e λl h3 e=>?_;refine ur e λh4 e=>?_;refine us h4 λh4 h5=>?_;cases ck h4;cases ck h5;have e:=Option.map_eq_none_iff.mp (jA e);rw[bY,qu] at e;refine gf (R.dictAt h3 h1) λO kvs z=>?_;rw[<- z.len] at h2 e;exact wpAny_pyNext_values_end (knd:=kk V false) hh h2 z.at_ (qu.mpr e) fin
 |zip n=>exact x.st.elim
def xY(a b c:Int):Prop:=(a.natAbs<=1000000)/\(b.natAbs<=1000000)/\(0<c)/\(c.natAbs<=1000000)
section
variable {b1 b2 b3}(x:xY b1 b2 b3)
def xY.mk:=eM (xY b1 b2 b3) rfl
end
def Qj{a b c:Int}(h:mW a b c=true):xY a b c:=by refine pk h λh1 h2 h3 h4=>?_;rw[sG] at h3;exact(xY.mk (ic h1) (ic h2) (of_decide_eq_true h3) (ic h4))
def GB(a b c:Int):pM a b c=if a<b then((b-a-1)/c+1).toNat else 0:=by
 unfold pM;rw[sG];by_cases h:a<b
 ·rw[decide_eq_true h,if_pos h]
 ·rw[decide_eq_false h,if_neg h]
def Qi{a b c:Int}(h:mW a b c=true):Builtin.Range.small a b c=true/\Builtin.Range.rangeSize a b c=(pM a b c:Int):=by
 obtain⟨h1,h2,h3,h4⟩:=Qj h;have pos:a<b->0<=b-a-1:=λk=>by rw[Int.sub_sub];exact Int.sub_nonneg_of_le k
 have div:a<b->0<=(b-a-1)/c+1:=λk=>Int.add_nonneg (Int.ediv_nonneg (pos k) (Int.le_of_lt h3)) (by decide);have h5:Builtin.Range.rangeSize a b c=(pM a b c:Int):=by
  rw[GB];unfold Builtin.Range.rangeSize;rw[if_pos h3];split
  ·exact(Int.toNat_of_nonneg (div ‹_›)).symm
  ·rfl
 have hb:(pM a b c:Int)<=((3000000:Nat):Int):=by
  rw[GB];by_cases k:a<b
  ·rw[if_pos k,Int.toNat_of_nonneg (div k)];refine Int.le_trans (Int.add_le_add_right (Int.ediv_le_self _ (pos k)) 1) ?_;rw[Int.sub_add_cancel];refine Int.le_trans Int.le_natAbs (n6.mpr (aH (Int.natAbs_sub_le b a) (aH (Nat.add_le_add h2 h1) (by decide))))
  ·rw[if_neg k];exact n6.mpr (kU _)
 have f:∀i:Int,i.natAbs<=3000000->Builtin.Range.rangeFitsLong i=true:=by intro i hi;unfold Builtin.Range.rangeFitsLong;simp;exact⟨Int.le_trans (by decide:_<=-((3000000:Nat):Int)) (Int.neg_le_of_neg_le (Int.le_trans (by rw[<- Int.natAbs_neg];exact Int.le_natAbs) (n6.mpr hi))),Int.lt_of_le_of_lt (Int.le_trans Int.le_natAbs (n6.mpr hi)) (by decide)⟩
 refine⟨?_,h5⟩;unfold Builtin.Range.small;rw[h5,f a (by exact AU ‹_›),f b (by exact AU ‹_›),f c (by exact AU ‹_›),f ((pM a b c:Nat):Int) (n6.mp hb),if_pos h3,f (b+(c-1)) (aH (Int.natAbs_add_le ..) (aH (Nat.add_le_add h2 (aH (Int.natAbs_sub_le c 1) (nW h4 1))) (by decide)))];simp
def aby(V:Cf)(A:Around)(J:Ph)(s:Shared)(v:Value)(src:ba):Prop:=∀Q E,(∀o,jY o->cD V J (s.heap.push o) s.heap.objs.size src->Q (.ref s.heap.objs.size) {s with heap:=s.heap.push o})->wpAny (model V.prog V.w) A (pyIter v) Q E s
noncomputable def Cw(s:ba):Bool:=match s with|.zip _=>true|_=>false
def Ik(R:aR V J H s.heap)(ok:dR V){v:Value}{x:AV}(hx:VR V J s.heap v x)(e:dX x H=some src)(hz:Cw src=false):aby V A J s v src:=by
 intro Q E h;have out:=R.fresh (aQ s.heap.objs.size);have low:=R.base;have G:∀o,av s {s with heap:=s.heap.push o}:=λo=>av.push s o s.toks;cases x with
 |tup l=>obtain rfl:=sj e;refine cJ hx λa items n aa y=>?_;clear hx;subst aa;exact wpAny_pyIter_tuple ⟨_,y.at_,rfl,_,rfl⟩ (h _ ⟨_,_,rfl,by decide,rfl⟩ (cD.mk (.tup _ _ _ 0 (nM.mk ⟨_,cw _ rfl,rfl,rfl⟩ ((G _).keep _ _ y.at_) y.out ((G _).j9 y.all))) low out))
 |lst l=>obtain rfl:=sj e;refine cJ hx λa items n aa y=>?_;clear hx;subst aa;exact wpAny_pyIter_list y.at_.isList (h _ ⟨_,_,rfl,by decide,rfl⟩ (cD.mk (.lst _ _ _ 0 (nN.mk ⟨_,cw _ rfl,rfl,rfl⟩ ((G _).keep _ _ y.at_) y.out ((G _).j9 y.all))) low out))
 |cj l=>obtain rfl:=sj e;refine bo hx λb t aa y o=>?_;clear hx;subst aa;exact KBw.pyIter_bytes (h _ ⟨_,_,rfl,by decide,rfl⟩ (cD.mk (.cj b t 0 l (oS.mk ⟨_,cw _ rfl,rfl,rfl⟩ y rfl)) low out))
 |str l=>
  obtain rfl:=sj e;refine ak hx λt aa o=>?_;clear hx;subst aa;have asc:(V.tx l).cps.all (·<128)=true:=by show((V.enc l).toArray).all _=true;rw[List.all_toArray,fB];intro c hc;refine ak (bj.mp hc) λe he aa=>?_;subst aa;have:=o.sign e he;simp;exact Eu ‹_›
  exact wpAny_pyIter_ascii asc (h _ ⟨_,_,rfl,by decide,rfl⟩ (cD.mk (.str (V.tx l) t 0 l (nL.mk ⟨_,cw _ rfl,rfl,rfl⟩ rfl rfl o.sign)) low out))
 |fq a b c=>obtain rfl:=sj e;refine yn hx λA' t u w aa y O z=>?_;clear hx;subst aa;refine ua (Qi z) λz1 z2=>?_;refine wpAny_pyIter_range y z1 (h _ ⟨_,_,rfl,by decide,rfl⟩ (cD.mk (.fq _ _ _ ?_ rfl) low out));rw[<- z2];exact cw _ rfl
 |ref n=>
  have e:(match bq H n with
   |some _=>some (.lst n 0)
   |none=>(cM H n).map λr=>.dct n 0 r.2.length r.1)=some src:=e
  refine ak (ig hx rfl) λp aa hp=>?_;subst aa;cases hl:bq H n with
  |some l=>rw[hl] at e;obtain rfl:=sj e;refine lp (R.list hl hp) λpe items n' z=>?_;exact wpAny_pyIter_list z.at_.isList (h _ ⟨_,_,rfl,by decide,rfl⟩ (cD.mk ⟨p.1,pe▸hp,⟨_,cw _ rfl,rfl,rfl⟩⟩ low out))
  |none=>rw[hl] at e;refine um e λr h1 aa=>?_;subst aa;refine gf (R.dictAt h1 hp) λpe kvs z=>?_;refine wpAny_pyIter_dict (knd:=kk V false) (ug R hp pe ok.big) z.at_ (h _ ⟨_,_,rfl,by decide,rfl⟩ (cD.mk ⟨p.1,pe▸hp,⟨_,cw _ rfl,rfl,?_⟩⟩ low out));rw[z.len];rfl
 |vals n=>refine um e λr h1 aa=>?_;subst aa;refine kZ hx λb a d' aa hp hv ho=>?_;clear hx;subst aa;refine gf (R.dictAt h1 hp) λpe kvs z=>?_;refine wpAny_pyIter_values (knd:=kk V false) hv z.at_ (h _ ⟨_,_,rfl,by decide,rfl⟩ (cD.mk ⟨a,pe▸hp,⟨_,cw _ rfl,rfl,?_⟩⟩ low out));rw[z.len];rfl
 |zip n=>refine um e λr h1 aa=>?_;subst aa;cases hz
 |_=>exact aT e
end
section
variable {V:Cf}{G:Fm}{J:Ph}{s:Shared}{U:aD}{H:Hp}{d:Nat}{q:Bool}
variable {E:Value->Shared->Prop}{I:Addr}{v:Value}
set_option backward.match.sparseCases true in
def T1{M:Model}{A:Around}{Q:Unit->Shared->Prop}{tg:Expr}(hI:∃o,s.heap.get? I=some o/\jY o)(h:Q () s):wpAny M A (letOwnedTupleGo tg (.ref I) v) Q E s:=by
 obtain⟨o,e,⟨T,vs,h1,h2,h3⟩⟩:=hI;unfold letOwnedTupleGo;have key:wpAny M A (do
   let (.ref r,.ref a):=(Value.ref I,v)|return
   let o <- load r
   match o.cls,o.data with
   |.type n,.fields vs=>
    if["enumerate","zip","dict_itemiterator","dict_reverseitemiterator","odict_iterator","itertools.zip_longest","itertools.pairwise"].contains n&&vs[0]?==some (rawInt a) then
     rule "for.unpacks-the-owned-tuple"
     updateField r 0 .none
   |_,_=>pure ()) Q E s:=by
  cases v with
  |ref a=>
   refine ag (wpAny_load e ?_);rw[h1,h3];have hT:["enumerate","zip","dict_itemiterator","dict_reverseitemiterator","odict_iterator","itertools.zip_longest","itertools.pairwise"].contains T=false:=by unfold uE at h2;simp only[Bool.or_eq_true,beq_iff_eq] at h2;rcases h2 with(((((rfl|rfl)|rfl)|rfl)|rfl)|rfl)|rfl<;>decide
   show wpAny M A (if(_&&_)=true then _ else _) Q E s;rw[hT];exact aA h
  |_=>exact aA h
 cases tg<;>first|exact key|exact aA h
variable {s':Shared}
def eg.trans{iP:Shared}(a:eg I s s')(b:eg I s' iP):eg I s iP:=(eg.mk (λx o hx e=>b.keep x o hx (a.keep x o hx e)) (b.gens.trans a.gens) (b.os.trans a.os))
def eg.vr(k:eg I s s')(hI:∃o,s.heap.get? I=some o/\jY o){x:AV}(r:VR V J s.heap v x):VR V J s'.heap v x:=r.mono (k.ext J) (yU hI) (Gr.refl ..)
def eg.j9(k:eg I s s')(hI:∃o,s.heap.get? I=some o/\jY o){v:List Value}{x:List AV}(r:aO V J s.heap v x):aO V J s'.heap v x:=r.mono (k.ext J) (yU hI) (Gr.refl ..)
def oY(V:Cf)(d:Nat)(q:Bool)(G:Fm)(J:Ph)(U:aD)(H:Hp)(I:Addr)(l r:List AV)(s:Shared)(xs:List Value)(s':Shared):Prop:=(aq V d q G J U H s')/\(eg I s s')/\(aO V J s'.heap xs l)/\(cD V J s'.heap I (.fix r))
section
variable {b1 b2 b3 b4 b5 b6 b7 b8 b9 gq jS nA xS}(x:oY b1 b2 b3 b4 b5 b6 b7 b8 b9 gq jS nA xS)
def oY.mk:=eM (oY b1 b2 b3 b4 b5 b6 b7 b8 b9 gq jS nA xS) rfl
def oY.pre:=x.1
def oY.but:=x.2.1
def oY.all:=x.2.2.1
def oY.it:=x.2.2.2
end
def YA(hX:I∉G.X):∀(l r:List AV) (s:Shared) (Q:List Value->Shared->Prop),aq V d q G J U H s->cD V J s.heap I (.fix (l++r)) ->
  (∀xs s',oY V d q G J U H I l r s xs s'->Q xs s')->wpAny (model V.prog V.w) G.A (draw (.ref I) l.length) Q E s:=by
 intro l
 induction l with
 |nil=>intro r s Q pre x h;exact aA (h [] s (oY.mk pre (eg.mk (λO O O e=>e) rfl rfl) .nil x))
 |cons y l ih=>intro r s Q pre x h;show wpAny _ G.A (pyNext (.ref I)>>=_) Q E s;refine ag (Hj x _ _ λxv s1 k1 r1 x1=>?_);exact ag (cI (ih r s1 _ (pre.it k1 (lG x.st) x.new x.out hX) x1 λxs s2 w=>aA (h _ s2 (oY.mk w.pre (k1.trans w.but) (.cons (w.but.vr (lG x1.st) r1) w.all) w.it))))
def AZ(pre:aq V d q G J U H s)(hI:s.heap.objs.size<=I):I∉G.X:=λh=>by refine ak (pre.er.fC I h) λo e O=>?_;exact absurd (cZ e) (hJ.mpr hI)
def B5{a:Addr}{o:Obj}(e:s.heap.get? a=some o):a≠s.heap.objs.size:=dz (cZ e)
def U7(ok:dR V)(hh:G.A.handled=none)(pre:aq V d q G J U H s){x:AV}{l:List AV}(hx:VR V J s.heap v x)(hl:z4 x=some l){Q:List Value->Shared->Prop}
  (h:∀xs s',av s s'->aO V J s'.heap xs l->Q xs s'):wpAny (model V.prog V.w) G.A (unpackItems v l.length none) Q E s:=by
 have key:dX x H=some (.fix l)/\∃T id,s.TypeIs v T/\Slot T "__iter__" id:=by
  cases x with
  |tup=>obtain rfl:=sj hl;refine cJ hx λa items n aa y=>?_;clear hx;subst aa;exact⟨rfl,"tuple",_,⟨_,y.at_,rfl⟩,F.slot_tuple_iter⟩
  |lst=>obtain rfl:=sj hl;refine cJ hx λa items n aa y=>?_;clear hx;subst aa;exact⟨rfl,"list",_,⟨_,y.at_,rfl⟩,slot_list_iter⟩
  |_=>exact aT hl
 refine N3 key λhs T id hT sl=>?_;clear key;unfold unpackItems;refine ag ?_;unfold notIterableAtAll;refine ag (wpAny_specialOf hT sl.lookup ?_);refine aA ?_;refine ag (cI (Ik pre.rel ok hx hs rfl _ _ λo ho x1=>?_));have g:av s {s with heap:=s.heap.push o}:=av.push s o s.toks;refine ag (cI (YA (AZ pre (aQ _):s.heap.objs.size∉G.X) l [] _ _ (pre.grow g) (by rw[cE];exact x1:cD V J (s.heap.push o) s.heap.objs.size (.fix (l++[]))) λxs s2 w=>?_));rw[if_neg (by rw[w.all.length];exact jz _)];refine ag (cI (Hk w.pre.rel hh w.it rfl _ _ λs3 k3=>?_));show wpAny _ G.A (pure xs) Q E s3;exact aA (h xs s3 (av.mk (λb o' e=>k3.keep b o' (B5 e) (w.but.keep b o' (B5 e) (g.keep b o' e))) (k3.gens.trans (w.but.gens.trans g.gens)) (k3.os.trans (w.but.os.trans g.os))) (k3.j9 (lG w.it.st) w.all))
def rE(K:Cx)(x:Str)(k:Nat):Prop:=(pQ x=true)/\(K.sc.lookup x=some k)/\(K.kn.lookup x=some .local\/K.kn.lookup x=some .cell)
section
variable {b1 b2 b3}(x:rE b1 b2 b3)
def rE.mk:=jn (rE b1 b2 b3) rfl
def rE.name:=x.1
def rE.sc:=x.2.1
def rE.kn:=x.2.2
end
def A1{K:Cx}{c:C}(h:n9 K c=true):∃x k p,c=.var x k p/\rE K x k:=by
 cases c with
 |var x k p=>refine jE h λh1 h2 h3=>?_;exact⟨x,k,p,rfl,rE.mk h1 (of_decide_eq_true h2) ((rK.mp h3).imp (λh=>of_decide_eq_true h) λh=>of_decide_eq_true h)⟩
 |_=>exact cR h
def Ax(pre:aq V d q G J U H s){c:C}(h:n9 G.K c=true){a:AV}(hv:VR V J s.heap v a):aj V G J s (assign (aB c) G.env v) (lx c.slot a U H) (λO O O O=>True):=by refine cJ (A1 h) λx k p aa w=>?_;subst aa;exact TT.imp (λO O h=>wpAny_assign_Name h) (FJ pre w.sc w.kn hv)
def J8{c:C}{K:Cx}{env:Env}(h:n9 K c=true)(r:List Expr):assignEach (aB c::r) env=(false,assign (aB c) env)::assignEach r env:=by refine cJ (A1 h) λx k p aa O=>?_;subst aa;rfl
theorem OH:∀(l:List C) (xs:List Value) (vs:List AV) {J:Ph} {U:aD} {H:Hp} {s:Shared},aq V d q G J U H s->(∀c∈l,n9 G.K c=true)->aO V J s.heap xs vs ->
  aj V G J s (assignInOrder ((assignEach (l.map aB) G.env).map (·.2)) xs) (r7 l vs U H) (λO O O O=>True):=by
 intro l
 induction l with
 |nil=>
  intro xs t_ _ _ _ _ pre _ hr;cases t_ with
  |nil=>subst hr;exact TT.imp (λO O h=>aA h) (TT.now (Nx.refl ..) pre trivial)
  |cons _ _=>exact aj.stuck
 |cons c l ih=>
  intro xs t_ J U H s pre h hr;cases t_ with
  |nil=>exact aj.stuck
  |cons v vs=>obtain⟨x,r,rfl,hx,hr⟩:=hr;have hc:=h c bz;rw[bQ,J8 hc];show aj V G J s (do holding r (assign (aB c) G.env x);assignInOrder ((assignEach (l.map aB) G.env).map (·.2)) r) _ _;exact TT.imp (λO O h=>ag (cI h)) (TT.seq (Nx.refl ..) pre (Ax pre hc hx) λO O ρ1 H1 φ1 s1 n1 m1 p1 r1=>TT.last m1 (ih r vs p1 (λc hc=>h c (bI _ hc)) (n1.j9 pre.er hr)))
theorem X5{K:Cx}{env:Env}:∀{l:List C},(∀c∈l,n9 K c=true)->(assignEach (l.map aB) env).length=l.length/\(assignEach (l.map aB) env).findIdx? (·.1)=none:=by
 intro l
 induction l with
 |nil=>intro _;exact⟨rfl,rfl⟩
 |cons c l ih=>intro h;refine ua (ih λc hc=>h c (bI _ hc)) λh1 h2=>?_;rw[bQ,J8 (h c bz)];exact⟨by simp[h1],by rw[List.findIdx?_cons];simpa using h2⟩
theorem Pl:∀(l:List C) (vs:List AV) (U:aD) (H:Hp),l.length≠vs.length->r7 l vs U H=.stuck:=by
 intro l
 induction l with
 |nil=>
  intro t_ _ _ h;cases t_ with
  |nil=>exact absurd rfl h
  |cons _ _=>exact rfl
 |cons c l ih=>
  intro t_ U H h;cases t_ with
  |nil=>exact rfl
  |cons v vs=>
   show M.bind (lx c.slot v) (λO=>r7 l vs) U H=_;unfold M.bind lx;cases Nat.blt c.slot U.length with
   |true=>exact(λU H=>ih vs U H λq=>h (congrArg (·+1) q)) _ H
   |false=>rfl
def D6(ok:dR V)(hh:G.A.handled=none)(pre:aq V d q G J U H s){t:C}(h:mG G.K t=true){a:AV}(hv:VR V J s.heap v a):
  aj V G J s (assign (aB t) G.env v) (iF t a U H) (λO O O O=>True):=by
 cases t with
 |var x k p=>exact Ax pre (c:=.var x k p) h hv
 |tup l k pos=>
  refine us h λh1 h2=>?_;rw[fB] at h2;refine ua (X5 (env:=G.env) h2) λe1 e2=>?_;show aj V G J s (assign (.Tuple (bJ l) k pos) G.env v) ((match z4 a with|some vs=>r7 (cs l) vs|none=>M.stuck) U H) _;cases hl:z4 a with
  |none=>exact aj.stuck
  |some vs=>
   rw[CA h1,arm_assign_Tuple];unfold unpack;rw[e1,e2];show aj V G J s _ (r7 (cs l) vs U H) _;by_cases hlen:(cs l).length=vs.length
   ·have fin:aj V G J s (do standAt pos;assignInOrder ((assignEach ((cs l).map aB) G.env).map (·.2)) (<- holding [v] (unpackItems v vs.length none))) (r7 (cs l) vs U H) (λO O O O=>True):=by intro hs;refine ag (fA (ag (cI (U7 ok hh pre hv hl λxs s' g r=>?_))));exact TT.last (g.nx G.X J) (OH (cs l) xs vs (pre.grow g) h2 r) hs
    rw[hlen];exact fin
   ·rw[Pl _ _ _ _ hlen];exact aj.stuck
 |_=>exact cR h
end
section
variable {V:Cf}{G:Fm}{φ₀ J:Ph}{s₀ s:Shared}{U:aD}{H:Hp}{d:Nat}{q:Bool}
def kJ(V:Cf)(J:Ph)(h:Heap)(I:Addr)(src:ba):Prop:=match src with
 |.zip n=>J[n]?=some (I,I)
 |_=>cD V J h I src
def lW(s₀:Shared)(G:Fm)(I:Addr)(src:ba):Prop:=match src with
 |.zip _=>True
 |_=>¬ bM s₀.heap I/\I∉G.X
def kJ.mono{φ':Ph}{h h':Heap}{I:Addr}{src:ba}(x:kJ V J h I src)(n:lW s₀ G I src)(E:cG G.X J h h')(hX:cW G.X h)(g:Gr J φ' h):kJ V φ' h' I src:=by
 cases src with
 |zip n=>exact g.get x
 |_=>exact cD.mono x E hX g n.2
variable {n:Nat}
def AY{k:Nat}(h:rS H n=some k):H[n]?=some (.zip k):=by
 refine ub h λo h1 h2=>?_;rw[bY] at h1;cases o with
 |zip=>obtain rfl:=sj h2;exact h1
 |_=>exact aT h2
def HS{r:AV×Nat}(h:pW H n=some r):H[n]?=some (.lit r.1 r.2):=by
 refine ub h λo h1 h2=>?_;rw[bY] at h1;cases o with
 |lit=>obtain rfl:=sj h2;exact h1
 |_=>exact aT h2
def MZ(h:vI H n=true):H[n]?=some .gw:=by
 unfold vI at h;rw[bY] at h;cases e:H[n]? with
 |none=>rw[e] at h;cases h
 |some o=>rw[e] at h;cases o<;>first|rfl|cases h
def Cu(ok:dR V)(pre:aq V d q G J U H s){v:Value}{x:AV}{src:ba}(hx:VR V J s.heap v x)(e:dX x H=some src){A:Around}{Q:Value->Shared->Prop}{E:Value->Shared->Prop}
  (h:∀I s',av s s'->kJ V J s'.heap I src->lW s G I src->Q (.ref I) s'):wpAny (model V.prog V.w) A (pyIter v) Q E s:=by
 cases hz:Cw src with
 |false=>refine Ik pre.rel ok hx e hz _ _ λo ho it=>?_;refine h _ _ (av.push s o s.toks) ?_ ?_<;>cases src<;>first|exact it|exact⟨gB (aQ _),AZ pre (aQ _)⟩|cases hz
 |true=>
  cases x with
  |zip n=>refine um e λk h1 aa=>?_;subst aa;refine ak hx λa aa hp=>?_;clear hx;subst aa;refine pq (pre.rel.at (AY h1) hp) λTI TO i1 i2 z=>?_;exact wpAny_pyIter_zip z.zip (h _ s (av.refl s) hp trivial)
  |ref n=>
   have e:(match bq H n with
    |some _=>some (.lst n 0)
    |none=>(cM H n).map λr=>ba.dct n 0 r.2.length r.1)=some src:=e
   cases hl:bq H n with
   |some l=>rw[hl] at e;obtain rfl:=sj e;cases hz
   |none=>rw[hl] at e;refine um e λr h1 aa=>?_;subst aa;cases hz
  |vals n=>refine um e λr h1 aa=>?_;subst aa;cases hz
  |_=>first|exact aT e|(obtain rfl:=sj e;cases hz)
structure ZB where
 k:Nat
 a:AV
 b:AV
 i:Nat
 j:Nat
 l:List AV
 m:List AV
 TI:Addr
 TO:Addr
 i1:Addr
 i2:Addr
 l1:Addr
 l2:Addr
 xs:List Value
 ys:List Value
 cx:Nat
 cy:Nat
 tx:Value
 ty:Value
def ZF(V:Cf)(J:Ph)(H:Hp)(h:Heap)(n:Nat)(z:Addr)(B:ZB):Prop:=(H[n]?=some (.zip B.k))/\(H[B.k]?=some .gw)/\(H[B.k+1]?=some (.lit B.a B.i))/\(H[B.k+2]?=some (.lit B.b B.j))/\(J[n]?=some (z,z))/\(J[B.k]?=some (B.TO,B.TO))/\(J[B.k+1]?=some (B.i1,B.i1))/\(J[B.k+2]?=some (B.i2,B.i2))/\(IsZip h z B.TI B.TO .none)/\(IsPair h B.TI (.ref B.i1) (.ref B.i2))/\(IsPair h B.TO B.tx B.ty)/\(h.IsListIter B.i1 B.l1 B.i)/\(h.IsListIter B.i2 B.l2 B.j)/\(Ls V J h (.ref B.l1) B.l B.l1 B.xs B.cx)/\(Ls V J h (.ref B.l2) B.m B.l2 B.ys B.cy)/\(VR V J h (.ref B.l1) B.a)/\(VR V J h (.ref B.l2) B.b)/\(ZipApart z B.TI B.TO B.i1 B.i2 B.l1 B.l2)/\(B.TI∉J.map (·.2))
section
variable {b1 b2 b3 b4 b5 b6 b7}(x:ZF b1 b2 b3 b4 b5 b6 b7)
def ZF.mk:=λm1 m2 m3 m4 m5 m6 m7 m8 m9 kj ki mX pV wO Ce zf TJ TH TG=>(⟨m1,m2,m3,m4,m5,m6,m7,m8,m9,kj,ki,mX,pV,wO,Ce,zf,TJ,TH,TG⟩:ZF b1 b2 b3 b4 b5 b6 b7)
def ZF.hk:=x.1
def ZF.ht:=x.2.1
def ZF.pz:=x.2.2.2.2.1
def ZF.pt:=x.2.2.2.2.2.1
def ZF.p1:=x.2.2.2.2.2.2.1
def ZF.p2:=x.2.2.2.2.2.2.2.1
def ZF.zip:=x.2.2.2.2.2.2.2.2.1
def ZF.ti:=x.2.2.2.2.2.2.2.2.2.1
def ZF.to:=x.2.2.2.2.2.2.2.2.2.2.1
def ZF.w3:=x.2.2.2.2.2.2.2.2.2.2.2.1
def ZF.w0:=x.2.2.2.2.2.2.2.2.2.2.2.2.1
def ZF.la:=x.2.2.2.2.2.2.2.2.2.2.2.2.2.1
def ZF.lb:=x.2.2.2.2.2.2.2.2.2.2.2.2.2.2.1
def ZF.va:=x.2.2.2.2.2.2.2.2.2.2.2.2.2.2.2.1
def ZF.vb:=x.2.2.2.2.2.2.2.2.2.2.2.2.2.2.2.2.1
def ZF.apart:=x.2.2.2.2.2.2.2.2.2.2.2.2.2.2.2.2.2.1
def ZF.out:=x.2.2.2.2.2.2.2.2.2.2.2.2.2.2.2.2.2.2
end
def HQ{h:Heap}{i l:Addr}{k:Nat}(x:h.IsListIter i l k){o:Obj}(e:h.get? i=some o):o.cls=.type "list_iterator":=by obtain⟨o',e',c,_⟩:=x;rw[e] at e';obtain rfl:=sj e';exact c
def M7(R:aR V J H s.heap){z:Addr}(hp:J[n]?=some (z,z)){r:Option AV×Hp}(e:yc H n=some r):
  ∃B:ZB,ZF V J H s.heap n z B/\r=(match ae B.l B.i with
   |some u=>(match ae B.m B.j with
    |some v=>(some (.tup [u,v]),ai (ai H (.lit B.a (B.i+1)) (B.k+1)) (.lit B.b (B.j+1)) (B.k+2))
    |none=>(none,gy H n B.k))
   |none=>(none,gy H n B.k)):=by
 refine ub e λk e1 e=>?_;refine ub e λr1 e2 e=>?_;refine ub e λr2 e3 e=>?_;refine ub e λl e4 e=>?_;refine ub e λm e5 e=>?_;refine ur e λe6 e=>?_;have hk:=AY e1;have h1:=HS e2;have h2:=HS e3;have ht:=MZ e6;refine pq (R.at hk hp) λTI TO i1 i2 x=>?_;refine ak (R.at h1 x.m1) λl1 a1 a2=>?_;refine ak (R.at h2 x.m2) λl2 b1 b2=>?_;refine eB (iK R a2 e4) λq1 xs c1 y1=>?_;refine eB (iK R b2 e5) λq2 ys c2 y2=>?_;cases y1.eq;cases y2.eq;have to:=R.at ht x.sE;have ne:∀{a b:Nat} {p r:Addr},J[a]?=some (p,p)->J[b]?=some (r,r)->a≠b->p≠r:=λ{a b p r} ha hb fD q=>by
  subst q;have u1:(J.map (·.2))[a]?=some p:=by rw[hZ,ha];rfl
  have u2:(J.map (·.2))[b]?=some p:=by rw[hZ,hb];rfl
  exact fD ((List.getElem?_inj (je.mp u1).1 R.nodup).mp (u1.trans u2.symm))
 have mem:∀{a:Nat} {p:Addr},J[a]?=some (p,p)->p∈J.map (·.2):=λ{a p} h=>bj.mpr ⟨_,gx h,rfl⟩;have nk:∀{j:Nat} {o:AO},H[j]?=some o->o≠.zip k->n≠j:=λ{j o} h ho q=>by subst q;rw[hk] at h;exact ho (sj h).symm
 have nt:∀{j:Nat} {o:AO},H[j]?=some o->o≠.gw->k≠j:=λ{j o} h ho q=>by subst q;rw[ht] at h;exact ho (sj h).symm
 have qP:∀{p l:Addr} {vs:Array Value} {c:Nat},IsL s.heap l vs c->(∀o,s.heap.get? p=some o->o.cls≠.type "list")->l≠p:=λ{p l vs c} hl hn q=>by subst q;exact hn _ hl rfl
 obtain⟨tx,ty,Fx⟩:=to;have cz:∀o,s.heap.get? z=some o->o.cls≠.type "list":=λo e=>by rw[x.zip] at e;obtain rfl:=sj e;simp
 have ct:∀o,s.heap.get? TO=some o->o.cls≠.type "list":=λo e=>by rw[Fx] at e;obtain rfl:=sj e;simp
 have KW:∀o,s.heap.get? i1=some o->o.cls≠.type "list":=λo e=>by rw[HQ a1 e];simp
 have KU:∀o,s.heap.get? i2=some o->o.cls≠.type "list":=λo e=>by rw[HQ b1 e];simp
 have oz:∀{p:Addr},p∈J.map (·.2)->TI≠p:=λhm q=>x.out (q▸hm);refine⟨⟨k,r1.1,r2.1,r1.2,r2.2,l,m,TI,TO,i1,i2,l1,l2,xs,ys,c1,c2,tx,ty⟩,(ZF.mk hk ht h1 h2 hp x.sE x.m1 x.m2 x.zip x.ti Fx a1 b1 y1 y2 a2 b2 ?_ x.out),(sj e).symm⟩;exact⟨oz (mem hp),ne x.sE hp (cP (nk ht nofun)),ne x.m1 hp (cP (nk h1 nofun)),ne x.m2 hp (cP (nk h2 nofun)),oz (mem x.sE),oz (mem x.m1),oz (mem x.m2),
  ne x.sE x.m1 (nt h1 nofun),ne x.sE x.m2 (nt h2 nofun),ne x.m1 x.m2 (dz (Nat.lt_succ_self _)),qP y1.at_ cz,qP y1.at_ ct,qP y1.at_ KW,qP y1.at_ KU,qP y2.at_ cz,qP y2.at_ ct,qP y2.at_ KW,qP y2.at_ KU⟩
end
section
section
variable {prog:Program}{w:World}{A:Around}{E:Value->Shared->Prop}{s:Shared}
def Kp(h h':Heap)(L:List Addr):Prop:=(∀b o,b∉L->h.get? b=some o->h'.get? b=some o)/\(∀b∈L,bM h b->bM h' b)
section
variable {b1 b2 b3}(x:Kp b1 b2 b3)
def Kp.mk:=iu (Kp b1 b2 b3) rfl
def Kp.keep:=x.1
def Kp.live:=x.2
end
variable {h h':Heap}{L:List Addr}
def Kp.trans{qZ:Heap}(a:Kp h h' L)(b:Kp h' qZ L):Kp h qZ L:=(Kp.mk (λx o hx e=>b.keep x o hx (a.keep x o hx e)) (λx hx h=>b.live x hx (a.live x hx h)))
def Kp.sub{b:Addr}(hb:b∈L)(s:Heap.SameBut b h h')(l:bM h' b):Kp h h' L:=(Kp.mk (λx o hx e=>(s.2 x λq=>hx (q▸hb)).trans e) (λx _ ⟨o,e⟩=>by
 by_cases q:x=b
 ·rw[q];exact l
 ·exact⟨o,(s.2 x q).trans e⟩))
def Kp.mono{L':List Addr}(k:Kp h h' L)(m:∀b∈L,b∈L'):Kp h h' L':=(Kp.mk (λb o hb e=>k.keep b o (λq=>hb (m b q)) e) (λb O hb=>by
 by_cases q:b∈L
 ·exact k.live b q hb
 ·exact hb.elim λo e=>⟨o,k.keep b o q e⟩))
def Kp.grow(k:∀b o,h.get? b=some o->h'.get? b=some o):Kp h h' L:=(Kp.mk (λx o O e=>k x o e) (λx _ ⟨o,e⟩=>⟨o,k x o e⟩))
def HR{it l:Addr}{i:Nat}{items:Array Value}(hL:it∈L)(hh:A.handled=none)(hit:s.heap.IsListIter it l i)(hl:s.heap.IsList l items)(hx:items[i]?=none)
  (hE:∀h' e,Kp s.heap h' L->(∃o,h'.get? e=some o/\o.cls=.type "StopIteration")->(∀o,s.heap.get? e≠some o)->E (.ref e) {s with heap:=h'}) {Q:Value->Shared->Prop}:wpAny (model prog w) A (Builtin.SmallTypes.nextOf (.ref it)) Q E s:=by
 obtain⟨o,ho,hc,hd⟩:=id hit;obtain⟨ol,CV,_,nl,C5⟩:=hl;unfold Builtin.SmallTypes.nextOf;refine ag (tI (name:=Str.ofString "__next__") hit.typeIs slot_listiter_next (mA slot_listiter_next hit.typeIs entry_listiter_next ?_ (args_listiter_next _)));show wpAny _ _ (field (.ref it) 0>>=_) _ _ s;refine ag (jw ho hd (x:=.ref l) rfl ?_);show wpAny _ _ (if(Value.ref l==Value.none)=true then _ else _) _ _ s;rw[if_neg (show ¬ ((Value.ref l==Value.none)=true) from kO)];show wpAny _ _ (field (.ref it) 1>>=_) _ _ s;refine ag (jw ho hd (x:=.int i 0) rfl ?_);show wpAny _ _ (seqItems? (.ref l)>>=_) _ _ s;refine ag (nQ CV C5 ?_);simp only[o6,hx];refine ag (wpAny_rule (ag (wpAny_setField ho hd (by simp) ?_)));show wpAny _ _ (newExc (.type "StopIteration") []>>=_) _ _ _;refine ag ?_;simp only[newExc,newTuple];refine ag (kN ?_ (by size_fits));refine ag (m:=firstArgMember _ _) (fK (a:=Value.none) (by first|rfl|(simp only[firstArgMember];rfl)) ?_);refine kN ?_ (by size_fits);simp -iota only[raiseNew];refine ag (wpAny_handled ?_);rw[show A.in1.handled=none from hh];have sb:=kQ s.heap it (Obj.mapFields (·.setIfInBounds 0 .none));have lv:bM (s.heap.update it (Obj.mapFields (·.setIfInBounds 0 .none))) it:=⟨_,jD _ ho (Obj.isFreed_of_fields (Obj.data_mapFields hd _))⟩;refine ag (aA (wpAny_throw (hE _ _ ((Kp.sub hL sb lv).trans (Kp.grow λb o e=>fk _ (fk _ e))) ⟨_,cw _ rfl,rfl⟩ λo' e=>?_)));have:=cZ e;rw[nT,sb.1] at this;exact absurd this (hJ.mpr (jx _))
def M8{z TI TO i1 i2 l1 l2:Addr}{k1 k2:Nat}{xs ys:Array Value}{a b:Value}{Q:Option Value->Shared->Prop}(hh:A.handled=none)(D:ZipApart z TI TO i1 i2 l1 l2)
  (hz:IsZip s.heap z TI TO .none) (Wu:IsPair s.heap TI (.ref i1) (.ref i2)) (Wt:IsPair s.heap TO a b)
  (h1:s.heap.IsListIter i1 l1 k1) (h2:s.heap.IsListIter i2 l2 k2) (uN:s.heap.IsList l1 xs) (qX:s.heap.IsList l2 ys) (V7:xs[k1]?=none\/ys[k2]?=none)
  (hQ:∀h',Kp s.heap h' [z,TO,i1,i2]->Q none {s with heap:=h'}):wpAny (model prog w) A (pyNext (.ref z)) Q E s:=by
 have hT:s.TypeIs (.ref z) "zip":=⟨_,hz,rfl⟩;have mz:z∈[z,TO,i1,i2]:=bz;have m1:i1∈[z,TO,i1,i2]:=.tail _ (.tail _ (.head _));unfold pyNext;refine ag (wpAny_attempt (tI (name:=Str.ofString "__next__") hT F.slot_zip_next (mA F.slot_zip_next hT F.entry_zip_next ?_ (F.args_zip_next_1 _))));have stop:∀(h':Heap) (e:Addr),Kp s.heap h' [z,TO,i1,i2]->(∃o,h'.get? e=some o/\o.cls=.type "StopIteration")->wpAny (model prog w) A (do
   let b <- isInstance (.ref e) (.type "StopIteration")
   if b=true then pure none else throw (.ref e)) Q E {s with heap:=h'}:=λh' e k ⟨o,ho,hc⟩=>
  ag (wpAny_isInstance (T:="StopIteration") (b:=true) ⟨o,ho,hc⟩ isSubtype_stop (aA (hQ h' k)))
 show wpAny _ _ (field (.ref z) 2>>=_) _ _ _;refine ag (jw hz rfl (x:=.bool false) rfl ?_);show wpAny _ _ (field (.ref z) 3>>=_) _ _ _;refine ag (jw hz rfl (x:=.ref TI) rfl ?_);refine ag (nQ Wu rfl ?_);show wpAny _ _ (Builtin.SmallTypes.ownedTupleIsFree (.ref z)>>=_) _ _ _;refine ag ?_;unfold Builtin.SmallTypes.ownedTupleIsFree;refine ag (jw hz rfl (x:=.none) rfl (aA ?_));simp -iota only[if_true];refine ag (wpAny_rule (ag (jw hz rfl (x:=.ref TO) rfl ?_)));refine ag (o7 hz (by simp) λg1 CO s1=>?_);have H6:Kp s.heap g1 [z,TO,i1,i2]:=.sub mz s1 ⟨_,CO⟩;refine ag ?_;simp -iota only[List.zipIdx_cons,List.zipIdx_nil,List.forIn_cons,List.forIn_nil];refine ag (ag (wpAny_onRaise ?_));show wpAny _ _ (Builtin.SmallTypes.nextOf (.ref i1)>>=_) _ _ _;have fin:∀(g2:Heap) (e:Addr) (f:Value),Kp s.heap g2 [z,TO,i1,i2]->IsZip g2 z TI TO f->(∃o,g2.get? e=some o/\o.cls=.type "StopIteration")->wpAny (model prog w) A.in1 (setField (.ref z) 0 .none) (λO s'=>wpAny (model prog w) A (do
   let b <- isInstance (.ref e) (.type "StopIteration")
   if b=true then pure none else throw (.ref e)) Q E s') (λe s'=>wpAny (model prog w) A (do
   let b <- isInstance e (.type "StopIteration")
   if b=true then pure none else throw e) Q E s') {s with heap:=g2}:=λg2 e f k uI ⟨oe,he,hc⟩=>by
  refine o7 (s:={s with heap:=g2}) uI (by simp) λg3 VA s3=>?_;exact stop g3 e (k.trans (.sub mz s3 ⟨_,VA⟩)) ⟨oe,(s3.2 e (λq=>by subst q;rw[uI] at he;obtain rfl:=sj he;simp at hc:e≠z)).trans he,hc⟩
 cases hx:xs[k1]? with
 |none=>exact ag (HR (A:=A.in1) (L:=[i1]) (List.mem_singleton_self _) hh (h1.extBut s1.extBut D.i1z) (uN.extBut s1.extBut D.l1z) hx λg2 e k2 he ne=>fin g2 e .ellipsis (H6.trans (k2.mono λb hb=>List.eq_of_mem_singleton hb▸m1)) (k2.keep z _ (λq=>D.i1z (List.eq_of_mem_singleton q).symm) CO) he)
 |some x=>
  refine ag (wpAny_nextOf_list_item (h1.extBut s1.extBut D.i1z) (uN.extBut s1.extBut D.l1z) hx λg2 zV s2=>aA ?_);have Jh:IsPair g2 TO a b:=s2.extBut _ _ D.TOi1 (s1.extBut _ _ D.TOz Wt);refine ag (nQ Jh rfl ?_);refine ag (wpAny_updateSeq_pair Jh λg3 Ws s3=>?_);refine ag (wpAny_letGo (aA ?_));refine ag (ag (wpAny_onRaise ?_));show wpAny _ _ (Builtin.SmallTypes.nextOf (.ref i2)>>=_) _ _ _;exact ag (HR (A:=A.in1) (L:=[i2]) (List.mem_singleton_self _) hh (((h2.extBut s1.extBut D.i2z).extBut s2.extBut D.i12.symm).extBut s3.extBut D.TOi2.symm)
   (((qX.extBut s1.extBut D.l2z).extBut s2.extBut D.l2i1).extBut s3.extBut D.l2TO) (by rcases V7 with h|h;rw[hx] at h;cases h;exact h:ys[k2]?=none) λg4 e k4 he ne=>fin g4 e .ellipsis (((H6.trans (.sub m1 s2 (by obtain⟨o,e,_⟩:=zV;exact⟨o,e⟩))).trans (.sub (.tail _ (.head _):TO∈[z,TO,i1,i2]) s3 ⟨_,Ws⟩):Kp s.heap g3 [z,TO,i1,i2]).trans (k4.mono λb hb=>List.eq_of_mem_singleton hb▸(.tail _ (.tail _ (.tail _ (.head _))):i2∈[z,TO,i1,i2]))) (k4.keep z _ (λq=>D.i2z (List.eq_of_mem_singleton q).symm) (s3.extBut _ _ D.TOz.symm (s2.extBut _ _ D.i1z.symm CO):IsZip g3 z TI TO .ellipsis)) he)
end
end
section
variable {V:Cf}{G:Fm}{φ₀ J:Ph}{s₀ s:Shared}{U:aD}{H:Hp}{d:Nat}{q:Bool}
def no(_:Value)(_:Shared):Prop:=False
variable {I:Addr}
def Nx.but{X:List Addr}{s':Shared}(n:Nx X φ₀ J s₀ s)(k:eg I s s')(hI:¬ bM s₀.heap I):Nx X φ₀ J s₀ s':=by have ne:∀a,bM s₀.heap a->a≠I:=λa o q=>hI (q▸o);refine(Nx.mk ⟨λa o e h1 h2=>(n.ext.keep a o e h1 h2).trans λo' e'=>.inl (k.keep a _ (ne a ⟨o,e⟩) e')⟩ n.gr (k.gens.trans n.gens) (k.os.trans n.os) (λa ho=>?_));refine ue (n.live a ho) λo' e'=>?_;exact⟨o',k.keep a _ (ne a ho) e'⟩
def aq.many{H':Hp}{h':Heap}{L:List Addr}(pre:aq V d q G J U H s)(hL:∀a∈L,a∈J.map (·.2))(k:Kp s.heap h' L)(hn:H'.length=H.length)
  (ho:∀(n:Nat) (o:AO) (p:Addr×Addr),H'[n]?=some o->J[n]?=some p->(H[n]?=some o/\p.2∉L)\/OR V J h' p o):
  aq V d q G J U H' {s with heap:=h'}/\Nx G.X J J s {s with heap:=h'}:=by
 have E:∀X,cG X J s.heap h':=λX=>⟨λa o e ha O=>.inl (k.keep a o (λq=>ha (hL a q)) e)⟩;have live:∀a,bM s.heap a->bM h' a:=λa ⟨o,e⟩=>by
  by_cases q:a∈L
  ·exact k.live a q ⟨o,e⟩
  ·exact⟨o,k.keep a o q e⟩
 refine⟨(aq.mk (pre.rel.many (E []) (λa o e=>?_) (λp hp=>live _ (pre.rel.live p hp)) hn λn o p e hp=>?_) (pre.er.mono (E []) (Gr.refl ..)) pre.room pre.hd (pre.fr.mono (E []) (Gr.refl ..) λO ha=>nomatch ha)),Nx.mk (E _) (Gr.refl ..) rfl rfl live⟩
 ·refine k.keep a o (λq=>?_) (pre.rel.keep a o e);refine ak (bj.mp (hL a q)) λp hp r=>?_;exact absurd (cZ e) (hJ.mpr (r▸pre.rel.above p hp))
 ·refine(ho n o p e hp).imp (λz=>⟨z.1,?_⟩) id;refine ue (pre.rel.live p (gx hp)) λo' e'=>?_;exact(k.keep _ o' z.2 e').trans e'.symm
variable {n:Nat}{p:Addr×Addr}
def Aw{m:Nat}{r:Addr×Addr}(R:aR V J H s.heap)(hp:J[n]?=some p)(hr:J[m]?=some r)(e:p.2=r.2):n=m:=by
 have u1:(J.map (·.2))[n]?=some p.2:=by rw[hZ,hp];rfl
 have u2:(J.map (·.2))[m]?=some p.2:=by rw[hZ,hr];exact congrArg some e.symm
 exact(List.getElem?_inj (je.mp u1).1 R.nodup).mp (u1.trans u2.symm)
def Bp{α:Type}{l:List α}{a b m:Nat}{x y o:α}(e:((l.set a x).set b y)[m]?=some o):(m=b/\o=y)\/(m=a/\o=x)\/(m≠a/\m≠b/\l[m]?=some o):=by
 have key:∀{l:List α} {b:Nat} {y:α},(l.set b y)[m]?=some o->(m=b/\o=y)\/(m≠b/\l[m]?=some o):=λ{l b y} e=>by
  by_cases h:b=m
  ·subst h;rw[rN (by simpa using (je.mp e).1)] at e;exact .inl ⟨rfl,(sj e).symm⟩
  ·rw[nY h] at e;exact .inr ⟨cP h,e⟩
 rcases key e with h|⟨h1,e⟩
 ·exact .inl h
 ·rcases key e with h|⟨h2,e⟩
  ·exact .inr (.inl h)
  ·exact .inr (.inr ⟨h2,h1,e⟩)
def Lo{l:List Value}{i:Nat}{v:Value}(h:l[i]?=some v):l.toArray[i]?=some v:=by rw[qs];exact h
def Ln{l:List Value}{i:Nat}(h:l[i]?=none):l.toArray[i]?=none:=by rw[qs];exact h
variable {h:Heap}
def aO.none{ds:List AV}{vs:List Value}(x:aO V J h vs ds){i:Nat}(e:ds[i]?=none):vs[i]?=none:=by rw[qu] at e⊢;rw[x.length];exact e
def xW(V:Cf)(A:Around)(I:Addr)(tg:C)(QN:Shared->Prop)(Q:Value->Shared->Prop)(s:Shared):Prop:=
 wpAny (model V.prog V.w) A (pyNext (.ref I)) (λr s₁=>match r with
  |none=>QN s₁
  |some v=>wpAny (model V.prog V.w) A (letOwnedTupleGo (aB tg) (.ref I) v) (λO s'=>Q v s') no s₁) no s
noncomputable def ZB.L(B:ZB)(z:Addr):List Addr:=[z,B.TO,B.i1,B.i2]
variable {B:ZB}
def ZF.sub{z:Addr}(F:ZF V J H h n z B):∀a∈B.L z,a∈J.map (·.2):=by have mem:∀{m:Nat} {p:Addr},J[m]?=some (p,p)->p∈J.map (·.2):=λh=>bj.mpr ⟨_,gx h,rfl⟩;exact Eb (mem F.pz) (mem F.pt) (mem F.p1) (mem F.p2)
def HC{a b c e x:Addr}{P:Prop}(h:x∈[a,b,c,e])(h1:x=a->P)(h2:x=b->P)(h3:x=c->P)(h4:x=e->P):P:=by
 rcases bl.mp h with h|h
 ·exact h1 h
 rcases bl.mp h with h|h
 ·exact h2 h
 rcases bl.mp h with h|h
 ·exact h3 h
 exact h4 (fR.mp h)
def ZF.off{z:Addr}(F:ZF V J H s.heap n z B)(R:aR V J H s.heap){m:Nat}(hp:J[m]?=some p)(h1:m≠n)(h2:m≠B.k)(h3:m≠B.k+1)(h4:m≠B.k+2):p.2∉B.L z:=λhc=>HC hc (λr=>h1 (Aw R hp F.pz r)) (λr=>h2 (Aw R hp F.pt r)) (λr=>h3 (Aw R hp F.p1 r)) (λr=>h4 (Aw R hp F.p2 r))
variable {QN:Shared->Prop}{Q:Value->Shared->Prop}
def EJ(n0:Nx G.X φ₀ J s₀ s)(pre:aq V d true G J U H s)(F:ZF V J H s.heap n I B){tg:C} 
  (he:B.xs.toArray[B.i]?=none\/B.ys.toArray[B.j]?=none) (hq:∀s1,aq V d true G J U (gy H n B.k) s1->Nx G.X φ₀ J s₀ s1->QN s1):xW V G.A I tg QN Q s:=by
 refine M8 (pre.hd rfl) F.apart F.zip F.ti F.to F.w3 F.w0 F.la.at_.isList F.lb.at_.isList he λh' kp=>?_;refine ua (pre.many (H':=gy H n B.k) F.sub kp (by unfold gy;simp only[mK,List.length_set]) λc o p ec hp=>?_) λp1 n1=>hq _ p1 (n0.trans n1);unfold gy at ec;simp only[mK] at ec;rcases Bp ec with⟨_,r⟩|⟨_,r⟩|⟨a1,a2,ec⟩
 ·exact .inr (r▸trivial)
 ·exact .inr (r▸trivial)
 rcases Bp ec with⟨_,r⟩|⟨_,r⟩|⟨a3,a4,ec⟩
 ·exact .inr (r▸trivial)
 ·exact .inr (r▸trivial)
 exact .inl ⟨ec,F.off pre.rel hp a3 a4 a1 a2⟩
def ZI(s:Shared)(z:Addr)(B:ZB)(x y:Value)(h:Heap):Prop:=(IsZip h z B.TI B.TO .none)/\(IsPair h B.TO x y)/\(h.IsListIter B.i1 B.l1 (B.i+1))/\(h.IsListIter B.i2 B.l2 (B.j+1))/\(IsPair h s.heap.objs.size x y)/\(∀c o,c∉B.L z->s.heap.get? c=some o->h.get? c=some o)
section
variable {b1 b2 b3 b4 b5 b6}(x:ZI b1 b2 b3 b4 b5 b6)
def ZI.mk:=Hw (ZI b1 b2 b3 b4 b5 b6) rfl
def ZI.zip:=x.1
def ZI.to:=x.2.1
def ZI.w3:=x.2.2.1
def ZI.w0:=x.2.2.2.1
def ZI.new:=x.2.2.2.2.1
def ZI.keep:=x.2.2.2.2.2
end
def M6(F:ZF V J H s.heap n I B){A:Around}{tl:C}{tk:Nat}{tp:Pos}{x y:Value}(hx:B.xs[B.i]?=some x)(hy:B.ys[B.j]?=some y)
  (h:∀h2,ZI s I B x y h2->Q (.ref s.heap.objs.size) {s with heap:=h2}):xW V A I (.tup tl tk tp) QN Q s:=by
 refine wpAny_pyNext_zip_item F.apart F.zip F.ti F.to F.w3 F.w0 F.la.at_.isList F.lb.at_.isList (Lo hx) (Lo hy) λzV z1 t1 c1 c2 t2 sz kp=>?_;refine wpAny_letOwnedTupleGo_zip z1 λh2 z2 sb=>?_;refine h h2 (ZI.mk z2 ((sb.2 _ F.apart.TOz).trans t1) (c1.extBut sb.extBut F.apart.i1z) (c2.extBut sb.extBut F.apart.i2z) ((sb.2 _ (cP (B5 F.zip):s.heap.objs.size≠I)).trans t2) (λc o hc e=>?_));unfold ZB.L at hc;simp only[bl,not_or,qp,not_false_eq_true,and_true] at hc;exact(sb.2 c hc.1).trans (kp c o hc.1 hc.2.1 hc.2.2.1 hc.2.2.2 e)
def M0(n0:Nx G.X φ₀ J s₀ s)(pre:aq V d true G J U H s)(F:ZF V J H s.heap n I B){x y:Value}{u v:AV}(rx:VR V J s.heap x u)(ry:VR V J s.heap y v){h2:Heap}(Z:ZI s I B x y h2):
  (aq V d true G J U (ai (ai H (.lit B.a (B.i+1)) (B.k+1)) (.lit B.b (B.j+1)) (B.k+2)) {s with heap:=h2}/\Nx G.X J J s {s with heap:=h2})/\VR V J h2 (.ref s.heap.objs.size) (.tup [u,v]):=by
 have hL:=F.sub;have kk:Kp s.heap h2 (B.L I):=(Kp.mk Z.keep (λc hc O=>HC hc (λr=>r▸⟨_,Z.zip⟩) (λr=>r▸⟨_,Z.to⟩) (λr=>r▸Z.w3.imp λO e=>e.1) (λr=>r▸Z.w0.imp λO e=>e.1)));have mv:∀{w:Value} {x:AV},VR V J s.heap w x->VR V J h2 w x:=λr=>r.mono (⟨λc o e hc O=>.inl (kk.keep c o (λq=>hc (hL c q)) e)⟩:cG [] J s.heap h2) (cW.nil _) (Gr.refl ..);refine⟨pre.many hL kk (by simp only[mK,List.length_set]) λc o p ec hp=>?_,.tup (items:=[x,y]) (n:=0) (Sq.mk Z.new (pre.rel.fresh (aQ _)) (.cons (mv rx) (.cons (mv ry) .nil)) (show 2<=az by decide))⟩;simp only[mK] at ec;rcases Bp ec with⟨r1,r⟩|⟨r1,r⟩|⟨a1,a2,ed⟩
 ·subst r1 r;rw[F.p2] at hp;obtain rfl:=sj hp;exact .inr ⟨B.l2,Z.w0,mv F.vb⟩
 ·subst r1 r;rw[F.p1] at hp;obtain rfl:=sj hp;exact .inr ⟨B.l1,Z.w3,mv F.va⟩
 by_cases hk:c=B.k
 ·subst hk;rw[F.ht] at ed;obtain rfl:=sj ed;rw[F.pt] at hp;obtain rfl:=sj hp;exact .inr ⟨x,y,Z.to⟩
 by_cases hz:c=n
 ·subst hz;rw[F.hk] at ed;obtain rfl:=sj ed;rw[F.pz] at hp;obtain rfl:=sj hp;exact .inr ⟨B.TI,B.TO,B.i1,B.i2,(jT.mk rfl Z.zip (kk.keep _ _ (λhc=>F.out (hL _ hc)) F.ti) F.pt F.p1 F.p2 F.out)⟩
 exact .inl ⟨ed,F.off pre.rel hp hz hk a1 a2⟩
variable {src:ba}{o:Option (AV×ba)}
def RN(n0:Nx G.X φ₀ J s₀ s)(pre:aq V d true G J U H s){tg:C}(it:cD V J s.heap I src)(hn:¬ bM s₀.heap I/\I∉G.X)(e:src.next H=some o)
  (h0:o=none->∀s1,aq V d true G J U H s1->Nx G.X φ₀ J s₀ s1->QN s1)
  (h1:∀p,o=some p->∀xv s1,aq V d true G J U H s1->Nx G.X φ₀ J s₀ s1->VR V J s1.heap xv p.1->cD V J s1.heap I p.2->Q xv s1):xW V G.A I tg QN Q s:=by
 cases o with
 |none=>exact Hk pre.rel (pre.hd rfl) it e _ _ λs1 k1=>h0 rfl s1 (pre.it k1 (lG it.st) it.new it.out hn.2) (n0.but k1 hn.1)
 |some p=>exact SU (v:=p.1) (src':=p.2) pre.rel it e _ _ λxv s1 k1 rv it1=>T1 (lG it1.st) (h1 p rfl xv s1 (pre.it k1 (lG it.st) it.new it.out hn.2) (n0.but k1 hn.1) rv it1)
def U3(x:cD V J h I src)(hn:¬ bM s₀.heap I/\I∉G.X):kJ V J h I src/\lW s₀ G I src:=by
 cases src with
 |zip n=>exact x.st.elim
 |_=>exact⟨x,hn⟩
def Fv(n0:Nx G.X φ₀ J s₀ s)(pre:aq V d true G J U H s){tg:C}(it:kJ V J s.heap I src)(hn:lW s₀ G I src){H':Hp}(e:src.nx tg H=some (o,H'))
  (h0:o=none->∀s1,aq V d true G J U H' s1->Nx G.X φ₀ J s₀ s1->QN s1)
  (h1:∀p,o=some p->∀xv s1,aq V d true G J U H' s1->Nx G.X φ₀ J s₀ s1->VR V J s1.heap xv p.1->kJ V J s1.heap I p.2->lW s₀ G I p.2->Q xv s1):xW V G.A I tg QN Q s:=by
 have plain:cD V J s.heap I src->(¬ bM s₀.heap I/\I∉G.X)->(src.next H).map (λo=>(o,H))=some (o,H')->xW V G.A I tg QN Q s:=λit hn e=>um e λo' e' r=>by obtain⟨rfl,rfl⟩:=Prod.mk.inj r;exact RN n0 pre it hn e' h0 λp ho xv s1 p1 n1 rv it1=>ua (U3 it1 hn) λz1 z2=>h1 p ho xv s1 p1 n1 rv z1 z2
 cases src with
 |zip n=>
  cases tg with
  |tup tl tk tp=>
   refine um e λr e1 e2=>?_;obtain⟨rfl,rfl⟩:=Prod.mk.inj e2;refine ak (M7 pre.rel it e1) λB F aa=>?_;subst aa;cases hu:ae B.l B.i with
   |none=>rw[hu] at h0;exact EJ n0 pre F (.inl (Ln (F.la.all.none (by rw[<- bY];exact hu)))) (h0 rfl)
   |some u=>
    rw[hu] at h0 h1;cases hv:ae B.m B.j with
    |none=>rw[hv] at h0;exact EJ n0 pre F (.inr (Ln (F.lb.all.none (by rw[<- bY];exact hv)))) (h0 rfl)
    |some v=>rw[hv] at h1;refine ak (F.la.all.get (by rw[<- bY];exact hu)) λx ex rx=>?_;refine ak (F.lb.all.get (by rw[<- bY];exact hv)) λy ey ry=>?_;exact M6 F ex ey λh2 Z=>ua (M0 n0 pre F rx ry Z) λp r=>ua p λp1 n1=>h1 _ rfl _ _ p1 (n0.trans n1) r F.pz trivial
  |_=>exact aT e
 |_=>exact plain it hn e
end
section
def rU(V:Cf)(K:Cx)(t:C):Bool:=match t with
 |.var x k p=>n9 K (.var x k p)
 |.tup l k p=>mG K (.tup l k p)
 |.sub o i _=>wf V o K&&wf V i K&&!qS (aB i)
 |.attr o x a _=>wf V o K&&y5 V a x
 |_=>false
def EN(V:Cf)(K:Cx)(t:C):Bool:=match t with
 |.var x k p=>n9 K (.var x k p)
 |.attr o x a _=>wf V o K&&y5 V a x
 |_=>false
def ye(V:Cf)(K:Cx)(x:Str)(k:Nat):Bool:=pQ x&&sH K x .globalImplicit&&decide (V.gl[k]?=some x)
mutual
noncomputable def vM(V:Cf):S->Cx->Bool
 |.asg ts e _,K=>sN ts&&(cs ts).all (rU V K)&&wf V e K&&(Nat.beq (cs ts).length 1||qL (aB e))&&yY (aB e)
 |.aug _ t e _,K=>wf V e K&&EN V K t
 |.expr e _,K=>wf V e K&&qL (aB e)
 |.iff t a b _,K=>wf V t K&&eW V a K&&eW V b K
 |.ie t a b _,K=>wf V t K&&eW V a K&&eW V b K
 |.loop tg it b _,K=>mG K tg&&wf V it K&&sy (aB it)&&eW V b K
 |.ret e _,K=>qT e||wf V e K
 |.tri b x k _ h _ _,K=>eW V b K&&ye V K x k&&eW V h K&&!(ss h).isEmpty
 |.del o i _ _,K=>wf V o K&&wf V i K
 |_,_=>true
noncomputable def eW(V:Cf):S->Cx->Bool
 |.nil,_=>true
 |.cons a r,K=>vM V a K&&eW V r K
 |_,_=>false
end
variable {V:Cf}{G:Fm}{J:Ph}{s:Shared}{U:aD}{H:Hp}{d:Nat}{q:Bool}{E:Ev}
def EP{K:Cx}{l:S}:eW V l K=true->cT l=(ss l).map vO/\∀c∈ss l,vM V c K=true:=by
 induction l with
 |nil=>exact λO=>⟨rfl,λc h=>nomatch h⟩
 |cons a r _ ih=>
  intro h;refine us h λh1 h2=>?_;refine ua (ih h2) λh3 h4=>?_;exact⟨congrArg (vO a::·) h3,λc hc=>by
   rcases bl.mp hc with rfl|hc
   ·exact h1
   ·exact h4 c hc⟩
 |_=>exact cR
structure vE(V:Cf):Prop where
 get:∀{d q G J U H s vo ov x a},aq V d q G J U H s->VR V J s.heap vo ov->V.nm[a]?=some x->aj V G J s (getAttr vo x true) (bX (qg V.P a ov) U H) (VR V)
 set:∀{d q G J U H s vo ov x a vv v},aq V d q G J U H s->VR V J s.heap vo ov->VR V J s.heap vv v->V.nm[a]?=some x->aj V G J s (setAttr vo x vv) (ij (pF V.P a ov v) U H) (λO O O O=>True)
structure vA(V:Cf)(E:Ev):Prop extends ew V E where
 s:∀{d q G J U H s c},aq V d q G J U H s->vM V c G.K=true->aj V G J s (exec (vO c) G.env) (E.s d q c U H) (d7 V)
def XD(Sd:vA V E):∀(l:List S) {J:Ph} {U:aD} {H:Hp} {s:Shared},aq V d q G J U H s->(∀c∈l,vM V c G.K=true) ->
  aj V G J s (execs (l.map vO) G.env) (d0 (E.s d q) l U H) (d7 V):=by
 intro l
 induction l with
 |nil=>intro _ _ _ _ pre _;exact TT.imp (λO O h=>aA h) (TT.now (Nx.refl ..) pre rfl)
 |cons c l ih=>
  intro J U H s pre h;rw[bQ,arm_execs_cons];refine aj.bind pre (Sd.s pre (h c bz)) λf g ρ1 H1 φ1 s1 n1 p1 r1=>?_;cases g with
  |next=>subst r1;exact ih p1 λc hc=>h c (bI _ hc)
  |brk=>subst r1;exact TT.imp (λO O h=>aA h) (TT.now (Nx.refl ..) p1 rfl)
  |cont=>subst r1;exact TT.imp (λO O h=>aA h) (TT.now (Nx.refl ..) p1 rfl)
  |ret v=>refine ak r1 λw aa r=>?_;clear r1;subst aa;exact TT.imp (λO O h=>aA h) (TT.now (Nx.refl ..) p1 ⟨w,rfl,r⟩)
def qf(Sd:vA V E){l:S}(pre:aq V d q G J U H s)(h:eW V l G.K=true):aj V G J s (execs (cT l) G.env) (d0 (E.s d q) (ss l) U H) (d7 V):=by refine ua (EP h) λh1 h2=>?_;rw[h1];exact XD Sd _ pre h2
def Li(pre:aq V d q G J U H s){op:Operator}{vx vy:Value}{x y:AV}(hx:VR V J s.heap vx x)(hy:VR V J s.heap vy y):
  aj V G J s (inplaceOp op vx vy) (bX (λO=>xT op x y) U H) (VR V):=aj.opt pre λv e Q E h=>by
 refine ub e λi h1 e=>?_;refine ub e λj h2 e=>?_;refine ue (eT hx h1) λt aa=>?_;subst aa;refine ue (eT hy h2) λu aa=>?_;subst aa;cases op with
 |Add=>obtain rfl:=sj e;exact wpAny_iadd_int (h _ _ (av.toks ..) (.lit ..))
 |Sub=>obtain rfl:=sj e;exact PyProof.Rows.isub_int (h _ _ (av.toks ..) (.lit ..))
 |_=>exact aT e
variable {t:C}
def FA(ok:dR V)(ju:vE V)(Sd:ew V E)(pre:aq V d q G J U H s)(h:rU V G.K t=true){v:Value}{a:AV}(hv:VR V J s.heap v a):
  aj V G J s (assign (aB t) G.env v) (yu V.P (E.e d q) q a t U H) (λO O O O=>True):=by
 cases t with
 |var x k p=>exact Ax pre (c:=.var x k p) h hv
 |tup l k pos=>
  cases q with
  |false=>exact aj.stuck
  |true=>exact D6 ok (pre.hd rfl) pre (t:=.tup l k pos) h hv
 |sub o i p=>refine jE h λh1 h2 h3=>?_;show aj V G J s (assign (.Subscript (aB o) (aB i) p) G.env v) (M.bind (E.e d q o) (λov=>M.bind (E.e d q i) λiv=>ij λH=>og ov iv a H) U H) _;rw[arm_assign_Subscript];refine TT.imp (λO O h=>ag (cI h)) (TT.seq (Nx.refl ..) pre (Sd.e pre h1) λov x ρ1 H1 φ1 s1 n1 m1 p1 r1=>?_);refine TT.imp (λO O h=>ag (cI h)) (TT.seq m1 p1 (Sd.e p1 h2) λiv y ρ2 H2 φ2 s2 n2 m2 p2 r2=>?_);refine TT.imp (λO O h=>ag (fA (ag (cI (cH h (λO O h'=>wpAny_release h') λO O e=>e))))) (TT.last m2 ?_);exact Py p2 (n2.vr p1.er r1) r2 (n2.vr p1.er (n1.vr pre.er hv))
 |attr o x k p=>refine us h λh1 h2=>?_;show aj V G J s (assign (.Attribute (aB o) x p) G.env v) (M.bind (E.e d q o) (λov=>ij λH=>pF V.P k ov a H) U H) _;rw[arm_assign_Attribute];refine TT.imp (λO O h=>ag (cI h)) (TT.seq (Nx.refl ..) pre (Sd.e pre h1) λov x ρ1 H1 φ1 s1 n1 m1 p1 r1=>?_);refine TT.imp (λO O h=>ag (fA (ag (cI (cH h (λO O h'=>wpAny_release h') λO O e=>e))))) (TT.last m1 ?_);exact ju.set p1 r1 (n1.vr pre.er hv) (of_decide_eq_true h2)
 |_=>exact cR h
variable {env:Env}
def yd{K:Cx}(h:rU V K t=true)(rest:List Expr):assignEach (aB t::rest) env=(false,assign (aB t) env)::assignEach rest env:=by cases t<;>first|rfl|exact cR h
theorem Fy(ok:dR V)(ju:vE V)(Sd:ew V E){v:Value}{a:AV}:∀(l:List C) {J:Ph} {U:aD} {H:Hp} {s:Shared},aq V d q G J U H s->(∀t∈l,rU V G.K t=true)->VR V J s.heap v a ->
  aj V G J s (assignAll v ((assignEach (l.map aB) G.env).map (·.2))) (vX V.P (E.e d q) q a l U H) (λO O O O=>True):=by
 intro l
 induction l with
 |nil=>intro _ _ _ _ pre _ _;exact TT.imp (λO O h=>aA h) (TT.now (Nx.refl ..) pre trivial)
 |cons t l ih=>
  intro J U H s pre h hv;cases l with
  |nil=>have h1:=h t bz;rw[bQ,yd h1];show aj V G J s (assign (aB t) G.env v) (M.bind (yu V.P (E.e d q) q a t) (λO=>cq ()) U H) _;exact TT.seq (W:=λO s' Q O=>Q () s') (Nx.refl G.X J s) pre (FA ok ju Sd pre h1 hv) λO O ρ1 H1 φ1 s1 n1 m1 p1 r1=>TT.now m1 p1 trivial
  |cons t2 l=>have h1:=h t bz;have h2:=h t2 (bI _ bz);rw[bQ,yd h1,bQ,bQ,yd h2];show aj V G J s (do holding [v] (assign (aB t) G.env v);assignAll v (assign (aB t2) G.env::(assignEach (l.map aB) G.env).map (·.2))) (M.bind (yu V.P (E.e d q) q a t) (λO=>vX V.P (E.e d q) q a (t2::l)) U H) _;refine TT.imp (λO O h=>ag (cI h)) (TT.seq (Nx.refl G.X J s) pre (FA ok ju Sd pre h1 hv) λO O ρ1 H1 φ1 s1 n1 m1 p1 r1=>TT.last m1 ?_);have:=ih p1 (λc hc=>h c (bI _ hc)) (n1.vr pre.er hv);rw[bQ (l:=l),yd h2] at this;exact this
variable {tgs:List Expr}{v:Expr}
def Oz(h:yY v=true):swappedStores tgs v env=pure none:=by
 cases tgs with
 |nil=>rfl
 |cons a r=>cases a<;>first|rfl|(cases r<;>first|rfl|(cases v<;>first|rfl|exact cR h))
def O6{line:Nat}(h:qL v=true):swapsWithSole tgs v line env=pure false:=by
 cases tgs with
 |nil=>rfl
 |cons t r=>
  cases r with
  |nil=>cases v<;>first|rfl|exact cR h
  |cons=>rfl
variable {pos:Pos}
def Gu(ok:dR V)(ju:vE V)(Sd:ew V E)(pre:aq V d q G J U H s){ts:C}{m:M AV}(h0:sN ts=true)(h1:∀t∈cs ts,rU V G.K t=true)(h2:aj V G J s (eval v G.env) (m U H) (VR V))(h3:swapsWithSole (bJ ts) v pos.line G.env=pure false)(h4:yY v=true):
  aj V G J s (exec (.Assign (bJ ts) v pos) G.env) (M.bind m (λv=>M.bind (vX V.P (E.e d q) q v (cs ts)) λO=>cq .next) U H) (d7 V):=by
 rw[arm_exec_Assign,h3,Oz h4,CA h0];refine TT.imp (λQ E h=>ag (fA (ag (aA (ag h))))) (TT.seq (Nx.refl ..) pre h2 λa x ρ1 H1 φ1 s1 n1 m1 p1 r1=>?_);refine TT.imp (λQ E h=>ag (aA (ag h))) (TT.seq m1 p1 (Fy ok ju Sd (cs ts) p1 h1 r1) λO O ρ2 H2 φ2 s2 n2 m2 p2 r2=>?_);exact TT.imp (λO O h=>aA h) (TT.now m2 p2 rfl)
def PX(ju:vE V)(Sd:ew V E)(pre:aq V d q G J U H s){op:Operator}{e:C}(h1:EN V G.K t=true)(h2:wf V e G.K=true):
  aj V G J s (exec (.AugAssign (aB t) op (aB e) pos) G.env) (Ll V.P E d q op t e U H) (d7 V):=by
 cases t with
 |var x k p=>refine cJ (A1 (c:=.var x k p) h1) λx' k' p' q1 w=>?_;cases q1;refine TT.imp (λQ E h=>wpAny_AugAssign_Name h) (TT.seq (Nx.refl ..) pre (EX pre w.sc (G4 w.name)) λa x ρ1 H1 φ1 s1 n1 m1 p1 r1=>?_);refine TT.seq m1 p1 (Sd.e p1 h2) λb y ρ2 H2 φ2 s2 n2 m2 p2 r2=>?_;refine TT.seq m2 p2 (Li p2 (n2.vr p1.er r1) r2) λc z ρ3 H3 φ3 s3 n3 m3 p3 r3=>?_;exact TT.seq m3 p3 (FJ p3 w.sc w.kn r3) λO O ρ4 H4 φ4 s4 n4 m4 p4 r4=>TT.now m4 p4 rfl
 |attr o x a p=>refine us h1 λh3 h4=>?_;have h4:=of_decide_eq_true h4;show aj V G J s (exec (.AugAssign (.Attribute (aB o) x p) op (aB e) pos) G.env) (Lj V.P E d q op o a e U H) (d7 V);rw[arm_exec_AugAssign_2];refine TT.imp (λQ E h=>ag (fA (ag h))) (TT.seq (Nx.refl ..) pre (Sd.e pre h3) λov x ρ1 H1 φ1 s1 n1 m1 p1 r1=>?_);refine TT.imp (λQ E h=>ag (cI (ag (fA (ag h))))) (TT.seq m1 p1 (ju.get p1 r1 h4) λold y ρ2 H2 φ2 s2 n2 m2 p2 r2=>?_);refine TT.imp (λQ E h=>ag (cI h)) (TT.seq m2 p2 (Sd.e p2 h2) λb z ρ3 H3 φ3 s3 n3 m3 p3 r3=>?_);refine TT.imp (λQ E h=>ag (fA (wpAny_operateT h))) (TT.seq m3 p3 (Li p3 (n3.vr p2.er r2) r3) λc w ρ4 H4 φ4 s4 n4 m4 p4 r4=>?_);have yP:=n4.vr p3.er (n3.vr p2.er (n2.vr p1.er r1));refine TT.imp (λQ E h=>ag (fA (ag (cI h)))) (TT.seq m4 p4 (ju.set p4 yP r4 h4) λO O ρ5 H5 φ5 s5 n5 m5 p5 r5=>?_);exact TT.imp (λQ E h=>ag (wpAny_release (aA h))) (TT.now m5 p5 rfl)
 |_=>exact cR h1
def Oy{line:Nat}(h:qL v=true):swapsWith v none line env=pure false:=by cases v<;>first|rfl|exact cR h
def PV(Sd:ew V E)(pre:aq V d q G J U H s){e:C}(h:wf V e G.K=true)(h2:qL (aB e)=true):
  aj V G J s (exec (.Expr (aB e) pos) G.env) (JU E d q e U H) (d7 V):=by
 have hi:interactive G.env=false:=by unfold interactive;rw[pre.er.kind];rfl
 exact TT.imp (λQ E h=>wpAny_Expr_any h hi (Oy h2)) (TT.seq (Nx.refl ..) pre (Sd.e pre h) λO O ρ1 H1 φ1 s1 n1 m1 p1 r1=>TT.now m1 p1 rfl)
def PT(Sd:vA V E)(pre:aq V d q G J U H s){a b:S}(h1:wf V t G.K=true)(h2:eW V a G.K=true)(h3:eW V b G.K=true):
  aj V G J s (exec (.If (aB t) (cT a) (cT b) pos) G.env) (IH E d q t a b U H) (d7 V):=by
 refine TT.imp (λQ E h=>wpAny_If h) (TT.seq (Nx.refl ..) pre (Sd.t pre h1) λc c' ρ1 H1 φ1 s1 n1 m1 p1 r1=>?_);subst r1;cases c
 ·exact TT.last m1 (qf Sd p1 h3)
 ·exact TT.last m1 (qf Sd p1 h2)
def PS(Sd:ew V E)(pre:aq V d q G J U H s){e:C}(h:(qT e||wf V e G.K)=true):
  aj V G J s (exec (.Return (rX e) pos) G.env) (GI E d q e U H) (d7 V):=by
 cases e with
 |nil=>exact TT.imp (λO O h=>wpAny_Return_none h) (TT.now (Nx.refl ..) pre ⟨_,rfl,.none⟩)
 |_=>exact TT.imp (λQ E h=>wpAny_Return_some h) (TT.seq (Nx.refl ..) pre (Sd.e pre h) λO O ρ1 H1 φ1 s1 n1 m1 p1 r1=>TT.now m1 p1 ⟨_,rfl,r1⟩)
def PW(Sd:ew V E)(pre:aq V d q G J U H s){o i:C}{yx:Pos}(h1:wf V o G.K=true)(h2:wf V i G.K=true):
  aj V G J s (exec (.Delete [.Subscript (aB o) (aB i) yx] pos) G.env) (Ki E d q o i U H) (d7 V):=by
 rw[arm_exec_Delete,arm_deleteEach_cons,arm_deleteEach_nil,arm_delete_Subscript];refine TT.imp (λQ E h=>ag (fA (ag (ag (ag h))))) (TT.seq (Nx.refl ..) pre (Sd.e pre h1) λov x ρ1 H1 φ1 s1 n1 m1 p1 r1=>?_);refine TT.imp (λQ E h=>ag (cI h)) (TT.seq m1 p1 (Sd.e p1 h2) λiv y ρ2 H2 φ2 s2 n2 m2 p2 r2=>?_);refine TT.imp (λQ E h=>ag (fA (ag (cI h)))) (TT.seq m2 p2 (YG p2 (n2.vr p1.er r1) r2) λO O ρ3 H3 φ3 s3 n3 m3 p3 r3=>?_);exact TT.imp (λQ E h=>wpAny_release (aA (aA h))) (TT.now m3 p3 rfl)
end
section
def rY(again:Shared->Prop)(Q:Flow->Shared->Prop)(f:Flow)(s:Shared):Prop:=match f with
 |.next=>again s
 |.cont=>again s
 |.brk=>Q .next s
 |.ret v=>Q (.ret v) s
def mS(Q:Flow->Shared->Prop)(r:Result)(s:Shared):Prop:=match r with
 |.ok f=>Q f s
 |.error _=>False
noncomputable def i5(V:Cf)(A:Around)(c:Code)(s:Shared):(Flow->Shared->Prop)->(Value->Shared->Prop)->Prop:=λQ O=>codeAny (model V.prog V.w) A c (mS Q) s
section
variable {prog:Program}{w:World}{A:Around}{s:Shared}
variable {Q:Flow->Shared->Prop}{body:List Stmt}{env:Env}
def Nu{test:Expr}{orelse:List Stmt} 
  (turn:wpAny (model prog w) A (isTrue test env (eval test env)) (λb s₂=>
    if b then wpAny (model prog w) A (execs body env) (rY (λs₃=>codeAny (model prog w) A (.whileLoop test body orelse env) (mS Q) s₃) Q) no s₂
    else wpAny (model prog w) A (execs orelse env) Q no s₂) no s):codeAny (model prog w) A (.whileLoop test body orelse env) (mS Q) s:=by
 refine codeAny_of_tree ?_;show wpAny _ A ((whileTurn test body orelse env).onRaise (λx=>do noteFrame x env;theTreesLotGoes x)) _ _ s;refine wpAny_noted ?_;unfold whileTurn;refine ag (cH turn (λb s₂ h₂=>?_) λO O h'=>h'.elim);cases b with
 |true=>
  refine ag (cH h₂ (λf s₃ h₃=>?_) λO O h'=>h'.elim);cases f with
  |next=>exact aA ⟨rfl,h₃⟩
  |cont=>exact aA ⟨rfl,h₃⟩
  |brk=>exact aA h₃
  |ret v=>exact aA h₃
 |false=>exact ag (cH h₂ (λf s₃ h₃=>aA h₃) λO O h'=>h'.elim)
noncomputable def W6(prog:Program)(w:World)(A:Around)(target:Expr)(it:Value)(body:List Stmt)(env:Env)(Q:Flow->Shared->Prop)(v:Value)(s:Shared):Prop:=wpAny (model prog w) A (assign target env v) (λO s₂=>wpAny (model prog w) A (execs body env) (rY (λs₃=>codeAny (model prog w) A (.forLoop target it body [] env) (mS Q) s₃) Q) no s₂) no s
variable {it:Value}
def W5{target:Expr} 
  (turn:wpAny (model prog w) A (pyNext it) (λr s₁=>match r with
   |none=>Q .next s₁
   |some v=>wpAny (model prog w) A (letOwnedTupleGo target it v) (λO vU=>W6 prog w A target it body env Q v vU) no s₁) no s):
  codeAny (model prog w) A (.forLoop target it body [] env) (mS Q) s:=by
 refine codeAny_of_tree ?_;show wpAny _ A ((forTurn target it body [] env).onRaise (λx=>do noteFrame x env;theTreesLotGoes x)) _ _ s;refine wpAny_noted ?_;unfold forTurn;refine ag (fA (ag (wpAny_onRaise (cH turn (λr s₁ h₁=>?_) λO O h'=>h'.elim))));cases r with
 |none=>exact aA ⟨rfl,codeAny_block (wpAny_execs_nil h₁)⟩
 |some v=>
  refine ag (cH h₁ (λO vU CN=>?_) λO O h'=>h'.elim);refine ag (cH CN (λO s₂ h₂=>ag (cH h₂ (λf s₃ h₃=>?_) λO O h'=>h'.elim)) λO O h'=>h'.elim);cases f with
  |next=>exact aA ⟨rfl,h₃⟩
  |cont=>exact aA ⟨rfl,h₃⟩
  |brk=>exact aA h₃
  |ret v=>exact aA h₃
noncomputable def vS(ifs:List Expr)(env:Env)(b:Bool):Sem Bool:=forIn ifs b λc r=>if r=true then do let ok <- isTrue c env (eval c env);pure (ForInStep.yield ok) else pure (ForInStep.yield r)
structure CT where
 elt:Expr
 tg:Expr
 iter:Expr
 ifs:List Expr
 pre:List Comprehension
 post:List Comprehension
 sc:Scope
 pos:Pos
noncomputable def CT.e(c:CT):Expr:=.ListComp c.elt (c.pre++⟨c.tg,c.iter,c.ifs,0⟩::c.post) c.sc c.pos
noncomputable def CT.code(c:CT)(it acc:Value)(env:Env):Code:=.compLoop c.e c.pre.length it acc env
def CT.at_(c:CT):(c.pre++⟨c.tg,c.iter,c.ifs,0⟩::c.post)[c.pre.length]?=some ⟨c.tg,c.iter,c.ifs,0⟩:=by rw[kT (aQ _),Nat.sub_self];rfl
def CT.at1(c:CT):(c.pre++⟨c.tg,c.iter,c.ifs,0⟩::c.post)[c.pre.length+1]?=c.post[0]?:=by rw[kT (jx _),Nat.succ_sub (aQ _),Nat.sub_self];rfl
def Aa(prog:Program)(w:World)(A:Around)(c:CT)(acc:Value)(env:Env)(K:Shared->Prop)(Ex:Value->Shared->Prop)(s:Shared):Prop:=match c.post with
 |[]=>wpAny (model prog w) A (eval c.elt env) (λx s₄=>wpAny (model prog w) A (call (.builtin "list.append") [acc,x]) (λO s₅=>K s₅) Ex s₄) Ex s
 |g::_=>g.is_async=0/\sy g.iter=true/\wpAny (model prog w) A (eval g.iter env) (λx s₄=>wpAny (model prog w) A (pyIter x) (λit' s₅=>codeAny (model prog w) A (.compStart c.e (c.pre.length+1) it' acc env) (mS λO s₆=>K s₆) s₅) Ex s₄) Ex s
def YR(prog:Program)(w:World)(A:Around)(c:CT)(it acc:Value)(env:Env)(Q:Flow->Shared->Prop)(v:Value)(s:Shared):Prop:=
 wpAny (model prog w) A (assign c.tg env v) (λO s₂=>wpAny (model prog w) A (vS c.ifs env true) (λb s₃=>if b then
   Aa prog w A c acc env (λs₅=>codeAny (model prog w) A (c.code it acc env) (mS Q) s₅) no s₃
  else codeAny (model prog w) A (c.code it acc env) (mS Q) s₃) no s₂) no s
def N8(c:CT)(it acc:Value)(env:Env):compTurn c.e c.pre.length it acc env=(do
   standAt c.iter.pos
   match <- pyNext it with
   |none=>pure (.done .next)
   |some v=>
    letOwnedTupleGo c.tg it v
    assign c.tg env v
    let mut ok:=true
    for x in c.ifs do
     if ok then ok <- isTrue x env (eval x env)
    if ok then
     match c.post[0]? with
     |some g'=>
      let x <- eval g'.iter env
      standAt g'.iter.pos
      let x <- if g'.is_async != 0 then foldedIterable g'.iter x else foldedSetIterable g'.iter env x
      let _ <- runOwn (.compStart c.e (c.pre.length+1) (<- holding [x] (if g'.is_async != 0 then asyncIter x else pyIter x)) acc env) env
     |none=>(do let _ <- call (.builtin "list.append") [acc,<- eval c.elt env])
    again (.compLoop c.e c.pre.length it acc env)):=by
 rw[<- c.at1];unfold compTurn CT.e;dsimp only;rw[c.at_]
 rfl
def yZ{it':Expr}(h:sy it'=true)(x:Value):foldedSetIterable it' env x=pure x:=by cases it'<;>first|rfl|exact cR h
def YQ{c:CT}{acc:Value} 
  (turn:wpAny (model prog w) A (pyNext it) (λr s₁=>match r with
   |none=>Q .next s₁
   |some v=>wpAny (model prog w) A (letOwnedTupleGo c.tg it v) (λO vU=>YR prog w A c it acc env Q v vU) no s₁) no s):
  codeAny (model prog w) A (c.code it acc env) (mS Q) s:=by
 refine codeAny_of_tree ?_;show wpAny _ A ((compTurn c.e c.pre.length it acc env).onRaise (λx=>do noteFrame x env;theTreesLotGoes x)) _ _ s;refine wpAny_noted ?_;rw[N8];refine ag (fA (ag (cH turn (λr s₁ h₁=>?_) λO O h'=>h'.elim)));cases r with
 |none=>exact aA h₁
 |some v=>
  refine ag (cH h₁ (λO vU CN=>?_) λO O h'=>h'.elim);refine ag (cH CN (λO s₂ h₂=>?_) λO O h'=>h'.elim);refine ag (cH h₂ (λb s₃ h₃=>?_) λO O h'=>h'.elim);cases b with
  |true=>
   unfold Aa at h₃;cases hp:c.post with
   |nil=>rw[hp] at h₃;refine ag (ag (cH h₃ (λx s₄ h₄=>ag (cH h₄ (λO s₅ h₅=>?_) λO O h'=>h'.elim)) λO O h'=>h'.elim));exact aA (aA ⟨rfl,h₅⟩)
   |cons g r=>
    rw[hp] at h₃;obtain⟨e0,e1,h₃⟩:=h₃;have z:(g.is_async != 0)=false:=by rw[e0];rfl
    refine ag (cH h₃ (λx s₄ h₄=>?_) λO O h'=>h'.elim);rw[z];refine ag (fA (ag (fK (yZ e1 x) (ag (cI ?_)))));refine cH h₄ (λit' s₅ h₅=>ag (wpAny_runOwn (codeAny_mono h₅ λr s₆ h₆=>?_))) λO O h'=>h'.elim;cases r with
    |ok f=>exact aA ⟨rfl,h₆⟩
    |error=>exact h₆.elim
  |false=>exact aA ⟨rfl,h₃⟩
def OL{R:Result->Shared->Prop}{c:CT}{acc:Value}(h0:codeAny (model prog w) A (c.code it acc env) R s)
  (h:wpAny (model prog w) A (pyIter it) (λit' s'=>codeAny (model prog w) A (c.code it' acc env) R s') (notedBy (model prog w) A env λx s'=>R (.error x) s') s):
  codeAny (model prog w) A (.compStart c.e c.pre.length it acc env) R s:=by
 refine codeAny_of_tree ?_;show wpAny _ _ ((compStart c.e c.pre.length it acc env).onRaise (λx=>do noteFrame x env;standAt theWindowsPlace)) _ _ s;refine wpAny_notedAt ?_;unfold compStart;rw[show(clausesOf c.e)[c.pre.length]?=some ⟨c.tg,c.iter,c.ifs,0⟩ from c.at_];show wpAny _ _ (ask>>=_) _ _ s;refine ag (wpAny_askSetting (wpAny_ite ?_));split
 ·first
   |exact ag (aA (aA (And.intro rfl h0)))
   |exact aA (And.intro rfl h0)
 ·first
   |exact ag (wpAny_rule (ag (fA (ag (cH h (λit' s' h'=>aA (And.intro rfl h')) λO O x=>x)))))
   |(refine ag (wpAny_rule ?_);show wpAny _ _ (standAt c.iter.pos>>=_) _ _ s;exact ag (fA (ag (cH h (λit' s' h'=>aA (And.intro rfl h')) λO O x=>x))))
def Oi{M:Model}{Q:Bool->Shared->Prop}{E:Value->Shared->Prop}(env:Env)(h:Q false s):∀l:List Expr,wpAny M A (vS l env false) Q E s:=by
 intro cs
 induction cs with
 |nil=>exact aA h
 |cons c cs ih=>show wpAny M A (forIn (c::cs) false _) Q E s;rw[List.forIn_cons];exact ag (aA (ih))
end
variable {V:Cf}{G:Fm}{φ₀ J:Ph}{s₀ s:Shared}{U:aD}{H:Hp}{d:Nat}{q:Bool}{E:Ev}
variable {β:Type}
def XG{a:β}{ρ':aD}{H':Hp}:lM V G J s (.ok a ρ' H':du β)=no:=by
 funext v s'
 exact propext ⟨λh=>h.not nofun,False.elim⟩
variable {α:Type}
def TT.xN{W:(α->Shared->Prop)->(Value->Shared->Prop)->Prop}{m:M β}{R:Ph->Heap->α->β->Prop}(x:TT V G J s W (m U H) R)(hs:M.calm m U H≠.stuck):W (kg V G J s (M.calm m U H) R) no:=by
 unfold M.calm at hs⊢;cases e:m U H with
 |ok a ρ' H'=>rw[e] at x;have:=x nofun;rwa[XG] at this
 |exc=>rw[e] at hs;exact absurd rfl hs
 |stuck=>rw[e] at hs;exact absurd rfl hs
structure xX(V:Cf)(E:Ev):Prop extends vA V E where
 w:∀{d q G J U H s t b e},aq V d q G J U H s->wf V t G.K=true->eW V b G.K=true->eW V e G.K=true ->
  TT V G J s (i5 V G.A (.whileLoop (aB t) (cT b) (cT e) G.env) s) (E.w d q t b e U H) (d7 V)
 f:∀{d G φ₀ J U H s₀ s src b tg I},Nx G.X φ₀ J s₀ s->lW s₀ G I src->aq V d true G J U H s->kJ V J s.heap I src->mG G.K tg=true->eW V b G.K=true ->
  TT V G φ₀ s₀ (i5 V G.A (.forLoop (aB tg) (.ref I) (cT b) [] G.env) s) (E.f d true tg src b U H) (d7 V)
variable {I:Addr}{src:ba}
def Ij{s1:Shared}(hl:∀a,bM s.heap a->bM s1.heap a)(h:lW s1 G I src):lW s G I src:=by
 cases src with
 |zip n=>trivial
 |_=>exact⟨λho=>h.1 (hl _ ho),h.2⟩
def Fu{W:(Flow->Shared->Prop)->Shared->Prop}{again:M Fl}{f:Flow}{g:Fl}(m:Nx G.X φ₀ J s₀ s)(p:aq V d q G J U H s)(r:d7 V J s.heap f g)(go:TT V G φ₀ s₀ (λQ O=>W Q s) (again U H) (d7 V)):
  TT V G φ₀ s₀ (λQ O=>rY (W Q) Q f s) (vP again g U H) (d7 V):=by
 cases g with
 |next=>subst r;exact go
 |cont=>subst r;exact go
 |brk=>subst r;exact TT.now m p rfl
 |ret v=>obtain⟨w,rfl,r⟩:=r;exact TT.now m p ⟨w,rfl,r⟩
variable {b:S}
def NA(Sd:xX V E)(pre:aq V d q G J U H s){t:C}{e:S}(h1:wf V t G.K=true)(h2:eW V b G.K=true)(h3:eW V e G.K=true):
  TT V G J s (i5 V G.A (.whileLoop (aB t) (cT b) (cT e) G.env) s) (FO E d q t b e U H) (d7 V):=λhs=>Nu (TT.xN (W:=λQ Ex=>wpAny (model V.prog V.w) G.A (isTrue (aB t) G.env (eval (aB t) G.env)) (λc s₂=>
   if c then wpAny (model V.prog V.w) G.A (execs (cT b) G.env) (rY (λs₃=>i5 V G.A (.whileLoop (aB t) (cT b) (cT e) G.env) s₃ Q no) Q) Ex s₂
   else wpAny (model V.prog V.w) G.A (execs (cT e) G.env) Q Ex s₂) Ex s)
  (TT.seq (Nx.refl ..) pre (Sd.t pre h1) λc c' ρ1 H1 φ1 s1 n1 m1 p1 r1=>by
   subst r1;cases c with
   |false=>exact TT.last m1 (qf Sd.tovA p1 h3)
   |true=>
    refine TT.seq (W:=λf s₃ Q O=>rY (λs₃=>i5 V G.A (.whileLoop (aB t) (cT b) (cT e) G.env) s₃ Q no) Q f s₃) m1 p1 (qf Sd.tovA p1 h2) λf g ρ2 H2 φ2 s2 n2 m2 p2 r2=>?_;exact Fu (W:=λQ s₃=>i5 V G.A (.whileLoop (aB t) (cT b) (cT e) G.env) s₃ Q no) m2 p2 r2 λhs=>codeAny_mono (Sd.w p2 h1 h2 h3 hs) λr s' h=>by
     cases r with
     |ok f=>exact kg.up m2 h
     |error=>exact h) hs)
variable {tg:C}
def Xx(ok:dR V)(Sd:xX V E)(n0:Nx G.X φ₀ J s₀ s)(hI:lW s₀ G I src)(pre:aq V d true G J U H s)(it:kJ V J s.heap I src)(h1:mG G.K tg=true)(h2:eW V b G.K=true):
  TT V G φ₀ s₀ (i5 V G.A (.forLoop (aB tg) (.ref I) (cT b) [] G.env) s) (pD E d true tg src b U H) (d7 V):=by
 intro hs;refine W5 ?_;unfold pD at hs⊢;cases e:src.nx tg H with
 |none=>rw[e] at hs;exact absurd rfl hs
 |some r=>
  obtain⟨o,H'⟩:=r;rw[e] at hs;refine Fv n0 pre it hI e (λho s1 p1 n1=>?_) λp ho xv s1 p1 m1 rv it1 fY=>?_
  ·subst ho;exact⟨.next,U,H',J,rfl,p1.tw n1,rfl⟩
  ·subst ho;refine TT.xN (W:=λQ Ex=>wpAny (model V.prog V.w) G.A (assign (aB tg) G.env xv) (λO s₂=>wpAny (model V.prog V.w) G.A (execs (cT b) G.env) (rY (λs₃=>i5 V G.A (.forLoop (aB tg) (.ref I) (cT b) [] G.env) s₃ Q no) Q) Ex s₂) Ex s1) ?_ hs;refine TT.seq m1 p1 (D6 ok (p1.hd rfl) p1 h1 rv) λO O ρ2 H2 φ2 s2 n2 m2 p2 r2=>?_;refine TT.seq (W:=λf s₃ Q O=>rY (λs₃=>i5 V G.A (.forLoop (aB tg) (.ref I) (cT b) [] G.env) s₃ Q no) Q f s₃) m2 p2 (qf Sd.tovA p2 h2) λf g ρ3 H3 φ3 s3 n3 m3 p3 r3=>?_;exact Fu (W:=λQ s₃=>i5 V G.A (.forLoop (aB tg) (.ref I) (cT b) [] G.env) s₃ Q no) m3 p3 r3 λhs=>Sd.f m3 fY p3 ((it1.mono fY n2.ext p1.er.fC n2.gr).mono fY n3.ext p2.er.fC n3.gr) h1 h2 hs
def Km{c:Code}{m:M Fl}{Ex:Value->Shared->Prop}(x:TT V G φ₀ s₀ (i5 V G.A c s) (m U H) (d7 V))(hs:M.calm m U H≠.stuck):
  codeAny (model V.prog V.w) G.A c (λr s'=>match r with|.ok f=>kg V G φ₀ s₀ (M.calm m U H) (d7 V) f s'|.error e=>Ex e s') s:=
 codeAny_mono (TT.xN x hs) λr s' h=>by
  cases r with
  |ok f=>exact h
  |error=>exact h.elim
variable {pos:Pos}
def PO(Sd:xX V E)(pre:aq V d q G J U H s){t:C}{e:S}(h1:wf V t G.K=true)(h2:eW V b G.K=true)(h3:eW V e G.K=true):
  aj V G J s (exec (.While (aB t) (cT b) (cT e) pos) G.env) (M.calm (E.w d q t b e) U H) (d7 V):=λhs=>wpAny_While (Km (Sd.w pre h1 h2 h3) hs)
def PU(ok:dR V)(Sd:xX V E)(pre:aq V d true G J U H s){it:C}(h1:mG G.K tg=true)(h2:wf V it G.K=true)(h3:sy (aB it)=true)(h4:eW V b G.K=true):
  aj V G J s (exec (.For (aB tg) (aB it) (cT b) [] pos) G.env) (HO E d true tg it b U H) (d7 V):=by
 refine TT.imp (λQ Ex h=>wpAny_For h (yZ h3)) (TT.seq (Nx.refl ..) pre (Sd.e pre h2) λv x ρ1 H1 φ1 s1 n1 m1 p1 r1=>?_);intro hs;unfold zm at hs⊢;cases jM:dX x H1 with
 |none=>rw[jM] at hs;exact absurd rfl hs
 |some src=>rw[jM] at hs;refine Cu ok p1 r1 jM λI s2 g it2 hI=>?_;exact Km (Sd.f (m1.trans (g.nx G.X φ1)) (Ij m1.live hI) (p1.grow g) it2 h1 h4) hs
def Oh(Sd:ew V E):∀(l:List C) {J:Ph} {U:aD} {H:Hp} {s:Shared},aq V d q G J U H s->(∀c∈l,i7 V G.K c) ->
  aj V G J s (vS (l.map aB) G.env true) (tP (E.t d q) true l U H) (λO O a b=>a=b):=by
 intro l
 induction l with
 |nil=>intro _ _ _ _ pre _;exact TT.imp (λO O h=>aA h) (TT.now (Nx.refl ..) pre rfl)
 |cons c l ih=>
  intro J U H s pre h;unfold vS;rw[bQ,List.forIn_cons];refine TT.imp (λO O h=>ag (ag h)) (TT.seq (Nx.refl ..) pre (Sd.t pre (h c bz).wf) λb c' ρ1 H1 φ1 s1 n1 m1 p1 r1=>?_);subst r1;cases b with
  |true=>exact TT.imp (λO O h=>aA h) (TT.last m1 (ih p1 λc hc=>h c (bI _ hc)))
  |false=>exact TT.imp (λO O h=>aA (Oi G.env h _)) (TT.now m1 p1 rfl)
variable {k:Nat}{D:Addr}
def aaS(ok:dR V)(pre:aq V d q G J U H s){v:Value}{x:AV}(hk:J[k]?=some (D,D))(hv:VR V J s.heap v x):
  aj V G J s (call (.builtin "list.append") [.ref D,v]) (ij (tu k x) U H) (λO O O O=>True):=aj.yl λH' e=>by
 refine ub e λl h1 e=>?_;have key:uo 0 k l [x] H=some (.none,H'):=by show aK _ (some _)=_;refine ur e λh2 e=>?_;obtain rfl:=sj e;rw[h2];rfl
 have:=HF pre hk h1 (aO.cons hv .nil) key;intro _;refine cH (this nofun) (λa s' bN=>gN bN λb ρ' H'' φ' e f O=>?_) λO O h=>h.not nofun;cases e;exact⟨(),_,_,φ',rfl,f,trivial⟩
structure vB(V:Cf)(E:Ev):Prop extends xX V E where
 cp:∀{d G φ₀ J U H s₀ s src ifs elt k tg I D it' pr sc pos},Nx G.X φ₀ J s₀ s->lW s₀ G I src->aq V d true G J U H s->kJ V J s.heap I src->J[k]?=some (D,D) ->
  mG G.K tg=true->mH V ifs G.K=true->wf V elt G.K=true ->
  TT V G φ₀ s₀ (i5 V G.A (CT.code ⟨aB elt,aB tg,it',bJ ifs,pr,iB (bJ elt),sc,pos⟩ (.ref I) (.ref D) G.env) s) (E.cp d tg src ifs elt k U H) (λO O f O=>f=.next)
abbrev Al(elt tg ifs:C)(it':Expr)(pr:List Comprehension)(sc:Scope)(pos:Pos):CT:=⟨aB elt,aB tg,it',bJ ifs,pr,iB (bJ elt),sc,pos⟩
variable {f:Hp->Option α}
def Qw{v:α}(e:f H=some v):bX f U H=.ok v U H:=by unfold bX;rw[e]
def Qv(e:f H=none):bX f U H=.stuck:=by unfold bX;rw[e]
def D7{γ:Type}(m:M α)(f:α->M β)(g:β->M γ):M.bind (M.bind m f) g=M.bind m λx=>M.bind (f x) g:=by
 funext U H
 unfold M.bind;cases m U H<;>rfl
variable {Q:Value->Shared->Prop}
def PH{A:Around}(x:Eg V J s.heap I src){E:Value->Shared->Prop}(h:Q (.ref I) s):wpAny (model V.prog V.w) A (pyIter (.ref I)) Q E s:=by
 cases src with
 |fix l=>
  cases x with
  |lst a items n i x=>exact wpAny_pyIter_listiter x.it h
  |tup a items n i x=>exact wpAny_pyIter_tupleiter x.it h
  |fq z c n x _=>exact wpAny_pyIter_rangeiter x h
  |cj b t i m x=>exact KBw.pyIter_self x.it h
  |str y t i m x=>exact wpAny_pyIter_striter_ascii x.it h
 |lst n i=>refine ak x λa O h1=>?_;clear x;exact wpAny_pyIter_listiter h1 h
 |dct n i sz ep=>refine ak x λa O h1=>?_;clear x;exact wpAny_pyIter_keyiter h1 h
 |vals n i sz ep=>refine ak x λa O h1=>?_;clear x;exact wpAny_pyIter_valiter h1 h
 |zip n=>exact x.elim
def yb{a:ba}{n:Nat}{P:Prop}(e:a=.zip n)(h:Cw a=false):P:=by subst e;cases h
noncomputable def M9(s:ba):Nat:=match s with|.zip n=>n|_=>0
def EI{v:AV}{n:Nat}(e:dX v H=some (.zip n)):∃k,H[n]?=some (.zip k):=by
 cases v with
 |zip m=>refine um e λk h1 aa=>?_;have r2:m=n:=congrArg M9 aa;exact⟨k,r2▸AY h1⟩
 |ref n=>
  have e:(match bq H n with
   |some _=>some (.lst n 0)
   |none=>(cM H n).map λr=>ba.dct n 0 r.2.length r.1)=some _:=e
  cases hl:bq H n with
  |some l=>rw[hl] at e;exact yb (sj e) rfl
  |none=>rw[hl] at e;exact um e λr h1 aa=>yb aa rfl
 |vals n=>exact um e λr h1 aa=>yb aa rfl
 |_=>first|exact aT e|exact yb (sj e) rfl
def Gm(R:aR V J H s.heap){A:Around}(hz:∀n,src=.zip n->∃k,H[n]?=some (.zip k))(x:kJ V J s.heap I src){E:Value->Shared->Prop}(h:Q (.ref I) s):wpAny (model V.prog V.w) A (pyIter (.ref I)) Q E s:=by
 cases src with
 |zip n=>refine ue (hz n rfl) λk h1=>?_;refine pq (R.at h1 x) λTI TO i1 i2 z=>?_;exact wpAny_pyIter_zip z.zip h
 |_=>exact PH x.st h
def Jx{K:Cx}{c:C}(h:y4 c=true)(hw:wf V c K=true):iB (bJ c)=[]:=by cases c<;>first|rfl|exact cR h|exact cR hw
def X3{c:C}(h:y4 c=true):vc E d c k=M.bind (E.e d true c) λx=>ij (tu k x):=by cases c<;>first|rfl|exact cR h
def WS(c:C):y4 c=true\/∃tg it e,c=.gen tg it e:=by cases c<;>first|exact .inl rfl|exact .inr ⟨_,_,_,rfl⟩
variable {it':Expr}{pr:List Comprehension}{sc:Scope}
def YK{vR it2 e:C}{ifs:List Expr}{el:Expr}(e1:iB (bJ e)=[]):
  CT.e ⟨el,aB tg,it',ifs,pr,iB (bJ (.gen vR it2 e)),sc,pos⟩=CT.e ⟨el,aB vR,aB it2,bJ .nil,pr++[⟨aB tg,it',ifs,0⟩],iB (bJ e),sc,pos⟩:=by
 unfold CT.e;dsimp only;rw[e1,dA];rfl
def X1(ok:dR V)(Sd:vB V E){ifs elt:C}{again:M Unit}{W:Shared->(Flow->Shared->Prop)->Prop}
  (n:Nx G.X φ₀ J s₀ s) (pre:aq V d true G J U H s) (hD:J[k]?=some (D,D)) (h3:wf V elt G.K=true)
  (go:∀ρ' H' φ' s',Nx G.X J φ' s s'->aq V d true G φ' ρ' H' s'->TT V G φ₀ s₀ (λQ O=>W s' Q) (again ρ' H') (λO O f O=>f=.next)):
  TT V G φ₀ s₀ (λQ Ex=>Aa V.prog V.w G.A ⟨aB elt,aB tg,it',bJ ifs,pr,iB (bJ elt),sc,pos⟩ (.ref D) G.env (λs'=>W s' Q) Ex s) (M.bind (vc E d elt k) (λO=>again) U H) (λO O f O=>f=.next):=by
 rcases WS elt with hg|hg
 ·rw[Jx hg h3,X3 hg,D7];refine TT.seq n pre (Sd.e pre h3) λx y ρ4 H4 φ4 s4 n4 m4 p4 r4=>?_;exact TT.seq m4 p4 (aaS ok p4 (n4.gr.get hD) r4) λO O ρ5 H5 φ5 s5 n5 m5 p5 r5=>go _ _ _ _ (n4.trans n5) p5
 ·refine eB hg λvR it2 e r_=>?_;subst r_;refine yi h3 λWD WC WB Jn WA h36=>?_;have e1:iB (bJ e)=[]:=Jx WA Jn;show TT V G φ₀ s₀ _ (M.bind (M.bind (E.e d true it2) _) _ U H) _;rw[D7];refine TT.imp (λO O h=>⟨rfl,WB,h⟩) ?_;refine TT.seq (W:=λx s₄ Q Ex=>wpAny (model V.prog V.w) G.A (pyIter x) (λVb s₅=>codeAny (model V.prog V.w) G.A (.compStart (CT.e ⟨aB e,aB tg,it',bJ ifs,pr,iB (bJ (.gen vR it2 e)),sc,pos⟩) (pr.length+1) Vb (.ref D) G.env) (mS λO s₆=>W s₆ Q) s₅) Ex s₄) n pre (Sd.e pre WC) λv x ρ1 H1 φ1 s1 n1 m1 p1 r1=>?_;intro hs;rw[D7] at hs⊢;cases jM:dX x H1 with
  |none=>exact absurd (vp (Qv (f:=λH=>dX x H) jM)) hs
  |some src=>
   have e2:FZ x ρ1 H1=.ok src ρ1 H1:=Qw (f:=λH=>dX x H) jM;rw[tq e2] at hs⊢;refine Cu ok p1 r1 jM λI s2 g Iq hI=>?_;have el:pr.length+1=(pr++[(⟨aB tg,it',bJ ifs,0⟩:Comprehension)]).length:=by rw[bu];rfl
   rw[YK e1,el];have fin:=codeAny_mono ((Sd.cp (it':=aB it2) (ifs:=.nil) (elt:=e) (pr:=pr++[⟨aB tg,it',bJ ifs,0⟩]) (sc:=sc) (pos:=pos) (n1.trans (g.nx G.X φ1)) (Ij n1.live hI) (p1.grow g) Iq (n1.gr.get hD) WD rfl Jn) λz=>hs (vp z)) (R':=mS λO s₆=>W s₆ (kg V G φ₀ s₀ (M.bind (E.cp d vR src .nil e k) (λO=>again) ρ1 H1) λO O f O=>f=.next)) λr s' h=>by
    cases r with
    |ok f=>refine gN h λb ρ' H' φ' e1 f1 O=>?_;rw[tq e1] at hs;show W s' _;rw[tq e1];exact go _ _ _ _ f1.nx (f1.pre pre) hs
    |error=>exact h.elim
   exact OL fin (Gm (p1.grow g).rel (λn e=>EI (e▸jM)) Iq fin)
def ZC(ok:dR V)(Sd:vB V E){ifs elt:C}(n0:Nx G.X φ₀ J s₀ s)(hI:lW s₀ G I src)
  (pre:aq V d true G J U H s) (it:kJ V J s.heap I src) (hD:J[k]?=some (D,D)) (h1:mG G.K tg=true) (h2:mH V ifs G.K=true) (h3:wf V elt G.K=true):
  TT V G φ₀ s₀ (i5 V G.A (CT.code ⟨aB elt,aB tg,it',bJ ifs,pr,iB (bJ elt),sc,pos⟩ (.ref I) (.ref D) G.env) s) (r0 E d tg src ifs elt k U H) (λO O f O=>f=.next):=by
 intro hs;refine YQ ?_;unfold r0 at hs⊢;cases e:src.nx tg H with
 |none=>rw[e] at hs;exact absurd rfl hs
 |some r=>
  obtain⟨o,H'⟩:=r;rw[e] at hs;refine Fv n0 pre it hI e (λho s1 p1 n1=>?_) λp ho xv s1 p1 m1 rv it1 fY=>?_
  ·subst ho;exact⟨(),U,H',J,rfl,p1.tw n1,rfl⟩
  ·subst ho;refine ua (vN h2) λe2 WE=>?_;refine TT.xN (W:=λQ Ex=>wpAny (model V.prog V.w) G.A (assign (aB tg) G.env xv) (λO s₂=>wpAny (model V.prog V.w) G.A (vS (bJ ifs) G.env true) (λb s₃=>if b then
     Aa V.prog V.w G.A (Al elt tg ifs it' pr sc pos) (.ref D) G.env (λs₅=>i5 V G.A ((Al elt tg ifs it' pr sc pos).code (.ref I) (.ref D) G.env) s₅ Q no) Ex s₃
     else i5 V G.A ((Al elt tg ifs it' pr sc pos).code (.ref I) (.ref D) G.env) s₃ Q no) Ex s₂) Ex s1) ?_ hs
   refine TT.seq m1 p1 (D6 ok (p1.hd rfl) p1 h1 rv) λO O ρ2 H2 φ2 s2 n2 m2 p2 r2=>?_;refine TT.seq m2 p2 (by rw[e2];exact Oh Sd.toew (cs ifs) p2 WE) λb c' ρ3 H3 φ3 s3 n3 m3 p3 r3=>?_;subst r3;have Ip:=(it1.mono fY n2.ext p1.er.fC n2.gr).mono fY n3.ext p2.er.fC n3.gr;have Di:=n3.gr.get (n2.gr.get hD);cases b with
   |false=>exact λhs=>Sd.cp m3 fY p3 Ip Di h1 h2 h3 hs
   |true=>exact X1 (W:=λs₅ Q=>i5 V G.A (CT.code ⟨aB elt,aB tg,it',bJ ifs,pr,iB (bJ elt),sc,pos⟩ (.ref I) (.ref D) G.env) s₅ Q no) ok Sd m3 p3 Di h3 λρ4 H4 φ4 s4 n4 p4=>Sd.cp (m3.trans n4) fY p4 (Ip.mono fY n4.ext p3.er.fC n4.gr) (n4.gr.get Di) h1 h2 h3
end
section
variable {V:Cf}{G:Fm}{φ₀ J:Ph}{s₀ s:Shared}{U:aD}{H:Hp}{d:Nat}{q:Bool}{E:Ev}
noncomputable def gG(cells:List (Str×Addr)):List (Str×NameKind)->List (Str×Addr)->List (Str×Addr)
 |[],acc=>acc
 |(x,k)::r,acc=>gG cells r (if k=.free then(x,(cells.lookup x).getD 0)::acc else acc)
def Am(cells:List (Str×Addr))(x:Str)(k:NameKind)(r:List (Str×NameKind))(acc:List (Str×Addr)):gG cells ((x,k)::r) acc=gG cells r (if k=.free then(x,(cells.lookup x).getD 0)::acc else acc):=rfl
variable {names:List (Str×NameKind)}
def YY{env:Env}(h:∀p∈names,p.2=.free->∃c,env.cells.lookup p.1=some c):∀acc:List (Str×Addr),
  (forIn names acc λp cs=>if p.2==.free then(do let c <- cellOf env p.1;pure (ForInStep.yield ((p.1,c)::cs))) else pure (ForInStep.yield cs):Sem (List (Str×Addr)))=pure (gG env.cells names acc):=by
 induction names with
 |nil=>intro acc;rfl
 |cons p r ih=>
  intro acc;obtain⟨x,k⟩:=p;have ih:=ih (λp hp=>h p (bI _ hp));rw[List.forIn_cons];by_cases hk:k=.free
  ·subst hk;refine ue (h (x,.free) bz rfl) λc hc=>?_;have e1:cellOf env x=pure c:=by unfold cellOf;rw[hc]
   simp only[beq_self_eq_true,if_true,e1,pure_bind];rw[ih];rw[Am,if_pos rfl,hc];rfl
  ·have:(k==NameKind.free)=false:=by simpa using hk
   simp only[this,Bool.false_eq_true,if_false,pure_bind];rw[ih];rw[Am,if_neg hk]
variable {sc:Scope}
def YX{env:Env}(h:∀p∈sc.names,p.2=.free->∃c,env.cells.lookup p.1=some c):closureFor sc env=pure (gG env.cells sc.names []):=by
 have:=YY h [];unfold closureFor
 first
  |exact this
  |(show(forIn sc.names [] _>>=λcs=>pure cs)=_;rw[bind_pure];exact this)
theorem Y9(cells:List (Str×Addr)):∀(names:List (Str×NameKind)) (acc:List (Str×Addr)) (x:Str) (c:Addr),(gG cells names acc).lookup x=some c ->
  acc.lookup x=some c\/((x,NameKind.free)∈names/\(cells.lookup x).getD 0=c):=by
 intro names
 induction names with
 |nil=>intro acc x c h;exact .inl h
 |cons p_ r ih=>
  obtain⟨y,k⟩:=p_;intro acc x c h;rw[Am] at h;rcases ih _ x c h with h|⟨h1,h2⟩
  ·by_cases hk:k=.free
   ·rw[if_pos hk,hW] at h;cases hx:x==y with
    |true=>
     rw[hx] at h;have:x=y:=by simpa using hx
     subst this;obtain rfl:=sj h;exact .inr ⟨hk▸bz,rfl⟩
    |false=>rw[hx] at h;exact .inl h
   ·rw[if_neg hk] at h;exact .inl h
  ·exact .inr ⟨bI _ h1,h2⟩
theorem Y6(cells:List (Str×Addr)):∀(names:List (Str×NameKind)) (acc:List (Str×Addr)) (x:Str),((x,NameKind.free)∈names\/(acc.lookup x).isSome=true)->∃c,(gG cells names acc).lookup x=some c:=by
 intro names
 induction names with
 |nil=>
  intro acc x h;rcases h with h|h
  ·cases h
  ·exact rO.mp h
 |cons p_ r ih=>
  obtain⟨y,k⟩:=p_;intro acc x h;rw[Am];refine ih _ x ?_;by_cases hk:k=.free
  ·rw[if_pos hk,hW];cases hx:x==y with
   |true=>exact .inr rfl
   |false=>
    rcases h with h|h
    ·rcases bl.mp h with h|h
     ·cases h;simp at hx
     ·exact .inl h
    ·exact .inr h
  ·rw[if_neg hk];rcases h with h|h
   ·rcases bl.mp h with h|h
    ·cases h;exact absurd rfl hk
    ·exact .inl h
   ·exact .inr h
noncomputable def wy(env:Env)(x:Str)(k:NameKind):NameKind:=if(k==NameKind.free&&env.scope.kind==.function&&env.kindOf x==some .cell) then .cell else k
theorem Qr(env:Env):∀(names:List (Str×NameKind)) (x:Str),
  (names.map λ(n,k)=>if(k==NameKind.free&&env.scope.kind==.function&&env.kindOf n==some .cell) then(n,NameKind.cell) else(n,k)).lookup x=(names.lookup x).map (wy env x):=by
 intro names
 induction names with
 |nil=>intro x;exact rfl
 |cons p_ r ih=>
  obtain⟨y,k⟩:=p_;intro x;have hd:(match(y,k) with|(n,k)=>if(k==NameKind.free&&env.scope.kind==.function&&env.kindOf n==some .cell) then(n,NameKind.cell) else(n,k))=(y,wy env y k):=by unfold wy;dsimp only;cases (k==NameKind.free&&env.scope.kind==.function&&env.kindOf y==some .cell)<;>rfl
  rw[bQ];rw[hd,hW,hW];cases hx:x==y with
  |true=>
   have:x=y:=by simpa using hx
   subst this
   rfl
  |false=>exact(ih x)
noncomputable def PN(K:Cx)(ts:List (Str×Nat))(p:Str×NameKind):Option (Str×Nat):=if p.2=.local\/p.2=.cell then(ts.lookup p.1).map (p.1,·) else if p.2=.free then(K.sc.lookup p.1).map (p.1,·) else none
inductive abu(K:Cx)(ts:List (Str×Nat))(names:List (Str×NameKind))(x:Str)(k:Nat):Prop where
 |own (kd:NameKind) (m:(x,kd)∈names) (h:kd=.local\/kd=.cell) (e:ts.lookup x=some k)
 |free (m:(x,NameKind.free)∈names) (e:K.sc.lookup x=some k)
def Xk{f:Str×NameKind->Option (Str×Nat)}{p:Str×NameKind}{r:List (Str×NameKind)}{x:Str}{k:Nat}(h:((p::r).filterMap f).lookup x=some k):(r.filterMap f).lookup x=some k\/f p=some (x,k):=by
 cases e:f p with
 |none=>rw[List.filterMap_cons_none e] at h;exact .inl h
 |some b=>
  rw[List.filterMap_cons_some e,hW] at h;cases hx:x==b.1 with
  |false=>rw[hx] at h;exact .inl h
  |true=>
   rw[hx] at h;have:x=b.1:=by simpa using hx
   subst this;obtain rfl:=sj h;exact .inr rfl
theorem Bq(K:Cx)(ts:List (Str×Nat)):∀(names:List (Str×NameKind)) (x:Str) (k:Nat),(names.filterMap (PN K ts)).lookup x=some k->abu K ts names x k:=by
 intro names
 induction names with
 |nil=>intro x k h;exact aT h
 |cons p_ r ih=>
  obtain⟨y,kd⟩:=p_;intro x k h;rcases Xk h with h|h
  ·cases ih x k h with
   |own kd m h e=>exact .own kd (bI _ m) h e
   |free m e=>exact .free (bI _ m) e
  ·by_cases h1:kd=.local\/kd=.cell
   ·refine um ((if_pos h1).symm.trans h) λj hj e=>?_;cases e;exact .own kd bz h1 hj
   ·by_cases h2:kd=.free
    ·refine ak (qt.mp (((if_neg h1).trans (if_pos h2)).symm.trans h)) λj hj e=>?_;cases e;exact .free (h2▸bz) hj
    ·cases ((if_neg h1).trans (if_neg h2)).symm.trans h
def T2{l:List (Str×Nat)}(h:(l.map (·.2)).Nodup){x y:Str}{k:Nat}:l.lookup x=some k->l.lookup y=some k->x=y:=by
 induction l with
 |nil=>intro h1;exact aT h1
 |cons p r ih=>
  intro h1 h2;rw[bQ,hU] at h;rw[hW] at h1 h2;have mem:∀{z:Str},r.lookup z=some k->k∈r.map (·.2):=λhz=>mB (f:=(·.2)) (jc hz);cases hx:x==p.1<;>cases hy:y==p.1<;>rw[hx] at h1<;>rw[hy] at h2
  ·exact ih h.2 h1 h2
  ·obtain rfl:=sj h2;exact absurd (mem h1) h.1
  ·obtain rfl:=sj h1;exact absurd (mem h2) h.1
  ·have a:x=p.1:=by simpa using hx
   have b:y=p.1:=by simpa using hy
   rw[a,b]
def DM:∀(ts:List Nat) (U:aD) (k:Nat),(k∈ts->∀v,(iD ts U)[k]?≠some (some v))/\(k∉ts->(iD ts U)[k]?=U[k]?):=by
 intro ts
 induction ts with
 |nil=>intro U k;exact⟨λh=>(nomatch h),λO=>rfl⟩
 |cons t ts ih=>
  intro U k;show(_->∀v,(iD ts (ai U none t))[k]?≠_)/\(_->(iD ts (ai U none t))[k]?=_);rw[mK];refine ua (ih (U.set t none) k) λh1 h2=>?_;rw[bl,not_or];refine⟨λhk v e=>?_,λbN=>ua bN λht hk=>(h2 hk).trans (nY (cP ht))⟩;by_cases hm:k∈ts
  ·exact h1 hm v e
  ·have:=hk.resolve_right hm;subst this;rw[h2 hm] at e;by_cases hl:k<U.length
   ·rw[rN hl] at e;cases e
   ·rw[List.getElem?_eq_none (by simpa using hl)] at e;exact aT e
def g5(K:Cx)(sc:Scope)(nms:List (Str×Nat))(ts:List Nat):Prop:=(sc.kind=.function)/\(∀p∈sc.names,sc.names.lookup p.1=some p.2)/\(∀p∈sc.names,p.2=.free->∃k,K.sc.lookup p.1=some k/\k∉ts/\(K.kn.lookup p.1=some .cell\/K.kn.lookup p.1=some .free))/\(∀p∈nms,p.2∈ts)/\(((lQ K sc.names nms).sc.map (·.2)).Nodup)
section
variable {b1 b2 b3 b4}(x:g5 b1 b2 b3 b4)
def g5.mk:=jJ (g5 b1 b2 b3 b4) rfl
def g5.kind:=x.1
def g5.look:=x.2.1
def g5.free:=x.2.2.1
def g5.Fz:=x.2.2.2.1
def g5.nodup:=x.2.2.2.2
end
variable {nms:List (Str×Nat)}{ts:List Nat}
def PM{K:Cx}(hc:KA K sc nms ts=true):g5 K sc nms ts:=by
 refine pk hc λVZ xq IM VS=>?_;rw[fB] at xq IM;refine(g5.mk (of_decide_eq_true VZ) (λp hp=>of_decide_eq_true (nB (xq p hp)).1) (λp hp hk=>?_) (λp hp=>by simpa using IM p hp) (of_decide_eq_true VS))
 ·have:=(nB (xq p hp)).2;unfold KC at this;rw[hk] at this;refine us this λa b=>?_;cases hl:K.sc.lookup p.1 with
  |none=>rw[hl] at a;cases a
  |some k=>rw[hl] at a;exact⟨k,rfl,by simpa using (a:(!ts.contains k)=true),(rK.mp b).imp (λh=>of_decide_eq_true h) λh=>of_decide_eq_true h⟩
def g5.cells{K:Cx}(w:g5 G.K sc nms ts)(er:bP V G J U s.heap):∀p∈sc.names,p.2=.free->∃c,G.env.cells.lookup p.1=some c:=λp hp hk=>by refine gc (w.free p hp hk) λk a O b=>?_;refine cb (er.ny p.1 k a b) λc ov x=>?_;exact⟨c,x.look⟩
def YN{M:Model}{A:Around}{E:Value->Shared->Prop}{gl:Addr}{cl:List (Str×Addr)}{qual:Str}{outer:Env}{Q:Env->Shared->Prop}
  (hQ:Q {scope:=sc,locals:=s.heap.objs.size,globals:=gl,cells:=cellsFrom (s.heap.objs.size+1) sc.names cl,qual,func:=none,code:=outer.code,frame:=outer.frame,builtins:=outer.builtins} {s with heap:=pushCells (s.heap.push {cls:=.type "dict",data:=.dict #[]}) sc.names}):
  wpAny M A (newFunctionEnv sc gl cl [] qual none .none (some outer)) Q E s:=by
 simp only[newFunctionEnv,Option.isSome_some,if_true];refine ag (wpAny_alloc ?_);refine ag (wpAny_layCells _ (λname kind cells=>by cases V0:kind==NameKind.cell<;>simp[V0]) _ _ _ _ ?_);rw[show({s with heap:=s.heap.push {cls:=.type "dict",data:=.dict #[]}}:Shared).heap.objs.size=s.heap.objs.size+1 from nT ..];exact ag (aA (aA hQ))
inductive LN(names:List (Str×NameKind))(n:Nat)(acc:List (Str×Addr))(h:Heap)(x:Str)(c:Addr):Prop where
 |old (e:acc.lookup x=some c) (m:(x,NameKind.cell)∉names)
 |new (m:(x,NameKind.cell)∈names) (le:n<=c) (cell:h.IsCell c none)
theorem KQ:∀(names:List (Str×NameKind)) (h:Heap) (acc:List (Str×Addr)) {x:Str} {c:Addr},(cellsFrom h.objs.size names acc).lookup x=some c->LN names h.objs.size acc (pushCells h names) x c:=by
 intro names
 induction names with
 |nil=>intro h acc x c e;exact .old e nofun
 |cons p_ r fM=>
  obtain⟨y,k⟩:=p_;intro h acc x c e;unfold cellsFrom at e;unfold pushCells;by_cases hk:(k==NameKind.cell)=true
  ·rw[if_pos hk] at e⊢;have jq:k=.cell:=by simpa using hk
   subst jq;have sz:(h.push {cls:=.type "cell",data:=.cell none}).objs.size=h.objs.size+1:=nT ..;have ih:=fM (h.push {cls:=.type "cell",data:=.cell none}) ((y,h.objs.size)::acc) (x:=x) (c:=c) (by rw[sz];exact e);cases ih with
   |new m le cell=>exact .new (bI _ m) (by rw[sz] at le;exact rQ le) cell
   |old e2 m=>
    rw[hW] at e2;cases hx:x==y with
    |true=>
     rw[hx] at e2;have:x=y:=by simpa using hx
     subst this;obtain rfl:=sj e2;exact .new bz (aQ _) ⟨_,pushCells_keeps r _ _ _ (cw _ rfl),rfl⟩
    |false=>
     rw[hx] at e2;refine .old e2 λhm=>?_;rcases bl.mp hm with h1|h1
     ·cases h1;simp at hx
     ·exact m h1
  ·rw[if_neg hk] at e⊢;cases fM h acc e with
   |new m le cell=>exact .new (bI _ m) le cell
   |old e m=>
    refine .old e λhm=>?_;rcases bl.mp hm with h1|h1
    ·cases h1;simp at hk
    ·exact m h1
theorem KP:∀(names:List (Str×NameKind)) (n:Nat) (acc:List (Str×Addr)) (x:Str),((x,NameKind.cell)∈names\/∃c,acc.lookup x=some c)->∃c,(cellsFrom n names acc).lookup x=some c:=by
 intro names
 induction names with
 |nil=>
  intro n acc x h;rcases h with h|h
  ·cases h
  ·exact h
 |cons p_ r ih=>
  obtain⟨y,k⟩:=p_;intro n acc x h;unfold cellsFrom;by_cases hk:(k==NameKind.cell)=true
  ·rw[if_pos hk];refine ih _ _ x ?_;rw[hW];cases hx:x==y with
   |true=>exact .inr ⟨_,rfl⟩
   |false=>
    rcases h with h|h
    ·rcases bl.mp h with h|h
     ·cases h;simp at hx
     ·exact .inl h
    ·exact .inr h
  ·rw[if_neg hk];refine ih _ _ x ?_;rcases h with h|h
   ·rcases bl.mp h with h|h
    ·cases h;simp at hk
    ·exact .inl h
   ·exact .inr h
def Zy(names:List (Str×NameKind))(h:Heap):(cellsFrom h.objs.size names []).Pairwise λx y=>x.2≠y.2:=(cellsFrom_ok names h 0 [] ⟨λO O hm=>(nomatch hm),List.Pairwise.nil⟩ (kU _)).apart
theorem Zx:∀(names:List (Str×NameKind)) (n:Nat) (acc:List (Str×Addr)),cellsFrom n names acc=cellsFrom n names []++acc:=by
 intro names
 induction names with
 |nil=>intro n acc;exact rfl
 |cons p_ r ih=>
  obtain⟨y,k⟩:=p_;intro n acc;unfold cellsFrom;cases k==NameKind.cell with
  |true=>show cellsFrom (n+1) r ((y,n)::acc)=cellsFrom (n+1) r [(y,n)]++acc;rw[ih _ ((y,n)::acc),ih _ [(y,n)],dA];rfl
  |false=>exact ih n acc
noncomputable def Aq(names:List (Str×NameKind))(cells:List (Str×Addr)):List Addr:=names.filterMap λp=>if p.2=.cell then cells.lookup p.1 else none
def HA{cells:List (Str×Addr)}{a:Addr}(h:a∈Aq names cells):∃x,(x,NameKind.cell)∈names/\cells.lookup x=some a:=by
 refine ak (qr.mp h) λp hp e=>?_;obtain⟨x,k⟩:=p
 set_option tactic.hygienic true in split at e
 ·rename_i hk;have hk:k=.cell:=hk;subst hk;exact⟨x,hp,e⟩
 ·exact aT e
def YP(R0:V.h₀.objs.size<=s.heap.objs.size)(er:bP V G J U s.heap)(hφ:∀b,s.heap.objs.size<=b->b∉J.map (·.2))(w:g5 G.K sc nms ts){h:Heap}{cenv:Env}
  (eh:h=pushCells (s.heap.push {cls:=.type "dict",data:=.dict #[]}) sc.names)
  (e1:cenv.scope=relabel sc G.env) (e2:cenv.locals=s.heap.objs.size) (e3:cenv.globals=G.env.globals) (e4:cenv.builtins=G.env.builtins) (e5:cenv.cells=cellsFrom (s.heap.objs.size+1) sc.names (gG G.env.cells sc.names [])):
  bP V ⟨lQ G.K sc.names nms,G.A,cenv,s.heap.objs.size::Aq sc.names cenv.cells⟩ J (iD ts U) h:=by
 have iV:(s.heap.push {cls:=.type "dict",data:=.dict #[]}).objs.size=s.heap.objs.size+1:=nT ..;have Cs:∀a o,s.heap.get? a=some o->(s.heap.push {cls:=.type "dict",data:=.dict #[]}).get? a=some o:=λa o e=>fk _ e;have keep:∀a o,s.heap.get? a=some o->h.get? a=some o:=λa o e=>by rw[eh];exact pushCells_keeps _ _ a o (Cs a o e)
 have ns:h.Ns s.heap.objs.size λO=>none:=by rw[eh];exact(Heap.Ns.new s.heap (.type "dict")).keeps (pushCells_keeps _ _)
 have at_:∀{x c},cenv.cells.lookup x=some c->LN sc.names (s.heap.objs.size+1) (gG G.env.cells sc.names []) h x c:=λ{x c} hl=>by rw[e5,<- iV] at hl;have:=KQ _ _ _ hl;rw[iV,<- eh] at this;exact this
 have cells:=w.cells (K:=G.K) er;have kindOf:∀x,cenv.kindOf x=(sc.names.lookup x).map (wy G.env x):=by intro x;unfold Env.kindOf;rw[e1];exact Qr G.env sc.names x
 have Cm:∀(x:Str) (k1:NameKind),(x,k1)∈sc.names->∀k2,sc.names.lookup x=some k2->k1=k2:=λx k1 hm k2 h2=>jA ((w.look _ hm).symm.trans h2);refine lj (id ns) λoC es ep eC dC rC=>?_;have clo:∀z c,(gG G.env.cells sc.names []).lookup z=some c->(z,NameKind.free)∈sc.names/\G.env.cells.lookup z=some c:=λz c hz=>by
  rcases Y9 G.env.cells sc.names [] z c hz with u|⟨a1,a2⟩
  ·exact aT u
  ·refine ue (cells _ a1 rfl) λcx C7=>?_;rw[C7] at a2⊢;exact⟨a1,congrArg some a2⟩
 have own:∀a∈s.heap.objs.size::Aq sc.names cenv.cells,s.heap.objs.size<=a/\∃o,h.get? a=some o/\oQ o:=λa ha=>by
  rcases bl.mp ha with rfl|ha
  ·exact⟨aQ _,oC,eC,.inl ⟨es,ep,dC⟩⟩
  ·refine ak (HA ha) λx hm hl=>?_;cases at_ hl with
   |old e m=>exact absurd hm m
   |new m le cell=>refine ak cell λo e hd=>?_;clear cell;exact⟨rQ le,o,e,.inr (.inl ⟨_,hd⟩)⟩
 refine(bP.mk (by show cenv.scope.kind=_;rw[e1];exact w.kind) (e3.trans er.ra) (e4.trans er.rA) (λa ha=>(own a ha).2) (λa ha=>aH R0 (own a ha).1) (λa ha=>hφ a (own a ha).1) (by show cenv.locals∈_;rw[e2];exact bz) (λx hx=>?_) ⟨λO=>none,by show h.Ns cenv.locals _;rw[e2];exact ns,jX.mk (λx O hk=>?_) (λx k hx hk dd hd=>?_)⟩ (λx k hx hk=>?_) (λx y c hx hy=>?_) (λx y k hx hy=>T2 w.nodup hx hy) (λx k hx=>?_))
 ·have hx:sc.names.lookup x=some .globalImplicit:=hx;show cenv.kindOf x=_;rw[kindOf,hx];rfl
 ·have hk:sc.names.lookup x=some .local:=hk;show cenv.kindOf x=_;rw[kindOf,hk];rfl
 ·have hk:sc.names.lookup x=some .local:=hk;cases Bq G.K nms sc.names x k hx with
  |own kd a _ b=>exact absurd hd ((DM ts U k).1 (w.Fz (x,k) (jc b)) dd)
  |free a b=>cases Cm x _ a _ hk
 ·have hk:sc.names.lookup x=some .cell\/sc.names.lookup x=some .free:=hk;cases Bq G.K nms sc.names x k hx with
  |own kd a CX b=>
   have hc:sc.names.lookup x=some .cell:=by
    rcases hk with hk|hk
    ·exact hk
    ·have:=Cm x _ a _ hk;subst this;rcases CX with z|z<;>cases z
   have hm:=jc hc;refine ue (KP sc.names (s.heap.objs.size+1) (gG G.env.cells sc.names []) x (.inl hm)) λc oG=>?_;rw[<- e5] at oG;cases at_ oG with
   |old e m=>exact absurd hm m
   |new m le cell=>
    have kd:cenv.kindOf x=some .cell:=by rw[kindOf,hc];rfl
    refine⟨c,none,fQ.mk oG (.inl kd) cell ?_ (hφ c (rQ le)) (aH R0 (rQ le)) (λO=>⟨bI _ (qr.mpr ⟨(x,.cell),hm,?_⟩),kd⟩) (λdd hd=>absurd hd ((DM ts U k).1 (w.Fz (x,k) (jc b)) dd))⟩
    ·show c≠cenv.locals;rw[e2];exact ei le
    ·exact(if_pos rfl).trans oG
  |free a b=>
   refine gc (w.free _ a rfl) λk' h1 h2 h3=>?_;rw[b] at h1;obtain rfl:=sj h1;have hl:sc.names.lookup x=some .free:=w.look _ a;refine cb (er.ny x k b h3) λc ov g=>?_;refine ue (Y6 G.env.cells sc.names [] x (.inl a)) λc0 Wd=>?_;refine ue (KP sc.names (s.heap.objs.size+1) (gG G.env.cells sc.names []) x (.inr ⟨c0,Wd⟩)) λc' xo=>?_;rw[<- e5] at xo;have Wc:c'=c:=by
    cases at_ xo with
    |new m _ _=>cases Cm x _ m _ hl
    |old e m=>have:=(clo x c' e).2;rw[g.look] at this;exact(jA this).symm
   subst Wc;refine ak (id g.cell) λoc ec dc=>?_;refine⟨c',ov,fQ.mk xo ?_ ⟨oc,keep _ _ ec,dc⟩ ?_ g.out g.low (λz=>?_) (λdd hd=>?_)⟩
   ·show cenv.kindOf x=_\/cenv.kindOf x=_;rw[kindOf,hl];unfold wy;by_cases q:(NameKind.free==NameKind.free&&G.env.scope.kind==.function&&G.env.kindOf x==some .cell)=true
    ·exact .inl (congrArg some (if_pos q))
    ·exact .inr (congrArg some (if_neg q))
   ·show _≠cenv.locals;rw[e2];intro z;exact absurd (cZ ec) (by rw[z];exact jz _)
   ·have z:sc.names.lookup x=some .cell:=z;rw[hl] at z;cases z
   ·rw[(DM ts U k).2 h2] at hd;refine ak (g.val dd hd) λv e' r=>?_;exact⟨v,e',(λr=>r.mono (X:=[]) ⟨λa o e O O=>.inl (keep a o e)⟩ (cW.nil _) (Gr.refl ..):∀{v:Value} {d:AV},VR V J s.heap v d->VR V J h v d) r⟩
 ·have hx:cenv.cells.lookup x=some c:=hx;have hy:cenv.cells.lookup y=some c:=hy;have old:∀{z},(gG G.env.cells sc.names []).lookup z=some c->bM s.heap c:=λ{z} hz=>by refine ua (clo z c hz) λa1 a2=>?_;refine gc (w.free _ a1 rfl) λk' h1 h2 h3=>?_;refine cb (er.ny z k' h1 h3) λc2 ov g=>?_;rw[g.look] at a2;obtain rfl:=sj a2;refine ak g.cell λoc ec O=>?_;exact⟨oc,ec⟩
  have fresh:∀{z},s.heap.objs.size+1<=c->(gG G.env.cells sc.names []).lookup z=some c->False:=λle hz=>gB (rQ le) (old hz);cases at_ hx with
  |old ex mx=>
   cases at_ hy with
   |old ey my=>exact er.apart x y c (clo x c ex).2 (clo y c ey).2
   |new my le _=>exact(fresh le ex).elim
  |new mx le _=>
   cases at_ hy with
   |old ey my=>exact(fresh le ey).elim
   |new my _ _=>
    rw[e5,Zx,<- iV] at hx hy;have inl:∀{z},(cellsFrom (s.heap.push {cls:=.type "dict",data:=.dict #[]}).objs.size sc.names []++gG G.env.cells sc.names []).lookup z=some c->(z,c)∈cellsFrom (s.heap.push {cls:=.type "dict",data:=.dict #[]}).objs.size sc.names []:=λ{z} hz=>by
     rw[List.lookup_append] at hz;cases ha:(cellsFrom (s.heap.push {cls:=.type "dict",data:=.dict #[]}).objs.size sc.names []).lookup z with
     |some c'=>rw[ha] at hz;obtain rfl:=sj hz;exact jc ha
     |none=>rw[ha] at hz;exact(fresh le hz).elim
    exact name_of_addr (Zy sc.names (s.heap.push {cls:=.type "dict",data:=.dict #[]})) (inl hx) (inl hy)
 ·cases Bq G.K nms sc.names x k hx with
  |own kd a CX b=>
   rcases CX with rfl|rfl
   ·exact .inl (w.look _ a)
   ·exact .inr (.inl (w.look _ a))
  |free a b=>exact .inr (.inr (w.look _ a))
def aq.but{C:Addr}{s':Shared}(pre:aq V d q G J U H s)(k:eg C s s')(hI:∃m,s.heap.Ns C m)(hn:V.h₀.objs.size<=C)(hφ:C∉J.map (·.2))(hX:C∉G.X)(hF:AE G.A C):aq V d q G J U H s':=by refine gN hI λm o es ep e hd O=>?_;clear hI;exact pre.Lg k ⟨o,e,.inl ⟨es,ep,hd⟩,λv hv=>by rw[hd] at hv;cases hv⟩ (pre.fr.but k.keep hF) hn hφ hX
end
section
variable {V:Cf}{G:Fm}{φ₀ J:Ph}{s₀ s:Shared}{U:aD}{H:Hp}{d:Nat}{q:Bool}{E:Ev}
def j0(V:Cf)(d:Nat)(G:Fm)(J:Ph)(s:Shared)(U:aD)(H':Hp)(k:Nat)(D C:Addr)(s':Shared)(φ':Ph):Prop:=(Nx G.X J φ' s s')/\(aq V d true G φ' U H' s')/\(φ'[k]?=some (D,D))/\(∃m,s'.heap.Ns C m)/\(V.h₀.objs.size<=C)/\(C∉φ'.map (·.2))/\(C∉G.X)/\(¬ bM s.heap C)/\(AE G.A C)
section
variable {b1 b2 b3 b4 b5 b6 b7 b8 b9 gq jS nA}(x:j0 b1 b2 b3 b4 b5 b6 b7 b8 b9 gq jS nA)
def j0.mk:=λm1 m2 m3 m4 m5 m6 m7 m8 m9=>(⟨m1,m2,m3,m4,m5,m6,m7,m8,m9⟩:j0 b1 b2 b3 b4 b5 b6 b7 b8 b9 gq jS nA)
def j0.nx:=x.1
def j0.pre:=x.2.1
def j0.val:=x.2.2.1
def j0.ns:=x.2.2.2.1
def j0.low:=x.2.2.2.2.1
def j0.out:=x.2.2.2.2.2.1
def j0.nX:=x.2.2.2.2.2.2.1
def j0.new:=x.2.2.2.2.2.2.2.1
def j0.Hg:=x.2.2.2.2.2.2.2.2
end
def oO(V:Cf)(K:Cx)(elt tg ifs:C)(sc:Scope):Prop:=(g5 K sc (mM tg elt) (slots tg elt))/\(mG (lQ K sc.names (mM tg elt)) tg=true)/\(wf V elt (lQ K sc.names (mM tg elt))=true)/\(mH V ifs (lQ K sc.names (mM tg elt))=true)
section
variable {b1 b2 b3 b4 b5 b6}(x:oO b1 b2 b3 b4 b5 b6)
def oO.mk:=eM (oO b1 b2 b3 b4 b5 b6) rfl
def oO.r8:=x.1
def oO.Of:=x.2.1
def oO.X2:=x.2.2.1
def oO.Vw:=x.2.2.2
end
def vn(G:Fm)(sc:Scope)(C:Addr):Env:={scope:=relabel sc G.env,locals:=C,globals:=G.env.globals,cells:=cellsFrom (C+1) sc.names (gG G.env.cells sc.names []),qual:=G.env.qual,func:=none,code:=G.env.code,frame:=G.env.frame,builtins:=G.env.builtins}
def cX(G:Fm)(sc:Scope)(C:Addr):List Addr:=C::Aq sc.names (vn G sc C).cells
variable {sc:Scope}
def ZD(h:Heap):∀a∈cX G sc h.objs.size,h.objs.size<=a:=λa ha=>by
 rcases bl.mp ha with rfl|ha
 ·exact aQ _
 ·refine ak (HA ha) λx hm hl=>?_;have iV:(h.push {cls:=.type "dict",data:=.dict #[]}).objs.size=h.objs.size+1:=nT ..;have hl:(cellsFrom (h.objs.size+1) sc.names (gG G.env.cells sc.names [])).lookup x=some a:=hl;rw[<- iV] at hl;cases KQ _ _ _ hl with
  |old e m=>exact absurd hm m
  |new m le cell=>rw[iV] at le;exact rQ le
variable {elt tg ifs:C}
def Kk(ok:dR V)(Sd:vB V E)(pre:aq V d true G J U H s){v:Value}{x:AV}{src:ba}{it':Expr}{pos:Pos}{H':Hp}{ρ':aD}
  (hv:VR V J s.heap v x) (jM:dX x H=some src) (w:oO V G.K elt tg ifs sc)
  (he:E.cp d tg src ifs elt H.length (iD (slots tg elt) U) (H++[.list []])=.ok () ρ' H') {RR:Value->Addr->Result->Shared->Prop} {Ex:Value->Shared->Prop}
  (h:∀D C s' φ',j0 V d G J s U H' H.length D C s' φ'->RR (.ref D) C (.ok .next) s'):
  wpAny (model V.prog V.w) G.A (pyIter v) (λit s₂=>wpAny (model V.prog V.w) G.A (newList []) (λacc s₃=>wpAny (model V.prog V.w) G.A (newFunctionEnv sc G.env.globals (gG G.env.cells sc.names []) [] G.env.qual none .none (some G.env)) (λcenv s₄=>codeAny (model V.prog V.w) G.A (.compStart (.ListComp (aB elt) (⟨aB tg,it',bJ ifs,0⟩::iB (bJ elt)) sc pos) 0 it acc {cenv with scope:=relabel sc G.env}) (RR acc cenv.locals) s₄) Ex s₃) Ex s₂) Ex s:=by
 refine Cu ok pre hv jM λI s1 g1 it1 hI=>?_;have p1:=pre.grow g1;refine wpAny_newList ?_ (by simp);generalize CZ:({s1 with heap:=s1.heap.push {cls:=.type "list",data:=.seq ([]:List Value).toArray}}:Shared)=s2;have g2:av s1 s2:=by rw[<- CZ];exact av.push s1 _ s1.toks
 have Dh:¬ bM s1.heap s1.heap.objs.size:=gB (aQ _);have eD:IsL s2.heap s1.heap.objs.size ([]:List Value).toArray 0:=by rw[<- CZ];exact IsL.new ..
 have WT:s2.heap.objs.size=s1.heap.objs.size+1:=by rw[<- CZ];simp
 generalize Jk:s1.heap.objs.size=D at *;have qb:Gr J (J++[(D,D)]) s1.heap:=Gr.push J (D,D) Dh;have yK:aR V (J++[(D,D)]) (H++[.list []]) s2.heap:=p1.rel.push g2.keep (bL Jk) ⟨_,eD⟩ (g2.at p1.rel) ⟨[],0,lV.mk rfl eD .nil (kU _)⟩;refine YN ?_;generalize IS:({s2 with heap:=pushCells (s2.heap.push {cls:=.type "dict",data:=.dict #[]}) sc.names}:Shared)=s4;have e4:s4.heap=pushCells (s2.heap.push {cls:=.type "dict",data:=.dict #[]}) sc.names:=by rw[<- IS]
 have Ic:∀a o,s2.heap.get? a=some o->s4.heap.get? a=some o:=λa o e=>by rw[e4];exact pushCells_keeps _ _ a o (fk _ e)
 have g4:av s2 s4:=by rw[<- IS] at Ic⊢;exact(av.mk Ic rfl rfl)
 have Wr:=ZD (G:=G) (sc:=sc) s2.heap;have Dj:s1.heap.objs.size<=s2.heap.objs.size:=by rw[WT,Jk];exact jx _
 have Jl:¬ bM s.heap s2.heap.objs.size:=λho=>gB Dj (g1.live _ ho);have hCφ:=yK.fresh (aQ s2.heap.objs.size);have DD:=YP (s:=s2) (cenv:=vn G sc s2.heap.objs.size) yK.base (p1.er.mono (g2.ext [] J) qb) (λb hb=>yK.fresh hb) w.r8 e4 rfl rfl rfl rfl rfl;have hk:(J++[(D,D)])[H.length]?=some (D,D):=by rw[<- pre.rel.len,kT (aQ _)];simp
 have Je:∀a∈cX G sc s2.heap.objs.size,s1.heap.objs.size<=a:=λa ha=>aH Dj (Wr a ha);have DD:bP V ⟨lQ G.K sc.names (mM tg elt),G.A,vn G sc s2.heap.objs.size,cX G sc s2.heap.objs.size⟩ (J++[(D,D)]) (iD (slots tg elt) U) s4.heap:=DD;generalize hCC:s2.heap.objs.size=C at *;have pC:aq V d true ⟨lQ G.K sc.names (mM tg elt),G.A,vn G sc C,cX G sc C⟩ (J++[(D,D)]) (iD (slots tg elt) U) (H++[.list []]) s4:=(aq.mk (yK.grow g4) DD pre.room pre.hd ⟨((p1.fr.mono (g2.ext [] J) qb (λO ha=>nomatch ha)).grow g4).fr⟩)
 have eO:kJ V (J++[(D,D)]) s4.heap I src:=it1.mono hI ((g2.trans g4).ext G.X J) p1.er.fC qb;have sT:lW s ⟨lQ G.K sc.names (mM tg elt),G.A,vn G sc C,cX G sc C⟩ I src:=by
  cases src with
  |zip n=>trivial
  |_=>exact⟨hI.1,λhm=>ak (lG it1.st) λo e O=>absurd (cZ e) (hJ.mpr (Je I hm))⟩
 have key:=Sd.cp (it':=it') (pr:=[]) (sc:=sc) (pos:=pos) (((g1.trans g2).trans g4).nx (cX G sc C) (J++[(D,D)])) sT pC eO hk w.Of w.Vw w.X2;rw[he] at key;have loop:codeAny (model V.prog V.w) G.A (CT.code (Al elt tg ifs it' [] sc pos) (.ref I) (.ref D) (vn G sc C)) (RR (.ref D) C) s4:=by
  refine codeAny_mono (key nofun) λr s' hr=>?_;cases r with
  |error=>exact hr.elim
  |ok f=>
   refine gN hr λb ρ'' H'' φ' e f' aa=>?_;clear hr;subst aa;cases e;have n':=f'.nx;have ne:∀a o,s.heap.get? a=some o->a≠D/\a∉cX G sc C:=λa o e=>⟨λq=>Dh ⟨o,q▸g1.keep a o e⟩,λq=>absurd (cZ (g1.keep a o e)) (hJ.mpr (Je a q))⟩;have ex:∀Y,cG Y J s.heap s'.heap:=λY=>⟨λa o e ha O=>n'.ext.keep a o e (by rw[bR,hM,not_or];exact⟨ha,by simpa using (ne a o e).1⟩) (ne a o e).2⟩
   have Jt:Gr J φ' s.heap:=(Gr.push J (D,D) λho=>Dh (g1.live _ ho)).trans n'.gr λO h=>h;have mC:C∈cX G sc C:=bz;refine ak f'.er.ns λm hm O=>?_;exact h D _ s' φ' (j0.mk (Nx.mk (ex G.X) Jt n'.gens n'.os n'.live) (aq.mk f'.rel (pre.er.mono (ex []) Jt) pre.room pre.hd ⟨f'.fr.fr⟩) (n'.gr.get hk) ⟨m,hm⟩ (f'.er.rT C mC) (f'.er.qw C mC) (AZ p1 Dj) Jl (pre.fr.SQ Jl))
 exact codeAny_compStart_list loop (Gm pC.rel (λn e=>ue (EI (e▸jM)) λk h=>⟨k,(rP (je.mp h).1).trans h⟩) eO loop)
def Gq{C:Addr}{h':Heap}(hs:Heap.SameBut C s.heap h'):eg C s {s with heap:=h'}:=(eg.mk (λb o hb e=>(hs.2 b hb).trans e) rfl rfl)
def EO{it:C}{p:Pos}(h:wf V (.comp elt tg it ifs sc p) G.K=true):wf V it G.K=true/\sy (aB it)=true/\oO V G.K elt tg ifs sc:=by refine yi h λh1 h2 h3 h4 h5 h6=>?_;exact⟨h1,h2,oO.mk (PM h3) h4 h5 h6⟩
variable {nms:List (Str×Nat)}
def g5.Ks{ts:List Nat}(w:g5 G.K sc nms ts)(er:bP V G J U s.heap):closureFor sc G.env=pure (gG G.env.cells sc.names []):=YX (w.cells (K:=G.K) er)
def g5.locs{K:Cx}{ts:List Nat}(w:g5 K sc nms ts):∀x∈sc.names,x.2=.local->sc.names.lookup x.1=some .local:=λx hx hl=>hl▸w.look x hx
def Kl{x:AV}(hs:s9 E d elt tg ifs x U H≠.stuck):∃src ρ' H',dX x H=some src/\E.cp d tg src ifs elt H.length (iD (slots tg elt) U) (H++[.list []])=.ok () ρ' H'/\s9 E d elt tg ifs x U H=.ok (.ref H.length) U H':=by
 unfold s9 at hs⊢;cases jM:dX x H with
 |none=>rw[jM] at hs;exact absurd rfl hs
 |some src=>
  rw[jM] at hs;dsimp only at hs⊢;cases he:E.cp d tg src ifs elt H.length (iD (slots tg elt) U) (H++[.list []]) with
  |exc=>rw[he] at hs;exact absurd rfl hs
  |stuck=>rw[he] at hs;exact absurd rfl hs
  |ok u ρ' H'=>exact⟨src,ρ',H',rfl,he,rfl⟩
def Ka(ok:dR V)(Sd:vB V E)(pre:aq V d q G J U H s){it:C}{p:Pos}(hw:wf V (.comp elt tg it ifs sc p) G.K=true):
  aj V G J s (eval (.ListComp (aB elt) (⟨aB tg,aB it,bJ ifs,0⟩::iB (bJ elt)) sc p) G.env) (vj E d q elt tg it ifs U H) (VR V):=by
 cases q with
 |false=>exact aj.stuck
 |true=>refine yo (EO hw) λh1 h2 w=>?_;rw[eval_ListComp];refine TT.imp (λQ Ex h=>wpAny_comprehension_free (use:=none) rfl (yZ h2) (w.r8.Ks pre.er) w.r8.kind w.r8.locs h) (TT.seq (Nx.refl ..) pre (Sd.e pre h1) λv x ρ1 H1 φ1 s1 n1 m1 p1 r1=>?_);intro hs;refine lj (Kl hs) λsrc ρ' H' e1 e2 e3=>?_;rw[e3];refine Kk ok Sd p1 r1 e1 w e2 λD C s' φ' c=>?_;refine⟨_,c.ns.choose_spec,λh' gD=>?_⟩;have k:=Gq gD;exact⟨_,_,_,φ',rfl,(c.pre.but k c.ns c.low c.out c.nX c.Hg).tw (m1.trans (c.nx.but k c.new)),VR.ref c.val⟩
def PZ(ok:dR V)(ju:vE V)(Sd:vB V E)(pre:aq V d true G J U H s){t it:C}{p yx:Pos}(ht:rU V G.K t=true)(hw:wf V (.comp elt tg it ifs sc p) G.K=true)
  (VI:swapsWithSole [aB t] (.ListComp (aB elt) (⟨aB tg,aB it,bJ ifs,0⟩::iB (bJ elt)) sc p) yx.line G.env=pure true):
  aj V G J s (exec (.Assign [aB t] (.ListComp (aB elt) (⟨aB tg,aB it,bJ ifs,0⟩::iB (bJ elt)) sc p) yx) G.env) (M.bind (vj E d true elt tg it ifs) (λv=>M.bind (vX V.P (E.e d true) true v [t]) λO=>cq .next) U H) (d7 V):=by
 refine yo (EO hw) λh1 h2 w=>?_;have assoc:∀{α β γ:Type} (m:M α) (f:α->M β) (g:β->M γ) (U:aD) (H:Hp),M.bind (M.bind m f) g U H=M.bind m (λx=>M.bind (f x) g) U H:=by intro α β γ m f g U H;unfold M.bind;cases m U H<;>rfl
 show aj V G J s _ (M.bind (M.bind (E.e d true it) (s9 E d elt tg ifs)) _ U H) _;rw[assoc,arm_exec_Assign,VI,arm_evalThenUse_ListComp];refine TT.imp (λQ Ex h=>ag (fA (ag (aA (ag (ag (wpAny_comprehension_free (use:=some λv=>assignAll v ((assignEach [aB t] G.env).map (·.2))) rfl (yZ h2) (w.r8.Ks pre.er) w.r8.kind w.r8.locs h))))))) ?_;refine TT.seq (Nx.refl ..) pre (Sd.e pre h1) λv x ρ1 H1 φ1 s1 n1 m1 p1 r1=>?_;intro hs;refine lj (Kl λz=>hs (vp z)) λsrc ρ' H' e1 e2 e3=>?_;rw[tq e3] at hs⊢;refine Kk ok Sd p1 r1 e1 w e2 λD C s' φ' c=>?_;refine cH ((Fy ok ju Sd.toew [t] c.pre (λt' h=>by rw[fR.mp h];exact ht) (VR.ref c.val)) λz=>hs (vp z)) (λO iP hr=>?_) λex iP hr=>?_
 ·refine gN hr λb ρ2 H2 φ2 e f O=>?_;clear hr;rw[tq e];have n2:=f.nx;refine ue c.ns λm hm=>?_;have pZ:iP.heap.Ns C m:=i9.ns hm λo e=>n2.ext.keep C o e c.out c.nX;refine⟨m,pZ,λh' gD=>aA (aA ?_)⟩;have k:=Gq gD;exact⟨.next,ρ2,H2,φ2,rfl,((f.pre c.pre).but k ⟨m,pZ⟩ c.low (n2.gr.not (cJ hm λo O O e O=>⟨o,e⟩) c.out:C∉φ2.map (·.2)) c.nX c.Hg).tw (m1.trans ((c.nx.trans n2).but k c.new)),rfl⟩
 ·refine gN hr λk ρ2 H2 φ2 e f Rh=>?_;clear hr;rw[Ld e];exact⟨k,ρ2,H2,φ2,rfl,f.up (m1.trans c.nx),Rh.low (m1.trans c.nx).live⟩
end
section
variable {V:Cf}{G:Fm}{φ₀ J:Ph}{s₀ s:Shared}{U:aD}{H:Hp}{d:Nat}{q:Bool}{E:Ev}
variable {v:Value}
def YS(pre:aq V d q G J U H s){x:AV}{l:List AV}(hx:VR V J s.heap v x)(hl:qG H x=some l):
  ∀(Q:List Value->Shared->Prop) (E:Value->Shared->Prop),(∀xs s',av s s'->aO V J s'.heap xs l->Q xs s')->wpAny (model V.prog V.w) G.A (notIterableAtAll v) (λb s₁=>b=false/\wpAny (model V.prog V.w) G.A (collect v) Q E s₁) E s:=by
 intro Q E h;refine pq (NC pre.rel hx hl) λa items n T x=>?_;rw[x.eq];obtain⟨id,sl⟩:∃id,Slot T "__iter__" id:=by
  rcases x.ty with rfl|rfl
  ·exact⟨_,slot_list_iter⟩
  ·exact⟨_,F.slot_tuple_iter⟩
 unfold notIterableAtAll;refine ag (wpAny_specialOf ⟨_,x.at_,rfl⟩ sl.lookup (aA ⟨rfl,?_⟩));exact wpAny_collect_seq a x.ty x.at_ rfl rfl (λh' k=>h _ _ (av.mk k rfl rfl) (x.all.mono (X:=[]) ⟨λa o e O O=>.inl (k a o e)⟩ (cW.nil _) (Gr.refl ..))) (by rw[fb,x.all.length];exact iN x.len)
def FU(pre:aq V d q G J U H s)(n0:Nx G.X φ₀ J s₀ s){x:AV}{α:Type}{g:List Value->α}{R:Ph->Heap->α->List AV->Prop}(hx:VR V J s.heap v x)(hR:∀J h xs l,aO V J h xs l->R J h (g xs) l):
  TT V G φ₀ s₀ (λQ E=>StarOf (model V.prog V.w) G.A E v (λvs s₂=>Q (g vs) s₂) s) (bX (λH=>qG H x) U H) R:=by
 intro hs;unfold bX at hs⊢;dsimp only at hs⊢;cases hl:qG H x with
 |none=>rw[hl] at hs;exact absurd rfl hs
 |some l=>exact YS pre hx hl _ _ λxs s' gr r=>⟨l,U,H,J,rfl,(pre.grow gr).tw (n0.trans (gr.nx G.X J)),hR _ _ _ _ r⟩
variable {pos:Pos}
def OU(Sd:ew V E):∀(m l:List C) {J:Ph} {U:aD} {H:Hp} {s:Shared},aq V d q G J U H s->kF V G.K l m ->
  aj V G J s (spliced (backTo pos (starEach (l.map aB) G.env))) (iX (E.e d q) l U H) (aO V):=by
 intro m
 induction m with
 |nil=>
  intro l J U H s pre w;rcases w.is with rfl|⟨a,p,rfl,h⟩
  ·exact TT.imp (λO O h=>aA h) (TT.now (Nx.refl ..) pre .nil)
  ·show aj V G J s (spliced ((true,do let v <- eval (aB a) G.env;standAt pos;pure v)::[])) (M.bind (E.e d q a) (λv=>bX λH=>qG H v) U H) _;refine TT.imp (λQ Ex h=>ks_spliced h) (TT.seq (Nx.refl ..) pre (Sd.e pre h) λv x ρ1 H1 φ1 s1 n1 m1 p1 r1=>?_);exact TT.imp (λQ Ex h=>cH h (λb s₂ hb=>⟨hb.1,cH hb.2 (λxs s₃ hx=>Calls.spliced_nil (by rw[cE];exact hx)) λO O e=>e⟩) λO O e=>e) (FU (g:=id) p1 m1 r1 λO O O O h=>h)
 |cons c m ih=>
  intro l J U H s pre w;obtain⟨l',rfl,w'⟩:∃l',l=c::l'/\kF V G.K l' m:=by
   have all:∀x∈m,i7 V G.K x/\x.lq=none:=λx hx=>w.all x (bI _ hx);rcases w.is with rfl|⟨a,p,rfl,h⟩
   ·exact⟨m,rfl,kF.mk all (.inl rfl)⟩
   ·exact⟨m++[.star a p],rfl,kF.mk all (.inr ⟨a,p,rfl,h⟩)⟩
  refine ua (w.all c bz) λhc hn=>?_;rw[bQ,vZ hc.plain,JX _ _ hn];refine TT.imp (λO O h=>Calls.spliced_cons h) (TT.seq (Nx.refl ..) pre (Sd.e pre hc.wf) λv x ρ1 H1 φ1 s1 n1 m1 p1 r1=>?_);exact TT.seq m1 p1 (ih l' p1 w') λvs xs ρ2 H2 φ2 s2 n2 m2 p2 r2=>TT.now m2 p2 (.cons (n2.vr p1.er r1) r2)
def qn(V:Cf)(J:Ph)(h:Heap)(a:Args)(xs:List AV):Prop:=(a.kw=[])/\(aO V J h a.pos xs)
section
variable {b1 b2 b3 b4 b5}(x:qn b1 b2 b3 b4 b5)
def qn.mk:=iu (qn b1 b2 b3 b4 b5) rfl
def qn.kw:=x.1
def qn.all:=x.2
end
variable {f:Value}
def Ay(Sd:ew V E)(pre:aq V d q G J U H s){l:C}(h:qx V l G.K=true):
  aj V G J s (evalArgs f true (backTo pos (starEach (bJ l) G.env)) []) (iX (E.e d q) (cs l) U H) (qn V):=by
 refine gf (A2 h) λe m w=>?_;rw[e];generalize cs l=l at w;cases m with
 |cons c m=>
  have key:=OU Sd (pos:=pos) (c::m) l pre w;obtain⟨l',rfl⟩:∃l',l=c::l':=by
   rcases w.is with rfl|⟨a,p,rfl,h⟩
   ·exact⟨_,rfl⟩
   ·exact⟨_,rfl⟩
  refine ua (w.all c bz) λhc hn=>?_;rw[bQ,vZ hc.plain] at key⊢;refine TT.imp (λQ Ex h=>Calls.evalArgs_plain h) (λhs=>cH (key hs) (λvs s' hr=>?_) λO O e=>e);refine gN hr λb ρ' H' φ' e f' r4=>?_;clear hr;exact⟨b,ρ',H',φ',e,f',qn.mk rfl r4⟩
 |nil=>
  rcases w.is with rfl|⟨a,p,rfl,h⟩
  ·exact TT.imp (λO O h=>evalArgs_nil3 h) (TT.now (Nx.refl ..) pre (qn.mk rfl .nil))
  ·show aj V G J s (evalArgs f true [(true,do let v <- eval (aB a) G.env;standAt pos;pure v)] []) (M.bind (E.e d q a) (λv=>bX λH=>qG H v) U H) _;refine TT.imp (λQ Ex h=>ks_lone h) (TT.seq (Nx.refl ..) pre (Sd.e pre h) λv x ρ1 H1 φ1 s1 n1 m1 p1 r1=>?_);exact FU (g:=λvs=>(⟨vs,[]⟩:Args)) p1 m1 r1 λO O O O h=>(qn.mk rfl h)
def xO(Q:Value->Shared->Prop)(Ex:Value->Shared->Prop)(r:Result)(s:Shared):Prop:=match r with
 |.ok (.ret v)=>Q v s
 |.ok _=>False
 |.error e=>Ex e s
def tF(V:Cf)(G:Fm)(J:Ph)(s:Shared)(vf:Value)(vs:List Value)(r:du AV):Prop:=TT V G J s (λQ Ex=>codeAny (model V.prog V.w) G.A (.call vf ⟨vs,[]⟩) (xO Q Ex) s) r (VR V)
variable {vs:List Value}{Q Ex:Value->Shared->Prop}
def Ao{M:Model}{A:Around}(h:codeAny M A (.call f ⟨vs,[]⟩) (xO Q Ex) s):wpAny M A (call f vs) Q Ex s:=wpAny_call (codeAny_mono h λr s' z=>by rcases r with e|(_|_|_|_)<;>first|exact z|exact z.elim)
def tF.tri{vf:Value}{r:du AV}(x:tF V G J s vf vs r):aj V G J s (call vf vs) r (VR V):=λhs=>Ao (x hs)
structure lU(V:Cf)(E:Ev):Prop extends vB V E where
 xF:∀{d G J U H s vf k fd vs xs},aq V d true G J U H s->V.P.gt[k]?=some (.fn fd)->V.gv k=some vf->aO V J s.heap vs xs->tF V G J s vf vs (E.call d (.glob k) xs U H)
 rho:∀{d k fd xs U H v ρ' H'},V.P.gt[k]?=some (.fn fd)->E.call d (.glob k) xs U H=.ok v ρ' H'->ρ'=U
 call:∀{d G J U H s vf fv vs xs},aq V d true G J U H s->VR V J s.heap vf fv->aO V J s.heap vs xs->aj V G J s (call vf vs) (E.call d fv xs U H) (VR V)
variable {env:Env}
def ZA{f':Expr}{es:List Expr}(h:BZ f'=true):eval (.Call f' es [] pos) env=(do callWith pos (<- eval f' env) [] (backTo pos (starEach es env)) []):=by cases f'<;>first|rfl|exact cR h
def xA(ok:Ok V)(R:aR V J H s.heap):V.fr.In s.heap:=ok.WZ.keeps R.keep
def Ee(k:Keeper):Prop:=k=Keeper.frame\/k=Keeper.machine\/k=Keeper.boundFrame
def Ib{M:Model}(ok:Ok V){k:Nat}(h:V.gv k=some v):∀hp:Heap,V.fr.In hp->∃kp,Ee kp/\Looks M hp (keeperOf v) kp:=by
 intro hp X;rcases ok.keeps k v h with⟨id,rfl⟩|⟨T,rfl⟩|hk
 ·exact⟨.machine,.inr (.inl rfl),.now⟩
 ·exact⟨.machine,.inr (.inl rfl),.now⟩
 ·exact keeps_K hk hp X
def DZ{M:Model}{A:Around}{P:Heap->Prop}{first:List Value}{args:List (Bool×Sem Value)} 
  (hk:∀h,P h->∃k,Ee k/\Looks M h (keeperOf f) k)
  (h:wpAny M A (evalArgs f true args []) (λa s₁=>P s₁.heap/\wpAny M A (call f (first++a.pos) a.kw) Q Ex s₁) Ex s):wpAny M A (callWith pos f first args []) Q Ex s:=by
 cases oF:args.any (·.1) with
 |true=>exact ks_call oF hk h
 |false=>exact callWith_of (by rw[oF];rfl) hk h
structure abx(V:Cf)(G:Fm)(J:Ph)(s:Shared)(vf:Value)(P:Heap->Prop):Prop where
 is:∀h,P h->∃k,Ee k/\Looks (model V.prog V.w) h (keeperOf vf) k
 on:∀{d q ρ2 H2 φ2 s2},Nx G.X J φ2 s s2->aq V d q G φ2 ρ2 H2 s2->P s2.heap
def UT(ok:Ok V)(pre:aq V d q G J U H s){vf:Value}{fv:AV}(hx:VR V J s.heap vf fv)(hc:tj fv=true):∃P,abx V G J s vf P:=by
 cases fv with
 |glob k=>exact⟨λh=>V.fr.In h,Ib ok hx,λO p2=>xA ok p2.rel⟩
 |cK m=>refine kY hx λb a dd o aa x=>?_;clear hx;subst aa;refine⟨λh=>h.get? b=some o,λh hb=>⟨.machine,.inr (.inl rfl),(Looks.ld (part:=none) hb).andThen ?_⟩,λn2 p2=>n2.ext.get pre.er.fC x.get x.out (.mk' x.cls (by decide) (by rw[x.data];simp) (by rw[x.data];simp))⟩;obtain⟨c,dct,dt,sl⟩:=o;have e3:=x.cls;have e4:=x.data;dsimp only at e3 e4;subst e3;subst e4;exact .now
 |_=>exact cR hc
def Yl(ok:Ok V)(Sd:lU V E)(pre:aq V d q G J U H s){f args:C}(hf:BZ (aB f)=true)(h1:wf V f G.K=true)(h2:qx V args G.K=true):
  aj V G J s (eval (.Call (aB f) (bJ args) [] pos) G.env) (KS E d q f args U H) (VR V):=by
 rw[ZA hf];refine aj.bind pre (Sd.e pre h1) λvf fv ρ1 H1 φ1 s1 n1 p1 r1=>?_;cases hc:tj fv with
 |false=>exact aj.stuck
 |true=>
  cases q with
  |false=>exact aj.stuck
  |true=>refine ue (UT ok p1 r1 hc) λP kp=>?_;refine TT.imp (λQ Ex h=>DZ (first:=[]) kp.is h) (TT.seq (Nx.refl ..) p1 (Ay Sd.toew p1 h2) λa xs ρ2 H2 φ2 s2 n2 m2 p2 r2=>?_);intro hs;refine⟨kp.on n2 p2,?_⟩;rw[r2.kw];exact TT.last m2 (Sd.call p2 (n2.vr p1.er r1) r2.all) hs
def Lh{o:Expr}{attr:Str}{whole:Sem Value}(h:yS o=true):attributeBase o attr env whole=whole:=by
 cases o with
 |Call f as ks p=>cases f<;>first|rfl|(cases as<;>first|rfl|(cases ks<;>first|rfl|exact cR h))
 |_=>rfl
def Tr{o':Expr}{name:Str}{apos:Pos}{es:List Expr}(h:yS o'=true):eval (.Call (.Attribute o' name apos) es [] pos) env=(do
  let ov <- eval o' env
  standAt apos.atName
  methodCall o' name apos pos env ov es.length (backTo pos (starEach es env)) []):=by
 rw[arm_eval_Call,Lh h];rfl
theorem GZ{pos:Pos}{env:Env}:∀{m:List C},(∀c∈m,i7 V G.K c)->(backTo pos (starEach (m.map aB) env)).all (!·.1)=true/\(backTo pos (starEach (m.map aB) env)).any (·.1)=false:=by
 intro m
 induction m with
 |nil=>intro _;exact⟨rfl,rfl⟩
 |cons c m ih=>intro h;rw[bQ,vZ (h c bz).plain];refine ua (ih λc hc=>h c (bI _ hc)) λa b=>?_;exact⟨by simpa using a,by simpa using b⟩
theorem OO{pos:Pos}{env:Env}{a:C}{p:Pos}:∀{m:List C},(∀c∈m,i7 V G.K c)->(backTo pos (starEach ((m++[C.star a p]).map aB) env)).all (!·.1)=false:=by
 intro m
 induction m with
 |nil=>intro _;exact rfl
 |cons c m ih=>
  intro h;rw[List.cons_append,bQ,vZ (h c bz).plain];have:=ih λc hc=>h c (bI _ hc)
  simpa using this
def Wj{m:List C}{a:C}{p:Pos}:uQ (m++[.star a p])=true:=by unfold uQ;rw[List.any_append];exact rK.mpr (.inr rfl)
def oR(V:Cf)(H:Hp)(ov:AV)(m k nn c:Nat)(cd:CD)(fs:List (Option AV)):Prop:=(ov=.ref nn)/\(H[nn]?=some (.inst c fs))/\(V.P.gt[c]?=some (.cl cd))/\(cd.meths.lookup m=some k)
section
variable {b1 b2 b3 b4 b5 b6 b7 b8 b9}(x:oR b1 b2 b3 b4 b5 b6 b7 b8 b9)
def oR.mk:=eM (oR b1 b2 b3 b4 b5 b6 b7 b8 b9) rfl
def oR.ov:=x.1
def oR.at_:=x.2.1
def oR.cls:=x.2.2.1
def oR.B7:=x.2.2.2
end
def nK(s:Shared)(vo:Value)(mk:MK):Prop:=(s.TypeIs vo (Cd mk))/\(∀a,vo=.ref a->∃o,s.heap.get? a=some o/\o.dict=none)
section
variable {b1 b2 b3}(x:nK b1 b2 b3)
def nK.mk:=iu (nK b1 b2 b3) rfl
def nK.ty:=x.1
def nK.B0:=x.2
end
def DL{c:Nat}{cd:CD}{P:bO}(h:lR P c=some cd):P.gt[c]?=some (.cl cd):=by
 refine ub h λg h1 h2=>?_;rw[bY] at h1;cases g with
 |cl=>obtain rfl:=sj h2;exact h1
 |_=>exact aT h2
noncomputable def Vd(m:MK):Bool:=match m with|.user _=>true|_=>false
def y7{m:MK}(h:Vd m=false)(k:Nat):m≠.user k:=λe=>by rw[e] at h;exact Bool.noConfusion h
def UO(R:aR V J H s.heap){vo:Value}{ov:AV}{m:Nat}{mk:MK}(hv:VR V J s.heap vo ov)(h:nc V.P ov m H=some mk):
  (∃k nn c cd fs,mk=.user k/\oR V H ov m k nn c cd fs)\/((∀k,mk≠.user k)/\nK s vo mk):=by
 cases ov with
 |str l=>obtain rfl:=sj h;refine ak hv λt aa O=>?_;clear hv;subst aa;exact .inr ⟨y7 rfl,nK.mk (typeIs_str _ _ _) nofun⟩
 |ref nn=>
  refine ub h λo h1 h2=>?_;rw[bY] at h1;refine ak (ig hv rfl) λp aa hp=>?_;subst aa;have r:=R.at h1 hp;cases o with
  |inst c fs=>refine ub h2 λcd h3 h2=>?_;refine um h2 λk h4 aa=>?_;subst aa;exact .inl ⟨k,nn,c,cd,fs,rfl,oR.mk rfl h1 (DL h3) h4⟩
  |list l=>obtain rfl:=sj h2;refine cb r λitems n x=>?_;clear r;exact .inr ⟨y7 rfl,nK.mk ⟨_,x.eq▸x.at_,rfl⟩ (λa e=>by cases e;exact⟨_,x.eq▸x.at_,rfl⟩)⟩
  |dict ep l=>obtain rfl:=sj h2;refine ue r λes x=>?_;clear r;exact .inr ⟨y7 rfl,nK.mk ⟨_,x.eq▸x.at_,rfl⟩ (λa e=>by cases e;exact⟨_,x.eq▸x.at_,rfl⟩)⟩
  |set l=>obtain rfl:=sj h2;refine ua r λe x=>?_;clear r;exact .inr ⟨y7 rfl,nK.mk (e▸x.set.typeIs) (e▸x.set.noDict)⟩
  |_=>exact aT h2
 |_=>exact aT h
def Tt(ok:Ok V)(Sd:ew V E)(pre:aq V d q G J U H s){vo:Value}{ov:AV}{m:Nat}{mk:MK}{args:C}{o':Expr}{name:Str}{apos:Pos}(hv:VR V J s.heap vo ov)(kb:nK s vo mk)
  (hn:uk mk m=true->name=y9 m) (h2:qx V args G.K=true) (hl:(apos.endLine==pos.line)=true) (qY:(cs args).length<30):
  aj V G J s (methodCall o' name apos pos G.env vo (bJ args).length (backTo pos (starEach (bJ args) G.env)) []) (zc E d q mk ov m args U H) (VR V):=by
 unfold zc;cases hm:uk mk m with
 |false=>exact aj.stuck
 |true=>
  cases oF:uQ (cs args) with
  |true=>exact aj.stuck
  |false=>
   have mf:=TC hm;have hn:=hn hm;subst hn;refine gf (A2 h2) λe mm w=>?_;have e':cs args=mm:=by
    rcases w.is with e|⟨a,p,e,_⟩
    ·exact e
    ·rw[e,Wj] at oF;cases oF
   have pl:=GZ (V:=V) (G:=G) (pos:=pos) (env:=G.env) (m:=mm) λc hc=>(w.all c hc).1;rw[<- e',<- e] at pl;have xm:methodCallForm (bJ args).length (backTo pos (starEach (bJ args) G.env)) []=true:=by unfold methodCallForm;rw[pl.1,e,aC];simp;exact qY
   unfold methodCall;rw[xm];refine TT.imp (λQ Ex h=>ag (cI (getMethod_builtin kb.ty mf.plain mf.slot mf.ty kb.B0 (ag (fK (by unfold methodCallPos;simp[hl]:methodCallPos true o' G.env apos pos=pure pos) (Calls.callWith_builtin pl.2 h)))))) (TT.seq (Nx.refl ..) pre (Ay Sd pre h2) λa xs ρ1 H1 φ1 s1 n1 m1 q1 r1=>?_);rw[r1.kw];exact TT.last m1 (Ts q1 ok.todR (n1.vr pre.er hv) r1.all)
end
theorem M4(L:List (Str×Value)):∀(ns:List Str) (vs:List Value),ns.Nodup->ns.length<=vs.length->(∀n∈ns,L.lookup n=(ns.zip vs).lookup n)->ns.filterMap (λn=>(L.lookup n).map (n,·))=ns.zip vs:=by
 intro ns
 induction ns with
 |nil=>intro _ _ _ _;simp
 |cons n ns fM=>
  intro t_ hd h hL;cases t_ with
  |nil=>simp at h
  |cons v vs=>
   rw[hU] at hd;have ih:=fM vs hd.2 (by simpa using h) (λx hx=>by
    rw[hL x (bI _ hx),List.zip_cons_cons,hW];have dN:(x==n)=false:=by
     simp only[beq_eq_false_iff_ne]
     rintro rfl
     exact hd.1 hx
    rw[dN])
   have e1:L.lookup n=some v:=by rw[hL n bz];simp
   rw[List.zip_cons_cons,List.filterMap_cons];rw[e1];show(n,v)::_=_;rw[ih]
def M5(ns:List Str)(vs:List Value)(hd:ns.Nodup)(h:ns.length<=vs.length):ns.filterMap (λn=>((ns.zip vs).lookup n).map (n,·))=ns.zip vs:=M4 _ ns vs hd h λO O=>rfl
theorem M1:∀(ns:List Str) (vs:List Value),ns.length<=vs.length->∀n∈ns,((ns.zip vs).lookup n).isNone=false:=by
 intro ns
 induction ns with
 |nil=>intro _ _ n h;cases h
 |cons m ns ih=>
  intro t_ h n hn;cases t_ with
  |nil=>simp at h
  |cons v vs=>
   rw[List.zip_cons_cons,hW];cases e:n==m with
   |true=>rfl
   |false=>
    rcases bl.mp hn with rfl|hn
    ·simp at e
    ·exact ih vs (by simpa using h) n hn
def sM{M:Model}{Q:α->Shared->Prop}{c:Prop}[Decidable c]{t e:Sem α}(h:¬c)(x:wpAny M A e Q E s):wpAny M A (if c then t else e) Q E s:=by rw[if_neg h];exact x
def W4{β:Type}{M:Model}{Q:β->Shared->Prop}{L:List α}{b:β}{f:α->β->Sem (ForInStep β)}(h:L=[])(x:Q b s):wpAny M A (forIn L b f) Q E s:=by subst h;exact aA x
variable {Q:List (Str×Value)->Shared->Prop}{kd:List (Option Expr)}
def Lc{M:Model}{fd:FuncData}{as:List Arg}{va:Option Arg}{df:List Expr}{vals:List Value}
  (hp:fd.params={posonlyargs:=[],args:=as,vararg:=va,kwonlyargs:=[],kw_defaults:=kd,kwarg:=none,defaults:=df}) (hd:fd.defaults=.none) (hn:(as.map (·.arg)).Nodup) (hl:as.length<=vals.length)
  (VH:va=none->vals.length=as.length)
  (h:match va with
   |none=>Q ((as.map (·.arg)).zip vals) s
   |some a=>(vals.drop as.length).length<=sizeLine/\Q ((as.map (·.arg)).zip vals++[(a.arg,.ref s.heap.objs.size)]) {s with heap:=s.heap.push {cls:=.type "tuple",data:=.seq (vals.drop as.length).toArray}}):
  wpAny M A (bindArgs fd ⟨vals,[]⟩) Q E s:=by
 have zI:(as.map (·.arg)).length<=vals.length:=by rw[aC];exact hl
 obtain⟨f1,f2,f3,f4,f5,f6,f7,f8,f9,XB,XA,u0,uZ,Xz,Xy⟩:=fd;dsimp only at hp hd;subst hp hd;have names:(as.map (·.arg)++([]:List Str)).filterMap (λn=>((((as.map (·.arg)).zip vals)).lookup n).map (n,·))=(as.map (·.arg)).zip vals:=by rw[cE];exact M5 _ _ hn zI
 unfold bindArgs;refine ag (aA ?_);refine ag (fK (a:=none) rfl ?_);refine sM (show ¬ (decide (vals.length>(as.map (·.arg)).length)&&va.isNone)=true from ?_) ?_
 ·cases va with
  |none=>rw[VH rfl,aC];simp
  |some=>simp
 refine sM (λxo=>?_) ?_
 ·have hc:∀k,(!(List.filter (λn=>(List.lookup n ((as.map (·.arg)).zip vals)).isNone) (List.take k (as.map (·.arg)))).isEmpty)=true->False:=λk hc=>by
   rw[show List.filter (λn=>(List.lookup n ((as.map (·.arg)).zip vals)).isNone) (List.take k (as.map (·.arg)))=[] from by rw[List.filter_eq_nil_iff];intro n dP;rw[M1 _ vals zI n (List.mem_of_mem_take dP)];simp] at hc
   cases hc
  exact hc _ xo
 refine ag (W4 (show List.zip _ (List.drop _ [])=[] by rw[List.drop_nil,List.zip_nil_right]) ?_);refine ag (aA ?_);refine sM kO ?_;cases va with
 |none=>exact aA (show Q ((as.map (·.arg)++([]:List Str)).filterMap (λn=>((((as.map (·.arg)).zip vals)).lookup n).map (n,·))) s by rw[names];exact h)
 |some a=>
  refine ag (kN (aA ?_) ?_)
  ·show Q ((as.map (·.arg)++([]:List Str)).filterMap (λn=>((((as.map (·.arg)).zip vals)).lookup n).map (n,·))++[(a.arg,.ref s.heap.objs.size)]) {s with heap:=s.heap.push {cls:=.type "tuple",data:=.seq (vals.drop (as.map (·.arg)).length).toArray}};rw[names,aC];exact h.2
  ·show(vals.drop (as.map (·.arg)).length).toArray.size<=sizeLine;rw[aC,fb];exact h.1
def ZR{M:Model}{fd:FuncData}{x y:Arg}{df:List Expr}{v dv:Value}{T:Addr}{o:Obj}{k:Nat}
  (hp:fd.params={posonlyargs:=[],args:=[x,y],vararg:=none,kwonlyargs:=[],kw_defaults:=kd,kwarg:=none,defaults:=df}) (hd:fd.defaults=.ref T) (ho:s.heap.get? T=some o) (hs:o.data=.seq #[dv] k) (hn:x.arg≠y.arg)
  (h:Q [(x.arg,v),(y.arg,dv)] s):wpAny M A (bindArgs fd ⟨[v],[]⟩) Q E s:=by
 have dN:(y.arg==x.arg)=false:=by simpa using cP hn
 have e2:(forIn [(y.arg,dv)] [(x.arg,v)] λ(x:Str×Value) (r:List (Str×Value))=>if(List.lookup x.fst r).isNone=true then pure (ForInStep.yield (r++[(x.fst,x.snd)])) else pure (ForInStep.yield r):Sem (List (Str×Value)))=pure [(x.arg,v),(y.arg,dv)]:=by
  rw[List.forIn_cons];have:(List.lookup y.arg [(x.arg,v)]).isNone=true:=by simp[hW,dN]
  simp only[this,if_true,pure_bind];rw[List.forIn_nil]
  rfl
 have e3:List.filterMap (λn=>Option.map (λx=>(n,x)) (List.lookup n [(x.arg,v),(y.arg,dv)])) [x.arg,y.arg]=[(x.arg,v),(y.arg,dv)]:=by simp[List.filterMap_cons,hW,dN]
 obtain⟨f1,f2,f3,f4,f5,f6,f7,f8,f9,XB,XA,u0,uZ,Xz,Xy⟩:=fd;dsimp only at hp hd;subst hp hd;unfold bindArgs;refine ag (aA ?_);refine ag (nQ ho hs ?_);refine sM (λh=>kO h) ?_;refine sM (show ¬ (!(List.filter (λn=>(List.lookup n [(x.arg,v)]).isNone) [x.arg]).isEmpty)=true by simp[List.filter_cons,hW]) ?_;refine ag (fK e2 ?_);refine ag (aA ?_);refine sM kO ?_;exact aA (show Q (List.filterMap (λn=>Option.map (λx=>(n,x)) (List.lookup n [(x.arg,v),(y.arg,dv)])) [x.arg,y.arg]) s by rw[e3];exact h)
noncomputable def sq:Nat->List Str->List (Str×Nat)
 |_,[]=>[]
 |k,x::r=>(x,k)::sq (k+1) r
def rg(names:List (Str×NameKind))(ps:List Str):Cx where
 sc:=sq 0 (ps++(names.filterMap λp=>if(p.2=.local\/p.2=.cell)/\p.1∉ps then some p.1 else none))
 kn:=names
def yW:∀(l:List Str) (k:Nat) {x:Str} {j:Nat},(sq k l).lookup x=some j->k<=j/\l[j-k]?=some x:=by
 intro r
 induction r with
 |nil=>intro _ _ _ h;exact aT h
 |cons y r ih=>
  intro k x j h;rw[show sq k (y::r)=(y,k)::sq (k+1) r from rfl,hW] at h;cases e:x==y with
  |true=>
   rw[e] at h;obtain rfl:=sj h;have:x=y:=by simpa using e
   subst this;exact⟨aQ _,by simp⟩
  |false=>
   rw[e] at h;refine ua (ih (k+1) h) λh1 h2=>?_;refine⟨by exact LR ‹_›,?_⟩;have:j-k=(j-(k+1))+1:=Bf h1;rw[this]
   simpa using h2
def Sy{l:List Str}{k:Nat}{x y:Str}{j:Nat}(h1:(sq k l).lookup x=some j)(h2:(sq k l).lookup y=some j):x=y:=by have a:=(yW l k h1).2;have b:=(yW l k h2).2;rw[a] at b;exact jA b
def ZS(kindOf:Str->Option NameKind):∀(ns:List Str) (vs:List Value) (m:Str->Option Value),ns.Nodup->∀(i:Nat) (x:Str) (v:Value),ns[i]?=some x->vs[i]?=some v->kindOf x=some .local->bindL kindOf (ns.zip vs) m x=some v:=by
 have keep:∀(l:List (Str×Value)) (m:Str->Option Value) (x:Str),x∉l.map (·.1)->bindL kindOf l m x=m x:=by
  intro l
  induction l with
  |nil=>intro m x _;rfl
  |cons p r ih=>
   intro m x hx;rw[bQ,bl,not_or] at hx;unfold bindL;rw[ih _ x hx.2];by_cases q:kindOf p.1=some .local
   ·rw[if_pos q];exact if_neg hx.1
   ·rw[if_neg q]
 intro ns
 induction ns with
 |nil=>intro vs m _ i x v h;simp at h
 |cons y r ih=>
  intro vs m hn i x v h1 h2 hk;cases vs with
  |nil=>simp at h2
  |cons w vs=>
   rw[hU] at hn;rw[List.zip_cons_cons];unfold bindL;cases i with
   |zero=>simp at h1 h2;subst h1;subst h2;rw[keep _ _ y (λhm=>by refine ak (bj.mp hm) λp hp e=>?_;exact hn.1 (e▸(List.of_mem_zip hp).1)),if_pos hk,if_pos rfl]
   |succ i=>simp at h1 h2;exact ih vs _ hn.2 i x v h1 h2 hk
def ZT(kindOf:Str->Option NameKind):∀(ns:List Str) (vs:List Value) (m:Str->Option Value),ns.Nodup->∀(i:Nat) (x:Str) (v:Value),ns[i]?=some x->vs[i]?=some v->kindOf x≠some .local->bindC kindOf (ns.zip vs) m x=some v:=by
 have keep:∀(l:List (Str×Value)) (m:Str->Option Value) (x:Str),x∉l.map (·.1)->bindC kindOf l m x=m x:=by
  intro l
  induction l with
  |nil=>intro m x _;rfl
  |cons p r ih=>
   intro m x hx;rw[bQ,bl,not_or] at hx;unfold bindC;rw[ih _ x hx.2];by_cases q:kindOf p.1=some .local
   ·rw[if_pos q]
   ·rw[if_neg q];exact if_neg hx.1
 intro ns
 induction ns with
 |nil=>intro vs m _ i x v h;simp at h
 |cons y r ih=>
  intro vs m hn i x v h1 h2 hk;cases vs with
  |nil=>simp at h2
  |cons w vs=>
   rw[hU] at hn;rw[List.zip_cons_cons];unfold bindC;cases i with
   |zero=>simp at h1 h2;subst h1;subst h2;rw[keep _ _ y (λhm=>by refine ak (bj.mp hm) λp hp e=>?_;exact hn.1 (e▸(List.of_mem_zip hp).1)),if_neg hk,if_pos rfl]
   |succ i=>simp at h1 h2;exact ih vs _ hn.2 i x v h1 h2 hk
theorem DY:∀(names:List (Str×NameKind)) (k:Nat) (acc:List (Str×Addr)) (x:Str),((x,NameKind.cell)∈names\/(acc.lookup x).isSome=true)->((cellsFrom k names acc).lookup x).isSome=true:=by
 intro names
 induction names with
 |nil=>
  intro _ acc x h;rcases h with h|h
  ·cases h
  ·exact h
 |cons p_ r ih=>
  obtain⟨y,kd⟩:=p_;intro k acc x h;unfold cellsFrom;by_cases hk:kd=.cell
  ·subst hk;rw[if_pos (by simp)];refine ih (k+1) _ x ?_;rw[hW];cases e:x==y with
   |true=>exact .inr rfl
   |false=>
    rcases h with h|h
    ·rcases bl.mp h with h|h
     ·cases h;simp at e
     ·exact .inl h
    ·exact .inr h
  ·rw[if_neg (by simpa using hk)];refine ih k acc x ?_;rcases h with h|h
   ·rcases bl.mp h with h|h
    ·cases h;exact absurd rfl hk
    ·exact .inl h
   ·exact .inr h
section
variable {V:Cf}{G:Fm}{φ₀ J:Ph}{s₀ s:Shared}{U:aD}{H:Hp}{d:Nat}{q:Bool}{E:Ev}
noncomputable def JF(k:NameKind):Bool:=match k with
 |.local=>true
 |.cell=>true
 |.globalImplicit=>true
 |_=>false
def DV(sc:Scope)(ps:List Str):Bool:=
 decide (sc.kind=.function)&&decide ps.Nodup&&sc.names.all (λp=>decide (sc.names.lookup p.1=some p.2)&&JF p.2) &&
 ps.all (λx=>decide (sc.names.lookup x=some .local)||decide (sc.names.lookup x=some .cell))&&!sc.isCoroutine&&!sc.isGenerator
def kL(sc:Scope)(ps:List Str):Prop:=(sc.kind=.function)/\(ps.Nodup)/\(∀p∈sc.names,sc.names.lookup p.1=some p.2)/\(∀p∈sc.names,JF p.2=true)/\(∀x∈ps,sc.names.lookup x=some .local\/sc.names.lookup x=some .cell)/\(sc.isCoroutine=false)/\(sc.isGenerator=false)
section
variable {b1 b2}(x:kL b1 b2)
def kL.mk:=zb (kL b1 b2) rfl
def kL.kind:=x.1
def kL.nodup:=x.2.1
def kL.names:=x.2.2.1
def kL.kinds:=x.2.2.2.1
def kL.ps:=x.2.2.2.2.1
def kL.co:=x.2.2.2.2.2.1
def kL.gen:=x.2.2.2.2.2.2
end
def JE{sc:Scope}{ps:List Str}(h:DV sc ps=true):kL sc ps:=by refine yi h λh1 h2 h3 h4 h5 h6=>?_;rw[fB] at h3 h4;exact(kL.mk (of_decide_eq_true h1) (of_decide_eq_true h2) (λp hp=>of_decide_eq_true (nB (h3 p hp)).1) (λp hp=>(nB (h3 p hp)).2) (λx hx=>(rK.mp (h4 x hx)).imp (λh=>of_decide_eq_true h) λh=>of_decide_eq_true h) (iS h5) (iS h6))
noncomputable def xC(sc:Scope)(env:Env)(K:Cx)(A:Around):Fm:=⟨K,A,env,env.locals::sc.names.filterMap λp=>env.cells.lookup p.1⟩
variable {A:Around}
def JD(R:aR V J H s.heap){sc:Scope}{ps:List Str}(w:kL sc ps){vs:List Value}{ds:List AV}(hv:aO V J s.heap vs ds)(hl:ps.length=vs.length){k:Nat}{qual:Str}{a:Addr}{code:Value}{s':Shared}{env:Env} 
  (he:env=newEnv sc s.heap.objs.size mainGlobals (cellsFrom (s.heap.objs.size+1) sc.names []) qual (some a) code none builtinsNs)
  (x:InCallC s env.locals (bindL env.kindOf (ps.zip vs) λO=>none) env.cells (bindC env.kindOf (ps.zip vs) λO=>none) s'):
  bP V (xC sc env (rg sc.names ps) A) J (ds.map some++List.replicate k none) s'.heap/\av s s':=by
 have e2:env.locals=s.heap.objs.size:=by rw[he];rfl
 have e5:env.cells=cellsFrom (s.heap.objs.size+1) sc.names []:=by rw[he];rfl
 have kindOf:∀y,env.kindOf y=sc.names.lookup y:=λy=>by rw[he];rfl
 refine cb x.toInCall.same λhh tk qV=>?_;have g:av s s':=(av.mk x.toInCall.keep (by rw[qV]) (by rw[qV]));have ns:=x.toInCall.ns;have Lu:∀y c,env.cells.lookup y=some c->s.heap.objs.size<c:=λy c h=>e2▸x.above y c (jc h);have base:=R.base;have CF:∀b∈(env.locals::sc.names.filterMap λp=>env.cells.lookup p.1),s.heap.objs.size<=b/\∃o,s'.heap.get? b=some o/\oQ o:=λb hb=>by
  rcases bl.mp hb with rfl|hb
  ·refine lj ns λo es ep e hd O=>?_;clear ns;exact⟨bL e2.symm,o,e,.inl ⟨es,ep,hd⟩⟩
  ·refine ak (qr.mp hb) λp hp hy=>?_;refine ak (x.cell p.1 b hy) λo e hd=>?_;exact⟨bG (Lu p.1 b hy),o,e,.inr (.inl ⟨_,hd⟩)⟩
 have val:∀(y:Str) (j:Nat) (dd:AV),(rg sc.names ps).sc.lookup y=some j->(ds.map some++List.replicate k none)[j]?=some (some dd)->∃v,ps[j]?=some y/\vs[j]?=some v/\VR V J s'.heap v dd:=by
  intro y j dd hy hd;have hj:j<ds.length:=by refine Nat.lt_of_not_le λV4=>?_;rw[kT (by simpa using V4)] at hd;have:=gx hd;rw[List.mem_replicate] at this;exact aT this.2.symm
  rw[rP (by simpa using hj),hZ] at hd;refine um hd λd' C6 e=>?_;obtain rfl:=sj e;refine ak (hv.get C6) λv h1 h2=>?_;have V1:j<ps.length:=by rw[hl,hv.length];exact hj
  have:=(yW _ 0 hy).2;rw[Nat.sub_zero,rP V1] at this;exact⟨v,this,h1,g.vr h2⟩
 refine⟨(bP.mk (by show env.scope.kind=_;rw[he];exact w.kind) (by show env.globals=_;rw[he];rfl) (by show env.builtins=_;rw[he];rfl) (λb hb=>(CF b hb).2) (λb hb=>aH base (CF b hb).1) (λb hb=>R.fresh (CF b hb).1) bz (λy hy=>?_) ⟨_,ns,jX.mk (λy O hk=>?_) (λy j hy hk dd hd=>?_)⟩ (λy j hy hk=>?_) (λy z c hy hz=>name_of_addr x.apart (jc hy) (jc hz)) (λy z j hy hz=>Sy hy hz) (λy j hy=>?_)),g⟩
 ·show env.kindOf y=_;rw[kindOf];exact hy
 ·show env.kindOf y=_;rw[kindOf];exact hk
 ·refine gc (val y j dd hy hd) λv h1 h2 h3=>?_;exact⟨v,ZS _ ps vs _ w.nodup j y v h1 h2 (by rw[kindOf];exact hk),h3⟩
 ·have jq:sc.names.lookup y=some .cell\/sc.names.lookup y=some .free:=hk;have hk:sc.names.lookup y=some .cell:=by
   rcases jq with hk|hk
   ·exact hk
   ·cases w.kinds _ (jc hk)
  refine ue (rO.mp (DY sc.names (s.heap.objs.size+1) [] y (.inl (jc hk)))) λc oG=>?_;rw[<- e5] at oG;have fy:=Lu y c oG;refine⟨c,_,fQ.mk oG (.inl (by show env.kindOf y=_;rw[kindOf];exact hk)) (x.cell y c oG) (by show c≠env.locals;rw[e2];exact ei fy) (R.fresh (bG fy)) (aH base (bG fy)) (λO=>⟨bI _ (qr.mpr ⟨(y,.cell),jc hk,oG⟩),by show env.kindOf y=_;rw[kindOf];exact hk⟩) (λdd hd=>?_)⟩;refine gc (val y j dd hy hd) λv h1 h2 h3=>?_;exact⟨v,ZT _ ps vs _ w.nodup j y v h1 h2 (by rw[kindOf,hk];simp),h3⟩
 ·have:=gx (yW _ 0 hy).2;rcases hM.mp this with h|h
  ·rcases w.ps y h with h|h
   ·exact .inl h
   ·exact .inr (.inl h)
  ·refine ak (qr.mp h) λp hp e=>?_
   set_option tactic.hygienic true in split at e
   ·rename_i hk;obtain rfl:=sj e;have:=w.names p hp;rcases hk.1 with hk|hk
    ·exact .inl (this.trans (by rw[hk]))
    ·exact .inr (.inl (this.trans (by rw[hk])))
   ·exact aT e
def kH(cC:FuncData)(fd:FD)(as:List Arg)(va:Option Arg)(kd:List (Option Expr))(df:List Expr):Prop:=(cC.params={posonlyargs:=[],args:=as,vararg:=va,kwonlyargs:=[],kw_defaults:=kd,kwarg:=none,defaults:=df})/\((as.map (·.arg)++va.toList.map (·.arg)).Nodup)/\(fd.npar=as.length)/\(fd.va=va.isSome)
section
variable {b1 b2 b3 b4 b5 b6}(x:kH b1 b2 b3 b4 b5 b6)
def kH.mk:=eM (kH b1 b2 b3 b4 b5 b6) rfl
def kH.ps:=x.1
def kH.nodup:=x.2.1
def kH.npar:=x.2.2.1
def kH.va:=x.2.2.2
end
def l8(V:Cf)(J:Ph)(s:Shared)(names:List Str)(ρ':aD)(s1:Shared)(vs:List Value)(ds:List AV)(k:Nat):Prop:=(av s s1)/\(aO V J s1.heap vs ds)/\(names.length=vs.length)/\(ρ'=ds.map some++List.replicate k none)
section
variable {b1 b2 b3 b4 b5 b6 b7 b8 b9}(x:l8 b1 b2 b3 b4 b5 b6 b7 b8 b9)
def l8.mk:=eM (l8 b1 b2 b3 b4 b5 b6 b7 b8 b9) rfl
def l8.grow:=x.1
def l8.all:=x.2.1
def l8.len:=x.2.2.1
def l8.rho:=x.2.2.2
end
def ZP(R:aR V J H s.heap){M:Model}{Q:List (Str×Value)->Shared->Prop}{Ex:Value->Shared->Prop}{cC:FuncData}{fd:FD}{as:List Arg}{va:Option Arg}{kd:List (Option Expr)}{df:List Expr}{vals:List Value}{ds:List AV}{ρ':aD}
  (w:kH cC fd as va kd df) (hd:cC.defaults=.none) (h3:fd.dflt=[]) (hv:aO V J s.heap vals ds) (e:nz fd ds=some ρ')
  (h:∀s1 vs vd k,l8 V J s (as.map (·.arg)++va.toList.map (·.arg)) ρ' s1 vs vd k->Q ((as.map (·.arg)++va.toList.map (·.arg)).zip vs) s1):
  wpAny M A (bindArgs cC ⟨vals,[]⟩) Q Ex s:=by
 have hn:=(rR.mp w.nodup).1;have h1:=w.npar;unfold nz at e;rw[w.va,h3] at e;cases va with
 |none=>
  refine ur e λhc e=>?_;obtain rfl:=sj e;rw[cE] at h;have hc:=ck hc;have hlen:vals.length=as.length:=by rw[hv.length,<- h1];exact hc
  exact Lc w.ps hd hn (bL hlen.symm) (λO=>hlen) (by
   have:=h s vals ds (fd.wH-fd.npar) (l8.mk (av.refl _) hv (by simp[hlen]) rfl)
   simpa using this)
 |some a=>
  refine ur e λhc e=>?_;obtain rfl:=sj e;refine us hc λhc zQ=>?_;have hc:=ic hc;have zQ:=ic zQ;have hlen:as.length<=vals.length:=by rw[hv.length,<- h1];exact hc
  refine Lc w.ps hd hn hlen (λz=>nomatch z) ⟨?_,?_⟩
  ·rw[qo,hv.length];exact aH (Nat.sub_le _ _) (iN zQ)
  ·have g:av s {s with heap:=s.heap.push {cls:=.type "tuple",data:=.seq (vals.drop as.length).toArray}}:=av.push s _ s.toks;have nt:VR V J (s.heap.push {cls:=.type "tuple",data:=.seq (vals.drop as.length).toArray}) (.ref s.heap.objs.size) (.tup (ds.drop as.length)):=Hn R g (n:=0) (cw _ rfl) (hv.drop _) (aH (by rw[qo];exact Nat.sub_le ..) zQ)
   have:=h _ (vals.take as.length++[.ref s.heap.objs.size]) (ds.take as.length++[.tup (ds.drop as.length)]) (fd.wH-fd.npar-1)
    (l8.mk g (((g.j9 hv).take _).append (.cons nt .nil)) (by rw[bu,bu,aC,List.length_take,Nat.min_eq_left hlen];rfl) (by rw[h1];simp))
   have ez:(as.map (·.arg)++(some a).toList.map (·.arg)).zip (vals.take as.length++[.ref s.heap.objs.size])=(as.map (·.arg)).zip vals++[(a.arg,.ref s.heap.objs.size)]:=by
    rw[List.zip_append (by rw[aC,List.length_take,Nat.min_eq_left hlen])]
    congr 1
    have:∀(l:List Str) (vs:List Value),l.zip (vs.take l.length)=l.zip vs:=by
     intro l
     induction l with
     |nil=>exact λvs=>rfl
     |cons x r ih=>intro vs;cases vs with
      |nil=>rfl
      |cons v vs=>exact congrArg (List.cons (x,v)) (ih vs)
    have h':=this (as.map (·.arg)) vals;rwa[aC] at h'
   rw[ez] at this;exact this
variable {h:Heap}
def dn.list(F:dn V G J h):∃l,G.A.frames=some l/\fH V l J h:=kZ F.fr λdQ outer L a1 a2 a3 a4=>⟨_,a1,a4⟩
variable {l:List Env}{cenv:Env}
def fH.deeper{L:Addr}{m:Str->Option Value}(F:fH V l J h)(hA:A.frames=some l)(hk:cenv.scope.kind≠.module)(hf:cenv.frame=some L)(hn:h.Ns L m)(h0:V.h₀.get? L=none)(hφ:L∉J.map (·.2)){K:Cx}{X:List Addr}:
  dn V ⟨K,A.deeper cenv,cenv,X⟩ J h:=by
 refine lj (id hn) λo es ep e hd O=>?_;refine⟨cenv,l,L,Around.frames_deeper hA,hf,hf,Heap.FunFrames.cons hk hf hn h0 F.uT,λL' iA=>?_,λL' iA=>?_⟩<;>rw[List.filterMap_cons,hf] at iA
 ·rcases bl.mp iA with rfl|iA
  ·exact hφ
  ·exact F.out L' iA
 ·rcases bl.mp iA with rfl|iA
  ·exact⟨o,e,es,ep,hd⟩
  ·exact F.dct L' iA
def dn.tail{K:Cx}{X:List Addr}(F:dn V ⟨K,A.deeper cenv,cenv,X⟩ J h)(hA:A.frames=some l):fH V l J h:=by
 refine kZ F.fr λdQ outer L a1 a2 a3 a4=>?_;have a1:(A.deeper cenv).frames=_:=a1;rw[Around.frames_deeper hA] at a1;cases a1;have sub:∀L'∈l.filterMap (·.frame),L'∈(cenv::l).filterMap (·.frame):=λL' iA=>by
  cases h:cenv.frame with
  |none=>rw[List.filterMap_cons_none h];exact iA
  |some x=>rw[List.filterMap_cons_some h];exact bI _ iA
 exact(fH.mk a4.uT.2.2 (λL' iA=>a4.out L' (sub L' iA)) (λL' iA=>a4.dct L' (sub L' iA)))
def dn.back{φ':Ph}{h':Heap}(F:dn V G J h)(hA:G.A.frames=some l)(F':fH V l φ' h'):dn V G φ' h':=by refine kZ F.fr λdQ outer L a1 a2 a3 a4=>?_;rw[hA] at a1;obtain rfl:=sj a1;exact⟨dQ,outer,L,hA,a2,a3,F'⟩
def Gy(h:kG A (d+1)):kG (A.deeper cenv) d/\A.depth<recursionLimit:=by
 obtain⟨h1,h2⟩:=h;refine⟨(kG.mk ?_ ?_),by exact Mn ‹_›⟩
 ·show A.depth+1+8*d+8<recursionLimit;exact Em ‹_›
 ·show A.units+3+100*d+100<cLine;exact Ma ‹_›
end
section
variable {V:Cf}{G:Fm}{φ₀ J:Ph}{s₀ s:Shared}{U:aD}{H:Hp}{d:Nat}{q:Bool}{E:Ev}
def dS(V:Cf)(J:Ph)(h₁:Heap)(Y:List Addr)(s s':Shared):Prop:=(cG Y J s.heap s'.heap)/\(∀a∈Y,∃o,s.heap.get? a=some o/\jZ o)/\(∀a∈Y,iG V J h₁ a)/\(∀a o,V.h₀.get? a=some o->s'.heap.get? a=some o)/\(∀p∈J,s'.heap.get? p.2=s.heap.get? p.2)/\(s'.gens=s.gens)/\(s'.os=s.os)/\(∀a,bM s.heap a->bM s'.heap a)
section
variable {b1 b2 b3 b4 b5 b6}(x:dS b1 b2 b3 b4 b5 b6)
def dS.mk:=Hv (dS b1 b2 b3 b4 b5 b6) rfl
def dS.ext:=x.1
def dS.fC:=x.2.1
def dS.new:=x.2.2.1
def dS.UU:=x.2.2.2.1
def dS.same:=x.2.2.2.2.1
def dS.gens:=x.2.2.2.2.2.1
def dS.os:=x.2.2.2.2.2.2.1
def dS.live:=x.2.2.2.2.2.2.2
end
variable {h₁:Heap}{Y:List Addr}{s':Shared}
def dS.EL(x:dS V J h₁ Y s s'):cW Y s.heap:=λa ha=>ak (x.fC a ha) λo e h=>⟨o,e,.inr (.inr (.inr h))⟩
def dS.nf(x:dS V J h₁ Y s s'){a:Addr}{o:Obj}(e:s.heap.get? a=some o)(h:∀vs,o.data≠.fields vs):a∉Y:=λha=>by refine ak (x.fC a ha) λo' e' w=>?_;rw[e] at e';obtain rfl:=sj e';refine ue w.data λvs hv=>?_;exact h vs hv
def dS.rel(x:dS V J h₁ Y s s')(R:aR V J H s.heap):aR V J H s'.heap:=R.mono x.ext x.EL x.UU x.same
def dS.fr(x:dS V J h₁ Y s s')(F:dn V G J s.heap):dn V G J s'.heap:=F.mono x.ext (Gr.refl ..) λa ha o e bN=>cb bN λes n hd=>absurd ha (x.nf e λvs h=>by rw[hd] at h;cases h)
def aq.note(pre:aq V d q G J U H s)(x:dS V J h₁ Y s s')(Wq:∀a∈G.X,a∉Y):aq V d q G J U H s':=
 (aq.mk (x.rel pre.rel) (pre.er.Cr x.ext x.EL (Gr.refl ..) λa o ha e hφ=>x.ext.keep a o e hφ (by
  rcases ha with ha|⟨v,ha⟩
  ·exact Wq a ha
  ·exact x.nf e λvs h=>by rw[ha] at h;cases h)) pre.room pre.hd (x.fr pre.fr))
def Nx.note{X:List Addr}{φ₁:Ph}{iP:Shared}(nx:Nx X J φ₁ s s')(nt:dS V φ₁ s.heap Y s' iP):Nx X J φ₁ s iP:=by refine(Nx.mk ⟨λa o eo u1 u2=>?_⟩ nx.gr (nt.gens.trans nx.gens) (nt.os.trans nx.os) (λa u=>nt.live a (nx.live a u)));exact(nx.ext.keep a o eo u1 u2).trans λo' w=>nt.ext.keep a o' w (nx.gr.not ⟨o,eo⟩ u1) (λhm=>(nt.new a hm).new ⟨o,eo⟩:a∉Y)
variable {Ex:Value->Shared->Prop}{outer:List Env}
def WX{M:Model}{A:Around}{env:Env}{dQ:Env}{L:Addr}{base:Heap}{Q:Value->Shared->Prop}(p0:A.frames=some (dQ::outer))(hl:s.heap.FunFrames base (dQ::outer))(hf:dQ.frame=some L)(he:env.frame=some L)
  (h:∀h',Heap.SlotsOnly ((dQ::outer).filterMap (·.frame)) s.heap h'->Q (.ref L) {s with heap:=h'}):wpAny M A (PySem.frameOf env) Q Ex s:=by
 unfold PySem.frameOf;refine ag (wpAny_frameEnvs p0 ?_);have V9:((dQ::outer).dropWhile λx=>x.frame != env.frame)=dQ::outer:=by simp[List.dropWhile,hf,he]
 rw[V9];unfold frameObject;refine ag (ag (wpAny_readyFrames_fun hl λh₁ uK=>aA ?_));rw[hf];exact aA (h h₁ uK)
variable {vs:Array Value}
def XF{k:Nat}{o:Obj}(hc:o.cls=JV V k)(hd:o.data=.fields vs):jZ o:=by
 refine(jZ.mk ⟨vs,hd⟩ (λT hT=>?_));rw[hc] at hT;cases k with
 |zero=>cases hT;rfl
 |succ k=>cases hT
def qi(l:List Env)(e:Addr)(oe:Obj)(vs:Array Value)(s:Shared)(h':Heap)(T:Addr)(oT:Obj)(ts:Array Value):Prop:=(∀b o,b≠e->s.heap.get? b=some o->h'.get? b=some o\/(b∈l.filterMap (·.frame)/\∃sl,h'.get? b=some {o with slots:=sl}))/\(s.heap.objs.size<=T)/\(h'.get? e=some {oe with data:=.fields (vs.setIfInBounds 1 (.ref T))})/\(nE h' T oT ts)
section
variable {b1 b2 b3 b4 b5 b6 b7 b8 b9}(x:qi b1 b2 b3 b4 b5 b6 b7 b8 b9)
def qi.mk:=eM (qi b1 b2 b3 b4 b5 b6 b7 b8 b9) rfl
def qi.keep:=x.1
def qi.new:=x.2.1
def qi.exc:=x.2.2.1
def qi.tb:=x.2.2.2
end
variable {Q:Unit->Shared->Prop}
def Hc{M:Model}{A:Around}{env:Env}{dQ:Env}{L e:Addr}{base:Heap}{oe:Obj}{head:Value}{Wo:Bool}(p0:A.frames=some (dQ::outer))(hl:s.heap.FunFrames base (dQ::outer))(hf:dQ.frame=some L)(V8:env.frame=some L)
  (he:s.heap.get? e=some oe) (hd:oe.data=.fields vs) (iV:1<vs.size)
  (h:∀h' T oT ts,qi (dQ::outer) e oe vs s h' T oT ts->Q () {s with heap:=h'}):
  wpAny M A (do let a <- PySem.frameOf env;let pl <- entryPlaceOf L Wo;let b <- EntryCells.newEntry head a .none (rawInt L) .none pl;setField (.ref e) 1 b) (λO s'=>wpAny M A (setFlight (.ref e) none) Q Ex s') Ex s:=by
 have V6:e∉(dQ::outer).filterMap (·.frame):=λhm=>by refine N4 (hl.mem hm) λO o ho xh=>?_;rw[he] at ho;injection ho with ho;subst ho;exact xh vs hd
 refine ag (WX p0 hl hf V8 λh₁ uK=>?_);refine ag (wpAny_entryPlaceOf λpl xf=>?_);unfold EntryCells.newEntry newFields;refine ag (kN ?_ (xf.sizeOk5 _ _ _ _ _));have I6:h₁.get? e=some oe:=(uK.2.1 e V6).trans he;generalize zM:([head,.ref L,.none,rawInt L,.none]++(if pl.isEmpty then List.replicate 6 Value.none else pl)).toArray=fs;have Jz:3<fs.size:=by rw[<- zM];simp only[fb,bu,jB,List.length_nil];exact Mj
 generalize CR:({cls:=.type "traceback",dict:=none,data:=.fields fs}:Obj)=tb;have I5:=fk (h:=h₁) tb I6;refine wpAny_setField I5 hd iV ?_;have Jg:h₁.objs.size≠e:=ei (cZ I6);have V5:Obj.mapFields (·.setIfInBounds 1 (Value.ref h₁.objs.size)) oe={oe with data:=.fields (vs.setIfInBounds 1 (.ref h₁.objs.size))}:=by
  obtain⟨c,dct,dt,sl⟩:=oe;dsimp only at hd;subst hd
  rfl
 have I4:((h₁.push tb).update e (Obj.mapFields (·.setIfInBounds 1 (Value.ref h₁.objs.size)))).get? e=some {oe with data:=.fields (vs.setIfInBounds 1 (.ref h₁.objs.size))}:=(jD _ I5 (Obj.isFreed_of_fields (Obj.data_mapFields hd _))).trans (by rw[V5])
 have Jf:((h₁.push tb).update e (Obj.mapFields (·.setIfInBounds 1 (Value.ref h₁.objs.size)))).get? h₁.objs.size=some tb:=(jd _ _ (cP Jg)).trans (cw h₁ (by rw[<- CR];rfl:tb.isFreed=false))
 unfold setFlight;refine ag (jw I4 rfl (x:=.ref h₁.objs.size) (by simp[iV]) ?_);rw[if_pos (show(Value.ref h₁.objs.size != Value.none)=true from by simp)];have C4:tb.data=.fields fs:=by rw[<- CR]
 refine wpAny_setField Jf C4 Jz ?_;refine h _ h₁.objs.size _ _ (qi.mk (λb o We hb=>?_) (bL uK.1.symm) ?_ (nE.mk (jD _ Jf (Obj.isFreed_of_fields (Obj.data_mapFields C4 _))) (Obj.data_mapFields C4 _) ?_ ?_))
 ·refine ue (uK.2.2 b o hb) λsl IP=>?_;have Wf:h₁.objs.size≠b:=ei (cZ IP);have up:∀{o'},h₁.get? b=some o'->(((h₁.push tb).update e (Obj.mapFields (·.setIfInBounds 1 (Value.ref h₁.objs.size)))).update h₁.objs.size (Obj.mapFields (·.setIfInBounds 3 (none.getD Value.none)))).get? b=some o':=λhk=>by rw[jd _ _ Wf,jd _ _ (cP We)];exact fk _ hk
  by_cases Jc:b∈(dQ::outer).filterMap (·.frame)
  ·exact .inr ⟨Jc,sl,up IP⟩
  ·exact .inl (up ((uK.2.1 b Jc).trans hb))
 ·rw[jd _ _ Jg];exact I4
 ·rw[Obj.cls_mapFields,<- CR]
 ·simp[Jz]
def Hb(R:aR V J H s.heap){l:List Env}(F:fH V l J s.heap){h':Heap} 
  (kp:∀b o,b∉Y->s.heap.get? b=some o->h'.get? b=some o\/(b∈l.filterMap (·.frame)/\∃sl,h'.get? b=some {o with slots:=sl}))
  (y1:∀a∈Y,∃o,s.heap.get? a=some o/\jZ o) (y2:∀a∈Y,iG V J h₁ a) (y3:∀a∈Y,bM h' a):dS V J h₁ Y s {s with heap:=h'}:=by
 refine(dS.mk ⟨λa o e O hY=>?_⟩ y1 y2 (λa o e=>?_) (λp hp=>?_) rfl rfl (λa bN=>ue bN λo e=>?_))
 ·rcases kp a o hY e with z|⟨hm,sl,z⟩
  ·exact .inl z
  ·refine ak (F.dct a hm) λo' e' w=>?_;rw[e] at e';obtain rfl:=sj e';exact .inr ⟨w,sl,z⟩
 ·rcases kp a o (λhm=>(y2 a hm).h0 ⟨o,e⟩) (R.keep a o e) with z|⟨hm,_⟩
  ·exact z
  ·rw[(F.uT.mem hm).1] at e;exact aT e
 ·refine ue (R.live p hp) λo e=>?_;rcases kp p.2 o (λhm=>(y2 _ hm).out (mB hp)) e with z|⟨hm,_⟩
  ·exact z.trans e.symm
  ·exact absurd (mB hp) (F.out _ hm)
 ·by_cases hm:a∈Y
  ·exact y3 a hm
  ·rcases kp a o hm e with z|⟨_,sl,z⟩
   ·exact⟨_,z⟩
   ·exact⟨_,z⟩
def qM{e a:Addr}(h:a∈[e]):a=e:=fR.mp h
def SI{M:Model}(R:aR V J H s.heap)(F:dn V G J s.heap)(hl:∀a,bM h₁ a->bM s.heap a){v:Value}{k:Nat}(x:oX V J h₁ s.heap v k) 
  (h:∀Y s',dS V J h₁ Y s s'->oX V J h₁ s'.heap v k->Q () s'):wpAny M G.A (noteFrame v G.env) (λO s'=>wpAny M G.A (setFlight v none) Q Ex s') Ex s:=by
 obtain⟨e,oe,vs,rfl,x⟩:=x;obtain⟨dQ,outer,L,a1,a2,a3,FL⟩:=F.fr;have ex:jZ oe:=XF x.cls x.data;have fresh:∀T,s.heap.objs.size<=T->iG V J h₁ T/\T≠e:=λT hT=>⟨(iG.mk (gB (aH R.base hT)) (R.fresh hT) (λo=>gB hT (hl _ o))),λq=>absurd (cZ x.get) (hJ.mpr (q▸hT))⟩
 unfold noteFrame;simp only[a2];have done:∀{h' T oT ts},1<vs.size->s.heap.objs.size<=T->h'.get? e=some {oe with data:=.fields (vs.setIfInBounds 1 (.ref T))}->nE h' T oT ts->oX V J h₁ h' (.ref e) k:=λ{h' T oT ts} sz k2 k3 tb=>⟨e,_,_,rfl,l7.mk k3 x.cls rfl x.new (.inr ⟨T,oT,ts,by simp[sz],(fresh T k2).2,(fresh T k2).1,tb⟩)⟩
 rcases x.tb with ht|⟨T,oT,ts,b1,b3,bn,b⟩
 ·refine ag (jw x.get x.data ht ?_);rw[if_neg (by decide)];have sz:=(tJ.mp ht).1;refine Hc a1 FL.uT a3 a2 x.get x.data sz λh' T oT ts n=>h [e] _ (Hb R FL (λb o hb=>n.keep b o λq=>hb (fR.mpr q)) (λa ha=>?_) (λa ha=>?_) λa ha=>?_) (done sz n.new n.exc n.tb)
  ·rw[qM ha];exact⟨oe,x.get,ex⟩
  ·rw[qM ha];exact x.new
  ·rw[qM ha];exact⟨_,n.exc⟩
 ·refine ag (jw x.get x.data b1 ?_);rw[if_pos (show(Value.ref T != Value.none)=true from by simp)];refine ag (jw b.get b.data b.zero ?_);rw[if_neg (show ¬ ((Value.none==rawInt L)=true) from by simp[rawInt])];refine ag (wpAny_setField b.get b.data (tJ.mp b.zero).1 ?_);have other:∀b,b≠T->(s.heap.update T (Obj.mapFields (·.setIfInBounds 3 Value.none))).get? b=s.heap.get? b:=λb hb=>jd _ _ (cP hb);have hT:(s.heap.update T (Obj.mapFields (·.setIfInBounds 3 Value.none))).get? T=some (Obj.mapFields (·.setIfInBounds 3 Value.none) oT):=jD _ b.get (Obj.isFreed_of_fields (Obj.data_mapFields b.data _));have SP:∀c o,s.heap.get? c=some o->(∀vs,o.data≠.fields vs)->c≠T:=λc o hb xh q=>by rw[q,b.get] at hb;injection hb with hb;subst hb;exact xh ts b.data
  have rZ:=(tJ.mp b1).1;refine Hc a1 (FL.uT.of_keeps λb o hb xh=>⟨o,(other b (SP b o hb xh)).trans hb,rfl⟩) a3 a2 ((other e (cP b3)).trans x.get) x.data rZ
   λh' T' oT' ts' n=>h [e,T] _ (Hb R FL (λb o hb hg=>?_) (λa ha=>?_) (λa ha=>?_) λa ha=>?_) (done rZ ((Heap.size_update ..:(s.heap.update T (Obj.mapFields (·.setIfInBounds 3 Value.none))).objs.size=s.heap.objs.size)▸n.new) n.exc n.tb)
  ·rw[bl,fR,not_or] at hb;exact n.keep b o hb.1 ((other b hb.2).trans hg)
  ·rcases bl.mp ha with rfl|ha
   ·exact⟨oe,x.get,ex⟩
   ·rw[qM ha];exact⟨oT,b.get,jZ.mk ⟨ts,b.data⟩ (λT hT=>by rw[b.cls] at hT;cases hT;rfl)⟩
  ·rcases bl.mp ha with rfl|ha
   ·exact x.new
   ·rw[qM ha];exact bn
  ·rcases bl.mp ha with rfl|ha
   ·exact⟨_,n.exc⟩
   ·rw[qM ha];rcases n.keep T _ b3 hT with z|⟨_,sl,z⟩
    ·exact⟨_,z⟩
    ·exact⟨_,z⟩
end
section
variable {V:Cf}{G:Fm}{φ₀ J:Ph}{s₀ s:Shared}{U:aD}{H:Hp}{d:Nat}{q:Bool}{E:Ev}
noncomputable def qI(as:List Arg)(va:Option Arg):List Str:=as.map (·.arg)++va.toList.map (·.arg)
inductive Ej(V:Cf)(cC:FuncData)(fd:FD)(as:List Arg)(va:Option Arg):Prop where
 |none (h:cC.defaults=.none) (e:fd.dflt=[])
 |one (x y:Arg) (T:Addr) (oT:Obj) (m:Nat) (h1:as=[x,y]) (h2:va=Option.none) (h3:fd.dflt=[.none]) (h4:cC.defaults=.ref T) (h5:V.h₀.get? T=some oT) (h6:oT.data=.seq #[.none] m)
def gL(V:Cf)(k:Nat)(fd:FD)(a:Addr)(o:Obj)(cC:FuncData)(as:List Arg)(va:Option Arg)(kd:List (Option Expr))(df:List Expr):Prop:=(V.gv k=some (.ref a))/\(V.h₀.get? a=some o)/\(o.data=.func cC)/\(cC.body=.stmts (cT fd.body))/\(V.h₀.CodeRec cC.code cC.qualname)/\(cC.closure=[])/\(cC.globals=mainGlobals)/\(cC.builtins=builtinsNs)/\(cC.params={posonlyargs:=[],args:=as,vararg:=va,kwonlyargs:=[],kw_defaults:=kd,kwarg:=none,defaults:=df})/\(DV cC.scope (qI as va)=true)/\(fd.npar=as.length)/\(fd.va=va.isSome)/\(Ej V cC fd as va)/\(eW V fd.body (rg cC.scope.names (qI as va))=true)
section
variable {b1 b2 b3 b4 b5 b6 b7 b8 b9 gq}(x:gL b1 b2 b3 b4 b5 b6 b7 b8 b9 gq)
def gL.mk:=λm1 m2 m3 m4 m5 m6 m7 m8 m9 kj ki mX pV wO=>(⟨m1,m2,m3,m4,m5,m6,m7,m8,m9,kj,ki,mX,pV,wO⟩:gL b1 b2 b3 b4 b5 b6 b7 b8 b9 gq)
def gL.gv:=x.1
def gL.get:=x.2.1
def gL.data:=x.2.2.1
def gL.body:=x.2.2.2.1
def gL.code:=x.2.2.2.2.1
def gL.Kt:=x.2.2.2.2.2.1
def gL.ra:=x.2.2.2.2.2.2.1
def gL.rA:=x.2.2.2.2.2.2.2.1
def gL.ps:=x.2.2.2.2.2.2.2.2.1
def gL.sc:=x.2.2.2.2.2.2.2.2.2.1
def gL.npar:=x.2.2.2.2.2.2.2.2.2.2.1
def gL.EY:=x.2.2.2.2.2.2.2.2.2.2.2.1
def gL.dflt:=x.2.2.2.2.2.2.2.2.2.2.2.2.1
def gL.wf:=x.2.2.2.2.2.2.2.2.2.2.2.2.2
end
def LK(V:Cf)(k:Nat)(fd:FD):Prop:=∃a o cC as va kd df,gL V k fd a o cC as va kd df
structure AG(V:Cf):Prop extends Ok V where
 lim:V.h₀.NoLimit
 fns:∀k fd,V.P.gt[k]?=some (.fn fd)->LK V k fd
def Lb(R:aR V J H s.heap){M:Model}{A:Around}{Q:List (Str×Value)->Shared->Prop}{Ex:Value->Shared->Prop}{cC:FuncData}{fd:FD}{as:List Arg}{va:Option Arg}{kd:List (Option Expr)}{df:List Expr}{vals:List Value}{ds:List AV}{ρ':aD}
  (w:kH cC fd as va kd df) (Wa:Ej V cC fd as va) (hv:aO V J s.heap vals ds) (e:nz fd ds=some ρ')
  (h:∀s1 vs vd k,l8 V J s (qI as va) ρ' s1 vs vd k->Q ((qI as va).zip vs) s1):
  wpAny M A (bindArgs cC ⟨vals,[]⟩) Q Ex s:=by
 cases Wa with
 |none hd h3=>exact ZP R w hd h3 hv e h
 |one x y T oT m h1 h2 h3 hd hT hs=>
  subst h1;subst h2;unfold nz at e;rw[w.va,h3] at e;obtain⟨hc,e⟩:=yJ e;obtain rfl:=sj e;have hc:=ck hc;rw[w.npar] at hc;cases ds with
  |nil=>cases hc
  |cons a ds=>
   cases ds with
   |cons=>cases hc
   |nil=>
    obtain⟨v,r,rfl,hv,rfl⟩:=hv;refine ZR w.ps hd (R.keep _ _ hT) hs (λq=>?_) ?_
    ·have hn:=w.nodup;rw[bQ,bQ,q] at hn;exact(hU.mp hn).1 (by simp)
    ·exact h s [v,.none] [a,.none] (fd.wH-fd.npar) (l8.mk (av.refl _) (.cons hv (.cons .none .nil)) rfl rfl)
def Nx.drop{Y:List Addr}{φ':Ph}{s1 s2:Shared}(g:av s s1)(nx:Nx Y J φ' s1 s2)(hY:∀a∈Y,¬ bM s.heap a):Nx [] J φ' s s2:=by refine(Nx.mk ⟨λa o e h1 O=>nx.ext.keep a o (g.keep a o e) h1 λhm=>hY a hm ⟨o,e⟩⟩ ?_ (nx.gens.trans g.gens) (nx.os.trans g.os) (λa h=>nx.live a (g.live a h)));refine ak nx.gr.pre λr aa hr=>?_;subst aa;exact⟨r,rfl,λp hp ho=>hr p hp (g.live _ ho)⟩
def Nx.SS{X:List Addr}{φ':Ph}{s':Shared}(nx:Nx [] J φ' s s'):Nx X J φ' s s':=(Nx.mk nx.ext.Hh nx.gr nx.gens nx.os nx.live)
def aq.back{φ':Ph}{s':Shared}{H':Hp}{l:List Env}(pre:aq V d q G J U H s)(nx:Nx [] J φ' s s')(rel:aR V φ' H' s'.heap)(hA:G.A.frames=some l)(F:fH V l φ' s'.heap):dp V G J s φ' U H' s':=(dp.mk nx.SS rel (pre.er.mono nx.ext nx.gr) (pre.fr.back hA F))
def Xg(ok:AG V)(Sd:lU V E)(pre:aq V (d+1) true G J U H s){k:Nat}{fd:FD}{vf:Value}{vs:List Value}{xs:List AV}{ρ':aD}(hk:V.P.gt[k]?=some (.fn fd))(hg:V.gv k=some vf)(hv:aO V J s.heap vs xs)(hb:nz fd xs=some ρ'):
  tF V G J s vf vs (sX U (d0 (E.s d true) (ss fd.body) ρ' H)):=by
 refine NV (ok.fns k fd hk) λa o cC as va kd df f=>?_;rw[f.gv] at hg;obtain rfl:=sj hg;have sc:=JE f.sc;have wb:=f.wf;have rm:=λcenv=>Gy (cenv:=cenv) pre.room;have par:kH cC fd as va kd df:=(kH.mk f.ps sc.nodup f.npar f.EY);have bn:=λ{M:Model} {A:Around} {Q:List (Str×Value)->Shared->Prop} {Ex:Value->Shared->Prop} h=>Lb (M:=M) (A:=A) (Q:=Q) (Ex:=Ex) pre.rel par f.dflt hv hb h;refine ak pre.fr.list λl hA FL=>?_;generalize qI as va=ps at *;intro hs;refine(codeAny_call_function (rm G.env).2 (pre.rel.keep _ _ f.get) f.data sc.co sc.gen f.body (f.code.keeps pre.rel.keep) (bn λs1 A3 Yq j b=>?_));rw[f.Kt,f.ra,f.rA];refine wpAny_newFunctionEnv_cells sc.kind (λx hx=>?_) λcenv he s2 x=>⟨ok.lim.keeps λc o e=>x.toInCall.keep c o (b.grow.keep c o (pre.rel.keep c o e)),codeAny_func ?_⟩
 ·rcases sc.ps x.1 (List.of_mem_zip (show(x.1,x.2)∈ps.zip A3 from hx)).1 with h|h
  ·exact .inl h
  ·exact .inr ⟨h,DY _ _ _ _ (.inl (jc h))⟩
 have R1:=pre.rel.grow b.grow;have eL:cenv.locals=s1.heap.objs.size:=by rw[he];rfl
 have eF:cenv.frame=some cenv.locals:=by rw[he];rfl
 have eK:cenv.scope=cC.scope:=by rw[he];rfl
 refine ua (JD (k:=j) (A:=G.A.deeper cenv) R1 sc b.all b.len he x) λer qb=>?_;have gr:=b.grow.trans qb;have fresh:∀c∈(xC cC.scope cenv (rg cC.scope.names ps) (G.A.deeper cenv)).X,¬ bM s.heap c:=λc hc ho=>by
  have le:s1.heap.objs.size<=c:=by
   rcases bl.mp hc with rfl|hc
   ·exact bL eL.symm
   ·refine ak (qr.mp hc) λp hp e=>?_;have:=x.above p.1 c (jc e);rw[eL] at this;exact bG this
  exact gB le (b.grow.live _ ho)
 have BM:aq V d true (xC cC.scope cenv (rg cC.scope.names ps) (G.A.deeper cenv)) J ρ' H s2:=(aq.mk (R1.grow qb) (b.rho▸er) ((rm cenv).1) pre.hd ((pre.fr.grow gr).list.elim λl' h=>by rw[hA] at h;obtain rfl:=sj h.1;exact h.2.deeper hA (by rw[eK,sc.kind];simp) eF x.toInCall.ns (Heap.get?_none_of_le (er.rT _ er.kq)) (er.qw _ er.kq)))
 have T:=qf Sd.tovA (l:=fd.body) BM wb;unfold sX at hs⊢;cases hr:d0 (E.s d true) (ss fd.body) ρ' H with
 |stuck=>rw[hr] at hs;exact absurd rfl hs
 |ok fl ρ3 H3=>
  rw[hr] at T hs;refine cH (T nofun) (λf s3 h=>?_) λe s3 h=>h.not nofun;refine gN h λb' ρ4 H4 φ3 e a hR=>?_;clear h;cases e;have back:=pre.back (a.nx.drop gr fresh) a.rel hA (a.fr.tail hA);cases fl with
  |ret v=>refine ak hR λw aa r=>?_;clear hR;subst aa;exact⟨v,U,H3,φ3,rfl,back,r⟩
  |next=>subst hR;exact⟨.none,U,H3,φ3,rfl,back,.none⟩
  |_=>exact absurd rfl hs
 |exc=>rw[hr] at hs;exact absurd rfl hs
end
end
section
open PySem.W PyProof.Rows Builtin Builtin.ObjectAttr Builtin.Getset_descriptor
section
variable {V:Cf}{G:Fm}{A:Around}{φ₀ J:Ph}{s₀ s:Shared}{U:aD}{H:Hp}{d:Nat}{q:Bool}{E:Ev}
def l6(V:Cf)(c:Nat)(j:Nat)(x:Str)(p:Addr):Prop:=(findIn V.fr (.ref (V.clsAt c)) x=some (some (.ref p)))/\(slotIn V.fr p (V.clsAt c)=some j)/\(typeIn V.fr (.ref p)=some (.type "member_descriptor"))/\(specialIn V.fr (.ref p) "__get__"=some (some (.builtin "member_descriptor.__get__")))/\(takesIn V.fr (.ref p)=some true)
section
variable {b1 b2 b3 b4 b5}(x:l6 b1 b2 b3 b4 b5)
def l6.mk:=jJ (l6 b1 b2 b3 b4 b5) rfl
def l6.find:=x.1
def l6.slot:=x.2.1
def l6.ty:=x.2.2.1
def l6.get:=x.2.2.2.1
def l6.takes:=x.2.2.2.2
end
def g6(V:Cf)(c:Nat)(cd:CD)(m k:Nat)(x:Str)(f:Addr)(fd:FD):Prop:=(V.P.gt[k]?=some (.fn fd))/\(fnIn V.fr f=true)/\(V.nm[m]?=some x)/\(findIn V.fr (.ref (V.clsAt c)) x=some (some (.ref f)))/\(typeIn V.fr (.ref f)=some (.type "function"))/\(V.gv k=some (.ref f))/\(specialIn V.fr (.ref f) "__get__"=some (some (.builtin "function.__get__")))/\(takesIn V.fr (.ref f)=some false)/\(∀a∈cd.bx,V.nm[a]?≠some x)/\(copiedNames.contains x=false)/\(cd.slots=false)
section
variable {b1 b2 b3 b4 b5 b6 b7 b8}(x:g6 b1 b2 b3 b4 b5 b6 b7 b8)
def g6.mk:=λm1 m2 m3 m4 m5 m6 m7 m8 m9 kj ki=>(⟨m1,m2,m3,m4,m5,m6,m7,m8,m9,kj,ki⟩:g6 b1 b2 b3 b4 b5 b6 b7 b8)
def g6.gt:=x.1
def g6.fn:=x.2.1
def g6.nm:=x.2.2.1
def g6.find:=x.2.2.2.1
def g6.ty:=x.2.2.2.2.1
def g6.gv:=x.2.2.2.2.2.1
def g6.get:=x.2.2.2.2.2.2.1
def g6.takes:=x.2.2.2.2.2.2.2.1
def g6.SM:=x.2.2.2.2.2.2.2.2.1
def g6.S7:=x.2.2.2.2.2.2.2.2.2.1
def g6.G8:=x.2.2.2.2.2.2.2.2.2.2
end
def oV(V:Cf)(c:Nat)(cd:CD)(f:Addr)(fd:FD):Prop:=(V.P.gt[cd.init]?=some (.fn fd))/\(findIn V.fr (.ref (V.clsAt c)) "__init__"=some (some (.ref f)))/\(typeIn V.fr (.ref f)=some (.type "function"))/\(V.gv cd.init=some (.ref f))
section
variable {b1 b2 b3 b4 b5}(x:oV b1 b2 b3 b4 b5)
def oV.mk:=eM (oV b1 b2 b3 b4 b5) rfl
def oV.gt:=x.1
def oV.find:=x.2.1
def oV.ty:=x.2.2.1
def oV.gv:=x.2.2.2
end
def fP(V:Cf)(c:Nat)(cd:CD):Prop:=(V.gv c=some (.ref (V.clsAt c)))/\(makesIn V.fr (V.clsAt c)=true)/\(∃f fd,oV V c cd f fd)/\(findIn V.fr (.ref (V.clsAt c)) "__getattribute__"=some (some (.builtin "object.__getattribute__")))/\(findIn V.fr (.ref (V.clsAt c)) "__getattr__"=some none)/\(findIn V.fr (.ref (V.clsAt c)) "__setattr__"=some (some (.builtin "object.__setattr__")))/\(plainOver V.fr (V.clsAt c)=true)/\(∃k,clsIn V.fr (V.clsAt c)=some k/\k.hasDict=!cd.slots)/\(cd.bx.length<=100)/\(cd.bx.Nodup)/\(∀a∈cd.bx,∀b∈cd.bx,∀x,V.nm[a]?=some x->V.nm[b]?=some x->a=b)/\(∀a∈cd.bx,∃x,V.nm[a]?=some x)/\(cd.slots=false->∀a∈cd.bx,∀x,V.nm[a]?=some x->findIn V.fr (.ref (V.clsAt c)) x=some none)/\(cd.slots=true->∀j a,cd.bx[j]?=some a->∀x,V.nm[a]?=some x->∃p,l6 V c j x p)/\(∀m k,cd.meths.lookup m=some k->∃x f fd,g6 V c cd m k x f fd)
section
variable {b1 b2 b3}(x:fP b1 b2 b3)
def fP.mk:=λm1 m2 m3 m4 m5 m6 m7 m8 m9 kj ki mX pV wO Ce=>(⟨m1,m2,m3,m4,m5,m6,m7,m8,m9,kj,ki,mX,pV,wO,Ce⟩:fP b1 b2 b3)
def fP.WK:=x.1
def fP.makes:=x.2.1
def fP.init:=x.2.2.1
def fP.zL:=x.2.2.2.1
def fP.C1:=x.2.2.2.2.1
def fP.IQ:=x.2.2.2.2.2.1
def fP.over:=x.2.2.2.2.2.2.1
def fP.Cv:=x.2.2.2.2.2.2.2.1
def fP.nv:=x.2.2.2.2.2.2.2.2.1
def fP.B0:=x.2.2.2.2.2.2.2.2.2.1
def fP.inj:=x.2.2.2.2.2.2.2.2.2.2.1
def fP.nms:=x.2.2.2.2.2.2.2.2.2.2.2.1
def fP.JJ:=x.2.2.2.2.2.2.2.2.2.2.2.2.1
def fP.JH:=x.2.2.2.2.2.2.2.2.2.2.2.2.2.1
def fP.B7:=x.2.2.2.2.2.2.2.2.2.2.2.2.2.2
end
structure o4(V:Cf):Prop extends AG V where
 cls:∀c cd,V.P.gt[c]?=some (.cl cd)->fP V c cd
 handed:∀k v,V.gv k=some v->handedIn v=true
variable {h:Heap}
def EW(ok:o4 V){v:Value}{a:AV}(hx:VR V J h v a):handedIn v=true:=by
 cases a with
 |none=>subst hx;rfl
 |bool=>subst hx;rfl
 |int=>refine ue hx λO aa=>?_;clear hx;subst aa;rfl
 |str=>refine ak hx λO aa O=>?_;clear hx;subst aa;rfl
 |cj=>refine dJ hx λO O aa O=>?_;clear hx;subst aa;rfl
 |tup=>refine cJ hx λO O O aa O=>?_;clear hx;subst aa;rfl
 |lst=>refine cJ hx λO O O aa O=>?_;clear hx;subst aa;rfl
 |fq=>refine kY hx λO O O O aa O=>?_;clear hx;subst aa;rfl
 |ref=>refine dJ hx λO O aa O=>?_;clear hx;subst aa;rfl
 |glob k=>exact ok.handed k _ hx
 |cK=>refine kY hx λO O O O aa O=>?_;clear hx;subst aa;rfl
 |vals=>refine cJ hx λO O O aa O=>?_;clear hx;subst aa;rfl
 |zip=>refine ak hx λO aa O=>?_;clear hx;subst aa;rfl
 |lL=>refine ak hx λO aa O=>?_;clear hx;subst aa;rfl
variable {m:Str->Option Value}
def T3{a:Addr}(x:h.Ns1 a m):∃o,h.get? a=some o/\∀y,lookIn y o=some (m y):=by
 refine Fj x λo es ep e hd hk hu hm=>?_;clear x;refine⟨o,e,λy=>?_⟩;have h1:=hm y;unfold lookIn;rw[hd];dsimp only;unfold nsFind findBy at h1;rw[<- Array.find?_toList] at h1;have hr:(es.toList.any (·.refKey))=false:=by rw[List.any_eq_false];intro en he;refine cb (hk en (Array.mem_toList_iff.mp he)) λnn t VY=>?_;simp[DictEntry.refKey,VY]
 cases hf:es.toList.find? (λe=>e.key.isStr y) with
 |some en=>rw[hf] at h1;simp only[Option.map_some] at h1;rw[<- h1]
 |none=>rw[hf] at h1;simp only[Option.map_none] at h1;rw[<- h1];simp[hr]
structure Ei(V:Cf)(J:Ph)(h:Heap)(vo:Value)(nn c:Nat)(fs:List (Option AV))(cd:CD)(p:Addr×Addr)(ox od:Obj):Prop where
 gt:V.P.gt[c]?=some (.cl cd)
 cls:fP V c cd
 len:fs.length=cd.bx.length
 eq:vo=.ref p.1
 ph:J[nn]?=some p
 inst:InstAt h p.1 ox (V.clsAt c) (some od)
 fr:V.fr.In h
 slo:cd.slots=true->∃dx sl,ox={cls:=.ref (V.clsAt c),dict:=some dx,data:=.plain,slots:=sl}/\lY V J h p c fs dx sl
 dct:cd.slots=false->∃m,lZ V J h p c cd.bx fs m/\∀y,lookIn y od=some (m y)
variable {nn c:Nat}{fs:List (Option AV)}{vo:Value}
def CC(ok:o4 V)(R:aR V J H s.heap)(hv:VR V J s.heap vo (.ref nn))(hH:H[nn]?=some (.inst c fs)):∃cd p ox od,Ei V J s.heap vo nn c fs cd p ox od:=by
 refine ak (ig hv rfl) λp aa hp=>?_;subst aa;refine ue (R.at hH hp) λcd r=>?_;have X:=xA ok.toAG.toOk R;cases hs:cd.slots with
 |true=>refine cb (r.slo hs) λdx sl y=>?_;refine ue (R.live _ y.dct) λod ho=>?_;exact⟨cd,p,_,od,r.cls,ok.cls c cd r.cls,r.len,rfl,hp,⟨y.eq▸y.get,rfl,rfl,ho⟩,X,λO=>⟨dx,sl,rfl,y⟩,λh=>by rw[hs] at h;cases h⟩
 |false=>refine ue (r.dct hs) λm y=>?_;refine ak (T3 y.ns) λod ho uM=>?_;exact⟨cd,p,_,od,r.cls,ok.cls c cd r.cls,r.len,rfl,hp,⟨y.get,rfl,rfl,ho⟩,X,λh=>(by rw[hs] at h;cases h),λO=>⟨m,y,uM⟩⟩
def JI(a:Nat):∀l:List Nat,fZ l a=l.idxOf a:=by
 intro l
 induction l with
 |nil=>exact rfl
 |cons x l ih=>
  show(match Nat.beq x a with|true=>0|false=>fZ l a+1)=_;rw[List.idxOf_cons,ih];cases h:Nat.beq x a with
  |true=>rw[show(x==a)=true from by rw[beq_iff_eq];exact ck h];rfl
  |false=>rw[show(x==a)=false from by rw[beq_eq_false_iff_ne];exact Nat.ne_of_beq_eq_false h];rfl
variable {a:Nat}
def CJ{l:List Nat}(h:l.idxOf a<l.length):l[l.idxOf a]?=some a:=by rw[nZ h,List.getElem_idxOf]
def aaO(ok:o4 V)(pre:aq V d q G J U H s){x:Str}{v:AV}{cd:CD}(hv:VR V J s.heap vo (.ref nn))(hH:H[nn]?=some (.inst c fs))(hc:V.P.gt[c]?=some (.cl cd))
  (hx:V.nm[a]?=some x) (hf:fs[cd.bx.idxOf a]?=some (some v)):fG V G J s (getAttr vo x true) v:=by
 intro Q Ex h;refine pq (CC ok pre.rel hv hH) λKR p ox od m=>?_;have:=m.gt;rw[hc] at this;cases this;have C:=m.cls;have hj:=CJ (l:=cd.bx) (a:=a) (by rw[<- m.len];exact(je.mp hf).1);rw[m.eq];refine ak C.Cv λk hk hd=>?_;cases hs:cd.slots with
 |true=>refine dJ (m.slo hs) λdx sl aa y=>?_;subst aa;refine ue (C.JH hs _ a hj x hx) λpp f=>?_;refine ak (y.fld _ v hf) λval g1 g2=>?_;exact get_bind m.fr m.inst C.zL (findObj_data (by rw[hk];rfl) f.find f.get f.takes) C.C1 (wpAny_call (slot_get (s:={s with toks:=s.toks+1}) m.fr m.inst f.slot (by show(sl[_]?).join=_;rw[g1];rfl) (handed_on (EW ok g2) (h val _ (av.toks s _) g2))))
 |false=>
  refine ak (m.dct hs) λmm y uM=>?_;rw[hs] at hd;refine bo (y.fld.some _ a v hj hf) λx' val hy m1 m2=>?_;rw[hx] at hy;obtain rfl:=sj hy;have C2:findObj V.fr (V.clsAt c) (some od) x=some (.value val):=by
   unfold findObj;rw[hk,o5,C.JJ hs a (gx hj) x hx,o5];dsimp only;rw[o5,o5];dsimp only;unfold W.ownOf;rw[hd];show(lookIn x od).bind _=_;rw[uM,m1]
   rfl
  exact get_value m.fr m.inst C.zL C2 (EW ok m2) (h val _ (av.toks s _) m2)
noncomputable abbrev yA(i:Nat)(v:Value)(o:Obj):Obj:={o with slots:=(o.slots++Array.replicate (i+1-o.slots.size) none).setIfInBounds i (some v)}
variable {ox:Obj}
def Pb{prog:Program}{w:World}{R:Result->Shared->Prop}{fr:Frag}{x C p:Addr}{od:Option Obj}{v:Value}{i:Nat}(XX:fr.In s.heap)(I:InstAt s.heap x ox C od)(hp:slotIn fr p C=some i)(hi:i<1000)
  (h:R (.ok (.ret .none)) {s with heap:=s.heap.update x (yA i v)}):
  codeAny (model prog w) A (.call (.builtin "member_descriptor.__set__") ⟨[.ref p,.ref x,v],[]⟩) R s:=by
 obtain⟨nm,tn,owner,behind,tb,dd,sl,cd,ho,hc,hm,hb,rfl⟩:=slot_of XX hp;obtain⟨hh,g,dr,t,os⟩:=s;have L0:=I.type (M:=model prog w);have L1:=looks_mroIn (M:=model prog w) XX hm;have L2:Looks (model prog w) hh (Slots.slotNamesOf (.ref C)) cd.slotNames:=(looks_clsIn XX hc).andThen .now;have hx:=I.at_;dsimp only at ho hx L0 L1;have f0:=looks_field (M:=model prog w) ho 0 (v:=.str nm tn) rfl;have f1:=looks_field (M:=model prog w) ho 1 (v:=owner) rfl;have f3:=looks_field (M:=model prog w) ho 3 (v:=.builtin "proto.slot#set") rfl;have f4:=looks_field (M:=model prog w) ho 4 (v:=.int behind tb) rfl;have f5:Looks (model prog w) hh (descrItself (.ref p)) [.ref p]:=((Looks.ld (part:=none) ho).andThen .now).andThen (Looks.of_pure (by kernel_rfl));refine codeAny_call_builtin KF.slot_mset.plain KF.entry_mset (KF.slot_mset.check _ _ _ _ _ _ _ _ ⟨_,ho,rfl⟩ (KF.args_mset _ _ _) ?_);unfold Builtin.«member_descriptor.__set__» descrSet descrStoreThrough descrCheckInstance descrNameAndClass isInstance
 repeat lk
 refine⟨Code.quiet_builtin _ (by decide +kernel),mr KF.entry_slotset ?_⟩;unfold Builtin.«proto.slot#set» Slots.target
 repeat lk
 rw[if_neg hb];refine aA (ag ?_);unfold setSlotAt;dsimp only;rw[if_neg (by rw[sizeLine_eq];exact Nat.not_le_of_lt (jb hi (by decide)))];exact wpAny_updatePart hx (aA h)
def Uk{α:Type}[DecidableEq α]:∀(l L:List α),l.Nodup->(∀x∈l,x∈L)->l.length<=L.length:=by
 intro t
 induction t with
 |nil=>intro _ _ _;exact kU _
 |cons x t ih=>intro L hn hs;rw[hU] at hn;have a:=ih (L.erase x) hn.2 λy hy=>(List.mem_erase_of_ne (show y≠x from λq=>hn.1 (q▸hy))).mpr (hs y (bI _ hy));rw[List.length_erase_of_mem (hs x bz)] at a;have:=List.length_pos_of_mem (hs x bz);rw[jB];exact aH (Nat.succ_le_succ a) (bL (Nat.sub_add_cancel this))
noncomputable def u9(en:DictEntry):Str:=match en.key with|.str nn _=>nn|_=>⟨#[]⟩
def SD{a:Addr}(x:h.Ns1 a m){L:List Str}(hL:∀y v,m y=some v->y∈L):∃o es ep,h.get? a=some o/\o.data=.dict es ep/\es.size<=L.length:=by
 refine Fj x λo es ep e hd hk hu hm=>?_;clear x;have hf:∀en∈es.toList,en.key.isStr (u9 en)=true:=λen he=>by refine cb ((λen he=>hk en (Array.mem_toList_iff.mp he):∀en∈es.toList,∃nn t,en.key=.str nn t) en he) λnn t hq=>?_;unfold u9;rw[hq];exact beq_self_eq_true nn
 have nd:(es.toList.map u9).Nodup:=by unfold List.Nodup;rw[List.pairwise_map];refine(List.Pairwise.and_mem.mp hu).imp λ{a b} ⟨ha,hb,r⟩ e=>?_;exact r (u9 a) (hf a ha) (e▸hf b hb)
 have sub:∀y∈es.toList.map u9,y∈L:=λy hy=>by
  refine ak (bj.mp hy) λen he aa=>?_;subst aa;have:(nsFind es (u9 en)).isSome=true:=by unfold nsFind findBy;rw[Option.isSome_map,Array.find?_isSome];exact⟨en,Array.mem_toList_iff.mp he,hf en he⟩
  refine ue (rO.mp this) λv hv=>?_;exact hL _ v ((hm _).symm.trans hv)
 refine⟨o,es,ep,e,hd,?_⟩;have:=Uk _ L nd sub;rwa[aC,kP] at this
variable {p:Addr×Addr}
def Rp(ok:o4 V)(pre:aq V d q G J U H s){vv:Value}{x:Str}{v:AV}{cd:CD}{od:Obj}(m:Ei V J s.heap vo nn c fs cd p ox od)(hw:VR V J s.heap vv v)(hx:V.nm[a]?=some x)(hf:cd.bx.idxOf a<fs.length)(hs:cd.slots=true):
  aj V G J s (setAttr (.ref p.1) x vv) (.ok () U (ai H (.inst c (fs.set (cd.bx.idxOf a) (some v))) nn)) (λO O O O=>True):=by
 have C:=m.cls;refine dJ (m.slo hs) λdx sl aa y=>?_;subst aa;have few:cd.bx.idxOf a<1000:=by have:=C.nv;have:=m.len;exact Mp ‹_› ‹_› ‹_›
 refine ue (C.JH hs _ a (CJ (l:=cd.bx) (a:=a) (m.len▸hf)) x hx) λpp f=>?_;generalize cd.bx.idxOf a=j at *;have ht:takerIn V.fr (V.clsAt c) x=some (some (.ref pp)):=by unfold takerIn;rw[f.find,o5];dsimp only;rw[f.takes];rfl
 have gD:Heap.SameBut p.2 s.heap (s.heap.update p.1 (yA j vv)):=by rw[y.eq];exact⟨Heap.size_update ..,λb hb=>jd _ _ (cP hb)⟩
 have hn:(s.heap.update p.1 (yA j vv)).get? p.2=some (yA j vv {cls:=.ref (V.clsAt c),dict:=some dx,data:=.plain,slots:=sl}):=by rw[y.eq];exact jD _ y.get rfl
 refine aj.put pre m.ph λQ Ex h=>set_plain m.fr m.inst C.IQ (osa_descr (s:={s with toks:=s.toks+1}) KF.slot_mset m.fr m.inst C.over ht f.ty (Pb (s:={s with toks:=s.toks+1}) m.fr m.inst f.slot few ?_));refine h () _ (i8.mk gD rfl rfl) ⟨cd,kK.mk m.gt (by rw[List.length_set];exact m.len) (λO=>⟨dx,_,lY.mk y.eq hn y.dct (λi u hu=>?_)⟩) (λh=>by rw[hs] at h;cases h)⟩ ⟨_,hn⟩ trivial;by_cases kz:j=i
 ·subst kz;rw[rN hf] at hu;cases hu;refine⟨vv,?_,hw.put m.ph gD⟩;rw[Array.getElem?_setIfInBounds_self_of_lt];rw[Array.size_append,Array.size_replicate];exact Nat.sub_le_iff_le_add'.mp (aQ _)
 ·rw[nY kz] at hu;refine ak (y.fld i u hu) λval g1 g2=>?_;refine⟨val,?_,g2.put m.ph gD⟩;rw[Array.getElem?_setIfInBounds_ne kz,Array.getElem?_append_left (tJ.mp g1).1];exact g1
def Ru(ok:o4 V)(pre:aq V d q G J U H s){vv:Value}{x:Str}{v:AV}{cd:CD}{od:Obj}(m:Ei V J s.heap vo nn c fs cd p ox od)(hw:VR V J s.heap vv v)(hx:V.nm[a]?=some x)(hf:cd.bx.idxOf a<fs.length)(hs:cd.slots=false):
  aj V G J s (setAttr (.ref p.1) x vv) (.ok () U (ai H (.inst c (fs.set (cd.bx.idxOf a) (some v))) nn)) (λO O O O=>True):=by
 have C:=m.cls;have hj:=CJ (l:=cd.bx) (a:=a) (m.len▸hf);have hm:=gx hj;refine ak (m.dct hs) λmm y uM=>?_;refine ak C.Cv λk hk hd=>?_;rw[hs] at hd;generalize cd.bx.idxOf a=j at *;refine aj.put pre m.ph λQ Ex h=>set_plain m.fr m.inst C.IQ (osa_open (s:={s with toks:=s.toks+1}) m.fr m.inst C.over (by unfold takerIn;rw[C.JJ hs a hm x hx];rfl:takerIn V.fr (V.clsAt c) x=some none) λb=>?_);have names:∀y' u,(if y'=x then some vv else mm y')=some u->∃b∈cd.bx,V.nm[b]?=some y':=λy' u hu=>by
  by_cases q:y'=x
  ·subst q;exact⟨a,hm,hx⟩
  ·rw[if_neg q] at hu;exact y.fld.name y' u hu
 dsimp only;refine ag (aA (ag (ag (wpAny_loadPart y.get (ag ((looks_clsIn m.fr hk _ _ _ _ (λO O e=>e) ?_)))))));rw[hd];refine aA (a:=some p.2) (ag (aA (ag ?_)));refine wpAny_nsSet1 (s:={s with toks:=s.toks+1}) y.ns λh' dP gD=>?_;obtain⟨o',es,ep,IW,C6,hz⟩:=SD (L:=cd.bx.filterMap λa=>V.nm[a]?) dP λy' u hu=>ak (names y' u hu) λb hb e=>qr.mpr ⟨b,hb,e⟩;have uI:es.size<=100:=aH hz (aH (List.length_filterMap_le ..) C.nv);refine ag (wpAny_lookBehind IW (by rw[C6];exact pastItsLine_dict (by rw[sizeLine_eq];exact ML ‹_›)) ?_);have VD:h'.get? p.1=some (instObj (V.clsAt c) p.2):=(gD.2 p.1 λq=>y.out (q▸mB (gx m.ph))).trans y.get;have vr:∀{u:Value} {w:AV},VR V J s.heap u w->VR V J h' u w:=λr=>r.put m.ph gD;have other:∀{i b:Nat} {y':Str},cd.bx[i]?=some b->j≠i->V.nm[b]?=some y'->y'≠x:=λhb kz hy q=>by subst q;have:=C.inj _ (gx hb) a hm _ hy hx;subst this;exact kz ((List.getElem?_inj (je.mp hj).1 C.B0).mp (hj.trans hb.symm))
 refine aA ?_;refine h () _ (i8.mk gD rfl rfl) ⟨cd,kK.mk m.gt (by rw[List.length_set];exact m.len) (λh=>(by rw[hs] at h;cases h)) (λO=>⟨_,lZ.mk y.out VD dP ⟨names,λi b hb qa=>?_,λi b w hb qa=>?_⟩⟩)⟩ ⟨_,IW⟩ trivial
 ·by_cases kz:j=i
  ·subst kz;rw[rN hf] at qa;cases qa
  ·rw[nY kz] at qa;obtain⟨y',hy,Ti⟩:=y.fld.none i b hb qa;exact⟨y',hy,(if_neg (other hb kz hy)).trans Ti⟩
 ·by_cases kz:j=i
  ·subst kz;rw[hj] at hb;obtain rfl:=sj hb;rw[rN hf] at qa;cases qa;exact⟨x,vv,hx,if_pos rfl,vr hw⟩
  ·rw[nY kz] at qa;obtain⟨y',val,hy,m1,m2⟩:=y.fld.some i b w hb qa;exact⟨y',val,hy,(if_neg (other hb kz hy)).trans m1,vr m2⟩
def yz:Slot "list_iterator" "__getattribute__" "object.__getattribute__":=.of (owner:="object") (n:="__getattribute__") (by rw[typeLookup_type,tK];kernel_rfl) (by decide +kernel) (by decide +kernel) (by decide +kernel) (.inl (by decide +kernel)) (by rw[isSubtype_type];kernel_rfl)
def XZ:entryFor table "object.__getattribute__"=some Builtin.«object.__getattribute__»:=entryFor_of_tree (by kernel_rfl)
def aaR(a b:Value):argsOk "object.__getattribute__" ⟨[a,b],[]⟩:=by unfold argsOk;kernel_rfl
def yp:typeOf (.builtin "list_iterator.__next__")=pure (.type "wrapper_descriptor"):=by show builtinType _=_;rw[builtinType_eq_fast];kernel_rfl
def Bm:Slot "wrapper_descriptor" "__get__" "wrapper_descriptor.__get__":=.of (owner:="wrapper_descriptor") (n:="__get__") (by rw[typeLookup_type,tK];kernel_rfl) (by decide +kernel) (by decide +kernel) (by decide +kernel) (by first|exact .inl (by decide +kernel)|exact .inr (by decide +kernel)) (by rw[isSubtype_type];kernel_rfl)
def XY:entryFor table "wrapper_descriptor.__get__"=some Builtin.«wrapper_descriptor.__get__»:=entryFor_of_tree (by kernel_rfl)
def aaQ(a b c:Value):argsOk "wrapper_descriptor.__get__" ⟨[a,b,c],[]⟩:=by unfold argsOk;kernel_rfl
def Nw:typeLookup (.type "wrapper_descriptor") "__set__"=pure none:=by rw[typeLookup_type,tK];kernel_rfl
def Ny:typeLookup (.type "wrapper_descriptor") "__delete__"=pure none:=by rw[typeLookup_type,tK];kernel_rfl
def WR{prog:Program}{w:World}{I:Addr}{vs:Array Value}{sl:Array (Option Value)}{Q:Value->Shared->Prop}{Ex:Value->Shared->Prop}(e:s.heap.get? I=some {cls:=.type "list_iterator",dict:=none,data:=.fields vs,slots:=sl})
  (h:Q (.ref s.heap.objs.size) {s with heap:=s.heap.push {cls:=.type "method-wrapper",data:=.fields #[.builtin "list_iterator.__next__",.ref I]},toks:=s.toks+1}):
  wpAny (model prog w) A (getAttr (.ref I) "__next__" true) Q Ex s:=by
 have T0:Looks (model prog w) s.heap (typeOf (.ref I)) (.type "list_iterator"):=(Looks.ld e).andThen .now;have G:∀(s':Shared) (Q':Option Value->Shared->Prop) (E':Value->Shared->Prop) (A':Around),Q' (some (.builtin "wrapper_descriptor.__get__")) s'->wpAny (model prog w) A' (specialOf (.builtin "list_iterator.__next__") "__get__") Q' E' s':=λs' Q' E' A' h=>by unfold specialOf;exact ag (fK yp (fK Bm.lookup h))
 refine ag (wpAny_mkText (cI (ag (T0 _ _ _ _ (λO O e=>e) (ag (fK yz.lookup ?_))))));dsimp only;rw[if_neg (by decide)];unfold getAttrByItsOwn;refine ag (aA (ag (wpAny_attempt (cI ?_))));unfold callGetattribute;rw[if_neg (by decide)];unfold boundAndCalled;refine ag (fK (yz.bind _) ?_);show wpAny _ _ (call (.builtin "object.__getattribute__") [.ref I,.str _ s.toks]) _ _ _;refine wpAny_call (codeAny_call_builtin yz.plain XZ (yz.check _ _ _ _ _ _ _ _ ⟨_,e,rfl⟩ (aaR _ _) ?_));refine ag (aA (ag (aA (ag (T0 _ _ _ _ (λO O e=>e) ?_)))));have TS:∀(s':Shared) (Q':Bool->Shared->Prop) (E':Value->Shared->Prop) (A':Around),Q' false s'->wpAny (model prog w) A' (takesStores (.builtin "list_iterator.__next__")) Q' E' s':=λs' Q' E' A' h=>by unfold takesStores specialOf;refine ag (ag (fK yp (fK Nw ?_)));rw[if_neg (by decide)];exact ag (ag (fK yp (fK Ny (aA h))))
 refine ag ?_;unfold Builtin.ObjectAttr.find;refine ag (fK slot_listiter_next.lookup ?_);refine ag (G _ _ _ _ (ag ?_));show wpAny _ _ (do if <- takesStores (.builtin "list_iterator.__next__") then pure (some (Value.builtin "wrapper_descriptor.__get__",Value.builtin "list_iterator.__next__")) else pure none) _ _ _;refine ag (TS _ _ _ _ (aA ?_));unfold ownThenClass inOwnDict ObjectAttr.ownDict instanceDict;dsimp only;refine ag (ag (ag (wpAny_loadPart e ?_)));dsimp only;refine ag (wpAny_loadPart e ?_);dsimp only;rw[if_pos (by decide)];refine aA (aA ?_);dsimp only;unfold copiedAttributeGuard;dsimp only;rw[if_neg (by decide +kernel)];refine ag (aA (ag (wpAny_rule (aA ?_))));dsimp only;unfold bindTo;dsimp only;refine ag (cI (wpAny_call (codeAny_call_builtin Bm.plain XY (Bm.check _ _ _ _ _ _ _ _ ?_ (aaQ _ _ _) ?_))))
 ·exact yp
 obtain⟨hh,g,dr,t,os⟩:=s;unfold Builtin.«wrapper_descriptor.__get__»
 repeat lk
 exact h
def D9(ok:o4 V):vE V where
 get:=λ{d q G J U H s vo ov x a} pre hv hx=>aj.opt pre λv e=>by
  refine ub e λnn h1 e=>?_;refine ub e λo h2 e=>?_;rw[bY] at h2;have zE:VR V J s.heap vo (.ref nn):=by cases ov<;>first|(cases h1;exact hv)|exact aT h1
  cases o with
  |inst c fs=>refine ub e λcd h3 e=>?_;refine ub e λr h4 e=>?_;have e:r=some v:=e;subst e;rw[bY,JI] at h4;exact aaO ok pre zE h2 (DL h3) hx h4
  |iter m i=>refine ur e λh3 e=>?_;obtain rfl:=sj e;cases ck h3;have:=ok.nms 9 (by decide) (by decide);rw[hx] at this;obtain rfl:=sj this;refine ak (ig zE rfl) λp aa hp=>?_;subst aa;refine cb (pre.rel.at h2 hp) λqq sl y=>?_;intro Q Ex h;exact WR (y.eq▸y.get) (h _ _ ((av.push s _ _)) ⟨_,_,_,_,rfl,nI.mk hp (cw _ rfl) rfl rfl (pre.rel.fresh (aQ _))⟩)
  |_=>exact aT e
 set:=λ{d q G J U H s vo ov x a vv v} pre hv hw hx=>aj.yl λH' e=>by
  refine ub e λnn h1 e=>?_;refine ub e λr h2 e=>?_;refine ub e λcd h3 e=>?_;refine ur e λh4 e=>?_;obtain rfl:=sj e;rw[JI] at h4⊢;have h4:=bf.mp h4;refine pq (CC ok pre.rel (by cases ov<;>first|(cases h1;exact hv)|exact aT h1:VR V J s.heap vo (.ref nn)) (Vm h2)) λKR p ox od m=>?_;have:=m.gt;rw[DL h3] at this;cases this;rw[m.eq,mK (some v)];cases hs:cd.slots with
  |true=>exact Rp ok pre m hw hx h4 hs
  |false=>exact Ru ok pre m hw hx h4 hs
end
end
section
open PySem.W PyProof.Rows Builtin
section
variable {V:Cf}{G:Fm}{A:Around}{φ₀ J:Ph}{s₀ s:Shared}{U:aD}{H:Hp}{d:Nat}{q:Bool}{E:Ev}
def ZE(it:Value):checkBoundCall "list_iterator.__next__" ⟨[it],[]⟩=pure ():=by
 unfold checkBoundCall
 kernel_rfl
def Ri{as:Args}:(Code.builtin "list_iterator.__next__" as).quiet=true:=Code.quiet_builtin _ (by decide +kernel)
variable {Q Ex:Value->Shared->Prop}
def G6{b I l:Addr}{i:Nat}{o:Obj}{oi ol:Obj}{items:Array Value}{nl:Nat}{prog:Program}{w:World}(hb:s.heap.get? b=some o)(hc:o.cls=.type "method-wrapper")(hd:o.data=.fields #[.builtin "list_iterator.__next__",.ref I])
  (ho:s.heap.get? I=some oi) (I7:oi.data=.fields #[.ref l,.int i 0]) (CV:s.heap.get? l=some ol) (C5:ol.data=.seq items nl)
  (h:wpAny (model prog w) A.in1 (match items[i]? with
   |some x=>do setField (.ref I) 1 (rawInt ((i:Int)+1));ret x
   |none=>do setField (.ref I) 0 .none;raiseNew (<- newExc (.type "StopIteration") [])) (λfin s'=>match fin with|.done (.ret v)=>Q v s'|_=>False) Ex s):
  wpAny (model prog w) A (call (.ref b) []) Q Ex s:=by
 refine wpAny_call (codeAny_of_tree ?_);show wpAny _ A.in1 (callAny (.ref b) ⟨[],[]⟩) _ _ s;unfold callAny;refine ag (wpAny_load hb ?_);rw[hd,hc];dsimp only;rw[if_pos (by decide)];rw[show(#[Value.builtin "list_iterator.__next__",Value.ref I]:Array Value)[0]?=some (.builtin "list_iterator.__next__") from rfl,show(#[Value.builtin "list_iterator.__next__",Value.ref I]:Array Value)[1]?=some (.ref I) from rfl];dsimp only;rw[if_pos (by decide)];refine ag (fK (ZE _) (aA ⟨Ri,mr entry_listiter_next ?_⟩));rw[pb slot_listiter_next.plain];show wpAny _ _ (field (.ref I) 0>>=_) _ _ s;refine ag (jw ho I7 (x:=.ref l) rfl ?_);show wpAny _ _ (if(Value.ref l==Value.none)=true then _ else _) _ _ s;rw[if_neg (show ¬ ((Value.ref l==Value.none)=true) from kO)];show wpAny _ _ (field (.ref I) 1>>=_) _ _ s;refine ag (jw ho I7 (x:=.int i 0) rfl ?_);show wpAny _ _ (seqItems? (.ref l)>>=_) _ _ s;refine ag (nQ CV C5 ?_);simp only[o6];cases hx:items[i]? with
 |some x=>rw[hx] at h;refine cH h (λfin s' z=>?_) λO O z=>z;rcases fin with(_|_|_|_)|_<;>first|exact z|exact z.elim
 |none=>rw[hx] at h;refine ag (wpAny_rule (cH h (λfin s' z=>?_) λO O z=>z));rcases fin with(_|_|_|_)|_<;>first|exact z|exact z.elim
variable {vf:Value}
def Sx(pre:aq V d true G J U H s){nn m i:Nat}{l:List AV}(hv:VR V J s.heap vf (.cK nn))(hH:H[nn]?=some (.iter m i))(hm:bq H m=some l):
  aj V G J s (call vf []) ((match l[i]? with|some v=>.ok v U (ai H (.iter m (i+1)) nn)|none=>.exc 0 U (ai H .dead nn)):du AV) (VR V):=by
 refine kY hv λb a d' o aa x=>?_;clear hv;subst aa;refine cb (pre.rel.at hH x.ph) λqq sl y=>?_;have eq:a=d':=y.eq;subst eq;refine lp (pre.rel.list hm y.ph) λO items nl z=>?_;have gD:∀f,Heap.SameBut a s.heap (s.heap.update a f):=λf=>kQ ..;cases hl:l[i]? with
 |some v=>refine ak (z.all.get hl) λw hw r=>?_;refine aj.put pre x.ph λQ Ex h=>G6 x.get x.cls x.data y.get rfl z.at_ rfl ?_;rw[show items.toArray[i]?=some w by simpa using hw];refine ag (wpAny_setField y.get rfl (by simp) (aA ?_));have hn:=jD (Obj.mapFields (·.setIfInBounds 1 (rawInt ((i:Int)+1)))) y.get rfl;exact h w _ (i8.mk (gD _) rfl rfl) ⟨qq,sl,oU.mk rfl y.ph (hn.trans rfl)⟩ ⟨_,hn⟩ (r.put x.ph (gD _))
 |none=>
  intro _;have hx:items.toArray[i]?=none:=by
   have:items.length<=i:=by rw[z.all.length];exact qu.mp hl
   simpa using this
  refine G6 x.get x.cls x.data y.get rfl z.at_ rfl ?_;rw[hx];refine ag (wpAny_setField y.get rfl (by simp) ?_);refine ag ?_;simp only[newExc,newTuple];refine ag (kN ?_ (by size_fits));refine ag (m:=firstArgMember _ _) (fK (a:=Value.none) (by first|rfl|(simp only[firstArgMember];rfl)) ?_);refine kN ?_ (by size_fits);simp -iota only[raiseNew];refine ag (wpAny_handled ?_);rw[show G.A.in1.handled=none from pre.hd rfl];refine ag (aA (wpAny_throw ?_));have hn:=jD (Obj.mapFields (·.setIfInBounds 0 Value.none)) y.get rfl;have R1:aR V J (H.set nn .dead) (s.heap.update a (Obj.mapFields (·.setIfInBounds 0 Value.none))):=pre.rel.put x.ph (gD _) trivial ⟨_,hn⟩;have E1:=u3 x.ph (gD (Obj.mapFields (·.setIfInBounds 0 Value.none))) [];have lv:=wo (gD (Obj.mapFields (·.setIfInBounds 0 Value.none))) ⟨_,hn⟩;have sz:(s.heap.update a (Obj.mapFields (·.setIfInBounds 0 Value.none))).objs.size=s.heap.objs.size:=Heap.size_update ..;rw[mK];generalize s.heap.update a (Obj.mapFields (·.setIfInBounds 0 Value.none))=hu at *;generalize hto:({cls:=.type "tuple",dict:=none,data:=.seq ([]:List Value).toArray}:Obj)=to;have g1:av {s with heap:=hu} {s with heap:=hu.push to}:=av.push {s with heap:=hu} _ s.toks;have g2:∀eo,av {s with heap:=hu} {s with heap:=(hu.push to).push eo}:=λeo=>g1.trans (av.push {s with heap:=hu.push to} eo s.toks);have E2:∀eo,cG [] J s.heap ((hu.push to).push eo):=λeo=>E1.trans ((g2 eo).ext [] J) (Gr.refl ..);have le:s.heap.objs.size<=(hu.push to).objs.size:=by rw[nT,sz];exact jx _
  exact⟨0,U,_,J,rfl,(dp.mk (Nx.mk ((E2 _).Hh) (Gr.refl ..) rfl rfl (λa' h=>(g2 _).live a' (lv a' h))) (R1.grow (g2 _)) (pre.er.mono (E2 _) (Gr.refl ..)) (pre.fr.mono (E2 _) (Gr.refl ..) λO ha=>nomatch ha)),
   _,_,_,rfl,l7.mk (cw _ rfl) rfl rfl (iG.mk (gB (aH pre.rel.base le)) (pre.rel.fresh le) (gB le)) (.inl rfl)⟩
def Oj(C:Addr)(rest:List Value):(Code.builtin "type.__call__" ⟨.ref C::rest,[]⟩).weight=1:=by kernel_rfl
def Ol(C:Addr)(rest:List Value):(Code.builtin "type.__call__" ⟨.ref C::rest,[]⟩).cUnits=1:=by kernel_rfl
def Om(C:Addr)(rest:List Value):(Code.builtin "type.__call__" ⟨.ref C::rest,[]⟩).envs=[]:=by kernel_rfl
noncomputable def yq(A:Around)(C:Addr)(rest:List Value):Around:=A.under (.builtin "type.__call__" ⟨.ref C::rest,[]⟩)
def vT(G:Fm)(C:Addr)(rest:List Value):Fm:=⟨G.K,yq G.A C rest,G.env,G.X⟩
def FE(C:Addr)(rest:List Value):(yq A C rest).frames=A.frames:=by show pushEnvs (Code.builtin "type.__call__" ⟨.ref C::rest,[]⟩).envs A.frames=_;rw[Om];rfl
def bP.fm{h:Heap}{A':Around}(R:bP V G J U h):bP V ⟨G.K,A',G.env,G.X⟩ J U h:=(bP.mk R.kind R.ra R.rA R.fC R.rT R.qw R.kq R.zW (ak R.ns λm a b=>⟨m,a,jX.mk b.kind b.val⟩) (λx k h1 h2=>cb (R.ny x k h1 h2) λc ov w=>⟨c,ov,fQ.mk w.look w.kind w.cell w.loc w.out w.low w.own w.val⟩) R.apart R.inj R.yF)
variable {rest:List Value}
def dn.tc{h:Heap}{C:Addr}(F:dn V (vT G C rest) J h):dn V G J h:=by refine cJ F.fr λdQ outer L a1 r=>?_;exact⟨dQ,outer,L,(FE C rest).symm.trans a1,r⟩
def aq.under(pre:aq V (d+1) q G J U H s)(C:Addr)(rest:List Value):aq V d q (vT G C rest) J U H s:=by
 refine(aq.mk pre.rel pre.er.fm (kG.mk ?_ ?_) pre.hd ?_)
 ·show G.A.depth+(Code.builtin "type.__call__" ⟨.ref C::rest,[]⟩).weight+_+_<_;rw[Oj];have:=pre.room.depth;exact Em ‹_›
 ·show G.A.units+(Code.builtin "type.__call__" ⟨.ref C::rest,[]⟩).cUnits+_+_<_;rw[Ol];have:=pre.room.units;exact L9 ‹_›
 ·refine cJ pre.fr.fr λdQ outer L a1 r=>?_;exact⟨dQ,outer,L,(FE C rest).trans a1,r⟩
def dp.tc{C:Addr}{φ':Ph}{ρ':aD}{H':Hp}{s':Shared}(a:dp V (vT G C rest) J s φ' ρ' H' s'):dp V G J s φ' ρ' H' s':=(dp.mk a.nx a.rel (bP.fm (G:=vT G C rest) (A':=G.A) a.er) a.fr.tc)
def aq.push{p:Addr×Addr}{o:AO}{s':Shared}(pre:aq V d q G J U H s)(g:av s s')(h1:s.heap.objs.size<=p.2)(h2:∃o,s'.heap.get? p.2=some o)(ho:OR V (J++[p]) s'.heap p o):aq V d q G (J++[p]) U (H++[o]) s'/\Nx G.X J (J++[p]) s s':=
 have gr:Gr J (J++[p]) s.heap:=Gr.push J p (gB h1)
 ⟨(aq.mk (pre.rel.push g.keep h1 h2 (g.at pre.rel) ho) (pre.er.mono (g.ext [] J) gr) pre.room pre.hd (pre.fr.mono (g.ext [] J) gr λO ha=>nomatch ha)),Nx.mk (g.ext G.X J) gr g.gens g.os g.live⟩
variable {vs:List Value}
def Kr(pre:aq V d true G J U H s){s1:Shared}{φ1:Ph}{C x:Addr}{k:Nat}{r:du AV} 
  (p1:Nx G.X J φ1 s s1) (hx:∃d,φ1[k]?=some (x,d)) (hr:th U k r≠.stuck) (hρ:∀v ρ' H',r=.ok v ρ' H'->ρ'=U) (T:tF V (vT G C rest) φ1 s1 vf vs r):
  codeAny (model V.prog V.w) (yq G.A C rest) (.call vf ⟨vs,[]⟩) (InitBack x (xO (kg V G J s (th U k r) (VR V)) (lM V G J s (th U k r)))) s1:=by
 cases r with
 |stuck=>exact absurd rfl hr
 |exc=>exact absurd rfl hr
 |ok v ρ' H'=>
  cases v with
  |none=>
   have:=hρ _ _ _ rfl;subst this;refine codeAny_mono (T nofun) λrr s' z=>?_
   set_option tactic.hygienic true in rcases rr with e|(_|_|_|_)
   ·exact z.not nofun
   all_goals first|exact z.elim|skip
   rename_i v;obtain⟨b,ρ2,H2,φ2,e,a,hR⟩:=z;cases e;subst hR;obtain⟨dd,hx⟩:=hx;exact⟨rfl,_,_,_,φ2,rfl,a.tc.up p1,VR.ref (a.nx.gr.get hx)⟩
  |_=>exact absurd rfl hr
variable {cd:CD}
def Hm:(cd.bx.map λO=>(none:Option AV)).length=cd.bx.length:=aC ..
def Hl{j:Nat}{v:AV}(h:(cd.bx.map λO=>(none:Option AV))[j]?=some (some v)){p:Prop}:p:=by rw[hZ] at h;refine um h λO O h=>?_;exact aT h
def YW(ok:o4 V)(Sd:lU V E)(pre:aq V d true G J U H s){c:Nat}{xs:List AV}(hc:V.P.gt[c]?=some (.cl cd))(hg:V.gv c=some vf)(hv:aO V J s.heap vs xs):
  aj V G J s (call vf vs) (vm E d c cd xs U H) (VR V):=by
 cases d with
 |zero=>exact aj.stuck
 |succ d=>
 have C:=ok.cls c cd hc;rw[C.WK] at hg;obtain rfl:=sj hg;refine cb C.init λfI fd i=>?_;have XX:=xA ok.toAG.toOk pre.rel;have pu:=pre.under (V.clsAt c) vs;have gd:av s {s with heap:=s.heap.push emptyDict}:=av.push s emptyDict s.toks;have Jy:av {s with heap:=s.heap.push emptyDict} {s with heap:=(s.heap.push emptyDict).push (instObj (V.clsAt c) s.heap.objs.size)}:=av.push {s with heap:=s.heap.push emptyDict} _ s.toks;have rZ:(s.heap.push emptyDict).objs.size=s.heap.objs.size+1:=nT ..;have ed:((s.heap.push emptyDict).push (instObj (V.clsAt c) s.heap.objs.size)).get? s.heap.objs.size=some emptyDict:=fk _ (cw _ rfl);have ex:((s.heap.push emptyDict).push (instObj (V.clsAt c) s.heap.objs.size)).get? (s.heap.objs.size+1)=some (instObj (V.clsAt c) s.heap.objs.size):=by rw[<- rZ];exact cw _ rfl
 have make:∀{Q Ex},codeAny (model V.prog V.w) (yq G.A (V.clsAt c) vs) (.call (.ref fI) ⟨.ref (s.heap.objs.size+1)::vs,[]⟩) (InitBack (s.heap.objs.size+1) (xO Q Ex)) {s with heap:=(s.heap.push emptyDict).push (instObj (V.clsAt c) s.heap.objs.size)} ->
   wpAny (model V.prog V.w) G.A (call (.ref (V.clsAt c)) vs) Q Ex s:=λ{Q Ex} h=>by
  obtain⟨hh,g,dr,t,os⟩:=s;exact Ao (make_core (makes_of XX C.makes) (looks_findIn XX i.find) (λself=>bind_fn XX self i.ty) (.inl rfl) h)
 show aj V G J s _ ((match cd.slots with
  |true=>th U (H.length+1) (E.call d (.glob cd.init) (.ref (H.length+1)::xs) U (H++[.dead,.inst c (cd.bx.map λO=>none)]))
  |false=>th U H.length (E.call d (.glob cd.init) (.ref H.length::xs) U (H++[.inst c (cd.bx.map λO=>none)]))):du AV) _
 cases hs:cd.slots with
 |true=>
  intro dN;refine ua (pu.push (p:=(s.heap.objs.size,s.heap.objs.size)) (o:=.dead) gd (aQ _) ⟨_,cw _ rfl⟩ trivial) λpd nd=>?_;obtain⟨px,nx⟩:=pd.push (p:=(s.heap.objs.size+1,s.heap.objs.size+1)) (o:=.inst c (cd.bx.map λO=>none)) Jy (bL rZ) ⟨_,ex⟩
   ⟨cd,kK.mk hc Hm (λO=>⟨_,_,lY.mk rfl ex (o8 _ (rL _ bz)) (λj v h=>Hl h)⟩) (λh=>by rw[hs] at h;cases h)⟩
  have nn:=nd.trans nx;rw[dA] at px nn;have hx:(J++([(s.heap.objs.size,s.heap.objs.size)]++[(s.heap.objs.size+1,s.heap.objs.size+1)]))[H.length+1]?=some (s.heap.objs.size+1,s.heap.objs.size+1):=by rw[<- pre.rel.len,kT (by exact x9)];simp
  rw[dA] at px;exact make (Kr pre nn ⟨_,hx⟩ dN (λv ρ' H' h=>Sd.rho i.gt h) (Sd.xF px i.gt i.gv (.cons (VR.ref hx) (nn.j9 pu.er hv))))
 |false=>
  intro dN;obtain⟨px,nn⟩:=pu.push (p:=(s.heap.objs.size+1,s.heap.objs.size)) (o:=.inst c (cd.bx.map λO=>none)) (gd.trans Jy) (aQ _) ⟨_,ed⟩
   ⟨cd,kK.mk hc Hm (λh=>(by rw[hs] at h;cases h)) (λO=>⟨λO=>none,lZ.mk (by
    intro hm;rw[bR,hM] at hm;rcases hm with hm|hm
    ·exact pre.rel.fresh (jx _) hm
    ·simp at hm) ex (Heap.Ns1.of_empty ⟨_,_,_,ed,rfl,λe he=>by simp at he,λO=>rfl⟩) ⟨λy val h=>(nomatch h),λj a hj O=>ue (C.nms a (gx hj)) λx hx=>⟨x,hx,rfl⟩,λj a v hj hf=>Hl hf⟩⟩)⟩
  have hx:(J++[(s.heap.objs.size+1,s.heap.objs.size)])[H.length]?=some (s.heap.objs.size+1,s.heap.objs.size):=by rw[<- pre.rel.len,kT (aQ _)];simp
  exact make (Kr pre nn ⟨_,hx⟩ dN (λv ρ' H' h=>Sd.rho i.gt h) (Sd.xF px i.gt i.gv (.cons (VR.ref hx) (nn.j9 pu.er hv))))
def ZG{b f x:Addr}{prog:Program}{w:World}(hb:s.heap.get? b=some (methodObj (.ref f) (.ref x)))
  (h:codeAny (model prog w) A (.call (.ref f) ⟨.ref x::vs,[]⟩) (xO Q Ex) s):wpAny (model prog w) A (call (.ref b) vs) Q Ex s:=by
 refine Ao (codeAny_of_tree ?_);show wpAny _ A.in1 (callAny (.ref b) ⟨vs,[]⟩) _ _ s;unfold callAny;refine ag (wpAny_load hb ?_);dsimp only;rw[if_pos (by decide)];rw[show(#[Value.ref f,Value.ref x]:Array Value)[0]?=some (.ref f) from rfl,show(#[Value.ref f,Value.ref x]:Array Value)[1]?=some (.ref x) from rfl];dsimp only;exact aA ⟨rfl,h⟩
def NO(ok:o4 V)(Sd:lU V E)(pre:aq V d true G J U H s){vo:Value}{ov:AV}{nn c m k:Nat}{fs:List (Option AV)}{args:C}{o':Expr}{name:Str}{apos pos:Pos}(hv:VR V J s.heap vo ov)(ku:oR V H ov m k nn c cd fs)
  (hn:V.nm[m]?=some name) (h2:qx V args G.K=true) (hl:(apos.endLine==pos.line)=true) (qY:(cs args).length<30):
  aj V G J s (methodCall o' name apos pos G.env vo (bJ args).length (backTo pos (starEach (bJ args) G.env)) []) (Hx E d true k ov args U H) (VR V):=by
 have e1:=ku.ov;subst e1;refine pq (CC ok pre.rel hv ku.at_) λKR p ox od mt=>?_;have:=mt.gt;rw[ku.cls] at this;cases this;have C:=mt.cls;refine eB (C.B7 m k ku.B7) λx f fd w=>?_;have:=w.nm;rw[hn] at this;obtain rfl:=sj this;refine ak (mt.dct w.G8) λmm y uM=>?_;have IX:lookIn name od=some none:=by
  rw[uM];cases hq:mm name with
  |none=>rfl
  |some v=>refine ak (y.fld.name name v hq) λa ha e=>?_;exact absurd e (w.SM a ha)
 rw[mt.eq] at hv⊢;show aj V G J s _ (M.bind (iX (E.e d true) (cs args)) (λvs=>E.call d (.glob k) (.ref nn::vs)) U H) _;unfold methodCall;refine gf (A2 h2) λe ms wa=>?_;have plain:=λc hc=>(wa.all c hc).1;rcases wa.is with e'|⟨a,pa,e',_⟩
 ·have pl:=GZ (V:=V) (G:=G) (pos:=pos) (env:=G.env) (m:=ms) plain;rw[<- e',<- e] at pl;have xm:methodCallForm (bJ args).length (backTo pos (starEach (bJ args) G.env)) []=true:=by unfold methodCallForm;rw[pl.1,e,aC];simp;exact qY
  rw[xm];refine TT.imp (λQ Ex h=>ag (cI (method_fn mt.fr mt.inst C.zL C.C1 w.find w.ty (show(lookIn name od).map (·.isSome)=some false by rw[IX];rfl) (ag (fK (by unfold methodCallPos;simp[hl]:methodCallPos true o' G.env apos pos=pure pos) (DZ (Ib ok.toAG.toOk w.gv) h)))))) (TT.seq (Nx.refl ..) pre (Ay Sd.toew pre h2) λa xs ρ1 H1 φ1 s1 n1 k1 q1 g1=>?_);intro hs;refine⟨xA ok.toAG.toOk q1.rel,?_⟩;rw[g1.kw];exact TT.last k1 (Sd.call q1 (n1.vr pre.er (w.gv:VR V J s.heap (.ref f) (.glob k))) (.cons (n1.vr pre.er hv) g1.all)) hs
 ·have p1:=OO (V:=V) (G:=G) (pos:=pos) (env:=G.env) (a:=a) (p:=pa) (m:=ms) plain;rw[<- e',<- e] at p1;have xm:methodCallForm (bJ args).length (backTo pos (starEach (bJ args) G.env)) []=false:=by unfold methodCallForm;rw[p1];rfl
  rw[xm];refine ak C.Cv λkk hk hd=>?_;rw[w.G8] at hd;have C2:findObj V.fr (V.clsAt c) (some od) name=some (.bind (.builtin "function.__get__") (.ref f)):=by
   unfold findObj;rw[hk,o5,w.find,o5];dsimp only;rw[w.get,o5];dsimp only;rw[w.takes,o5];dsimp only;unfold W.ownOf;rw[hd];show(lookIn name od).bind _=_;rw[IX,w.S7]
   rfl
  have g:av s {s with heap:=s.heap.push (methodObj (.ref f) (.ref p.1)),toks:=s.toks+1}:=av.push s _ _;have BN:=pre.grow g;have eb:(s.heap.push (methodObj (.ref f) (.ref p.1))).get? s.heap.objs.size=some (methodObj (.ref f) (.ref p.1)):=cw _ rfl;refine TT.imp (W:=λQ Ex=>wpAny (model V.prog V.w) G.A (callWith pos (.ref s.heap.objs.size) [] (backTo pos (starEach (bJ args) G.env)) []) Q Ex {s with heap:=s.heap.push (methodObj (.ref f) (.ref p.1)),toks:=s.toks+1}) (λQ Ex h=>?_) ?_
  ·refine ag (cI ?_);show wpAny _ _ (do pure (<- getAttr (.ref p.1) name true,([]:List Value))) _ _ _;refine ag (get_bind mt.fr mt.inst C.zL C2 C.C1 (wpAny_call (fn_get (s:={s with toks:=s.toks+1}) mt.fr w.ty ?_)));exact handed_on rfl (aA (ag (fK (by unfold methodCallPos;simp:methodCallPos false o' G.env apos pos=pure pos) h)))
  refine TT.imp (λQ Ex h=>DZ (first:=[]) (P:=MethP V.fr s.heap.objs.size f (.ref p.1)) (keeps_M w.fn) h)
   (TT.seq (s:={s with heap:=s.heap.push (methodObj (.ref f) (.ref p.1)),toks:=s.toks+1}) (g.nx G.X J) BN (Ay Sd.toew BN h2) λa xs ρ1 H1 φ1 s1 n1 k1 q1 g1=>?_)
  intro hs;have J7:s1.heap.get? s.heap.objs.size=some (methodObj (.ref f) (.ref p.1)):=n1.ext.get BN.er.fC eb (pre.rel.fresh (aQ s.heap.objs.size)) (.mk' (T:="method") rfl (by decide) (by simp) (by simp));refine⟨⟨J7,xA ok.toAG.toOk q1.rel⟩,?_⟩;rw[g1.kw];refine ZG J7 (codeAny_mono (Sd.xF q1 w.gt w.gv (.cons (k1.vr pre.er hv) g1.all) hs) λrr s' z=>?_);rcases rr with e|(_|_|_|_)
  ·exact lM.up k1 z
  all_goals first|exact z.elim|exact kg.up k1 z
end
section
variable {V:Cf}{G:Fm}{φ₀ J:Ph}{s₀ s:Shared}{U:aD}{H:Hp}{d:Nat}{q:Bool}{E:Ev}
noncomputable def xP:List Value:=[.type "ValueError",.type "Exception",.type "BaseException",.type "object"]
structure LG(V:Cf)(k:Nat)(nm q:Str)(N:Addr)(bs:List Value)(uP sn sub ab col dd k0 k1 k2 k3 k5:_)(mN:Str->Option Value):Prop where
 get:V.h₀.get? (V.clsAt k)=some (excClassObj nm q (V.clsAt k) N bs xP uP sn sub ab col dd k0 k1 k2 k3 k5 "ValueError.__new__")
 ns:V.h₀.Ns N mN
 init:mN "__init__"=none
inductive AH(V:Cf)(k:Nat):Nat->Prop where
 |stop (h:V.gv k=some (.type "StopIteration")):AH V k 0
 |own (h:V.gv k=some (.ref (V.clsAt k))) (x:∃nm q N bs uP sn sub ab col dd k0 k1 k2 k3 k5 mN,LG V k nm q N bs uP sn sub ab col dd k0 k1 k2 k3 k5 mN):AH V k (k+1)
structure tA(V:Cf):Prop extends o4 V where
 exc:∀k x,V.P.gt[k]?=some (.exc x)->AH V k x
variable {k x:Nat}
def tA.gv(ok:tA V)(hk:V.P.gt[k]?=some (.exc x)):∃v,V.gv k=some v:=by
 cases ok.exc k x hk with
 |stop h=>exact⟨_,h⟩
 |own h _=>exact⟨_,h⟩
variable {nx:Str}{np:Pos}{v:Value}{A:Around}
def XE(ok:tA V)(pre:aq V d q G J U H s)(h1:ye V G.K nx k=true)(hk:V.P.gt[k]?=some (.exc x))(hv:V.gv k=some v):
  ∀Q Ex,Q v s->wpAny (model V.prog V.w) A (eval (.Name nx np) G.env) Q Ex s:=by
 intro Q Ex h;refine jE h1 λh2 h4 h3=>?_;refine ak (Jv pre ok.toAF (of_decide_eq_true h4) (of_decide_eq_true h3)) λw hw hl=>?_;have:=hw _ hk;have:V.gv k=some w:=this;rw[hv] at this;obtain rfl:=sj this;exact wpAny_Name (hl Q Ex h A) (BU h2)
def dS.none(R:aR V J H s.heap)(h₁:Heap):dS V J h₁ [] s s:=(dS.mk (cG.refl ..) (λa h=>(by cases h)) (λa h=>(by cases h)) R.keep (λO O=>rfl) rfl rfl (λO h=>h))
variable {Ex:Value->Shared->Prop}
def Xm{M:Model}(R:aR V J H s.heap){h₁:Heap}(x:oX V J h₁ s.heap v k){Q:Unit->Shared->Prop} 
  (h:∀Y s',dS V J h₁ Y s s'->Q () s'):wpAny M A (setFlight v none) Q Ex s:=by
 obtain⟨e,oe,vs,rfl,x⟩:=x;unfold setFlight;rcases x.tb with ht|⟨T,oT,ts,b1,b3,bn,b⟩
 ·refine ag (jw x.get x.data ht ?_);rw[if_neg (by decide)];exact aA (h [] s (dS.none R h₁))
 ·refine ag (jw x.get x.data b1 ?_);rw[if_pos (show(Value.ref T != Value.none)=true from by simp)];refine wpAny_setField b.get b.data (tJ.mp b.zero).1 ?_;have other:∀b,b≠T->(s.heap.update T (Obj.mapFields (·.setIfInBounds 3 Value.none))).get? b=s.heap.get? b:=λb hb=>jd _ _ (cP hb);have hT:=jD (Obj.mapFields (·.setIfInBounds 3 Value.none)) b.get (Obj.isFreed_of_fields (Obj.data_mapFields b.data _));refine h [T] _ (dS.mk ⟨λa o e' h1 h2=>.inl ((other a λq=>h2 (fR.mpr q)).trans e')⟩ (λa ha=>?_) (λa ha=>?_) (λa o e'=>?_) (λp hp=>?_) rfl rfl (λa bN=>ue bN λo e'=>?_))
  ·rw[qM ha];exact⟨oT,b.get,jZ.mk ⟨ts,b.data⟩ (λS hS=>by rw[b.cls] at hS;cases hS;rfl)⟩
  ·rw[qM ha];exact bn
  ·exact(other a λq=>bn.h0 ⟨o,q▸e'⟩).trans (R.keep a o e')
  ·exact other _ λq=>bn.out (q▸mB hp)
  ·by_cases q:a=T
   ·rw[q];exact⟨_,hT⟩
   ·exact⟨o,(other a q).trans e'⟩
noncomputable def za(G:Fm)(e:Value):Fm:=⟨G.K,G.A.mark (some e),G.env,G.X⟩
def aq.mark(pre:aq V d q G J U H s)(e:Value):aq V d false (za G e) J U H s:=(aq.mk pre.rel pre.er.fm (kG.mk pre.room.depth pre.room.units) (λh=>nomatch h) ⟨pre.fr.fr⟩)
def dp.unmark{e:Value}{φ':Ph}{ρ':aD}{H':Hp}{s':Shared}(a:dp V (za G e) J s φ' ρ' H' s'):dp V G J s φ' ρ' H' s':=(dp.mk a.nx a.rel (bP.fm (G:=za G e) (A':=G.A) a.er) ⟨a.fr.fr⟩)
def Tx(ok:tA V)(R:aR V J H s.heap)(hk:V.P.gt[k]?=some (.exc x)){c:Value}{h₁:Heap}(hx:oX V J h₁ s.heap v x)(hg:V.gv k=some c){M:Model}{Q:Bool->Shared->Prop}(h:Q true s):
  wpAny M A (excMatches v c) Q Ex s:=by
 refine cJ hx λe oe vs aa x=>?_;clear hx;subst aa;cases ok.exc k _ hk with
 |stop g1=>rw[hg] at g1;obtain rfl:=sj g1;exact wpAny_excMatches_type ⟨oe,x.get,x.cls⟩ (by rw[isSubtype_type];kernel_rfl) (by rw[isSubtype_type];kernel_rfl) isSubtype_stop h
 |own g1 y=>obtain⟨nm,q,N,bs,uP,sn,sub,ab,col,dd,k0,k1,k2,k3,k5,mN,y⟩:=y;rw[hg] at g1;obtain rfl:=sj g1;obtain⟨hh,g,dr,t,os⟩:=s;exact wpAny_excMatches_sub_self (R.keep _ _ y.get) x.get x.cls (by decide) h
def Oc(P:bO)(E:Ev)(d:Nat)(k:Nat)(h:S)(r:du Fl):du Fl:=match r with
 |.ok f ρ' H'=>.ok f ρ' H'
 |.exc x ρ' H'=>uR P E d k h x ρ' H'
 |.stuck=>.stuck
variable {h:S}
def Wl(ok:tA V)(Sd:vA V E)(pre:aq V d true G J U H s){hp:Pos}(h2:ye V G.K nx k=true)(h3:eW V h G.K=true)(h4:(ss h).isEmpty=false)(hk:V.P.gt[k]?=some (.exc x))
  {e:Value} {s1:Shared} {φ1:Ph} {ρ1:aD} {H1:Hp} (x1:oX V φ1 s.heap s1.heap e x) (a:dp V G J s φ1 ρ1 H1 s1) {R:du Fl} (eR:M.calm (d0 (E.s d false) (ss h)) ρ1 H1=R) (dN:R≠.stuck):
  wpAny (model V.prog V.w) G.A (noteFrame e G.env) (λO s₂=>wpAny (model V.prog V.w) G.A (setFlight e none) (λO s₃=>wpAny (model V.prog V.w) G.A (handleBy e G.env [.ExceptHandler (some (.Name nx np)) none (cT h) hp]) (kg V G J s R (d7 V)) (lM V G J s R) s₃) (lM V G J s R) s₂) (lM V G J s R) s1:=by
 refine SI a.rel a.fr a.nx.live x1 λY s2 nt x2=>?_;have apart:∀{Y:List Addr} {s' iP:Shared},dS V φ1 s.heap Y s' iP->∀a∈G.X,a∉Y:=λnt a ha hY=>(pre.er.fC a ha).elim λo eo=>(nt.new a hY).new ⟨o,eo.1⟩;have p2:=(a.pre pre).note nt (apart nt);have n2:=a.nx.note nt;clear a x1 pre;refine ue (ok.gv hk) λcv I9=>?_;obtain⟨h0,hs,Ja⟩:∃h0 hs,cT h=h0::hs:=by
  rw[(EP h3).1];cases VK:ss h with
  |nil=>rw[VK] at h4;cases h4
  |cons c r=>exact⟨_,_,rfl⟩
 have vr:∃ea,e=.ref ea:=x2.imp λO y=>dJ y λO O q O=>q;refine ue vr λea aa=>?_;clear vr;subst aa;rw[Ja];refine wpAny_handleBy_cons (codeAny_handlers_test (XE ok p2 h2 hk I9 _ _ (Tx ok p2.rel hk x2 I9 ?_))) (λq=>nomatch q);refine codeAny_handlers_suite (Xm p2.rel x2 λY' s3 BY=>?_);subst eR;rw[<- Ja];exact cH (TT.xN (TT.last (G:=za G (.ref ea)) (φ₀:=J) (s₀:=s) (n2.note BY) (qf Sd ((p2.note BY (apart BY)).mark (.ref ea)) h3)) dN) (λf s4 bN=>gN bN λb ρ' H' φ' e a r=>⟨b,ρ',H',φ',e,a.unmark,r⟩) λO O z=>z.elim
def Wm{ρ1:aD}{H1:Hp}(dN:uR V.P E d k h x ρ1 H1≠.stuck):V.P.gt[k]?=some (.exc x)/\M.calm (d0 (E.s d false) (ss h)) ρ1 H1=uR V.P E d k h x ρ1 H1:=by
 unfold uR at dN⊢;rw[bY] at dN⊢;cases hk:V.P.gt[k]? with
 |none=>rw[hk] at dN;exact absurd rfl dN
 |some ge=>
  rw[hk] at dN;cases ge with
  |exc y=>
   dsimp only at dN⊢;cases IL:Nat.beq y x with
   |false=>rw[IL] at dN;exact absurd rfl dN
   |true=>exact⟨by rw[ck IL],rfl⟩
  |_=>exact absurd rfl dN
def PQ(ok:tA V)(Sd:vA V E)(pre:aq V d q G J U H s){b:S}{hp pos:Pos}(h1:eW V b G.K=true)(h2:ye V G.K nx k=true)(h3:eW V h G.K=true)(h4:(ss h).isEmpty=false):
  aj V G J s (exec (.Try (cT b) [.ExceptHandler (some (.Name nx np)) none (cT h) hp] [] [] pos) G.env) (tQ V.P E d q b k h U H) (d7 V):=by
 cases q with
 |false=>exact aj.stuck
 |true=>
 show aj V G J s _ (Oc V.P E d k h (d0 (E.s d true) (ss b) U H)) (d7 V);have T:=qf Sd pre h1;generalize d0 (E.s d true) (ss b) U H=r at T⊢;intro dN;refine wpAny_Try_except ?_;cases r with
 |stuck=>exact absurd rfl dN
 |ok fl ρ1 H1=>
  refine cH (T nofun) (λf s1 z=>?_) λe s1 z=>z.not nofun;cases f with
  |next=>exact aA z
  |_=>exact z
 |exc x ρ1 H1=>
  have hh:=Wm dN;refine cH (T nofun) (λf s1 z=>z.not nofun) λe s1 z=>?_;refine gN z λy' ρ2 H2 φ1 e' a x1=>?_;clear z;injection e' with q1 q2 q3
  subst q1 q2 q3;exact Wl ok Sd pre h2 h3 h4 hh.1 x1 a hh.2 dN
end
section
variable {V:Cf}{G:Fm}{A:Around}{φ₀ J:Ph}{s₀ s:Shared}{U:aD}{H:Hp}{d:Nat}{q:Bool}{E:Ev}
noncomputable def xQ(b:BI):Value:=match b with
 |.len=>.builtin "len"
 |.abs=>.builtin "abs"
 |.divmod=>.builtin "divmod"
 |.min=>.builtin "min"
 |.sorted=>.builtin "sorted"
 |.chr=>.builtin "chr"
 |.iter=>.builtin "iter"
 |.range=>.type "range"
 |.int=>.type "int"
 |.tuple=>.type "tuple"
 |.bool=>.type "bool"
 |.set=>.type "set"
 |.list=>.type "list"
 |.zip=>.type "zip"
def fG.tri{t:Sem Value}{b:AV}(pre:aq V d q G J U H s)(m:fG V G J s t b):aj V G J s t (.ok b U H) (VR V):=aj.quiet pre m
def aac(pre:aq V d q G J U H s)(ok:dR V){v:Value}{x:AV}{k:Nat}(hx:VR V J s.heap v x)(e:HV x H=some k)(hk:k<=az):fG V G J s (call (.builtin "len") [v]) (.int k):=by
 intro Q Ex h;have f:=uW hk;have g:av s {s with toks:=s.toks+1+1}:=av.toks ..;have sz:∀{n:Nat} {t:Tok} {s':Shared},n=k->VR V J s'.heap (.int (n:Int) t) (.int k):=λh=>h▸.lit _ _;cases x with
 |lst l=>
  obtain rfl:=sj e;refine cJ hx λa items n aa y=>?_;clear hx;subst aa;have z:items.toArray.size=l.length:=by rw[fb,y.all.length]
  exact Calls.call_len_list ⟨_,y.at_,rfl,_,rfl⟩ (by rw[z];exact f) (h _ _ g (sz z))
 |tup l=>
  obtain rfl:=sj e;refine cJ hx λa items n aa y=>?_;clear hx;subst aa;have z:items.toArray.size=l.length:=by rw[fb,y.all.length]
  exact PyProof.Rows.len_tuple ⟨_,y.at_,rfl,_,rfl⟩ (by rw[z];exact f) (h _ _ g (sz z))
 |str l=>
  obtain rfl:=sj e;refine ak hx λt aa o=>?_;clear hx;subst aa;have z:(V.tx l).length=l.length:=by show(V.enc l).toArray.size=_;rw[fb,rt]
  exact len_str (by rw[z];simpa using f) (h _ _ g (sz z))
 |ref nn=>
  refine ak (ig hx rfl) λp aa hp=>?_;subst aa;have e:(match bq H nn with
   |some l=>some l.length
   |none=>(cM H nn).map λr=>r.2.length)=some k:=e
  cases hl:bq H nn with
  |some l=>
   rw[hl] at e;obtain rfl:=sj e;refine lp (pre.rel.list hl hp) λpe items n y=>?_;have z:items.toArray.size=l.length:=by rw[fb,y.all.length]
   exact Calls.call_len_list ⟨_,y.at_,rfl,_,rfl⟩ (by rw[z];exact f) (h _ _ g (sz z))
  |none=>rw[hl] at e;refine um e λr h1 aa=>?_;subst aa;refine gf (pre.rel.dictAt h1 hp) λpe kvs y=>?_;exact call_len_dict (ug pre.rel hp pe ok.big) y.at_.dictOf (by rw[y.len];exact f) (h _ _ g (sz y.len))
 |_=>exact aT e
variable {b:Int}{t:Tok}
def GA{a c:Int}{u v:Tok}{s':Shared}(pre:aq V d q G J U H s)(h:IsRange s'.heap s.heap.objs.size a b c t u v)(ok:mW a b c=true):VR V J s'.heap (.ref s.heap.objs.size) (.fq a b c):=⟨_,_,_,_,rfl,h,pre.rel.fresh (aQ _),ok⟩
def Z9(pre:aq V d q G J U H s)(ok:mW 0 b 1=true):fG V G J s (call (.type "range") [.int b t]) (.fq 0 b 1):=λQ Ex h=>call_range_1 (h _ _ (av.push s _ _) (GA pre (IsRange.new ..) ok))
def Z8(pre:aq V d q G J U H s){a:Int}{u:Tok}(ok:mW a b 1=true):fG V G J s (call (.type "range") [.int a t,.int b u]) (.fq a b 1):=λQ Ex h=>call_range_2 (h _ _ (av.push s _ _) (GA pre (IsRange.new ..) ok))
def aaf(pre:aq V d q G J U H s){a:Int}{u:Tok}(hb:b≠0)(hs:b.natAbs<2^200):fG V G J s (call (.builtin "divmod") [.int a t,.int b u]) (.tup [.int (a.fdiv b),.int (a.fmod b)]):=λQ Ex h=>divmod_int hb (h _ _ (av.push s _ _) (.tup (items:=[.int (a.fdiv b) s.toks,.int (a.fmod b) (s.toks+1)]) (Sq.mk (cw _ rfl) (pre.rel.fresh (aQ _)) (.cons (.lit ..) (.cons (.lit ..) .nil)) (show 2<=az by decide)))) (.inl (PyProof.noPylong_of_log2 (F9 hs)))
def aag{c:Nat}(h1:c<16):fG V G J s (call (.builtin "chr") [.int (65+c:Nat) t]) (.str [c]):=λQ Ex h=>P.chr_of_int (by simp;exact⟨Int.add_nonneg (by decide) (j8 c),show((65+c:Nat):Int)<=((1114111:Nat):Int) from n6.mpr (aH (ib (bG h1) 65) (by decide))⟩) (h _ _ (av.toks s _) (VR.str (V:=V) (l:=[c]) (.one h1)))
def aai{i:Int}:fG V G J s (call (.builtin "abs") [.int i t]) (.int (if i<0 then -i else i)):=λQ Ex h=>call_abs_int λu tk=>h _ _ (av.toks s _) (.lit ..)
def aae{i:Int}:fG V G J s (call (.type "int") [.int i t]) (.int i):=λQ Ex h=>call_int_int (h _ _ (av.refl s) (.lit ..))
def Z7(pre:aq V d q G J U H s):aj V G J s (call (.type "set") []) (.ok (.ref H.length) U (H++[.set []])) (VR V):=
 aj.fresh pre λQ Ex h=>call_set_0 λled=>h _ _ (s.heap.objs.size,s.heap.objs.size) (av.push s _ _) (aQ _) ⟨_,cw _ rfl⟩
  ⟨rfl,⟨_,#[],0,_,cw _ rfl,⟨rfl,rfl,rfl⟩,rfl,(λe he=>nomatch he),(λk=>Iff.intro (λh=>nomatch h) (λbN=>ak bN λe he O=>nomatch he)),by decide,rfl,rfl⟩⟩ (yL J _ pre.rel.len)
variable {p:Addr×Addr}{l:List AV}
def aad(pre:aq V d q G J U H s){nn:Nat}(hp:J[nn]?=some p)(hl:bq H nn=some l):
  aj V G J s (call (.builtin "iter") [.ref p.1]) (.ok (.ref H.length) U (H++[.iter nn 0])) (VR V):=by
 refine lp (pre.rel.list hl hp) λpe items n y=>?_;refine aj.fresh pre λQ Ex h=>Calls.call_function_entry (id:="iter") (by decide +kernel) (by decide +kernel) (entryFor_of_tree (b:=Builtin.«iter») (by kernel_rfl)) (by unfold argsOk;kernel_rfl) ?_;unfold Builtin.«iter»;refine ag (fK (show someArgs "iter" 1 2 ⟨[.ref p.1],[]⟩=pure [.ref p.1] from rfl) ?_);refine ag (wpAny_pyIter_list ⟨_,y.at_,rfl,_,rfl⟩ (aA ⟨_,rfl,?_⟩));refine h _ _ (s.heap.objs.size,s.heap.objs.size) (av.push s _ _) (aQ _) ⟨_,cw _ rfl⟩ ⟨p,_,oU.mk rfl ?_ (cw _ rfl)⟩ (yL J _ pre.rel.len);rw[rP (je.mp hp).1];exact hp
def Z4(pre:aq V d q G J U H s){v:Value}{x:AV}(hx:VR V J s.heap v x)(e:aP H x=some l):fG V G J s (call (.type "tuple") [v]) (.tup l):=by intro Q Ex h;refine eB (iK pre.rel hx e) λa items n y=>?_;rw[y.eq];refine call_tuple_list ⟨_,y.at_,rfl,_,rfl⟩ (λh' hk=>?_) (iN y.small);have g:av s {s with heap:=h'.push {cls:=.type "tuple",data:=.seq items.toArray}}:=(av.mk (λb o e=>fk _ (hk b o e)) rfl rfl);refine h _ _ g (.tup (Sq.mk (cw _ rfl) (λhm=>?_) (g.j9 y.all) y.len));refine ak (bj.mp hm) λp hp e'=>?_;refine ue (pre.rel.live p hp) λo eo=>?_;exact absurd (cZ (hk _ _ eo)) (by rw[e'];exact jz _)
def ZL(l:Addr)(items:Array Value):Meets (Builtin.«bool.__new__» ⟨[.type "bool",.ref l],[]⟩) (λO R s=>s.heap.IsList l items/\(items.size:Int)<2^63/\R (.ok (.ret (.bool (!items.isEmpty)))) {s with toks:=s.toks+1+1}):=
 Meets.of_wp λprog w A R s hs=>by
  obtain⟨hl,zO,hs⟩:=hs;obtain⟨hp,g,d,tk,os⟩:=s;have f1:=F.conv_sub_bool
  repeat (any_goals (first|assumption|(with_reducible refine wpAny_truthy_list hl zO ?_)|wp_step))
  all_goals first|exact⟨_,rfl,hs⟩|exact hs|skip
def aah(pre:aq V d q G J U H s){nn:Nat}(hp:J[nn]?=some p)(hl:bq H nn=some l):fG V G J s (call (.type "bool") [.ref p.1]) (.bool (!l.isEmpty)):=by intro Q Ex h;refine lp (pre.rel.list hl hp) λpe items n y=>?_;refine call_bool_1 (ZL p.1 items.toArray) ⟨⟨_,y.at_,rfl,_,rfl⟩,uW y.small,rfl,h _ _ (av.toks s _) ?_⟩;rw[Iy y.all];exact .bool _
end
section
variable {V:Cf}{G:Fm}{A:Around}{φ₀ J:Ph}{s₀ s:Shared}{U:aD}{H:Hp}{d:Nat}{q:Bool}{E:Ev}
def av.off{s':Shared}{a:Addr}(g:av s₀ s)(na:¬ bM s₀.heap a)(k:∀b o,b≠a->s.heap.get? b=some o->s'.heap.get? b=some o)(h1:s'.gens=s.gens)(h2:s'.os=s.os):av s₀ s':=(av.mk (λb o e=>k b o (λq=>na ⟨o,q▸e⟩) (g.keep b o e)) (h1.trans g.gens) (h2.trans g.os))
def LM(V:Cf)(prog:Program)(w:World)(A:Around)(J:Ph)(s₀:Shared)(op:CmpOp)(less:AV->AV->Option Bool):Prop:=∀s vx vy x y b,av s₀ s->VR V J s₀.heap vx x->VR V J s₀.heap vy y->less x y=some b->∀Q E,Q (.bool b) s->wpAny (model prog w) A (richCompare op vx vy) Q E s
def nJ(V:Cf)(J:Ph)(s₀:Shared)(I l S:Addr)(j:Nat)(s:Shared)(vb:Value)(xb:AV)(c:Nat):Prop:=(av s₀ s)/\(s.heap.IsListIter I l j)/\(VR V J s₀.heap vb xb)/\(s.heap.get? S=some {cls:=.type "list",dict:=none,data:=.seq #[vb,vb] c,slots:=#[]})
section
variable {b1 b2 b3 b4 b5 b6 b7 b8 b9 gq jS}(x:nJ b1 b2 b3 b4 b5 b6 b7 b8 b9 gq jS)
def nJ.mk:=eM (nJ b1 b2 b3 b4 b5 b6 b7 b8 b9 gq jS) rfl
def nJ.grow:=x.1
def nJ.it:=x.2.1
def nJ.best:=x.2.2.1
def nJ.at_:=x.2.2.2
end
def U9{α:Type}{M:Model}{Q:α->Shared->Prop}{E:Value->Shared->Prop}{c:Prop}[Decidable c]{t e:Sem α}(h:c)(x:wpAny M A t Q E s):wpAny M A (if c then t else e) Q E s:=by rw[if_pos h];exact x
variable {items:List Value}
def To{prog:Program}{w:World}{R:Result->Shared->Prop}{I l S:Addr}{xs:List AV}{nl:Nat}(hh:A.handled=none)(hl:IsL s₀.heap l items.toArray nl)(hv:aO V J s₀.heap items xs)(hI:¬ bM s₀.heap I)(hS:¬ bM s₀.heap S)(Dg:I≠S)
  (C8:LM V prog w A.in1 J s₀ .Lt gQ):
  ∀(k j:Nat) (s:Shared) (vb:Value) (xb r:AV) (c:Nat),items.length-j=k->j<=items.length->nJ V J s₀ I l S j s vb xb c->kE gQ (xs.drop j) xb=some r->(∀v s',av s₀ s'->VR V J s₀.heap v r->R (.ok (.ret v)) s') ->
   codeAny (model prog w) A (.builtin "min.loop" ⟨[.ref I,.none,.ref S],[]⟩) R s:=by
 have xj:(toString "min"++toString ".loop":String)="min.loop":=by decide
 intro k
 induction k with
 |zero=>
  intro j s vb xb r c hk hj w hr hR;have V2:j=items.length:=Nat.le_antisymm hj (Nat.le_of_sub_eq_zero hk);have hx:xs.drop j=[]:=by rw[List.drop_eq_nil_iff,<- hv.length];exact Nat.le_of_sub_eq_zero hk
  rw[hx] at hr;cases hr;refine mr F.entry_min_loop ?_;rw[pb F.plain_min_loop _];show wpAny _ A.in1 (seqItems? (.ref S)>>=_) _ _ s;refine ag (nQ w.at_ rfl ?_);show wpAny _ A.in1 (tryCatch (pyNext (.ref I)) _>>=_) _ _ s;refine ag (wpAny_tryCatch (wpAny_pyNext_list_end hh w.it ⟨_,w.grow.keep _ _ hl,rfl,_,rfl⟩ (by simp[V2]) λh' jq=>?_));have lJ:=jq S _ (cP Dg) w.at_;show wpAny _ A.in1 (updateSeq S (λO=>#[])>>=_) _ _ _;refine ag (wpAny_updateSeq lJ rfl (ag (wpAny_letGo (aA ?_))));have g1:av s₀ {s with heap:=h'}:=w.grow.off hI (λb o hb e=>jq b o hb e) rfl rfl;exact hR vb _ (g1.off hS (λb o hb e=>(jd _ _ (cP hb)).trans e) rfl rfl) w.best
 |succ k ih=>
  intro j s vb xb r c hk hj w hr hR;have fy:j<items.length:=Nat.lt_of_sub_eq_succ hk;have I1:items.length-(j+1)=k:=by rw[<- Nat.sub_sub,hk];rfl
  have IY:j<xs.length:=by rw[<- hv.length];exact fy
  obtain⟨v,VG,rv⟩:=hv.get (nZ IY);rw[List.drop_eq_getElem_cons IY] at hr;obtain⟨b,hc,hr⟩:=Option.bind_eq_some_iff.mp hr;refine mr F.entry_min_loop ?_;rw[pb F.plain_min_loop _];show wpAny _ A.in1 (seqItems? (.ref S)>>=_) _ _ s;refine ag (nQ w.at_ rfl ?_);show wpAny _ A.in1 (tryCatch (pyNext (.ref I)) _>>=_) _ _ s;refine ag (wpAny_tryCatch (wpAny_pyNext_list_item w.it ⟨_,w.grow.keep _ _ hl,rfl,_,rfl⟩ (x:=v) (by simpa using VG) λh' zK qV=>?_));have lJ:h'.get? S=_:=(qV.2 S (cP Dg)).trans w.at_;have g1:av s₀ {s with heap:=h'}:=w.grow.off hI (λb o hb e=>(qV.2 b hb).trans e) rfl rfl;show wpAny _ A.in1 (tryCatch (holding [v,v] (richCompare .Lt v vb>>=_)) _>>=_) _ _ _;refine ag (wpAny_tryCatch (cI (ag (C8 _ v vb _ xb b g1 rv w.best hc _ _ ?_))));refine ag (cI (wpAny_truthy_bool ?_));refine ag (wpAny_letGo (aA ?_));cases b with
  |true=>refine U9 rfl (ag (wpAny_updateSeq lJ rfl (ag (wpAny_letGo ?_))));rw[xj];exact aA ⟨plainId_quiet F.plain_min_loop _,ih (j+1) _ v _ r _ I1 fy (nJ.mk (g1.off hS (λb o hb e=>(jd _ _ (cP hb)).trans e) rfl rfl) (zK.at λo e=>(jd _ _ (cP Dg)).trans e) rv (jD _ lJ rfl)) hr hR⟩
  |false=>refine sM kO (ag (wpAny_letGo ?_));rw[xj];exact aA ⟨plainId_quiet F.plain_min_loop _,ih (j+1) _ vb xb r c I1 fy (nJ.mk g1 zK w.best lJ) hr hR⟩
variable {x:AV}
def Tp{prog:Program}{w:World}{Q:Value->Shared->Prop}{Ex:Value->Shared->Prop}{l:Addr}{r:AV}{xs:List AV}{nl:Nat}(hh:A.handled=none)(hl:IsL s.heap l items.toArray nl)(hv:aO V J s.heap items (x::xs))
  (C8:LM V prog w A.in1 J s .Lt gQ)
  (hr:kE gQ xs x=some r) (h:∀v s',av s s'->VR V J s.heap v r->Q v s'):wpAny (model prog w) A (call (.builtin "min") [.ref l]) Q Ex s:=by
 have xj:(toString "min"++toString ".loop":String)="min.loop":=by decide
 refine call_function_tree F.kind_min F.plain_min F.entry_min (F.args_min1 _) ?_;show wpAny _ A.in1 (Builtin.Builtins.bindParams "min" ["key","default"] 0 ⟨[],[]⟩>>=_) _ _ s;refine ag (fK (show Builtin.Builtins.bindParams "min" ["key","default"] 0 ⟨[],[]⟩=pure [none,none] from rfl) ?_);refine ag (aA ?_);refine ag (wpAny_pyIter_list ⟨_,hl,rfl,_,rfl⟩ ?_);refine ag (kN ?_);rw[xj];generalize CY:({cls:=.type "list_iterator",data:=.fields #[.ref l,.int 0 0]}:Obj)=io;have g1:av s {s with heap:=s.heap.push io}:=av.push s _ s.toks;have sz:(s.heap.push io).objs.size=s.heap.objs.size+1:=nT ..;refine aA ?_;show _/\codeAny (model prog w) A (.builtin "min.loop" ⟨[.ref s.heap.objs.size,.none,.ref (s.heap.push io).objs.size],[]⟩) _ _;rw[sz];have g2:av s {s with heap:=(s.heap.push io).push {cls:=.type "list",data:=.seq ([]:List Value).toArray}}:=g1.trans (av.push {s with heap:=s.heap.push io} _ s.toks);have nS:¬ bM s.heap (s.heap.objs.size+1):=gB (jx _);have eS:((s.heap.push io).push {cls:=.type "list",data:=.seq ([]:List Value).toArray}).get? (s.heap.objs.size+1)=some {cls:=.type "list",dict:=none,data:=.seq #[] 0,slots:=#[]}:=by rw[<- sz];exact cw _ rfl
 have eI:((s.heap.push io).push {cls:=.type "list",data:=.seq ([]:List Value).toArray}).get? s.heap.objs.size=some io:=fk _ (cw _ (by rw[<- CY];rfl));have hit:((s.heap.push io).push {cls:=.type "list",data:=.seq ([]:List Value).toArray}).IsListIter s.heap.objs.size l 0:=⟨io,eI,by rw[<- CY],by rw[<- CY];rfl⟩;refine⟨plainId_quiet F.plain_min_loop _,mr F.entry_min_loop ?_⟩;rw[pb F.plain_min_loop _];show wpAny _ A.in1 (seqItems? (.ref (s.heap.objs.size+1))>>=_) _ _ _;refine ag (nQ eS rfl ?_);show wpAny _ A.in1 (tryCatch (pyNext (.ref s.heap.objs.size)) _>>=_) _ _ _;have zE:=hv;obtain⟨v,vs,rfl,rv,rest⟩:=zE;refine ag (wpAny_tryCatch (wpAny_pyNext_list_item hit ⟨_,g2.keep _ _ hl,rfl,_,rfl⟩ (x:=v) (by simp) λh' zK qV=>?_));have lJ:h'.get? (s.heap.objs.size+1)=_:=(qV.2 _ (Nat.succ_ne_self _)).trans eS;show wpAny _ A.in1 (updateSeq (s.heap.objs.size+1) (λO=>#[v,v])>>=_) _ _ _;refine ag (wpAny_updateSeq lJ rfl ?_);rw[xj];have g3:av s {s with heap:=h'}:=(av.mk (λb o e=>(qV.2 b (dz (cZ e))).trans (g2.keep b o e)) rfl rfl);exact aA ⟨plainId_quiet F.plain_min_loop _,To (s₀:=s) hh hl hv (gB (aQ _):¬ bM s.heap s.heap.objs.size) nS (dz (Nat.lt_succ_self _)) C8 _ 1 _ v x r _ rfl (by simp) (nJ.mk (g3.off nS (λb o hb e=>(jd _ _ (cP hb)).trans e) rfl rfl) (zK.at λo e=>(jd _ _ (Nat.succ_ne_self _)).trans e) rv (jD _ lJ rfl)) hr λv' s' g' r'=>h v' s' g' r'⟩
def aaa(pre:aq V d true G J U H s){v:Value}{y r:AV}{ys:List AV}(hx:VR V J s.heap v x)(hl:aP H x=some (y::ys))(hr:kE gQ ys y=some r):fG V G J s (call (.builtin "min") [v]) r:=by refine eB (iK pre.rel hx hl) λa items nn z=>?_;have hu:=pre.room.units;rw[z.eq];exact λQ Ex h=>Tp (pre.hd rfl) z.at_ z.all (λs' vx vy x y b g r1 r2 e=>HJ (Nk hu) (g.vr r1) (g.vr r2) e) hr λv s' g r=>h v s' g (g.vr r)
def aab(pre:aq V d true G J U H s)(ok:dR V){v:Value}{n:Nat}{r:Nat×List (List Nat×AV)}(hx:VR V J s.heap v x)(h0:x.jH=some n)(h1:cM H n=some r):
  fG V G J s (call (.type "list") [v]) (.lst (r.2.map λp=>.str p.1)):=by
 intro Q Ex h;refine ak (ig hx h0) λp aa hp=>?_;subst aa;refine gf (pre.rel.dictAt h1 hp) λpe kvs y=>?_;refine kdl_call (kdl_dict (knd:=kk V false) (kvs:=kvs) (ep:=r.1) (ug pre.rel hp pe ok.big)) (pre.hd rfl) y.at_ (by rw[y.len];exact iN y.small) λh' tk acc c hk he uS=>?_;have g:av s {s with heap:=h',toks:=tk}:=(av.mk hk rfl rfl);have gen:∀(vs:List Value) (ps:List (List Nat×AV)),vs.length=ps.length->(∀(i:Nat) (p:List Nat×AV) (v:Value),ps[i]?=some p->vs[i]?=some v->VR V J h' v (.str p.1))->aO V J h' vs (ps.map λp=>.str p.1):=by
  intro vs
  induction vs with
  |nil=>intro ps hl _;cases ps with|nil=>exact .nil|cons _ _=>cases hl
  |cons v vs ih=>intro ps hl hh;cases ps with
   |nil=>cases hl
   |cons p ps=>exact .cons (hh 0 p v rfl rfl) (ih ps (Nat.succ.inj hl) λi p v h1 h2=>hh (i+1) p v h1 h2)
 refine h _ _ g (.lst (items:=acc.toList) (n:=c) (Sq.mk he (pre.rel.fresh (aQ _)) (gen acc.toList r.2 (by rw[kP,uS.1,y.len]) λi p v h1 h2=>?_) (by rw[aC];exact y.small)));rw[rM] at h2;refine ue (y.get i p h1) λw kv=>?_;refine dJ (uS.2 i v h2) λk z e3 e4=>?_;rw[kv.get] at e3;cases e3;refine ue (Value.isStrOf_shape (x:=V.tx p.1) e4) λt aa=>?_;subst aa;exact .str kv.ok
def aR.Rx{h h':Heap}(R:aR V J H h){ps:List (Addr×Addr)}{os:List AO}(hk:∀a o,h.get? a=some o->h'.get? a=some o)(h1:∀p∈ps,h.objs.size<=p.2)(h2:∀p∈ps,∃o,h'.get? p.2=some o)
  (hn:(ps.map (·.2)).Nodup) (hl:ps.length=os.length) (ho:∀(i:Nat) (o:AO) (p:Addr×Addr),os[i]?=some o->ps[i]?=some p->OR V (J++ps) h' p o):aR V (J++ps) (H++os) h':=by
 have g:Gr J (J++ps) h:=⟨ps,rfl,λp hp=>gB (h1 p hp)⟩;refine(aR.mk (λa o e=>hk a o (R.keep a o e)) (λq hq=>?_) (λq hq=>?_) ?_ (by rw[bu,bu,R.len,hl]) R.last (λm o' e=>?_))
 ·rcases hM.mp hq with z|z
  ·exact R.above q z
  ·exact aH R.base (h1 q z)
 ·rcases hM.mp hq with z|z
  ·refine ue (R.live q z) λo eo=>?_;exact⟨o,hk _ _ eo⟩
  ·exact h2 q z
 ·rw[bR];refine rR.mpr ⟨R.nodup,hn,λa ha b hb e=>?_⟩;subst e;refine ak (bj.mp hb) λp hp e'=>?_;exact R.fresh (h1 p hp) (e'▸ha)
 ·by_cases hm:m<H.length
  ·rw[rP hm] at e;refine ak (R.obj m o' e) λq hq r=>?_;refine⟨q,g.get hq,r.mono (⟨λa o e O O=>.inl (hk a o e)⟩:cG [] J h h') (cW.nil h) g ?_⟩;refine ue (R.live q (gx hq)) λo eo=>?_;exact(hk _ _ eo).trans eo.symm
  ·have hm:=hJ.mp hm;rw[kT hm,<- R.len] at e;rw[<- R.len] at hm;have fy:m-J.length<ps.length:=by rw[hl];exact(je.mp e).1
   exact⟨_,(kT hm).trans (nZ fy),ho _ _ _ e (nZ fy)⟩
def Z3(pre:aq V d q G J U H s){vx vy:Value}{y:AV}{l m:List AV}(hx:VR V J s.heap vx x)(hy:VR V J s.heap vy y)(e1:aP H x=some l)(e2:aP H y=some m):
  aj V G J s (call (.type "zip") [vx,vy]) (.ok (.zip H.length) U (H++[.zip (H.length+1),.gw,.lit x 0,.lit y 0])) (VR V):=by
 refine eB (iK pre.rel hx e1) λa xs n y1=>?_;refine eB (iK pre.rel hy e2) λb ys n' y2=>?_;have q1:=y1.eq;have q2:=y2.eq;subst q1 q2;intro _;refine call_zip_2 y1.at_.isList y2.at_.isList λh' z t1 t2 i1 i2 sz hk=>?_;generalize hn:s.heap.objs.size=N at *;have g:av s {s with heap:=h'}:=(av.mk hk rfl rfl);have le:∀p∈[(N+4,N+4),(N+3,N+3),(N,N),(N+1,N+1)],s.heap.objs.size<=p.2:=Eb (hn▸hV ..) (hn▸hV ..) (hn▸aQ _) (hn▸hV ..);have gr:Gr J (J++[(N+4,N+4),(N+3,N+3),(N,N),(N+1,N+1)]) s.heap:=⟨_,rfl,λp hp=>gB (le p hp)⟩;have at_:∀{i:Nat} {p:Addr×Addr},[(N+4,N+4),(N+3,N+3),(N,N),(N+1,N+1)][i]?=some p->(J++[(N+4,N+4),(N+3,N+3),(N,N),(N+1,N+1)])[H.length+i]?=some p:=λ{i p} e=>by rw[<- pre.rel.len,kT (hV ..),Nat.add_sub_cancel_left];exact e
 have mv:∀{w:Value} {x:AV},VR V J s.heap w x->VR V (J++[(N+4,N+4),(N+3,N+3),(N,N),(N+1,N+1)]) h' w x:=λr=>r.mono (g.ext [] J) (cW.nil _) gr;have S8:N+2∉(J++[(N+4,N+4),(N+3,N+3),(N,N),(N+1,N+1)]).map (·.2):=λhm=>by
  rw[bR] at hm;rcases hM.mp hm with hm|hm
  ·exact pre.rel.fresh (hn▸hV ..) hm
  ·simp at hm
 refine⟨_,U,_,_,rfl,(dp.mk (Nx.mk (g.ext G.X J) gr g.gens g.os g.live) (pre.rel.Rx hk le ?_ ?_ rfl λi o p ho hp=>?_) (pre.er.mono (g.ext [] J) gr) (pre.fr.mono (g.ext [] J) gr (λO ha=>nomatch ha))),⟨_,rfl,at_ (i:=0) rfl⟩⟩
 ·exact Eb ⟨_,z⟩ ⟨_,t2⟩ (ak i1 λo e O=>⟨o,e⟩) (ak i2 λo e O=>⟨o,e⟩)
 ·simp
 ·cases i with
  |zero=>obtain rfl:=sj ho;obtain rfl:=sj hp;exact⟨N+2,N+3,N,N+1,(jT.mk rfl z t1 (at_ (i:=1) rfl) (at_ (i:=2) rfl) (at_ (i:=3) rfl) S8)⟩
  |succ i=>cases i with
   |zero=>obtain rfl:=sj ho;obtain rfl:=sj hp;exact⟨.none,.none,t2⟩
   |succ i=>cases i with
    |zero=>obtain rfl:=sj ho;obtain rfl:=sj hp;exact⟨_,i1,mv hx⟩
    |succ i=>cases i with
     |zero=>obtain rfl:=sj ho;obtain rfl:=sj hp;exact⟨_,i2,mv hy⟩
     |succ=>exact aT ho
end
section
variable {V:Cf}{G:Fm}{A:Around}{φ₀ J:Ph}{s₀ s:Shared}{U:aD}{H:Hp}{d:Nat}{q:Bool}{E:Ev}
variable {α:Type}
def IB(lt:α->α->Bool)(x y:α)(ys:List α):oE lt x (y::ys)=match lt y x with|true=>y::oE lt x ys|false=>x::y::ys:=rfl
def IA(lt:α->α->Bool)(x:α):∀l,(oE lt x l).Perm (x::l):=by
 intro ys
 induction ys with
 |nil=>exact .refl _
 |cons y ys ih=>
  rw[IB];cases lt y x with
  |true=>exact((ih).cons y).trans (.swap x y ys)
  |false=>exact .refl _
def v3(lt:α->α->Bool):∀l,(eZ lt l).Perm l:=by
 intro xs
 induction xs with
 |nil=>exact .refl _
 |cons x xs ih=>exact(IA lt x _).trans ((ih).cons x)
structure xZ{α:Type}(lt:α->α->Bool)(le:α->α->Prop):Prop where
 yes:∀a b,lt a b=true->le a b
 no:∀a b,lt a b=false->le b a
 tr:∀a b c,le a b->le b c->le a c
 as:∀a b,le a b->le b a->a=b
variable {lt:α->α->Bool}{le:α->α->Prop}
def Vo(L:xZ lt le)(x:α):∀l:List α,l.Pairwise le->(oE lt x l).Pairwise le:=by
 intro ys
 induction ys with
 |nil=>intro _;exact List.pairwise_singleton ..
 |cons y ys ih=>
  intro h;rw[nV] at h;rw[IB];cases uJ:lt y x with
  |true=>
   refine nV.mpr ⟨λz hz=>?_,ih h.2⟩;rcases bl.mp ((IA lt x ys).mem_iff.mp hz) with rfl|hz
   ·exact L.yes _ _ uJ
   ·exact h.1 _ hz
  |false=>
   refine nV.mpr ⟨λz hz=>?_,nV.mpr h⟩;rcases bl.mp hz with rfl|hz
   ·exact L.no _ _ uJ
   ·exact L.tr _ _ _ (L.no _ _ uJ) (h.1 z hz)
def FV(L:xZ lt le):∀l:List α,(eZ lt l).Pairwise le:=by
 intro xs
 induction xs with
 |nil=>exact .nil
 |cons x xs ih=>exact Vo L x _ (ih)
def Bj(L:xZ lt le){l l':List α}(p:l'.Perm l)(h:l'.Pairwise le):l'=eZ lt l:=(p.trans (v3 lt l).symm).eq_of_pairwise (le:=le) (λa b O O=>L.as a b) h (FV L l)
def Ub:xZ fV (·<=·):=⟨λa b h=>Int.le_of_lt (by rw[sG] at h;exact of_decide_eq_true h),λa b h=>Int.not_lt.mp (by rw[sG] at h;exact of_decide_eq_false h),λO O O=>Int.le_trans,λO O=>Int.le_antisymm⟩
def Co:xZ cg (λa b=>V.enc a<=V.enc b):=⟨λa b h=>List.le_of_lt ((DF a b).mpr h),λa b h=>(λk=>by have:=(DF (V:=V) a b).mp k;rw[h] at this;cases this),λO O O=>List.le_trans,λO O h1 h2=>J5 (List.le_antisymm h1 h2)⟩
theorem Qn:∀(r:List Str) (x:Str),risingS x r=true->((x::r).map (·.cps.toList)).Pairwise (·<=·):=by
 intro r
 induction r with
 |nil=>intro x _;simp
 |cons y r fM=>
  intro x h;unfold risingS at h;refine us h λh1 h2=>?_;have ih:=fM y h2;have uJ:x.cps.toList<=y.cps.toList:=by
   rw[ltCps_eq] at h1;have:¬ y.cps.toList<x.cps.toList:=by simpa using h1
   exact this
  rw[bQ];refine nV.mpr ⟨λz hz=>?_,ih⟩;rw[bQ] at hz ih;rcases bl.mp hz with rfl|hz
  ·exact uJ
  ·exact List.le_trans uJ ((nV.mp ih).1 z hz)
def O1{l:List Str}(h:sortedS l=true):(l.map (·.cps.toList)).Pairwise (·<=·):=by
 cases l with
 |nil=>exact .nil
 |cons x r=>exact Qn r x h
theorem Fn{h:Heap}:∀{l:List AV} {vs:List Value} {ts:List (List Nat)},aO V J h vs l->jF l=some ts->StrsAre vs (ts.map V.tx)/\∀x∈ts,cY V x:=by
 intro l
 induction l with
 |nil=>intro _ _ x e;subst x;obtain rfl:=sj e;exact⟨.nil,λx hx=>nomatch hx⟩
 |cons a l ih=>
  intro _ _ bN e;refine bo bN λv r q x y=>?_;clear bN;refine ub e λi h1 e=>?_;refine um e λms h2 aa=>?_;subst aa;refine ak (qz x h1) λt aa o=>?_;subst aa;refine ua (ih y h2) λh3 h4=>?_;subst q;exact⟨.cons _ _ h3,λz hz=>by
   rcases bl.mp hz with rfl|hz
   ·exact o
   ·exact h4 z hz⟩
theorem EU{h:Heap}:∀{ts:List (List Nat)} {vs:List Value},StrsAre vs (ts.map V.tx)->(∀x∈ts,cY V x)->aO V J h vs (ts.map .str):=by
 intro ts
 induction ts with
 |nil=>intro _ e _;cases e;exact .nil
 |cons t ts ih=>
  intro _ e hk;cases e with
  |cons y u r=>exact .cons (.str (hk t bz)) (ih r λx hx=>hk x (bI _ hx))
def Fq{us:List Str}{l:List (List Nat)}(p:us.Perm (l.map V.tx)):∃l':List (List Nat),us=l'.map V.tx/\l'.Perm l:=by
 let g:Str->List Nat:=λx=>x.cps.toList.map (·-65)
 have hg:∀t,g (V.tx t)=t:=λt=>by show(V.enc t).map (·-65)=t;unfold Cf.enc;rw[cm];exact(jC λc O=>(show 65+c-65=c from Nat.add_sub_cancel_left ..)).trans (List.map_id t)
 refine⟨us.map g,?_,?_⟩
 ·rw[cm];refine((jC λu hu=>?_).trans (List.map_id us)).symm;refine ak (bj.mp (p.mem_iff.mp hu)) λt O aa=>?_;subst aa;exact congrArg V.tx (hg t)
 ·have:=p.map g;rwa[cm,(jC λt O=>hg t:l.map (g∘V.tx)=l.map _root_.id),List.map_id] at this
theorem Vi{h:Heap}:∀{l:List AV} {vs:List Value} {ns:List Int},aO V J h vs l->uF l=some ns->IntsAre vs ns:=by
 intro l
 induction l with
 |nil=>intro _ _ r e;subst r;obtain rfl:=sj e;exact .nil
 |cons x l ih=>intro _ _ bN e;refine bo bN λv r q h1 h2=>?_;clear bN;subst q;refine ub e λi e1 e=>?_;refine um e λns e2 aa=>?_;subst aa;refine ue (eT h1 e1) λt aa=>?_;subst aa;exact .cons i t (ih h2 e2)
variable {vs:List Value}
def EV{h:Heap}{ns:List Int}(x:IntsAre vs ns):aO V J h vs (ns.map .int):=by
 induction x with
 |nil=>exact .nil
 |cons i t r ih=>exact .cons (.lit i t) ih
theorem Vj:∀{l:List AV} {ns:List Int},uF l=some ns->ns.length=l.length:=by
 intro l
 induction l with
 |nil=>intro _ e;obtain rfl:=sj e;rfl
 |cons x l ih=>intro _ e;exact ub e λi e1 e=>um e λns e2 aa=>by subst aa;exact congrArg (·+1) (ih e2)
theorem Fo:∀{l:List AV} {ns:List (List Nat)},jF l=some ns->ns.length=l.length:=by
 intro l
 induction l with
 |nil=>intro _ e;obtain rfl:=sj e;rfl
 |cons x l ih=>intro _ e;exact ub e λi e1 e=>um e λns e2 aa=>by subst aa;exact congrArg (·+1) (ih e2)
variable {l r:List AV}
def O3(hr:iO l=some r):r.length=l.length:=by
 unfold iO at hr;cases hi:uF l with
 |some ns=>rw[hi] at hr;obtain rfl:=sj hr;rw[aC,(v3 _ ns).length_eq,Vj hi]
 |none=>rw[hi] at hr;refine um hr λts ht aa=>?_;subst aa;rw[aC,(v3 _ ts).length_eq,Fo ht]
variable {Ex:Value->Shared->Prop}
def O4{prog:Program}{w:World}{Q:Shared->Prop}{D:Addr}{m:Nat}(hD:s.heap.get? D=some (seqObj "list" vs.toArray m))(hv:aO V J s.heap vs l)(kA:l.length<64)(hr:iO l=some r)
  (h:∀out:List Value,(∀h',aO V J h' out r)->Q {s with heap:=sortedHeap s.heap D vs out.toArray}):
  wpAny (model prog w) A (call (.builtin "list.sort") [.ref D]) (λO s'=>Q s') Ex s:=by
 have Jm:vs.length<64:=by rw[hv.length];exact kA
 unfold iO at hr;cases hi:uF l with
 |some ns=>rw[hi] at hr;obtain rfl:=sj hr;refine mA slot_list_sort ⟨_,hD,rfl⟩ entry_list_sort (list_sort_tree hD (Vi hv hi) Jm λout ns' a1 a2 a3=>⟨_,rfl,?_⟩) (args_list_sort _);have:=h out.toList (λh'=>Bj Ub a2 a3▸EV a1);rwa[Array.toArray_toList] at this
 |none=>rw[hi] at hr;refine um hr λts ht aa=>?_;subst aa;refine ua (Fn hv ht) λhS hk=>?_;refine mA slot_list_sort ⟨_,hD,rfl⟩ entry_list_sort (list_sort_treeK strKind_oneLt hD hS.keysOf (λv₁ v₂ rest e=>keyKind_strs (by rw[<- e];exact hS)) Jm λOP hp hs=>⟨_,rfl,?_⟩) (args_list_sort _);refine gc (sorted_out_str hS hp hs) λss' h1 h2 h3=>?_;refine ak (Fq h2) λl' e1 e2=>?_;subst e1;have e:l'=eZ cg ts:=Bj (Co (V:=V)) e2 (by have:=O1 h3;rw[cm] at this;exact List.pairwise_map.mp this);subst e;have:=h ((arrOf OP).map (·.2)).toList (λh'=>EU h1 λx hx=>hk x ((v3 _ ts).mem_iff.mp hx));rwa[Array.toArray_toList] at this
def O2{prog:Program}{w:World}{Q:Value->Shared->Prop}{s1:Shared}(R:aR V J H s.heap)(g:av s s1)(hv:aO V J s1.heap vs l)(kA:l.length<64)(hr:iO l=some r)
  (h:∀D s',av s s'->VR V J s'.heap (.ref D) (.lst r)->Q (.ref D) s'):
  wpAny (model prog w) A (newList vs) (λL s2=>wpAny (model prog w) A (holding [L] (call (.builtin "list.sort") [L] [])) (λO s3=>Q L s3) Ex s2) Ex s1:=by
 have fT:=bG kA;refine wpAny_newList ?_ (by rw[hv.length];exact aH fT (by decide));have g2:av s1 {s1 with heap:=s1.heap.push (seqObj "list" vs.toArray 0)}:=av.push s1 _ s1.toks;have hD:(s1.heap.push (seqObj "list" vs.toArray 0)).get? s1.heap.objs.size=some (seqObj "list" vs.toArray 0):=cw _ rfl;refine cI (O4 (s:={s1 with heap:=s1.heap.push (seqObj "list" vs.toArray 0)}) hD (g2.j9 hv) kA hr λout ro=>?_);have old:∀b o,s1.heap.get? b=some o->(sortedHeap (s1.heap.push (seqObj "list" vs.toArray 0)) s1.heap.objs.size vs out.toArray).get? b=some o:=λb o e=>(sortedHeap_old (dz (cZ e)) (cZ (fk _ e))).trans (fk _ e)
 have g3:av s {s1 with heap:=sortedHeap (s1.heap.push (seqObj "list" vs.toArray 0)) s1.heap.objs.size vs out.toArray}:=g.trans (av.mk old rfl rfl);refine ue (sortedHeap_at (vs:=vs) (out:=out.toArray) hD) λe he=>?_;refine h _ _ g3 (.lst (Sq.mk he (λhm=>?_) (ro _) (by rw[O3 hr];exact aH fT (by decide))));refine ak (bj.mp hm) λp hp e'=>?_;refine ue (R.live p hp) λo eo=>?_;exact absurd (cZ (g.keep _ _ eo)) (by rw[e'];exact jz _)
def N5:∀ts:List (List Nat),jF (ts.map .str)=some ts:=by
 intro ts
 induction ts with
 |nil=>exact rfl
 |cons t ts ih=>show((some t).bind λi=>(jF (ts.map .str)).map (i::·))=_;rw[ih];rfl
def F6(ts:List (List Nat)):iO (ts.map .str)=some ((eZ cg ts).map .str):=by
 cases ts with
 |nil=>rfl
 |cons t ts=>show((jF (((t::ts):List (List Nat)).map AV.str)).map λts=>(eZ cg ts).map AV.str)=_;rw[N5];rfl
variable {v:Value}{x:AV}
def UP(pre:aq V d true G J U H s)(hx:VR V J s.heap v x)(hl:Cq H x=some l)(kA:l.length<64)(Ex:Value->Shared->Prop):
  wpAny (model V.prog V.w) G.A.in1 (collect v) (λvs s1=>∃l',av s s1/\aO V J s1.heap vs l'/\l'.length<64/\iO l'=iO l) Ex s:=by
 have key:aP H x=some l->wpAny (model V.prog V.w) G.A.in1 (collect v) (λvs s1=>∃l',av s s1/\aO V J s1.heap vs l'/\l'.length<64/\iO l'=iO l) Ex s:=λhl=>by refine eB (iK pre.rel hx hl) λa items nn y=>?_;rw[y.eq];refine collect_list ⟨_,y.at_,rfl,_,rfl⟩ ?_ (by rw[y.all.length];exact aH (bG kA) (by decide));have g:av s {s with heap:=(s.heap.push (seqObj "list" #[] 0)).update s.heap.objs.size (Obj.mapSeq (·++items.toArray))}:=(av.mk (λb o e=>(jd _ _ (ei (cZ e))).trans (fk _ e)) rfl rfl);exact⟨l,g,g.j9 y.all,kA,rfl⟩
 cases x with
 |lL ts=>obtain rfl:=sj hl;refine ak hx λa aa f=>?_;clear hx;subst aa;refine eB f.set λes ep t Z=>?_;refine Px (A:=G.A.in1) (pre.hd rfl) Z (by rw[Z.len,aC];exact aH f.len (by decide)) λh' tk dd vs hk hs=>?_;refine ak hs λus h1 h2=>?_;refine ak (Fq h2) λl' e1 e2=>?_;subst e1;refine⟨l'.map .str,(av.mk hk rfl rfl),EU h1 λx hx=>f.ok x (e2.mem_iff.mp hx),by rw[aC,e2.length_eq];rwa[aC] at kA,?_⟩;rw[F6,F6,Bj (Co (V:=V)) ((v3 _ l').trans e2) (FV (Co (V:=V)) l')]
 |_=>first|exact key hl|exact aT hl
def Z5(pre:aq V d true G J U H s)(ok:dR V)(hx:VR V J s.heap v x)(hk:Cq H x=some l)(kA:l.length<64)(hr:iO l=some r):fG V G J s (call (.builtin "sorted") [v]) (.lst r):=by intro Q Ex hq;refine Calls.call_function_entry kind_sorted plain_sorted entry_sorted (args_sorted1 _) ?_;unfold Builtin.«sorted»;refine ag (m:=checkCount "sorted" 1 1 _) (aA ?_);refine ag (cH (UP pre hx hk kA _) (λvs s1 h1=>?_) λO O e=>e);obtain⟨l',g,hv,z,e⟩:=h1;exact ag (cH (O2 (Q:=λv s'=>Q v s') pre.rel g hv z (e.trans hr) λD s' g r=>hq _ s' g r) (λL s2 h2=>ag (cH h2 (λO s3 h3=>aA ⟨_,rfl,h3⟩) λO O e=>e)) λO O e=>e)
theorem W8:∀(ts a:List (List Nat)),(ts.map V.tx).foldl gY (a.map V.tx)=(List.rec (motive:=λO=>List (List Nat)->List (List Nat)) (λa=>a) (λx O ih a=>ih (match bw x a with|true=>a|false=>a++[x])) ts a:List (List Nat)).map V.tx:=by
 intro ts
 induction ts with
 |nil=>intro a;exact rfl
 |cons x ts ih=>
  intro a;show(ts.map V.tx).foldl gY (gY (a.map V.tx) (V.tx x))=_;have e:gY (a.map V.tx) (V.tx x)=(match bw x a with|true=>a|false=>a++[x]).map V.tx:=by
   have h:=Cc (V:=V) x a;unfold gY;cases hm:bw x a with
   |true=>rw[hm,List.any_eq_true] at h;refine ak h λy h1 h2=>?_;rw[if_pos (by rw[<- eq_of_beq h2];exact mB h1)]
   |false=>rw[hm,List.any_eq_false] at h;rw[if_neg λhm=>ak (bj.mp hm) λy h1 h2=>h y h1 (beq_iff_eq.mpr h2),bR];rfl
  rw[e];exact ih _
def PB(ts:List (List Nat)):∀a:List (List Nat),(∀x∈(List.rec (motive:=λO=>List (List Nat)->List (List Nat)) (λa=>a) (λx O ih a=>ih (match bw x a with|true=>a|false=>a++[x])) ts a:List (List Nat)),x∈ts\/x∈a)/\(List.rec (motive:=λO=>List (List Nat)->List (List Nat)) (λa=>a) (λx O ih a=>ih (match bw x a with|true=>a|false=>a++[x])) ts a:List (List Nat)).length<=ts.length+a.length:=by
 induction ts with
 |nil=>exact λa=>⟨λx hx=>.inr hx,Nat.le_add_left ..⟩
 |cons t ts ih=>
  intro a;have:=ih (match bw t a with|true=>a|false=>a++[t]);refine⟨λx hx=>?_,aH this.2 ?_⟩
  ·rcases this.1 x hx with h|h
   ·exact .inl (bI _ h)
   ·cases hm:bw t a with
    |true=>rw[hm] at h;exact .inr h
    |false=>
     rw[hm] at h;rcases hM.mp h with h|h
     ·exact .inr h
     ·exact .inl (fR.mp h▸bz)
  ·cases bw t a with
   |true=>exact nW (jx _) _
   |false=>rw[bu];exact bL (Nat.add_right_comm ts.length 1 a.length).symm
def Z6(pre:aq V d true G J U H s){ts:List (List Nat)}(hx:VR V J s.heap v x)(hl:aP H x=some l)(kA:l.length<64)(ht:jF l=some ts):fG V G J s (call (.type "set") [v]) (.lL (gi ts)):=by
 intro Q Ex hq;refine eB (iK pre.rel hx hl) λa items nn y=>?_;refine ua (Fn y.all ht) λh1 h2=>?_;rw[y.eq];have z:=Fo ht;have sub:=PB ts [];refine Pq (pre.hd rfl) y.at_ h1 (by rw[aC,z];exact jb kA (by decide)) λh' k F hk=>hq _ _ (av.mk hk rfl rfl) ⟨_,rfl,oW.mk ?_ (pre.rel.fresh (aQ _)) (λx hx=>?_) ?_⟩
 ·have e:(ts.map V.tx).foldl gY []=(gi ts).map V.tx:=W8 ts [];exact e▸F
 ·rcases sub.1 x hx with h|h
  ·exact h2 x h
  ·cases h
 ·exact aH sub.2 (by rw[z];exact bG kA)
def ZY(ok:dR V)(pre:aq V d true G J U H s){b:BI}{vx:Value}{r:AV×Hp}(hx:VR V J s.heap vx x)(e:Av b x H=some r):aj V G J s (call (xQ b) [vx]) (.ok r.1 U r.2) (VR V):=by
 cases b with
 |len=>refine ub e λk h1 e=>?_;refine ur e λh2 e=>?_;obtain rfl:=sj e;exact(aac pre ok hx h1 (ic h2)).tri pre
 |abs=>
  refine um e λa h1 aa=>?_;subst aa;refine ue (eT hx h1) λt aa=>?_;subst aa;have:(match fV a 0 with|true=>-a|false=>a)=if a<0 then -a else a:=by
   rw[sG];by_cases h:a<0
   ·rw[decide_eq_true h,if_pos h]
   ·rw[decide_eq_false h,if_neg h]
  show aj V G J s _ (.ok (AV.int (match fV a 0 with|true=>-a|false=>a)) U H) _;rw[this];exact aai.tri pre
 |int=>refine um e λa h1 aa=>?_;subst aa;refine ue (eT hx h1) λt aa=>?_;subst aa;exact aae.tri pre
 |chr=>refine ub e λa h1 e=>?_;refine ub e λn h2 e=>?_;refine ur e λh3 e=>?_;obtain rfl:=sj e;refine us h3 λh3 h4=>?_;have h3:=ic h3;have h4:=bf.mp h4;refine ue (eT hx h1) λt aa=>?_;subst aa;rw[wK h2];obtain⟨c,rfl⟩:∃c,n=65+c:=⟨n-65,(Nat.add_sub_of_le h3).symm⟩;rw[show 65+c-65=c from Nat.add_sub_cancel_left ..];exact(aag (by exact MW ‹_›)).tri pre
 |min=>
  refine ub e λl h1 e=>?_;cases l with
  |nil=>exact aT e
  |cons y ys=>refine um e λw h2 aa=>?_;subst aa;exact(aaa pre hx h1 h2).tri pre
 |set=>refine ub e λl h1 e=>?_;refine ur e λh2 e=>?_;refine um e λts h3 aa=>?_;subst aa;exact(Z6 pre hx h1 (bf.mp h2) h3).tri pre
 |list=>refine ub e λn h1 e=>?_;refine um e λr h2 aa=>?_;subst aa;exact(aab pre ok hx h1 h2).tri pre
 |range=>refine ub e λi h1 e=>?_;refine ur e λh2 e=>?_;refine ue (eT hx h1) λt aa=>?_;subst aa;obtain rfl:=sj e;exact(Z9 pre h2).tri pre
 |sorted=>refine ub e λl h1 e=>?_;refine ur e λh2 e=>?_;refine um e λw h3 aa=>?_;subst aa;exact(Z5 pre ok hx h1 (bf.mp h2) h3).tri pre
 |iter=>refine ub e λn h1 e=>?_;refine um e λl h2 aa=>?_;subst aa;refine ak (ig hx h1) λp aa hp=>?_;subst aa;exact aad pre hp h2
 |tuple=>refine um e λl h1 aa=>?_;subst aa;exact(Z4 pre hx h1).tri pre
 |bool=>refine ub e λn h1 e=>?_;refine um e λl h2 aa=>?_;subst aa;refine ak (ig hx h1) λp aa hp=>?_;subst aa;exact(aah pre hp h2).tri pre
 |_=>exact aT e
def ZX(pre:aq V d true G J U H s){b:BI}{vx vy:Value}{y:AV}{r:AV×Hp}(hx:VR V J s.heap vx x)(hy:VR V J s.heap vy y)(e:Lf b x y H=some r):aj V G J s (call (xQ b) [vx,vy]) (.ok r.1 U r.2) (VR V):=by
 cases b with
 |divmod=>refine ub e λa h1 e=>?_;refine ub e λc h2 e=>?_;refine ue (eT hx h1) λt aa=>?_;subst aa;refine ue (eT hy h2) λu aa=>?_;subst aa;refine ur e λh3 e=>?_;obtain rfl:=sj e;refine us h3 λh3 h4=>?_;exact(aaf pre (zx (iS h3)) (yy h4)).tri pre
 |range=>refine ub e λa h1 e=>?_;refine ub e λc h2 e=>?_;refine ue (eT hx h1) λt aa=>?_;subst aa;refine ue (eT hy h2) λu aa=>?_;subst aa;refine ur e λh3 e=>?_;obtain rfl:=sj e;exact(Z8 pre h3).tri pre
 |zip=>refine ub e λl h1 e=>?_;refine um e λm h2 aa=>?_;subst aa;exact Z3 pre hx hy h1 h2
 |_=>exact aT e
def ZW(ok:dR V)(pre:aq V d true G J U H s){b:BI}{args:List AV}(hs:aO V J s.heap vs args):aj V G J s (call (xQ b) vs) (mF (λH=>xR b args H) U H) (VR V):=aj.A0 λr e=>by
 cases args with
 |nil=>
  subst hs;cases b with
  |set=>obtain rfl:=sj e;exact Z7 pre
  |_=>exact aT e
 |cons x as=>
  obtain⟨vx,r1,rfl,hx,hs⟩:=hs;cases as with
  |nil=>subst hs;exact ZY ok pre hx e
  |cons y as=>
   obtain⟨vy,r2,rfl,hy,hs⟩:=hs;cases as with
   |nil=>subst hs;exact ZX pre hx hy e
   |cons=>exact aT e
end
section
variable {V:Cf}{G:Fm}{φ₀ J:Ph}{s₀ s:Shared}{U:aD}{H:Hp}{d:Nat}{q:Bool}{E:Ev}
structure nO(V:Cf):Prop extends tA V where
 ZO:∀k b,V.P.gt[k]?=some (.bi b)->V.gv k=some (xQ b)
variable {xs:List AV}
def Ap{k:Nat}{g:GE}(hk:V.P.gt[k]?=some g):vY V.P E d (.glob k) xs U H=qc E d k g xs U H:=by show(match ae V.P.gt k with|some g=>qc E d k g xs|none=>M.stuck) U H=_;rw[bY,hk]
variable {vs:List Value}
def JO(ok:nO V)(Sd:lU V E)(pre:aq V d true G J U H s){k:Nat}{fd:FD}{vf:Value}(hk:V.P.gt[k]?=some (.fn fd))(hg:V.gv k=some vf)(hv:aO V J s.heap vs xs):
  tF V G J s vf vs (vY V.P E d (.glob k) xs U H):=by
 rw[Ap hk];show tF V G J s vf vs (xB E d fd xs U H);unfold xB;cases d with
 |zero=>exact λh=>absurd rfl h
 |succ d=>
  dsimp only;cases hb:nz fd xs with
  |none=>exact λh=>absurd rfl h
  |some ρ'=>exact Xg ok.toAG Sd pre hk hg hv hb
def Qo{P:bO}{k:Nat}{fd:FD}{v:AV}{ρ':aD}{H':Hp}(hk:P.gt[k]?=some (.fn fd))(h:vY P E d (.glob k) xs U H=.ok v ρ' H'):ρ'=U:=by
 have h:(match ae P.gt k with|some g=>qc E d k g xs|none=>M.stuck) U H=.ok v ρ' H':=h;rw[bY,hk] at h;have h:xB E d fd xs U H=.ok v ρ' H':=h;unfold xB at h;cases d with
 |zero=>cases h
 |succ d=>
  dsimp only at h;cases hb:nz fd xs with
  |none=>rw[hb] at h;cases h
  |some r=>
   rw[hb] at h;dsimp only at h;generalize d0 (E.s d true) (ss fd.body) r H=z at h;cases z with
   |ok f ρ1 H1=>cases f<;>first|(cases h;rfl)|cases h
   |exc=>cases h
   |stuck=>cases h
def Zz(ok:nO V)(Sd:lU V E)(pre:aq V d true G J U H s){vf:Value}{fv:AV}(hf:VR V J s.heap vf fv)(hv:aO V J s.heap vs xs):
  aj V G J s (call vf vs) (vY V.P E d fv xs U H) (VR V):=by
 cases fv with
 |glob k=>
  have hg:V.gv k=some vf:=hf;cases hk:V.P.gt[k]? with
  |none=>show aj V G J s _ ((match ae V.P.gt k with|some g=>qc E d k g xs|none=>M.stuck) U H) _;rw[bY,hk];exact aj.stuck
  |some g=>
   cases g with
   |fn fd=>exact(JO ok Sd pre hk hg hv).tri
   |cl cd=>rw[Ap hk];exact YW ok.too4 Sd pre hk hg hv
   |bi b=>rw[Ap hk];have:=ok.ZO k b hk;rw[hg] at this;obtain rfl:=sj this;exact ZW ok.todR pre hv
   |_=>rw[Ap hk];exact aj.stuck
 |cK m=>
  show aj V G J s _ (sm m xs U H) _;unfold sm;cases xs with
  |cons=>exact aj.stuck
  |nil=>
   subst hv;dsimp only;cases hi:sL H m with
   |none=>exact aj.stuck
   |some p=>
    dsimp only;cases hl:bq H p.1 with
    |none=>exact aj.stuck
    |some l=>dsimp only;rw[bY];exact Sx pre hf (U6 hi) hl
 |_=>exact aj.stuck
def Ye(ok:nO V)(Sd:lU V E)(pre:aq V d q G J U H s){o args:C}{x:Str}{m:Nat}{ap p:Pos}(h:wf V (.bV o x m args ap p) G.K=true):
  aj V G J s (eval (.Call (.Attribute (aB o) x ap) (bJ args) [] p) G.env) (HE V.P E d q o m args U H) (VR V):=by
 refine yi h λh1 hp hn h2 hl qY=>?_;have hn:=of_decide_eq_true hn;have qY:=bf.mp qY;rw[Tr hp];refine aj.bind pre (Sd.e pre h1) λvo ov ρ1 H1 φ1 s1 n1 p1 r1=>?_;refine TT.imp (λQ E h=>ag (fA h)) ?_;cases hk:nc V.P ov m H1 with
 |none=>
  have e:bX (nc V.P ov m) ρ1 H1=.stuck:=by unfold bX;rw[hk]
  rw[vp e];exact aj.stuck
 |some mk=>
  have e:bX (nc V.P ov m) ρ1 H1=.ok mk ρ1 H1:=by unfold bX;rw[hk]
  rw[tq e];rcases UO p1.rel r1 hk with⟨k,nn,c,cd,fs,rfl,ku⟩|⟨nu,kb⟩
  ·cases q with
   |false=>exact aj.stuck
   |true=>exact NO ok.too4 Sd p1 r1 ku hn h2 hl qY
  ·have T:=Tt (name:=x) ok.toOk Sd.toew p1 r1 kb (λhm=>by
    have:m<10/\m≠4:=by
     cases mk with
     |user k=>cases hm
     |list=>have h:=bf.mp (show Nat.blt m 3=true from hm);exact⟨jb h (by decide),dz (jb h (by decide))⟩
     |dict=>rcases rK.mp (show(Nat.beq m 6||Nat.beq m 7)=true from hm) with h|h<;>cases ck h<;>decide
     |set=>cases ck (show Nat.beq m 8=true from hm);decide
     |str=>cases ck (show Nat.beq m 5=true from hm);decide
    have:=ok.nms m this.1 this.2;rw[hn] at this;exact jA this) h2 hl qY (pos:=p) (o':=aB o) (apos:=ap)
   cases mk with
   |user k=>exact absurd rfl (nu k)
   |_=>exact T
def X9(ok:nO V)(Sd:lU V E)(pre:aq V d q G J U H s){c:C}(h:wf V c G.K=true):aj V G J s (eval (aB c) G.env) (FT V.P E d q c U H) (VR V):=by
 cases c with
 |cst c v k p=>show aj V G J s (eval (.Constant c k p) G.env) (.ok v U H) (VR V);rw[arm_eval_Constant];exact YL pre h
 |var x k p=>exact X6 pre h
 |glob x k p=>exact Yi ok.toOk pre h
 |bin op a b p=>refine us h λh1 h2=>?_;exact Ym Sd.toew pre h1 h2
 |neg a p=>exact Yd Sd.toew pre h
 |not a p=>exact Yc Sd.toew pre h
 |cmp op a b p=>refine jE h λh1 h2 h3=>?_;exact Yk ok.todR Sd.toew pre h1 h2 (iS h3)
 |gX isAnd l p=>refine ua (vN (l:=l) h) λe h=>?_;have:=Kb Sd.toew (pos:=p) (isAnd:=isAnd) (cs l) pre h;rw[<- e] at this;exact this
 |call f args p=>refine pk h λh1 h2 h3 h4=>?_;exact Yl ok.toOk Sd pre h1 h2 h3
 |bV o x m args ap p=>exact Ye ok Sd pre h
 |attr o x a p=>refine jE h λh1 h2 h3=>?_;refine TT.imp (λO O h=>Attribute_any_ h (by rw[arm_eval_Attribute,Lh h2])) (TT.seq (Nx.refl ..) pre (Sd.e pre h1) λvo ov ρ1 H1 φ1 s1 n1 m1 p1 r1=>TT.last m1 ?_);exact(D9 ok.too4).get p1 r1 (of_decide_eq_true h3)
 |sub o i p=>refine jE h λh1 h2 h3=>?_;exact X8 Sd.toew pre h1 h2 (iS h3)
 |iq o lo hi sp p=>refine jE h λh1 h2 h3=>?_;exact Yb Sd.toew pre h1 h2 h3
 |list l r p=>refine us h λh1 h2=>?_;exact Yg Sd.toew pre h1 (ic h2)
 |tup l k p=>refine us h λh1 h2=>?_;exact X7 Sd.toew pre h1 (ic h2)
 |dict i p=>exact Yj pre
 |qU t a b p=>refine jE h λh1 h2 h3=>?_;exact Yh Sd.toew pre h1 h2 h3
 |gen=>exact aj.stuck
 |comp elt tg it ifs sc p=>exact Ka ok.todR Sd.tovB pre h
 |rV t e p=>refine us h λh1 h2=>?_;refine TT.imp (λO O h=>wpAny_NamedExpr h) (TT.seq (Nx.refl ..) pre (Sd.e pre h2) λvo ov ρ1 H1 φ1 s1 n1 m1 p1 r1=>?_);exact TT.seq m1 p1 (Ax p1 h1 r1) λO O ρ2 H2 φ2 s2 n2 m2 p2 r2=>TT.now m2 p2 (n2.vr p1.er r1)
 |_=>exact aj.stuck
def Ot(ok:nO V)(Sd:ew V E)(pre:aq V d q G J U H s){c:C}(h:wf V c G.K=true):aj V G J s (isTrue (aB c) G.env (eval (aB c) G.env)) (FP E d q c U H) (λO O a b=>a=b):=by
 have gen:=Oq Sd pre h;cases c with
 |not a p=>exact Ou Sd pre h
 |cmp op a b p=>refine jE h λh1 h2 h3=>?_;exact Ov ok.todR Sd pre h1 h2 (iS h3)
 |gX isAnd l p=>refine ua (vN (l:=l) h) λe h=>?_;have:=Ow Sd (isAnd:=isAnd) (cs l) pre h;rw[<- e] at this;exact TT.imp (λO O h=>wpAny_isTrue_BoolOp h) this
 |nil=>exact cR h
 |cons=>exact cR h
 |bad=>exact cR h
 |qU=>exact aj.stuck
 |gen=>exact aj.stuck
 |_=>exact gen rfl
def Ox{elt tgt:Expr}{gens:List Comprehension}{sc:Scope}{pos:Pos}{line:Nat}{env:Env}:∃b,swapsWithSole [tgt] (.ListComp elt gens sc pos) line env=pure b:=by cases tgt<;>first|exact⟨_,rfl⟩|exact⟨false,rfl⟩
def R9{ts:C}(h1:sN ts=true)(h2:(cs ts).length=1):∃t,cs ts=[t]/\bJ ts=[aB t]:=by refine ue (List.length_eq_one_iff.mp h2) λt e=>?_;exact⟨t,e,by rw[CA h1,e];rfl⟩
def YO{e:C}{K:Cx}(h:wf V e K=true):(qL (aB e)=true/\qA E d q e=E.e d q e)\/∃elt tg it ifs sc p,e=.comp elt tg it ifs sc p:=by
 cases e with
 |comp elt tg it ifs sc p=>exact .inr ⟨_,_,_,_,_,_,rfl⟩
 |bad=>exact cR h
 |gen=>exact .inl ⟨(nB h).2,rfl⟩
 |_=>exact .inl ⟨rfl,rfl⟩
def PY(ok:nO V)(Sd:lU V E)(pre:aq V d q G J U H s){ts e:C}{pos:Pos}(h1:sN ts=true)(h2:∀t∈cs ts,rU V G.K t=true)(h3:wf V e G.K=true)(h4:(Nat.beq (cs ts).length 1||qL (aB e))=true)(h5:yY (aB e)=true):
  aj V G J s (exec (.Assign (bJ ts) (aB e) pos) G.env) (Ea V.P E d q ts e U H) (d7 V):=by
 have ju:=D9 ok.too4;unfold Ea;rcases YO (E:=E) (d:=d) (q:=q) h3 with⟨hc,he⟩|⟨elt,tg,it,ifs,sc,p,rfl⟩
 ·rw[he];exact Gu ok.todR ju Sd.toew pre h1 h2 (Sd.e pre h3) (O6 hc) h5
 ·have hl:(cs ts).length=1:=by
   rcases rK.mp h4 with h|h
   ·exact ck h
   ·exact cR h
  refine ak (R9 h1 hl) λt e1 e2=>?_;refine ue (Ox (env:=G.env) (elt:=aB elt) (tgt:=aB t) (gens:=⟨aB tg,aB it,bJ ifs,0⟩::iB (bJ elt)) (sc:=sc) (pos:=p) (line:=pos.line)) λb hb=>?_;cases b with
  |false=>exact Gu ok.todR ju Sd.toew pre h1 h2 (m:=vj E d q elt tg it ifs) (Ka ok.todR Sd.tovB pre h3) (by rw[e2];exact hb) h5
  |true=>
   cases q with
   |false=>exact aj.stuck
   |true=>rw[e1,e2];exact PZ ok.todR ju Sd.tovB pre (h2 t (by rw[e1];exact bz)) h3 hb
def PR(ok:nO V)(Sd:lU V E)(pre:aq V d q G J U H s){c:S}(h:vM V c G.K=true):aj V G J s (exec (vO c) G.env) (FQ V.P E d q c U H) (d7 V):=by
 cases c with
 |asg ts e p=>refine A6 h λh1 h2 h3 h4 h5=>?_;rw[fB] at h2;exact PY ok Sd pre h1 h2 h3 h4 h5
 |aug op t e p=>refine us h λh1 h2=>?_;exact PX (D9 ok.too4) Sd.toew pre h2 h1
 |expr e p=>refine us h λh1 h2=>?_;exact PV Sd.toew pre h1 h2
 |iff t a b p=>refine jE h λh1 h2 h3=>?_;exact PT Sd.tovA pre h1 h2 h3
 |ie t a b p=>refine jE h λh1 h2 h3=>?_;exact PO Sd.toxX pre h1 h2 h3
 |loop tg it b p=>
  refine pk h λh1 h2 h3 h4=>?_;cases q with
  |false=>exact aj.stuck
  |true=>exact PU ok.todR Sd.toxX pre h1 h2 h3 h4
 |ret e p=>exact PS Sd.toew pre h
 |brk p=>show aj V G J s (exec (.Break p) G.env) (.ok .brk U H) (d7 V);rw[arm_exec_Break];exact TT.imp (λO O h=>ag (fA (aA h))) (TT.now (Nx.refl ..) pre rfl)
 |cont p=>show aj V G J s (exec (.Continue p) G.env) (.ok .cont U H) (d7 V);rw[arm_exec_Continue];exact TT.imp (λO O h=>ag (fA (aA h))) (TT.now (Nx.refl ..) pre rfl)
 |pass p=>show aj V G J s (exec (.Pass p) G.env) (.ok .next U H) (d7 V);rw[arm_exec_Pass];exact TT.imp (λO O h=>ag (fA (aA h))) (TT.now (Nx.refl ..) pre rfl)
 |tri b x k np hh hp p=>refine pk h λh1 h2 h3 h4=>?_;exact PQ ok.totA Sd.tovA pre h1 h2 h3 (iS h4)
 |del o i sp p=>refine us h λh1 h2=>?_;exact PW Sd.toew pre h1 h2
 |_=>exact aj.stuck
def O8(ok:nO V):∀n,lU V (ev V.P n):=by
 intro n
 induction n with
 |zero=>exact {e:=λO O=>aj.stuck,t:=λO O=>aj.stuck,s:=λO O=>aj.stuck,w:=λO O O O h=>absurd rfl h,f:=λO O O O O O h=>absurd rfl h,cp:=λO O O O O O O O h=>absurd rfl h,xF:=λO O O O h=>absurd rfl h,rho:=λO h=>(nomatch h),call:=λO O O=>aj.stuck}
 |succ n ih=>
  have Sd:=ih;exact {
   e:=λpre h=>X9 ok Sd pre h
   t:=λpre h=>Ot ok Sd.toew pre h
   s:=λpre h=>PR ok Sd pre h
   w:=λpre h1 h2 h3=>NA Sd.toxX pre h1 h2 h3
   f:=λn0 hI pre it h1 h2=>Xx ok.todR Sd.toxX n0 hI pre it h1 h2
   cp:=λn0 hI pre it hD h1 h2 h3=>ZC ok.todR Sd.tovB n0 hI pre it hD h1 h2 h3
   xF:=λpre hk hg hv=>JO ok Sd pre hk hg hv
   rho:=λhk h=>Qo hk h
   call:=λpre hf hv=>Zz ok Sd pre hf hv}
end
noncomputable def zY(h:Heap)(as:List Addr):Frag:=as.filterMap λa=>(h.get? a).map λo=>(a,o)
def WY(h:Heap):∀as:List Addr,(zY h as).In h:=by
 intro as
 induction as with
 |nil=>intro _ _ e;exact nomatch e
 |cons b as ih=>
  intro a o e;unfold zY at e;rw[List.filterMap_cons] at e;cases hb:h.get? b with
  |none=>rw[hb] at e;exact ih a o e
  |some ob=>
   rw[hb] at e;dsimp only[Option.map_some] at e;rw[hW] at e;cases hq:(a==b) with
   |true=>rw[hq] at e;obtain rfl:=sj e;rw[eq_of_beq hq];exact hb
   |false=>rw[hq] at e;exact ih a o e
noncomputable def ob{α:Type}(x:Option α)(f:α->Bool):Bool:=match x with
 |some a=>f a
 |none=>false
noncomputable def sU(h:Heap)(x:Str):Option Value:=match h.nsMap mainGlobals x with
 |some v=>some v
 |none=>h.nsMap builtinsNs x
noncomputable def BB(v:Value):Option Addr:=match v with
 |.ref a=>some a
 |_=>none
noncomputable def Iz(v:Value):Option Int:=match v with
 |.int i _=>some i
 |_=>none
noncomputable def Gl(d:Data):Option (Array Value):=match d with
 |.seq l _=>some l
 |_=>none
noncomputable def JG(d:Data):Option FuncData:=match d with
 |.func f=>some f
 |_=>none
def wA(v:Option Value):Option Addr:=v.bind BB
def pL(v:Option Value):Addr:=(wA v).getD 0
noncomputable def Vh(g:GE):Bool:=match g with
 |.cv _=>true
 |_=>false
noncomputable def Jr(h:Heap):List Str->List GE->List (Option Value)
 |x::xs,g::gs=>(match Vh g with|true=>none|false=>sU h x)::Jr h xs gs
 |_,_=>[]
def Th(h:Heap)(fr:Frag)(p:Str×Str):Option Value:=match findIn fr (.ref (pL (sU h p.1))) p.2 with
 |some v=>v
 |none=>none
structure Tb where
 P:bO
 gl:List Str
 nm:List Str
 ms:List (Str×Str)
 as:List Addr
 pr:Program
def Tb.xu(T:Tb)(h:Heap):List (Option Value):=Jr h T.gl T.P.gt++T.ms.map (Th h (zY h T.as))
noncomputable def wZ(v:Option (Option Value)):Option Value:=match v with
 |some v=>v
 |none=>none
def pT(T:Tb)(w:World)(h:Heap):Cf:={prog:=T.pr,w:=w,h₀:=h,P:=T.P,gl:=T.gl,nm:=T.nm,gv:=λk=>wZ (ae (T.xu h) k),clsAt:=λc=>pL (wZ (ae (T.xu h) c)),fr:=zY h T.as}
noncomputable def xc(v:Option (Option Value))(id:String):Bool:=decide (v=some (some (.builtin id)))
def DX(h:Heap)(v:Value)(fd:FD)(as:List Arg)(va:Option Arg):Bool:=match fd.dflt with
 |[]=>decide (v=.none)
 |d::ds=>d.sA&&ds.isEmpty&&Nat.beq as.length 2&&va.isNone&&decide ((((BB v).bind h.get?).bind λo=>Gl o.data)=some #[.none])
noncomputable def Zf(p:Arguments)(fd:FD):Bool:=p.posonlyargs.isEmpty&&p.kwonlyargs.isEmpty&&p.kwarg.isNone&&Nat.beq fd.npar p.args.length&&decide (fd.va=p.vararg.isSome)
def Zs(V:Cf)(fd:FD)(f:FuncData):Bool:=
 V.h₀.codeRecOk f.code f.qualname&&f.closure.isEmpty&&Nat.beq f.globals mainGlobals&&Nat.beq f.builtins builtinsNs&&Zf f.params fd&&DV f.scope (qI f.params.args f.params.vararg) &&
 DX V.h₀ f.defaults fd f.params.args f.params.vararg&&eW V fd.body (rg f.scope.names (qI f.params.args f.params.vararg))
def Dr(h:Heap)(v:Option Value):Option FuncData:=(wA v).bind λa=>(h.get? a).bind λo=>JG o.data
def KI(V:Cf)(k:Nat)(fd:FD):Bool:=ob (Dr V.h₀ (V.gv k)) (Zs V fd)
def Au(h:Heap)(v:Option Value):FuncBody:=match Dr h v with
 |some f=>f.body
 |none=>.stmts []
noncomputable def CB(g:Option GE):Bool:=match g with
 |some (.fn _)=>true
 |_=>false
def Cz(v:Option Value):Bool:=(wA v).isSome
def KH(V:Cf)(c:Nat)(cd:CD):Bool:=CB (ae V.P.gt cd.init)&&Cz (V.gv cd.init)&&decide (findIn V.fr (.ref (V.clsAt c)) "__init__"=some (V.gv cd.init))&&decide (typeIn V.fr (.ref (pL (V.gv cd.init)))=some (.type "function"))
def KG(V:Cf)(c:Nat)(cd:CD)(x:Str)(k:Nat):Bool:=
 CB (ae V.P.gt k)&&Cz (V.gv k)&&fnIn V.fr (pL (V.gv k))&&decide (findIn V.fr (.ref (V.clsAt c)) x=some (V.gv k))&&decide (typeIn V.fr (.ref (pL (V.gv k)))=some (.type "function")) &&
 xc (specialIn V.fr (.ref (pL (V.gv k))) "__get__") "function.__get__"&&decide (takesIn V.fr (.ref (pL (V.gv k)))=some false)&&cd.bx.all (λa=>!decide (ae V.nm a=some x))&&!copiedNames.contains x&&!cd.slots
noncomputable def DP(V:Cf)(c:Nat)(cd:CD):List (Nat×Nat)->Bool
 |[]=>true
 |p::l=>ob (ae V.nm p.1) (λx=>KG V c cd x p.2)&&DP V c cd l
def KJ(V:Cf)(c j:Nat)(x:Str):Bool:=ob (wA (wZ (findIn V.fr (.ref (V.clsAt c)) x))) λp=>decide (slotIn V.fr p (V.clsAt c)=some j)&&decide (typeIn V.fr (.ref p)=some (.type "member_descriptor"))&&xc (specialIn V.fr (.ref p) "__get__") "member_descriptor.__get__"&&decide (takesIn V.fr (.ref p)=some true)
noncomputable def DW(V:Cf)(c:Nat):Nat->List Nat->Bool
 |_,[]=>true
 |j,a::l=>ob (ae V.nm a) (KJ V c j)&&DW V c (j+1) l
def KD(V:Cf)(c a:Nat):Bool:=ob (ae V.nm a) λx=>decide (findIn V.fr (.ref (V.clsAt c)) x=some none)
def Zj(K:Frag)(C:Addr)(sl:Bool):Bool:=ob (clsIn K C) λk=>decide (k.hasDict=!sl)
def KN(V:Cf)(c:Nat)(cd:CD):Bool:=
 decide (V.gv c=some (.ref (V.clsAt c)))&&makesIn V.fr (V.clsAt c)&&KH V c cd&&xc (findIn V.fr (.ref (V.clsAt c)) "__getattribute__") "object.__getattribute__"&&decide (findIn V.fr (.ref (V.clsAt c)) "__getattr__"=some none) &&
 xc (findIn V.fr (.ref (V.clsAt c)) "__setattr__") "object.__setattr__"&&plainOver V.fr (V.clsAt c)&&Zj V.fr (V.clsAt c) cd.slots&&Nat.ble cd.bx.length 100&&decide ((cd.bx.map (ae V.nm)).Nodup)&&cd.bx.all (λa=>(ae V.nm a).isSome) &&
 (match cd.slots with|true=>DW V c 0 cd.bx|false=>cd.bx.all (KD V c))&&DP V c cd cd.meths
def Kx(h:Heap)(a:Addr)(dt:Data):Bool:=match dt with
 |.cls cd=>decide (cd.mro=.ref a::xP)&&!cd.hasDel&&h.isNs cd.ns&&decide (h.nsMap cd.ns "__init__"=none)
 |_=>false
def Kw(h:Heap)(a:Addr)(o:Obj):Bool:=decide (o.cls=.type "type")&&Kx h a o.data&&Nat.beq o.slots.toList.length 6&&decide (ae o.slots.toList 4=some (some (.builtin "ValueError.__new__")))
def Kz(V:Cf)(k x:Nat):Bool:=match x with
 |0=>decide (V.gv k=some (.type "StopIteration"))
 |y+1=>Nat.beq y k&&decide (V.gv k=some (.ref (V.clsAt k)))&&ob (V.h₀.get? (V.clsAt k)) (Kw V.h₀ (V.clsAt k))
def DU(V:Cf)(k:Nat)(g:GE):Bool:=match g with
 |.fn fd=>KI V k fd
 |.cl cd=>KN V k cd
 |.exc x=>Kz V k x
 |.bi b=>decide (V.gv k=some (xQ b))
 |.cv _=>true
noncomputable def DS(V:Cf):Nat->List GE->Bool
 |_,[]=>true
 |k,g::l=>DU V k g&&DS V (k+1) l
noncomputable def DQ(K:Frag)(v:Option Value):Bool:=match v with
 |none=>true
 |some v=>!decide (v=.none)&&handedIn v&&match v with
  |.builtin _=>true
  |.type _=>true
  |v=>keepIn K v
noncomputable def DT(V:Cf):Nat->List Str->Bool
 |_,[]=>true
 |k,x::l=>ob (sU V.h₀ x) (λv=>ob (ae V.P.gt k) λg=>match g with
   |.cv c=>c.int?.isSome&&decide (Iz v=c.int?)
   |_=>decide (V.gv k=some v))&&DT V (k+1) l
def Zg(nm:List Str)(m:Nat):Bool:=decide (ae nm m=some (y9 m))
def xM(V:Cf)(gvs:List (Option Value)):Bool:=Nat.ble 10 V.h₀.objs.size&&V.h₀.isNs mainGlobals&&V.h₀.isNs builtinsNs&&V.h₀.noLimitOk&&[0,1,2,3,5,6,7,8,9].all (Zg V.nm)&&gvs.all (DQ V.fr)&&DT V 0 V.gl&&DS V 0 V.P.gt
noncomputable def qd:List GE->Nat->List (Nat×FD)
 |[],_=>[]
 |g::l,k=>match g with
  |.fn fd=>(k,fd)::qd l (k+1)
  |_=>qd l (k+1)
def D4(V:Cf):List (Nat×FuncBody):=(qd V.P.gt 0).map λp=>(p.1,Au V.h₀ (V.gv p.1))
section
variable {V:Cf}
def GL{v:Value}{a:Addr}(h:BB v=some a):v=.ref a:=by
 cases v with
 |ref b=>exact congrArg Value.ref (sj h)
 |_=>exact aT h
def BC{v:Option Value}{a:Addr}(h:wA v=some a):v=some (.ref a):=by
 cases v with
 |none=>exact aT h
 |some v=>rw[GL h]
variable {α:Type}
def tN{x:Option α}{f:α->Bool}{G:Prop}(h:ob x f=true)(k:∀a,x=some a->f a=true->G):G:=by
 cases x with
 |none=>exact cR h
 |some a=>exact k a rfl h
def It{v:Option Value}(h:Cz v=true):v=some (.ref (pL v)):=by refine ue (rO.mp h) λa e=>?_;unfold pL;rw[e];exact BC e
def Iw{g:Option GE}(h:CB g=true):∃fd,g=some (.fn fd):=by
 cases g with
 |none=>exact cR h
 |some g=>cases g<;>first|exact⟨_,rfl⟩|exact cR h
variable {v:Option (Option Value)}
def zA{id:String}(h:xc v id=true):v=some (some (.builtin id)):=of_decide_eq_true h
variable {f:FuncData}
def Xi{d:Data}(h:JG d=some f):d=.func f:=by
 cases d with
 |func g=>exact congrArg Data.func (sj h)
 |_=>exact aT h
def PG{d:Data}{l:Array Value}(h:Gl d=some l):∃m,d=.seq l m:=by
 cases d with
 |seq g m=>exact⟨m,by rw[sj h]⟩
 |_=>exact aT h
def Vl{v:Value}{i:Int}(h:Iz v=some i):∃t,v=.int i t:=by
 cases v with
 |int j t=>exact⟨t,by rw[sj h]⟩
 |_=>exact aT h
variable {h:Heap}
def Xu{v:Option Value}(e:Dr h v=some f):∃a o,v=some (.ref a)/\h.get? a=some o/\o.data=.func f:=by refine ub e λa e1 e=>?_;refine ub e λo e2 e=>?_;exact⟨a,o,BC e1,e2,Xi e⟩
def N7:∀l:List α,l.length=2->∃x y,l=[x,y]
 |[x,y],_=>⟨x,y,rfl⟩
def Zt{fd:FD}{as:List Arg}{va:Option Arg}(h:DX V.h₀ f.defaults fd as va=true):Ej V f fd as va:=by
 unfold DX at h;cases e:fd.dflt with
 |nil=>rw[e] at h;exact .none (of_decide_eq_true h) e
 |cons d ds=>
  rw[e] at h;refine A6 h λh1 h2 h3 h4 h5=>?_;have e1:d=.none:=by cases d<;>first|rfl|exact cR h1
  have e2:=List.isEmpty_iff.mp h2;subst e1 e2;refine cb (N7 as (ck h3)) λx y e3=>?_;refine ub (of_decide_eq_true h5) λo e5 h5=>?_;refine ub e5 λT e6 e7=>?_;refine ue (PG h5) λm hd=>?_;exact .one x y T o m e3 (Option.isNone_iff_eq_none.mp h4) e (GL e6) e7 hd
variable {k:Nat}
def Zo{fd:FD}(h:KI V k fd=true)(hb:Au V.h₀ (V.gv k)=.stmts (cT fd.body)):LK V k fd:=by
 unfold Au at hb;refine tN h λf e h=>?_
 ·rw[e] at hb;refine bo (Xu e) λa o e1 e2 e3=>?_;refine E7 h λh1 h2 h3 h4 h5 h6 h7 h8=>?_;refine A6 h5 λp1 p2 p3 p4 p5=>?_;have q1:=List.isEmpty_iff.mp p1;have q2:=List.isEmpty_iff.mp p2;have q3:=Option.isNone_iff_eq_none.mp p3;refine⟨a,o,f,f.params.args,f.params.vararg,f.params.kw_defaults,f.params.defaults,gL.mk e1 e2 e3 hb (.of_ok h1) (List.isEmpty_iff.mp h2) (ck h3) (ck h4) ?_ h6 (ck p4) (of_decide_eq_true p5) (Zt h7) h8⟩;generalize f.params=p at *;cases p;dsimp only at q1 q2 q3;rw[q1,q2,q3]
variable {c:Nat}
def Zk{cd:CD}(h:KH V c cd=true):∃f fd,oV V c cd f fd:=by refine pk h λh1 h2 h3 h4=>?_;have r:=It h2;refine ue (Iw h1) λfd e=>?_;exact⟨_,fd,oV.mk (by rw[<- bY];exact e) (by rw[<- r];exact of_decide_eq_true h3) (of_decide_eq_true h4) r⟩
def Zi{m:Nat}{cd:CD}{x:Str}(hx:ae V.nm m=some x)(h:KG V c cd x k=true):∃x f fd,g6 V c cd m k x f fd:=by
 refine NR h λh1 h2 h3 h4 h5 h6 h7 h8 h9 Dk=>?_;have r:=It h2;refine ue (Iw h1) λfd e=>?_;rw[fB] at h8;exact⟨x,_,fd,g6.mk (by rw[<- bY];exact e) h3 (by rw[<- bY];exact hx) (by rw[<- r];exact of_decide_eq_true h4) (of_decide_eq_true h5) r (zA h6) (of_decide_eq_true h7) (
  λa ha=>by rw[<- bY];exact of_decide_eq_false (iS (h8 a ha))) (iS h9) (iS Dk)⟩
theorem Zh{c:Nat}{cd:CD}:∀{l:List (Nat×Nat)},DP V c cd l=true->∀p∈l,∃x f fd,g6 V c cd p.1 p.2 x f fd:=by
 intro l
 induction l with
 |nil=>intro _ _ hp;exact nomatch hp
 |cons p l ih=>
  intro h q hq;refine us h λh1 h2=>?_;rcases bl.mp hq with rfl|hq
  ·exact tN h1 λx hx h1=>Zi hx h1
  ·exact ih h2 q hq
def U0{x:Value}(h:wZ v=some x):v=some (some x):=by
 cases v with
 |none=>exact aT h
 |some v=>exact congrArg some h
def Zr{j:Nat}{x:Str}(h:KJ V c j x=true):∃p,l6 V c j x p:=by refine tN h λp e0 h=>?_;refine pk h λh1 h2 h3 h4=>?_;exact⟨p,l6.mk (U0 (BC e0)) (of_decide_eq_true h1) (of_decide_eq_true h2) (zA h3) (of_decide_eq_true h4)⟩
theorem Zq{c:Nat}:∀{l:List Nat} {i:Nat},DW V c i l=true->∀j a,l[j]?=some a->∀x,V.nm[a]?=some x->∃p,l6 V c (i+j) x p:=by
 intro l
 induction l with
 |nil=>intro _ _ _ _ e _ _;exact nomatch e
 |cons b l ih=>
  intro i h j a e x hx;refine us h λh1 h2=>?_;cases j with
  |zero=>obtain rfl:=sj e;rw[bY,hx] at h1;exact Zr h1
  |succ j=>have:=ih h2 j a e x hx;rwa[mj,mD 1 j] at this
theorem Tv{β:Type}:∀{l:List (Nat×β)} {a:Nat} {b:β},l.lookup a=some b->(a,b)∈l:=by
 intro l
 induction l with
 |nil=>intro _ _ h;exact nomatch h
 |cons p l ih=>
  intro a b h;rw[hW] at h;cases hq:(a==p.1) with
  |true=>rw[hq] at h;obtain rfl:=sj h;rw[eq_of_beq hq];exact bz
  |false=>rw[hq] at h;exact bI _ (ih h)
theorem SO{α β:Type}{f:α->β}:∀{l:List α},(l.map f).Nodup->∀a∈l,∀b∈l,f a=f b->a=b:=by
 intro l
 induction l with
 |nil=>intro _ _ ha _ _ _;exact nomatch ha
 |cons c l ih=>
  intro h a ha b hb e;rw[bQ,hU] at h;rcases bl.mp ha with e1|ha<;>rcases bl.mp hb with e2|hb
  ·rw[e1,e2]
  ·exact absurd (bj.mpr ⟨b,hb,by rw[<- e,e1]⟩) h.1
  ·exact absurd (bj.mpr ⟨a,ha,by rw[e,e2]⟩) h.1
  ·exact ih h.2 a ha b hb e
theorem SN{α β:Type}{f:α->β}:∀{l:List α},(l.map f).Nodup->l.Nodup:=by
 intro l
 induction l with
 |nil=>intro _;exact pf
 |cons c l ih=>intro h;rw[bQ,hU] at h;exact hU.mpr ⟨λhm=>h.1 (mB hm),ih h.2⟩
def Zu{cd:CD}(h:KN V c cd=true):fP V c cd:=by
 refine NQ h λh1 h2 h3 h4 h5 h6 h7 h8 h9 Dk Jq zU WI=>?_;have nd:=of_decide_eq_true Dk;rw[fB] at Jq;refine(fP.mk (of_decide_eq_true h1) h2 (Zk h3) (zA h4) (of_decide_eq_true h5) (zA h6) h7 ?_ (ic h9) (SN nd) (
  λa ha b hb x e1 e2=>SO nd a ha b hb (by rw[bY,bY,e1,e2])) (λa ha=>?_) (λhs a ha x hx=>?_) (λhs j a e x hx=>?_) (λm k hm=>Zh WI (m,k) (Tv hm)))
 ·exact tN h8 λk e h8=>⟨k,e,of_decide_eq_true h8⟩
 ·have:=Jq a ha;rw[bY] at this;exact rO.mp this
 ·rw[hs] at zU;have:=fB.mp zU a ha;unfold KD at this;rw[bY,hx] at this;exact of_decide_eq_true this
 ·rw[hs] at zU;have:=Zq zU j a e x hx;rwa[dW] at this
def vh{n:Nat}:∀{l:List α},l.length=n+1->∃x r,l=x::r/\r.length=n
 |x::r,h=>⟨x,r,rfl,Nat.succ.inj h⟩
variable {l:List (Option Value)}
def Zb(h:l.length=6)(e:ae l 4=some (some (.builtin "ValueError.__new__"))):∃k0 k1 k2 k3 k5,l=[k0,k1,k2,k3,some (.builtin "ValueError.__new__"),k5]:=by refine dJ (vh h) λk0 l0 aa h0=>?_;subst aa;refine dJ (vh h0) λk1 l1 aa h1=>?_;subst aa;refine dJ (vh h1) λk2 l2 aa h2=>?_;subst aa;refine dJ (vh h2) λk3 l3 aa h3=>?_;subst aa;refine dJ (vh h3) λk4 l4 aa h4=>?_;subst aa;refine dJ (vh h4) λk5 l5 aa h5=>?_;subst aa;cases vJ h5;exact⟨k0,k1,k2,k3,k5,by rw[jA e]⟩
def Zd{h₀:Heap}{C:Addr}{dt:Data}(h:Kx h₀ C dt=true):∃cd,dt=.cls cd/\cd.mro=.ref C::xP/\cd.hasDel=false/\h₀.isNs cd.ns=true/\h₀.nsMap cd.ns "__init__"=none:=by
 cases dt with
 |cls cd=>refine pk h λg1 g2 g3 g4=>?_;exact⟨cd,rfl,of_decide_eq_true g1,iS g2,g3,of_decide_eq_true g4⟩
 |_=>exact cR h
def Su{C:Addr}{o:Obj}{cd:ClassData}{k0 k1 k2 k3 k5:Option Value}(h1:o.cls=.type "type")(h2:o.data=.cls cd)(h3:cd.mro=.ref C::xP)(h4:cd.hasDel=false)(h5:o.slots.toList=[k0,k1,k2,k3,some (.builtin "ValueError.__new__"),k5]):
  o=excClassObj cd.name cd.qualname C cd.ns cd.bases xP cd.hasDict cd.slotNames cd.subclasses cd.abstract cd.collection o.dict k0 k1 k2 k3 k5 "ValueError.__new__":=by
 unfold excClassObj;rw[<- h1,<- h3,<- h4,<- h2,<- h5]
def Zc{o:Obj}(ho:V.h₀.get? (V.clsAt k)=some o)(h:Kw V.h₀ (V.clsAt k) o=true):∃nm q N bs uP sn sub ab col dd k0 k1 k2 k3 k5 mN,LG V k nm q N bs uP sn sub ab col dd k0 k1 k2 k3 k5 mN:=by refine pk h λh1 h2 h3 h4=>?_;refine NW (Zb (ck h3) (of_decide_eq_true h4)) λk0 k1 k2 k3 k5 e=>?_;refine NZ (Zd h2) λcd e2 m1 m2 m3 m4=>?_;refine⟨cd.name,cd.qualname,cd.ns,cd.bases,cd.hasDict,cd.slotNames,cd.subclasses,cd.abstract,cd.collection,o.dict,k0,k1,k2,k3,k5,_,?_,.of_isNs m3,m4⟩;exact ho.trans (congrArg some (Su (of_decide_eq_true h1) e2 m1 m2 e))
def Ze{x:Nat}(h:Kz V k x=true):AH V k x:=by
 cases x with
 |zero=>exact .stop (of_decide_eq_true h)
 |succ y=>refine jE h λh1 h2 h3=>?_;have:=ck h1;subst this;exact tN h3 λo ho h3=>.own (of_decide_eq_true h2) (Zc ho h3)
theorem Zm:∀{l:List GE} {i:Nat},DS V i l=true->∀j g,l[j]?=some g->DU V (i+j) g=true:=by
 intro l
 induction l with
 |nil=>intro _ _ _ _ e;exact nomatch e
 |cons b l ih=>
  intro i h j g e;refine us h λh1 h2=>?_;cases j with
  |zero=>obtain rfl:=sj e;exact h1
  |succ j=>have:=ih h2 j g e;rwa[mj,mD 1 j] at this
def WQ{x:Str}{v:Value}(e:sU h x=some v):h.nsMap mainGlobals x=some v\/(h.nsMap mainGlobals x=none/\h.nsMap builtinsNs x=some v):=by
 unfold sU at e;cases h':h.nsMap mainGlobals x with
 |some v'=>rw[h'] at e;exact .inl e
 |none=>rw[h'] at e;exact .inr ⟨rfl,e⟩
def Vk{c:AV}{i:Int}(h:c.int?=some i):c=.int i:=by
 cases c with
 |int j=>exact congrArg AV.int (sj h)
 |_=>exact aT h
theorem Zn:∀{l:List Str} {i:Nat},DT V i l=true->∀j x,l[j]?=some x->∃v,rF V (i+j) (V.h₀.nsMap mainGlobals) (V.h₀.nsMap builtinsNs) x v:=by
 intro l
 induction l with
 |nil=>intro _ _ _ _ e;exact nomatch e
 |cons b l ih=>
  intro i h j x e;refine us h λh1 h2=>?_;cases j with
  |zero=>
   obtain rfl:=sj e;refine tN h1 λv hv h1=>⟨v,rF.mk (WQ hv) (λg hg=>?_)⟩;have hg:V.P.gt[i]?=some g:=hg;rw[bY,hg] at h1;cases g with
   |cv c=>refine us h1 λh1 h3=>?_;refine ue (rO.mp h1) λi' e1=>?_;refine ue (Vl ((of_decide_eq_true h3).trans e1)) λt e2=>?_;intro J h';rw[e2,Vk e1];exact .lit _ _
   |_=>exact(of_decide_eq_true h1:V.gv i=some v)
  |succ j=>have:=ih h2 j x e;rwa[mj,mD 1 j] at this
theorem Xh:∀{l:List GE} {i j:Nat} {fd:FD},l[j]?=some (.fn fd)->(i+j,fd)∈qd l i:=by
 intro l
 induction l with
 |nil=>exact λe=>aT e
 |cons g l ih=>
  intro i j fd e;cases j with
  |zero=>obtain rfl:=sj e;exact(bz:(i,fd)∈(i,fd)::qd l (i+1))
  |succ j=>
   have:=ih (i:=i+1) (j:=j) e;rw[mj,mD 1 j] at this;cases g with
   |fn f=>exact(bI _ this:_∈(i,f)::qd l (i+1))
   |_=>exact this
def qm(K:Frag)(v:Value):Prop:=(v≠.none)/\(handedIn v=true)/\((∃id,v=.builtin id)\/(∃T,v=.type T)\/keepIn K v=true)
section
variable {b1 b2}(x:qm b1 b2)
def qm.mk:=jn (qm b1 b2) rfl
def qm.nn:=x.1
def qm.hd:=x.2.1
def qm.kp:=x.2.2
end
def Zl{K:Frag}{v:Value}(h:DQ K (some v)=true):qm K v:=by
 unfold DQ at h;refine jE h λh1 h2 h3=>?_;refine(qm.mk (of_decide_eq_false (iS h1)) h2 ?_);cases v with
 |builtin id=>exact .inl ⟨id,rfl⟩
 |type T=>exact .inr (.inl ⟨T,rfl⟩)
 |_=>exact .inr (.inr h3)
def aaY{gvs:List (Option Value)}(h:xM V gvs=true)(p0:V.fr.In V.h₀)(C0:∀k v,V.gv k=some v->some v∈gvs)(hb:D4 V=(qd V.P.gt 0).map λp=>(p.1,.stmts (cT p.2.body))):nO V:=by
 refine E7 h λh1 h2 h3 h4 h5 h6 h7 h8=>?_;have gt:∀k g,V.P.gt[k]?=some g->DU V k g=true:=λk g e=>by have:=Zm h8 k g e;rwa[dW] at this
 have gv:∀k v,V.gv k=some v->qm V.fr v:=λk v e=>Zl (fB.mp h6 _ (C0 k v e));have ZN:∀k fd,V.P.gt[k]?=some (.fn fd)->Au V.h₀ (V.gv k)=.stmts (cT fd.body):=λk fd e=>by have m:=Xh (i:=0) e;rw[dW] at m;have:=List.map_inj_left.mp hb _ m;exact(Prod.mk.inj this).2
 have xw:AF V:=⟨_,_,.of_isNs h2,.of_isNs h3,λk x e=>by have:=Zn h7 k x e;rwa[dW] at this⟩
 have ok:Ok V:=⟨(⟨ic h1,λk e=>(gv k _ e).nn rfl⟩:dR V),xw,p0,λk v e=>(gv k v e).kp,λm hm h4=>by
  have:m∈[0,1,2,3,5,6,7,8,9]:=by
   have:∀m<10,m≠4->m∈[0,1,2,3,5,6,7,8,9]:=by decide
   exact this m hm h4
  have:=fB.mp h5 m this;rw[<- bY];exact of_decide_eq_true this⟩
 exact⟨⟨(⟨(⟨ok,(⟨_,.of_isNs (Bool.and_eq_true_iff.mp h4).1,Option.isNone_iff_eq_none.mp (Bool.and_eq_true_iff.mp h4).2⟩:V.h₀.NoLimit),λk fd e=>Zo (gt k _ e) (ZN k fd e)⟩:AG V),λc cd e=>Zu (gt c _ e),λk v e=>(gv k v e).hd⟩:o4 V),λk x e=>Ze (gt k _ e)⟩,λk b e=>of_decide_eq_true (gt k _ e)⟩
def U1{v:Value}(e:wZ (ae l k)=some v):some v∈l:=by
 rw[bY] at e;cases h:l[k]? with
 |none=>rw[h] at e;exact aT e
 |some w=>rw[h] at e;exact e▸gx h
def Za(T:Tb)(w w':World)(h:Heap)(g:List (Option Value)):xM (pT T w h) g=xM (pT T w' h) g:=by kernel_rfl
def aok(T:Tb){w w':World} 
  (hc:xM (pT T w' h) (T.xu h)=true) (hb:D4 (pT T w' h)=(qd T.P.gt 0).map λp=>(p.1,.stmts (cT p.2.body))):nO (pT T w h):=
 aaY (gvs:=T.xu h) ((Za T w w' h _).trans hc) (WY h _) (λk v e=>U1 e) hb
end
end
section
noncomputable abbrev pw:=PySem.Challenge.pw_ny0272_02
noncomputable def OD(s:Stmt)(n:Nat):List Stmt:=match s with
 |.If _ a b _=>match n with|0=>a|_=>b
 |.While _ a b _=>match n with|0=>a|_=>b
 |.For _ _ a _ _=>a
 |_=>[]
noncomputable def mO:List Stmt->List Nat->Stmt
 |b,i::r=>match r with
  |[]=>(b[i]?).getD (.Pass ⟨0,0,0,0⟩)
  |j::r=>mO (OD ((b[i]?).getD (.Pass ⟨0,0,0,0⟩)) j) r
 |_,[]=>.Pass ⟨0,0,0,0⟩
noncomputable def iW(i:Nat):List Stmt:=match pw.main.body[i]? with
 |some (.FunctionDef _ _ b _ _ _ _ _ _ _)=>b
 |_=>[]
noncomputable def gH(i j:Nat):List Stmt:=match pw.main.body[i]? with
 |some (.ClassDef _ _ _ b _ _ _ _ _ _ _)=>match b[j]? with
  |some (.FunctionDef _ _ b _ _ _ _ _ _ _)=>b
  |_=>[]
 |_=>[]
noncomputable abbrev ps(a b c:Nat):Pos:=⟨a,b,a,c⟩
noncomputable abbrev C.v(x:Str)(k a b c:Nat):C:=.var x k ⟨a,b,a,c⟩
noncomputable abbrev C.g(x:Str)(k a b c:Nat):C:=.glob x k ⟨a,b,a,c⟩
noncomputable abbrev C.u(x:C):C:=.cons x .nil
noncomputable abbrev S.u(x:S):S:=.cons x .nil
noncomputable def f0:FD:=⟨1,false,[],17,(.cons (.asg (.u (.v "rows" 1 263 4 8)) (.call (.g "_law_rows" 1 263 11 20) (.u (.v "script" 0 263 21 27)) (ps 263 11 28)) (ps 263 4 28)) (.cons (.asg (.u (.v "words" 2 264 4 9)) (.comp (.call (.g "_law_text" 4 264 13 22) (.u (.call (.g "Int2AP" 3 264 23 29) (.u (.neg (.call (.g "_law_number" 2 264 31 42) (.u (.v "row" 9 264 43 46)) (ps 264 31 47)) (ps 264 30 47))) (ps 264 23 48))) (ps 264 13 49)) (.v "row" 9 264 54 57) (.v "rows" 1 264 61 65) .nil ⟨.function,[(".0",.local),("row",.local),("_law_text",.globalImplicit),("Int2AP",.globalImplicit),("_law_number",.globalImplicit)],false,false,[]⟩ (ps 264 12 66)) (ps 264 4 66)) (.cons (.iff (.cmp .NotEq (.v "words" 2 265 7 12) (.comp (.call (.g "_law_letters" 5 265 17 29) (.u (.v "row" 10 265 30 33)) (ps 265 17 34)) (.v "row" 10 265 39 42) (.v "rows" 1 265 46 50) .nil ⟨.function,[(".0",.local),("row",.local),("_law_letters",.globalImplicit)],false,false,[]⟩ (ps 265 16 51)) (ps 265 7 51)) (.u (.ret (.cst (.bool false) (.bool false) 0 (ps 266 15 20)) (ps 266 8 20))) .nil ⟨265,4,266,20⟩) (.cons (.asg (.u (.tup (.cons (.v "kept" 3 267 4 8) (.u (.v "cuts" 4 267 10 14))) 0 (ps 267 4 14))) (.call (.g "_law_euclid" 6 267 17 28) (.u (.v "words" 2 267 29 34)) (ps 267 17 35)) (ps 267 4 35)) (.cons (.asg (.u (.tup (.cons (.v "spelled" 5 268 4 11) (.u (.v "told" 6 268 13 17))) 0 (ps 268 4 17))) (.call (.g "_law_spelled" 7 268 20 32) (.cons (.v "kept" 3 268 33 37) (.u (.v "cuts" 4 268 39 43))) (ps 268 20 44)) (ps 268 4 44)) (.cons (.asg (.u (.v "due" 7 269 4 7)) (.comp (.call (.g "_law_pieces" 13 269 11 22) (.cons (.v "row" 11 269 23 26) (.u (.v "line" 12 269 28 32))) (ps 269 11 33)) (.tup (.cons (.v "row" 11 269 38 41) (.u (.v "line" 12 269 43 47))) 0 (ps 269 38 47)) (.call (.g "zip" 34 269 51 54) (.cons (.v "rows" 1 269 55 59) (.u (.call (.g "_law_fold" 12 269 61 70) (.u (.v "rows" 1 269 71 75)) (ps 269 61 76)))) (ps 269 51 77)) .nil ⟨.function,[(".0",.local),("row",.local),("line",.local),("_law_pieces",.globalImplicit)],false,false,[]⟩ (ps 269 10 78)) (ps 269 4 78)) (.cons (.asg (.u (.v "bare" 8 270 4 8)) (.call (.g "sorted" 14 270 11 17) (.u (.call (.g "set" 30 270 18 21) (.u (.comp (.gen (.v "piece" 14 270 51 56) (.v "pieces" 13 270 60 66) (.v "piece" 14 270 23 28)) (.v "pieces" 13 270 33 39) (.v "due" 7 270 43 46) .nil ⟨.function,[(".0",.local),("pieces",.local),("piece",.local)],false,false,[]⟩ (ps 270 22 67))) (ps 270 18 68))) (ps 270 11 69)) (ps 270 4 69)) (.cons (.iff (.gX false (.cons (.cmp .NotEq (.call (.g "sorted" 14 271 7 13) (.u (.v "kept" 3 271 14 18)) (ps 271 7 19)) (.v "bare" 8 271 23 27) (ps 271 7 27)) (.u (.cmp .NotEq (.comp (.bV (.v "spelled" 5 271 32 39) "get" 6 (.u (.v "word" 15 271 44 48)) (ps 271 32 43) (ps 271 32 49)) (.v "word" 15 271 54 58) (.v "words" 2 271 62 67) .nil ⟨.function,[(".0",.local),("word",.local),("spelled",.free)],false,false,[]⟩ (ps 271 31 68)) (.v "due" 7 271 72 75) (ps 271 31 75)))) (ps 271 7 75)) (.u (.ret (.cst (.bool false) (.bool false) 0 (ps 272 15 20)) (ps 272 8 20))) .nil ⟨271,4,272,20⟩) (.u (.ret (.gX true (.cons (.cmp .Eq (.v "told" 6 273 11 15) (.call (.g "_law_longest" 8 273 19 31) (.cons (.v "kept" 3 273 32 36) (.u (.v "cuts" 4 273 38 42))) (ps 273 19 43)) (ps 273 11 43)) (.u (.cmp .Eq (.comp (.v "word" 16 273 49 53) (.v "word" 16 273 58 62) (.v "spelled" 5 273 66 73) (.u (.cmp .NotEq (.bV (.cst (.str "") (.str []) 0 (ps 273 77 79)) "join" 5 (.u (.sub (.v "spelled" 5 273 85 92) (.v "word" 16 273 93 97) (ps 273 85 98))) (ps 273 77 84) (ps 273 77 99)) (.v "word" 16 273 103 107) (ps 273 77 107))) ⟨.function,[(".0",.local),("word",.local),("spelled",.free)],false,false,[]⟩ (ps 273 48 108)) (.list .nil false (ps 273 112 114)) (ps 273 48 114)))) (ps 273 11 114)) (ps 273 4 114)))))))))))⟩
noncomputable def f1:FD:=⟨1,false,[],9,(.cons (.asg (.u (.v "drawn" 1 170 4 9)) (.bin .Add (.iq (.v "script" 0 170 12 18) .nil (.cst (.int 4) (.int 4) 0 (ps 170 20 21)) (ps 170 19 21) (ps 170 12 22)) (.iq (.list (.cons (.cst (.int 0) (.int 0) 0 (ps 170 26 27)) (.cons (.cst (.int 1) (.int 1) 0 (ps 170 29 30)) (.cons (.cst (.int 4) (.int 4) 0 (ps 170 32 33)) (.u (.cst (.int 14) (.int 14) 0 (ps 170 35 37)))))) false (ps 170 25 38)) (.call (.g "len" 10 170 39 42) (.u (.iq (.v "script" 0 170 43 49) .nil (.cst (.int 4) (.int 4) 0 (ps 170 51 52)) (ps 170 50 52) (ps 170 43 53))) (ps 170 39 54)) .nil (ps 170 39 55) (ps 170 25 56)) (ps 170 12 56)) (ps 170 4 56)) (.cons (.asg (.u (.v "first" 2 171 4 9)) (.call (.g "abs" 15 171 12 15) (.u (.sub (.v "drawn" 1 171 16 21) (.cst (.int 0) (.int 0) 0 (ps 171 22 23)) (ps 171 16 24))) (ps 171 12 25)) (ps 171 4 25)) (.cons (.asg (.u (.v "high" 3 172 4 8)) (.bin .Add (.cst (.int 1) (.int 1) 0 (ps 172 11 12)) (.bin .Mod (.v "first" 2 172 15 20) (.cst (.int 15) (.int 15) 0 (ps 172 23 25)) (ps 172 15 25)) (ps 172 11 25)) (ps 172 4 25)) (.cons (.asg (.u (.v "pieces" 4 173 4 10)) (.list (.cons (.list (.u (.v "high" 3 173 15 19)) false (ps 173 14 20)) (.u (.list (.cons (.v "high" 3 173 23 27) (.u (.bin .Mod (.bin .FloorDiv (.v "first" 2 173 29 34) (.cst (.int 15) (.int 15) 0 (ps 173 38 40)) (ps 173 29 40)) (.cst (.int 16) (.int 16) 0 (ps 173 43 45)) (ps 173 29 45)))) false (ps 173 22 46)))) false (ps 173 13 47)) (ps 173 4 47)) (.cons (.asg (.u (.v "rows" 5 174 4 8)) (.list .nil true (ps 174 11 13)) (ps 174 4 13)) (.cons (.loop (.v "x" 6 175 8 9) (.iq (.v "drawn" 1 175 13 18) (.cst (.int 1) (.int 1) 0 (ps 175 19 20)) .nil (ps 175 19 21) (ps 175 13 22)) (.cons (.asg (.u (.v "row" 7 176 8 11)) (.list .nil false (ps 176 14 16)) (ps 176 8 16)) (.cons (.loop (.v "k" 8 177 12 13) (.call (.g "range" 11 177 17 22) (.u (.bin .Add (.cst (.int 1) (.int 1) 0 (ps 177 23 24)) (.bin .Mod (.call (.g "abs" 15 177 27 30) (.u (.v "x" 6 177 31 32)) (ps 177 27 33)) (.cst (.int 3) (.int 3) 0 (ps 177 36 37)) (ps 177 27 37)) (ps 177 23 37))) (ps 177 17 38)) (.u (.asg (.u (.v "row" 7 178 12 15)) (.bin .Add (.v "row" 7 178 18 21) (.sub (.v "pieces" 4 178 24 30) (.bin .Mod (.bin .FloorDiv (.bin .FloorDiv (.call (.g "abs" 15 178 31 34) (.u (.v "x" 6 178 35 36)) (ps 178 31 37)) (.cst (.int 3) (.int 3) 0 (ps 178 41 42)) (ps 178 31 42)) (.bin .Pow (.cst (.int 2) (.int 2) 0 (ps 178 46 47)) (.v "k" 8 178 51 52) (ps 178 46 52)) (ps 178 31 52)) (.cst (.int 2) (.int 2) 0 (ps 178 55 56)) (ps 178 31 56)) (ps 178 24 57)) (ps 178 18 57)) (ps 178 12 57))) ⟨177,8,178,57⟩) (.u (.expr (.bV (.v "rows" 5 179 8 12) "append" 0 (.u (.v "row" 7 179 20 23)) (ps 179 8 19) (ps 179 8 24)) (ps 179 8 24))))) ⟨175,4,179,24⟩) (.u (.ret (.v "rows" 5 180 11 15) (ps 180 4 15)))))))))⟩
def f2:FD:=⟨1,false,[],3,(.cons (.asg (.u (.v "number" 1 182 4 10)) (.cst (.int 0) (.int 0) 0 (ps 182 13 14)) (ps 182 4 14)) (.cons (.loop (.v "figure" 2 183 8 14) (.v "row" 0 183 18 21) (.u (.asg (.u (.v "number" 1 184 8 14)) (.bin .Add (.bin .Mult (.cst (.int 16) (.int 16) 0 (ps 184 17 19)) (.v "number" 1 184 22 28) (ps 184 17 28)) (.v "figure" 2 184 31 37) (ps 184 17 37)) (ps 184 8 37))) ⟨183,4,184,37⟩) (.u (.ret (.v "number" 1 185 11 17) (ps 185 4 17)))))⟩
def f3:FD:=⟨1,false,[],4,(.cons (.asg (.u (.v "val" 1 161 4 7)) (.cst (.bytes []) (.cj []) 0 (ps 161 10 13)) (ps 161 4 13)) (.cons (.asg (.u (.v "AP" 2 162 4 6)) (.cst (.bytes [65,66,67,68,69,70,71,72,73,74,75,76,77,78,79,80]) (.cj [0,1,2,3,4,5,6,7,8,9,10,11,12,13,14,15]) 0 (ps 162 9 28)) (ps 162 4 28)) (.cons (.asg (.u (.v "num" 0 163 4 7)) (.call (.g "int" 17 163 10 13) (.u (.call (.g "abs" 15 163 14 17) (.u (.v "num" 0 163 18 21)) (ps 163 14 22))) (ps 163 10 23)) (ps 163 4 23)) (.cons (.ie (.v "num" 0 164 10 13) (.cons (.asg (.u (.tup (.cons (.v "num" 0 165 8 11) (.u (.v "mod" 3 165 13 16))) 0 (ps 165 8 16))) (.call (.g "divmod" 18 165 19 25) (.cons (.v "num" 0 165 26 29) (.u (.cst (.int 16) (.int 16) 0 (ps 165 31 33)))) (ps 165 19 34)) (ps 165 8 34)) (.u (.asg (.u (.v "val" 1 166 8 11)) (.bin .Add (.iq (.v "AP" 2 166 14 16) (.v "mod" 3 166 17 20) (.bin .Add (.v "mod" 3 166 21 24) (.cst (.int 1) (.int 1) 0 (ps 166 27 28)) (ps 166 21 28)) (ps 166 17 28) (ps 166 14 29)) (.v "val" 1 166 32 35) (ps 166 14 35)) (ps 166 8 35)))) .nil ⟨164,4,166,35⟩) (.u (.ret (.v "val" 1 167 11 14) (ps 167 4 14)))))))⟩
def f4:FD:=⟨1,false,[],2,(.u (.ret (.bV (.cst (.str "") (.str []) 0 (ps 189 11 13)) "join" 5 (.u (.comp (.call (.g "chr" 19 189 20 23) (.u (.v "octet" 1 189 24 29)) (ps 189 20 30)) (.v "octet" 1 189 35 40) (.v "word" 0 189 44 48) .nil ⟨.function,[(".0",.local),("octet",.local),("chr",.globalImplicit)],false,false,[]⟩ (ps 189 19 49))) (ps 189 11 18) (ps 189 11 50)) (ps 189 4 50)))⟩
def f5:FD:=⟨1,false,[],2,(.u (.ret (.bV (.cst (.str "") (.str []) 0 (ps 187 11 13)) "join" 5 (.u (.comp (.sub (.cst (.str "ABCDEFGHIJKLMNOP") (.str [0,1,2,3,4,5,6,7,8,9,10,11,12,13,14,15]) 0 (ps 187 20 38)) (.v "figure" 1 187 39 45) (ps 187 20 46)) (.v "figure" 1 187 51 57) (.v "row" 0 187 61 64) .nil ⟨.function,[(".0",.local),("figure",.local)],false,false,[]⟩ (ps 187 19 65))) (ps 187 11 18) (ps 187 11 66)) (ps 187 4 66)))⟩
def f6:FD:=⟨1,false,[],11,(.cons (.asg (.u (.v "heap" 1 191 4 8)) (.list .nil true (ps 191 11 13)) (ps 191 4 13)) (.cons (.loop (.v "word" 2 192 8 12) (.v "words" 0 192 16 21) (.u (.expr (.call (.g "heappush" 20 193 8 16) (.cons (.v "heap" 1 193 17 21) (.u (.tup (.cons (.call (.g "len" 10 193 24 27) (.u (.v "word" 2 193 28 32)) (ps 193 24 33)) (.u (.v "word" 2 193 35 39))) 0 (ps 193 23 40)))) (ps 193 8 41)) (ps 193 8 41))) ⟨192,4,193,41⟩) (.cons (.asg (.u (.v "kept" 3 194 4 8)) (.list .nil false (ps 194 11 13)) (ps 194 4 13)) (.cons (.asg (.u (.v "cuts" 4 195 4 8)) (.dict false (ps 195 11 13)) (ps 195 4 13)) (.cons (.ie (.v "heap" 1 196 10 14) (.cons (.asg (.u (.tup (.cons (.v "size" 5 197 8 12) (.u (.v "word" 2 197 14 18))) 0 (ps 197 8 18))) (.call (.g "heappop" 21 197 21 28) (.u (.v "heap" 1 197 29 33)) (ps 197 21 34)) (ps 197 8 34)) (.u (.iff (.gX true (.cons (.cmp .NotIn (.v "word" 2 198 11 15) (.v "cuts" 4 198 23 27) (ps 198 11 27)) (.u (.cmp .NotIn (.v "word" 2 198 32 36) (.v "kept" 3 198 44 48) (ps 198 32 48)))) (ps 198 11 48)) (.cons (.asg (.u (.v "begins" 7 199 12 18)) (.comp (.v "one" 9 199 22 25) (.v "one" 9 199 30 33) (.v "kept" 3 199 37 41) (.u (.cmp .Eq (.iq (.v "word" 2 199 45 49) .nil (.call (.g "len" 10 199 51 54) (.u (.v "one" 9 199 55 58)) (ps 199 51 59)) (ps 199 50 59) (ps 199 45 60)) (.v "one" 9 199 64 67) (ps 199 45 67))) ⟨.function,[(".0",.local),("one",.local),("len",.globalImplicit),("word",.free)],false,false,[]⟩ (ps 199 21 68)) (ps 199 12 68)) (.u (.iff (.cmp .NotEq (.v "begins" 7 200 15 21) (.list .nil false (ps 200 25 27)) (ps 200 15 27)) (.cons (.asg (.u (.v "rest" 8 201 16 20)) (.iq (.v "word" 2 201 23 27) (.call (.g "len" 10 201 28 31) (.u (.sub (.v "begins" 7 201 32 38) (.cst (.int 0) (.int 0) 0 (ps 201 39 40)) (ps 201 32 41))) (ps 201 28 42)) .nil (ps 201 28 43) (ps 201 23 44)) (ps 201 16 44)) (.cons (.asg (.u (.sub (.v "cuts" 4 202 16 20) (.v "word" 2 202 21 25) (ps 202 16 26))) (.list (.cons (.sub (.v "begins" 7 202 30 36) (.cst (.int 0) (.int 0) 0 (ps 202 37 38)) (ps 202 30 39)) (.u (.v "rest" 8 202 41 45))) false (ps 202 29 46)) (ps 202 16 46)) (.u (.expr (.call (.g "heappush" 20 203 16 24) (.cons (.v "heap" 1 203 25 29) (.u (.tup (.cons (.call (.g "len" 10 203 32 35) (.u (.v "rest" 8 203 36 40)) (ps 203 32 41)) (.u (.v "rest" 8 203 43 47))) 0 (ps 203 31 48)))) (ps 203 16 49)) (ps 203 16 49))))) (.cons (.loop (.v "one" 6 205 20 23) (.v "kept" 3 205 27 31) (.u (.iff (.cmp .Eq (.iq (.v "one" 6 206 23 26) .nil (.v "size" 5 206 28 32) (ps 206 27 32) (ps 206 23 33)) (.v "word" 2 206 37 41) (ps 206 23 41)) (.u (.expr (.call (.g "heappush" 20 207 24 32) (.cons (.v "heap" 1 207 33 37) (.u (.tup (.cons (.call (.g "len" 10 207 40 43) (.u (.v "one" 6 207 44 47)) (ps 207 40 48)) (.u (.v "one" 6 207 50 53))) 0 (ps 207 39 54)))) (ps 207 24 55)) (ps 207 24 55))) .nil ⟨206,20,207,55⟩)) ⟨205,16,207,55⟩) (.u (.asg (.u (.v "kept" 3 208 16 20)) (.bin .Add (.comp (.v "one" 10 208 24 27) (.v "one" 10 208 32 35) (.v "kept" 3 208 39 43) (.u (.cmp .NotEq (.iq (.v "one" 10 208 47 50) .nil (.v "size" 5 208 52 56) (ps 208 51 56) (ps 208 47 57)) (.v "word" 2 208 61 65) (ps 208 47 65))) ⟨.function,[(".0",.local),("one",.local),("size",.free),("word",.free)],false,false,[]⟩ (ps 208 23 66)) (.list (.u (.v "word" 2 208 70 74)) false (ps 208 69 75)) (ps 208 23 75)) (ps 208 16 75)))) ⟨200,12,208,75⟩))) .nil ⟨198,8,208,75⟩))) .nil ⟨196,4,208,75⟩) (.u (.ret (.tup (.cons (.v "kept" 3 209 12 16) (.u (.v "cuts" 4 209 18 22))) 0 (ps 209 11 23)) (ps 209 4 23))))))))⟩
noncomputable def f7:FD:=⟨2,false,[],8,(.cons (.asg (.u (.v "sorter" 2 211 4 10)) (.call (.g "TopologicalSorter" 22 211 13 30) .nil (ps 211 13 32)) (ps 211 4 32)) (.cons (.loop (.v "word" 3 212 8 12) (.v "kept" 0 212 16 20) (.u (.expr (.bV (.v "sorter" 2 213 8 14) "add" 8 (.u (.v "word" 3 213 19 23)) (ps 213 8 18) (ps 213 8 24)) (ps 213 8 24))) ⟨212,4,213,24⟩) (.cons (.loop (.v "word" 3 214 8 12) (.v "cuts" 1 214 16 20) (.u (.expr (.bV (.v "sorter" 2 215 8 14) "add" 8 (.cons (.v "word" 3 215 19 23) (.u (.star (.sub (.v "cuts" 1 215 26 30) (.v "word" 3 215 31 35) (ps 215 26 36)) (ps 215 25 36)))) (ps 215 8 18) (ps 215 8 37)) (ps 215 8 37))) ⟨214,4,215,37⟩) (.cons (.expr (.bV (.v "sorter" 2 216 4 10) "prepare" 10 .nil (ps 216 4 18) (ps 216 4 20)) (ps 216 4 20)) (.cons (.asg (.u (.v "spelled" 4 217 4 11)) (.dict false (ps 217 14 16)) (ps 217 4 16)) (.cons (.asg (.u (.v "told" 5 218 4 8)) (.list .nil true (ps 218 11 13)) (ps 218 4 13)) (.cons (.asg (.u (.v "heap" 6 219 4 8)) (.list .nil true (ps 219 11 13)) (ps 219 4 13)) (.cons (.ie (.bV (.v "sorter" 2 220 10 16) "is_active" 11 .nil (ps 220 10 26) (ps 220 10 28)) (.cons (.loop (.v "word" 3 221 12 16) (.bV (.v "sorter" 2 221 20 26) "get_ready" 12 .nil (ps 221 20 36) (ps 221 20 38)) (.u (.expr (.call (.g "heappush" 20 222 12 20) (.cons (.v "heap" 6 222 21 25) (.u (.tup (.cons (.neg (.call (.g "len" 10 222 29 32) (.u (.v "word" 3 222 33 37)) (ps 222 29 38)) (ps 222 28 38)) (.u (.v "word" 3 222 40 44))) 0 (ps 222 27 45)))) (ps 222 12 46)) (ps 222 12 46))) ⟨221,8,222,46⟩) (.cons (.asg (.u (.tup (.cons (.v "size" 7 223 8 12) (.u (.v "word" 3 223 14 18))) 0 (ps 223 8 18))) (.call (.g "heappop" 21 223 21 28) (.u (.v "heap" 6 223 29 33)) (ps 223 21 34)) (ps 223 8 34)) (.cons (.expr (.bV (.v "told" 5 224 8 12) "append" 0 (.u (.v "word" 3 224 20 24)) (ps 224 8 19) (ps 224 8 25)) (ps 224 8 25)) (.cons (.asg (.u (.sub (.v "spelled" 4 225 8 15) (.v "word" 3 225 16 20) (ps 225 8 21))) (.list (.u (.v "word" 3 225 25 29)) false (ps 225 24 30)) (ps 225 8 30)) (.cons (.iff (.cmp .In (.v "word" 3 226 11 15) (.v "cuts" 1 226 19 23) (ps 226 11 23)) (.u (.asg (.u (.sub (.v "spelled" 4 227 12 19) (.v "word" 3 227 20 24) (ps 227 12 25))) (.bin .Add (.bV (.v "spelled" 4 227 28 35) "get" 6 (.cons (.sub (.sub (.v "cuts" 1 227 40 44) (.v "word" 3 227 45 49) (ps 227 40 50)) (.cst (.int 0) (.int 0) 0 (ps 227 51 52)) (ps 227 40 53)) (.u (.list .nil false (ps 227 55 57)))) (ps 227 28 39) (ps 227 28 58)) (.bV (.v "spelled" 4 227 61 68) "get" 6 (.cons (.sub (.sub (.v "cuts" 1 227 73 77) (.v "word" 3 227 78 82) (ps 227 73 83)) (.cst (.int 1) (.int 1) 0 (ps 227 84 85)) (ps 227 73 86)) (.u (.list .nil false (ps 227 88 90)))) (ps 227 61 72) (ps 227 61 91)) (ps 227 28 91)) (ps 227 12 91))) .nil ⟨226,8,227,91⟩) (.u (.expr (.bV (.v "sorter" 2 228 8 14) "done" 13 (.u (.v "word" 3 228 20 24)) (ps 228 8 19) (ps 228 8 25)) (ps 228 8 25)))))))) .nil ⟨220,4,228,25⟩) (.u (.ret (.tup (.cons (.v "spelled" 4 229 12 19) (.u (.v "told" 5 229 21 25))) 0 (ps 229 11 26)) (ps 229 4 26)))))))))))⟩
def f8:FD:=⟨2,false,[],8,(.cons (.asg (.u (.v "left" 2 231 4 8)) (.bin .Add (.v "kept" 0 231 11 15) (.call (.g "list" 33 231 18 22) (.u (.v "cuts" 1 231 23 27)) (ps 231 18 28)) (ps 231 11 28)) (ps 231 4 28)) (.cons (.asg (.u (.v "order" 3 232 4 9)) (.list .nil true (ps 232 12 14)) (ps 232 4 14)) (.cons (.ie (.cmp .NotEq (.v "left" 2 233 10 14) (.list .nil false (ps 233 18 20)) (ps 233 10 20)) (.cons (.asg (.u (.v "free" 4 234 8 12)) (.comp (.tup (.cons (.neg (.call (.g "len" 10 234 18 21) (.u (.v "word" 5 234 22 26)) (ps 234 18 27)) (ps 234 17 27)) (.u (.v "word" 5 234 29 33))) 0 (ps 234 16 34)) (.v "word" 5 234 39 43) (.v "left" 2 234 47 51) (.u (.cmp .Eq (.comp (.v "part" 6 234 56 60) (.v "part" 6 234 65 69) (.bV (.v "cuts" 1 234 73 77) "get" 6 (.cons (.v "word" 5 234 82 86) (.u (.list .nil false (ps 234 88 90)))) (ps 234 73 81) (ps 234 73 91)) (.u (.cmp .NotIn (.v "part" 6 234 95 99) (.v "order" 3 234 107 112) (ps 234 95 112))) ⟨.function,[(".0",.local),("part",.local),("order",.free)],false,false,[]⟩ (ps 234 55 113)) (.list .nil false (ps 234 117 119)) (ps 234 55 119))) ⟨.function,[(".0",.local),("word",.local),("len",.globalImplicit),("cuts",.free),("order",.free)],false,false,[]⟩ (ps 234 15 120)) (ps 234 8 120)) (.cons (.iff (.cmp .Eq (.v "free" 4 235 11 15) (.list .nil false (ps 235 19 21)) (ps 235 11 21)) (.u (.ret (.list .nil false (ps 236 19 21)) (ps 236 12 21))) .nil ⟨235,8,236,21⟩) (.cons (.expr (.bV (.v "order" 3 237 8 13) "append" 0 (.u (.sub (.call (.g "min" 16 237 21 24) (.u (.v "free" 4 237 25 29)) (ps 237 21 30)) (.cst (.int 1) (.int 1) 0 (ps 237 31 32)) (ps 237 21 33))) (ps 237 8 20) (ps 237 8 34)) (ps 237 8 34)) (.u (.asg (.u (.v "left" 2 238 8 12)) (.comp (.v "word" 7 238 16 20) (.v "word" 7 238 25 29) (.v "left" 2 238 33 37) (.u (.cmp .NotEq (.v "word" 7 238 41 45) (.sub (.v "order" 3 238 49 54) (.neg (.cst (.int 1) (.int 1) 0 (ps 238 56 57)) (ps 238 55 57)) (ps 238 49 58)) (ps 238 41 58))) ⟨.function,[(".0",.local),("word",.local),("order",.free)],false,false,[]⟩ (ps 238 15 59)) (ps 238 8 59)))))) .nil ⟨233,4,238,59⟩) (.u (.ret (.v "order" 3 239 11 16) (ps 239 4 16))))))⟩
def f9:FD:=⟨2,false,[],7,(.cons (.asg (.u (.v "ahead" 2 241 4 9)) (.dict true (ps 241 12 14)) (ps 241 4 14)) (.cons (.loop (.tup (.cons (.v "row" 3 242 8 11) (.u (.v "line" 4 242 13 17))) 0 (ps 242 8 17)) (.call (.g "zip" 34 242 21 24) (.cons (.v "rows" 0 242 25 29) (.u (.v "marks" 1 242 31 36))) (ps 242 21 37)) (.u (.loop (.v "k" 5 243 12 13) (.call (.g "range" 11 243 17 22) (.u (.call (.g "len" 10 243 23 26) (.u (.v "row" 3 243 27 30)) (ps 243 23 31))) (ps 243 17 32)) (.cons (.asg (.u (.v "way" 6 244 12 15)) (.bin .Add (.bin .Mult (.sub (.v "line" 4 244 18 22) (.v "k" 5 244 23 24) (ps 244 18 25)) (.cst (.int 16) (.int 16) 0 (ps 244 28 30)) (ps 244 18 30)) (.sub (.v "row" 3 244 33 36) (.v "k" 5 244 37 38) (ps 244 33 39)) (ps 244 18 39)) (ps 244 12 39)) (.u (.iff (.cmp .NotIn (.v "way" 6 245 15 18) (.v "ahead" 2 245 26 31) (ps 245 15 31)) (.u (.asg (.u (.sub (.v "ahead" 2 246 16 21) (.v "way" 6 246 22 25) (ps 246 16 26))) (.sub (.v "line" 4 246 29 33) (.bin .Add (.v "k" 5 246 34 35) (.cst (.int 1) (.int 1) 0 (ps 246 38 39)) (ps 246 34 39)) (ps 246 29 40)) (ps 246 16 40))) (.u (.iff (.cmp .NotEq (.sub (.v "ahead" 2 247 17 22) (.v "way" 6 247 23 26) (ps 247 17 27)) (.sub (.v "line" 4 247 31 35) (.bin .Add (.v "k" 5 247 36 37) (.cst (.int 1) (.int 1) 0 (ps 247 40 41)) (ps 247 36 41)) (ps 247 31 42)) (ps 247 17 42)) (.u (.ret (.call (.g "sorted" 14 248 23 29) (.u (.list (.cons (.sub (.v "ahead" 2 248 31 36) (.v "way" 6 248 37 40) (ps 248 31 41)) (.u (.sub (.v "line" 4 248 43 47) (.bin .Add (.v "k" 5 248 48 49) (.cst (.int 1) (.int 1) 0 (ps 248 52 53)) (ps 248 48 53)) (ps 248 43 54)))) false (ps 248 30 55))) (ps 248 23 56)) (ps 248 16 56))) .nil ⟨247,12,248,56⟩)) ⟨245,12,248,56⟩))) ⟨243,8,248,56⟩)) ⟨242,4,248,56⟩) (.u (.ret (.list .nil false (ps 249 11 13)) (ps 249 4 13)))))⟩
def u0:FD:=⟨1,false,[],7,(.cons (.asg (.u (.v "marks" 1 251 4 9)) (.list .nil true (ps 251 12 14)) (ps 251 4 14)) (.cons (.loop (.v "row" 2 252 8 11) (.v "rows" 0 252 15 19) (.u (.expr (.bV (.v "marks" 1 253 8 13) "append" 0 (.u (.bin .Add (.bin .Add (.list (.u (.cst (.int 0) (.int 0) 0 (ps 253 22 23))) false (ps 253 21 24)) (.comp (.bin .Add (.bin .Mult (.cst (.int 100) (.int 100) 0 (ps 253 28 31)) (.bin .Add (.call (.g "len" 10 253 35 38) (.u (.v "marks" 1 253 39 44)) (ps 253 35 45)) (.cst (.int 1) (.int 1) 0 (ps 253 48 49)) (ps 253 35 49)) (ps 253 28 50)) (.v "k" 4 253 53 54) (ps 253 28 54)) (.v "k" 4 253 59 60) (.call (.g "range" 11 253 64 69) (.cons (.cst (.int 1) (.int 1) 0 (ps 253 70 71)) (.u (.call (.g "len" 10 253 73 76) (.u (.v "row" 2 253 77 80)) (ps 253 73 81)))) (ps 253 64 82)) .nil ⟨.function,[(".0",.local),("k",.local),("len",.globalImplicit),("marks",.free)],false,false,[]⟩ (ps 253 27 83)) (ps 253 21 83)) (.list (.u (.cst (.int 0) (.int 0) 0 (ps 253 87 88))) false (ps 253 86 89)) (ps 253 21 89))) (ps 253 8 20) (ps 253 8 90)) (ps 253 8 90))) ⟨252,4,253,90⟩) (.cons (.asg (.u (.v "pair" 3 254 4 8)) (.call (.g "_law_clash" 9 254 11 21) (.cons (.v "rows" 0 254 22 26) (.u (.v "marks" 1 254 28 33))) (ps 254 11 34)) (ps 254 4 34)) (.cons (.ie (.cmp .NotEq (.v "pair" 3 255 10 14) (.list .nil false (ps 255 18 20)) (ps 255 10 20)) (.cons (.asg (.u (.v "marks" 1 256 8 13)) (.comp (.comp (.qU (.cmp .Eq (.v "mark" 6 256 29 33) (.sub (.v "pair" 3 256 37 41) (.cst (.int 1) (.int 1) 0 (ps 256 42 43)) (ps 256 37 44)) (ps 256 29 44)) (.sub (.v "pair" 3 256 18 22) (.cst (.int 0) (.int 0) 0 (ps 256 23 24)) (ps 256 18 25)) (.v "mark" 6 256 50 54) (ps 256 18 54)) (.v "mark" 6 256 59 63) (.v "line" 5 256 67 71) .nil ⟨.function,[(".0",.local),("mark",.local),("pair",.free)],false,false,[]⟩ (ps 256 17 72)) (.v "line" 5 256 77 81) (.v "marks" 1 256 85 90) .nil ⟨.function,[(".0",.local),("line",.local),("pair",.free)],false,false,[]⟩ (ps 256 16 91)) (ps 256 8 91)) (.u (.asg (.u (.v "pair" 3 257 8 12)) (.call (.g "_law_clash" 9 257 15 25) (.cons (.v "rows" 0 257 26 30) (.u (.v "marks" 1 257 32 37))) (ps 257 15 38)) (ps 257 8 38)))) .nil ⟨255,4,257,38⟩) (.u (.ret (.v "marks" 1 258 11 16) (ps 258 4 16)))))))⟩
def uZ:FD:=⟨2,false,[],6,(.cons (.asg (.u (.v "home" 2 260 4 8)) (.comp (.v "k" 3 260 12 13) (.v "k" 3 260 18 19) (.call (.g "range" 11 260 23 28) (.u (.call (.g "len" 10 260 29 32) (.u (.v "line" 1 260 33 37)) (ps 260 29 38))) (ps 260 23 39)) (.u (.cmp .Eq (.sub (.v "line" 1 260 43 47) (.v "k" 3 260 48 49) (ps 260 43 50)) (.cst (.int 0) (.int 0) 0 (ps 260 54 55)) (ps 260 43 55))) ⟨.function,[(".0",.local),("k",.local),("line",.free)],false,false,[]⟩ (ps 260 11 56)) (ps 260 4 56)) (.u (.ret (.comp (.call (.g "_law_letters" 5 261 12 24) (.u (.iq (.v "row" 0 261 25 28) (.v "a" 4 261 29 30) (.v "b" 5 261 31 32) (ps 261 29 32) (ps 261 25 33))) (ps 261 12 34)) (.tup (.cons (.v "a" 4 261 39 40) (.u (.v "b" 5 261 42 43))) 0 (ps 261 39 43)) (.call (.g "zip" 34 261 47 50) (.cons (.v "home" 2 261 51 55) (.u (.iq (.v "home" 2 261 57 61) (.cst (.int 1) (.int 1) 0 (ps 261 62 63)) .nil (ps 261 62 64) (ps 261 57 65)))) (ps 261 47 66)) .nil ⟨.function,[(".0",.local),("a",.local),("b",.local),("_law_letters",.globalImplicit),("row",.free)],false,false,[]⟩ (ps 261 11 67)) (ps 261 4 67))))⟩
def JT:FD:=⟨2,false,[],2,(.cons (.expr (.bV (.v "heap" 0 6 4 8) "append" 0 (.u (.v "item" 1 6 16 20)) (ps 6 4 15) (ps 6 4 21)) (ps 6 4 21)) (.u (.expr (.call (.g "_siftdown" 23 7 4 13) (.cons (.v "heap" 0 7 14 18) (.cons (.cst (.int 0) (.int 0) 0 (ps 7 20 21)) (.u (.bin .Sub (.call (.g "len" 10 7 23 26) (.u (.v "heap" 0 7 27 31)) (ps 7 23 32)) (.cst (.int 1) (.int 1) 0 (ps 7 35 36)) (ps 7 23 36))))) (ps 7 4 37)) (ps 7 4 37))))⟩
def xG:FD:=⟨1,false,[],3,(.cons (.asg (.u (.v "lastelt" 1 9 4 11)) (.bV (.v "heap" 0 9 14 18) "pop" 1 .nil (ps 9 14 22) (ps 9 14 24)) (ps 9 4 24)) (.cons (.iff (.v "heap" 0 10 7 11) (.cons (.asg (.u (.v "returnitem" 2 11 8 18)) (.sub (.v "heap" 0 11 21 25) (.cst (.int 0) (.int 0) 0 (ps 11 26 27)) (ps 11 21 28)) (ps 11 8 28)) (.cons (.asg (.u (.sub (.v "heap" 0 12 8 12) (.cst (.int 0) (.int 0) 0 (ps 12 13 14)) (ps 12 8 15))) (.v "lastelt" 1 12 18 25) (ps 12 8 25)) (.cons (.expr (.call (.g "_siftup" 24 13 8 15) (.cons (.v "heap" 0 13 16 20) (.u (.cst (.int 0) (.int 0) 0 (ps 13 22 23)))) (ps 13 8 24)) (ps 13 8 24)) (.u (.ret (.v "returnitem" 2 14 15 25) (ps 14 8 25)))))) .nil ⟨10,4,14,25⟩) (.u (.ret (.v "lastelt" 1 15 11 18) (ps 15 4 18)))))⟩
def sY:FD:=⟨3,false,[],6,(.cons (.asg (.u (.v "newitem" 3 17 4 11)) (.sub (.v "heap" 0 17 14 18) (.v "pos" 2 17 19 22) (ps 17 14 23)) (ps 17 4 23)) (.cons (.ie (.cmp .Gt (.v "pos" 2 18 10 13) (.v "startpos" 1 18 16 24) (ps 18 10 24)) (.cons (.asg (.u (.v "parentpos" 4 19 8 17)) (.bin .RShift (.bin .Sub (.v "pos" 2 19 20 23) (.cst (.int 1) (.int 1) 0 (ps 19 26 27)) (ps 19 20 27)) (.cst (.int 1) (.int 1) 0 (ps 19 31 32)) (ps 19 20 32)) (ps 19 8 32)) (.cons (.asg (.u (.v "parent" 5 20 8 14)) (.sub (.v "heap" 0 20 17 21) (.v "parentpos" 4 20 22 31) (ps 20 17 32)) (ps 20 8 32)) (.cons (.iff (.cmp .Lt (.v "newitem" 3 21 11 18) (.v "parent" 5 21 21 27) (ps 21 11 27)) (.cons (.asg (.u (.sub (.v "heap" 0 22 12 16) (.v "pos" 2 22 17 20) (ps 22 12 21))) (.v "parent" 5 22 24 30) (ps 22 12 30)) (.cons (.asg (.u (.v "pos" 2 23 12 15)) (.v "parentpos" 4 23 18 27) (ps 23 12 27)) (.u (.cont (ps 24 12 20))))) .nil ⟨21,8,24,20⟩) (.u (.brk (ps 25 8 13)))))) .nil ⟨18,4,25,13⟩) (.u (.asg (.u (.sub (.v "heap" 0 26 4 8) (.v "pos" 2 26 9 12) (ps 26 4 13))) (.v "newitem" 3 26 16 23) (ps 26 4 23)))))⟩
def rj:FD:=⟨2,false,[],7,(.cons (.asg (.u (.v "endpos" 2 28 4 10)) (.call (.g "len" 10 28 13 16) (.u (.v "heap" 0 28 17 21)) (ps 28 13 22)) (ps 28 4 22)) (.cons (.asg (.u (.v "startpos" 3 29 4 12)) (.v "pos" 1 29 15 18) (ps 29 4 18)) (.cons (.asg (.u (.v "newitem" 4 30 4 11)) (.sub (.v "heap" 0 30 14 18) (.v "pos" 1 30 19 22) (ps 30 14 23)) (ps 30 4 23)) (.cons (.asg (.u (.v "childpos" 5 31 4 12)) (.bin .Add (.bin .Mult (.cst (.int 2) (.int 2) 0 (ps 31 15 16)) (.v "pos" 1 31 19 22) (ps 31 15 22)) (.cst (.int 1) (.int 1) 0 (ps 31 25 26)) (ps 31 15 26)) (ps 31 4 26)) (.cons (.ie (.cmp .Lt (.v "childpos" 5 32 10 18) (.v "endpos" 2 32 21 27) (ps 32 10 27)) (.cons (.asg (.u (.v "rightpos" 6 33 8 16)) (.bin .Add (.v "childpos" 5 33 19 27) (.cst (.int 1) (.int 1) 0 (ps 33 30 31)) (ps 33 19 31)) (ps 33 8 31)) (.cons (.iff (.gX true (.cons (.cmp .Lt (.v "rightpos" 6 34 11 19) (.v "endpos" 2 34 22 28) (ps 34 11 28)) (.u (.not (.cmp .Lt (.sub (.v "heap" 0 34 38 42) (.v "childpos" 5 34 43 51) (ps 34 38 52)) (.sub (.v "heap" 0 34 55 59) (.v "rightpos" 6 34 60 68) (ps 34 55 69)) (ps 34 38 69)) (ps 34 34 69)))) (ps 34 11 70)) (.u (.asg (.u (.v "childpos" 5 35 12 20)) (.v "rightpos" 6 35 23 31) (ps 35 12 31))) .nil ⟨34,8,35,31⟩) (.cons (.asg (.u (.sub (.v "heap" 0 36 8 12) (.v "pos" 1 36 13 16) (ps 36 8 17))) (.sub (.v "heap" 0 36 20 24) (.v "childpos" 5 36 25 33) (ps 36 20 34)) (ps 36 8 34)) (.cons (.asg (.u (.v "pos" 1 37 8 11)) (.v "childpos" 5 37 14 22) (ps 37 8 22)) (.u (.asg (.u (.v "childpos" 5 38 8 16)) (.bin .Add (.bin .Mult (.cst (.int 2) (.int 2) 0 (ps 38 19 20)) (.v "pos" 1 38 23 26) (ps 38 19 26)) (.cst (.int 1) (.int 1) 0 (ps 38 29 30)) (ps 38 19 30)) (ps 38 8 30))))))) .nil ⟨32,4,38,30⟩) (.cons (.asg (.u (.sub (.v "heap" 0 39 4 8) (.v "pos" 1 39 9 12) (ps 39 4 13))) (.v "newitem" 4 39 16 23) (ps 39 4 23)) (.u (.expr (.call (.g "_siftdown" 23 40 4 13) (.cons (.v "heap" 0 40 14 18) (.cons (.v "startpos" 3 40 20 28) (.u (.v "pos" 1 40 30 33)))) (ps 40 4 34)) (ps 40 4 34)))))))))⟩
def JS:FD:=⟨2,false,[.none],4,(.cons (.asg (.u (.attr (.v "self" 0 56 8 12) "_node2info" 14 (ps 56 8 23))) (.dict false (ps 56 26 28)) (ps 56 8 28)) (.cons (.asg (.u (.attr (.v "self" 0 57 8 12) "_ready_nodes" 15 (ps 57 8 25))) (.cst .none .none 0 (ps 57 28 32)) (ps 57 8 32)) (.cons (.asg (.u (.attr (.v "self" 0 58 8 12) "_npassedout" 16 (ps 58 8 24))) (.cst (.int 0) (.int 0) 0 (ps 58 27 28)) (ps 58 8 28)) (.cons (.asg (.u (.attr (.v "self" 0 59 8 12) "_nfinished" 17 (ps 59 8 23))) (.cst (.int 0) (.int 0) 0 (ps 59 26 27)) (ps 59 8 27)) (.u (.iff (.cmp .IsNot (.v "graph" 1 60 11 16) (.cst .none .none 0 (ps 60 24 28)) (ps 60 11 28)) (.u (.loop (.tup (.cons (.v "node" 2 61 16 20) (.u (.v "predecessors" 3 61 22 34))) 0 (ps 61 16 34)) (.bV (.v "graph" 1 61 38 43) "items" 18 .nil (ps 61 38 49) (ps 61 38 51)) (.u (.expr (.bV (.v "self" 0 62 16 20) "add" 8 (.cons (.v "node" 2 62 25 29) (.u (.star (.v "predecessors" 3 62 32 44) (ps 62 31 44)))) (ps 62 16 24) (ps 62 16 45)) (ps 62 16 45))) ⟨61,12,62,45⟩)) .nil ⟨60,8,62,45⟩))))))⟩
def Dv:FD:=⟨2,false,[],3,(.cons (.iff (.cmp .Is (.rV (.v "result" 2 65 12 18) (.bV (.attr (.v "self" 0 65 22 26) "_node2info" 14 (ps 65 22 37)) "get" 6 (.u (.v "node" 1 65 42 46)) (ps 65 22 41) (ps 65 22 47)) (ps 65 12 47)) (.cst .none .none 0 (ps 65 52 56)) (ps 65 11 56)) (.u (.asg (.cons (.sub (.attr (.v "self" 0 66 12 16) "_node2info" 14 (ps 66 12 27)) (.v "node" 1 66 28 32) (ps 66 12 33)) (.u (.v "result" 2 66 36 42))) (.call (.g "_NodeInfo" 25 66 45 54) (.u (.v "node" 1 66 55 59)) (ps 66 45 60)) (ps 66 12 60))) .nil ⟨65,8,66,60⟩) (.u (.ret (.v "result" 2 67 15 21) (ps 67 8 21))))⟩
def z7:FD:=⟨2,true,[],6,(.cons (.iff (.cmp .IsNot (.attr (.v "self" 0 70 11 15) "_ready_nodes" 15 (ps 70 11 28)) (.cst .none .none 0 (ps 70 36 40)) (ps 70 11 40)) (.u (.bad (mO (gH 11 2) [0,0,0]))) .nil ⟨70,8,71,79⟩) (.cons (.asg (.u (.v "nodeinfo" 3 72 8 16)) (.bV (.v "self" 0 72 19 23) "_get_nodeinfo" 19 (.u (.v "node" 1 72 38 42)) (ps 72 19 37) (ps 72 19 43)) (ps 72 8 43)) (.cons (.aug .Add (.attr (.v "nodeinfo" 3 73 8 16) "npredecessors" 20 (ps 73 8 30)) (.call (.g "len" 10 73 34 37) (.u (.v "predecessors" 2 73 38 50)) (ps 73 34 51)) (ps 73 8 51)) (.u (.loop (.v "pred" 4 74 12 16) (.v "predecessors" 2 74 20 32) (.cons (.asg (.u (.v "pred_info" 5 75 12 21)) (.bV (.v "self" 0 75 24 28) "_get_nodeinfo" 19 (.u (.v "pred" 4 75 43 47)) (ps 75 24 42) (ps 75 24 48)) (ps 75 12 48)) (.u (.expr (.bV (.attr (.v "pred_info" 5 76 12 21) "successors" 21 (ps 76 12 32)) "append" 0 (.u (.v "node" 1 76 40 44)) (ps 76 12 39) (ps 76 12 45)) (ps 76 12 45)))) ⟨74,8,76,45⟩)))))⟩
def Du:FD:=⟨1,false,[],3,(.cons (.iff (.cmp .IsNot (.attr (.v "self" 0 79 11 15) "_ready_nodes" 15 (ps 79 11 28)) (.cst .none .none 0 (ps 79 36 40)) (ps 79 11 40)) (.u (.bad (mO (gH 11 3) [0,0,0]))) .nil ⟨79,8,80,63⟩) (.cons (.asg (.u (.attr (.v "self" 0 81 8 12) "_ready_nodes" 15 (ps 81 8 25))) (.comp (.attr (.v "i" 2 81 29 30) "node" 22 (ps 81 29 35)) (.v "i" 2 81 40 41) (.bV (.attr (.v "self" 0 81 45 49) "_node2info" 14 (ps 81 45 60)) "values" 7 .nil (ps 81 45 67) (ps 81 45 69)) (.u (.cmp .Eq (.attr (.v "i" 2 81 73 74) "npredecessors" 20 (ps 81 73 88)) (.cst (.int 0) (.int 0) 0 (ps 81 92 93)) (ps 81 73 93))) ⟨.function,[(".0",.local),("i",.local)],false,false,[]⟩ (ps 81 28 94)) (ps 81 8 94)) (.cons (.asg (.u (.v "cycle" 1 82 8 13)) (.bV (.v "self" 0 82 16 20) "_find_cycle" 23 .nil (ps 82 16 32) (ps 82 16 34)) (ps 82 8 34)) (.u (.iff (.v "cycle" 1 83 11 16) (.u (.bad (mO (gH 11 3) [3,0,0]))) .nil ⟨83,8,84,60⟩)))))⟩
def z6:FD:=⟨1,false,[],4,(.cons (.iff (.cmp .Is (.attr (.v "self" 0 87 11 15) "_ready_nodes" 15 (ps 87 11 28)) (.cst .none .none 0 (ps 87 32 36)) (ps 87 11 36)) (.u (.bad (mO (gH 11 4) [0,0,0]))) .nil ⟨87,8,88,62⟩) (.cons (.asg (.u (.v "result" 1 89 8 14)) (.call (.g "tuple" 26 89 17 22) (.u (.attr (.v "self" 0 89 23 27) "_ready_nodes" 15 (ps 89 23 40))) (ps 89 17 41)) (ps 89 8 41)) (.cons (.asg (.u (.v "n2i" 2 90 8 11)) (.attr (.v "self" 0 90 14 18) "_node2info" 14 (ps 90 14 29)) (ps 90 8 29)) (.cons (.loop (.v "node" 3 91 12 16) (.v "result" 1 91 20 26) (.u (.asg (.u (.attr (.sub (.v "n2i" 2 92 12 15) (.v "node" 3 92 16 20) (ps 92 12 21)) "npredecessors" 20 (ps 92 12 35))) (.g "_NODE_OUT" 27 92 38 47) (ps 92 12 47))) ⟨91,8,92,47⟩) (.cons (.expr (.bV (.attr (.v "self" 0 93 8 12) "_ready_nodes" 15 (ps 93 8 25)) "clear" 2 .nil (ps 93 8 31) (ps 93 8 33)) (ps 93 8 33)) (.cons (.aug .Add (.attr (.v "self" 0 94 8 12) "_npassedout" 16 (ps 94 8 24)) (.call (.g "len" 10 94 28 31) (.u (.v "result" 1 94 32 38)) (ps 94 28 39)) (ps 94 8 39)) (.u (.ret (.v "result" 1 95 15 21) (ps 95 8 21)))))))))⟩
def JR:FD:=⟨1,false,[],1,(.cons (.iff (.cmp .Is (.attr (.v "self" 0 98 11 15) "_ready_nodes" 15 (ps 98 11 28)) (.cst .none .none 0 (ps 98 32 36)) (ps 98 11 36)) (.u (.bad (mO (gH 11 5) [0,0,0]))) .nil ⟨98,8,99,62⟩) (.u (.ret (.gX false (.cons (.cmp .Lt (.attr (.v "self" 0 100 15 19) "_nfinished" 17 (ps 100 15 30)) (.attr (.v "self" 0 100 33 37) "_npassedout" 16 (ps 100 33 49)) (ps 100 15 49)) (.u (.call (.g "bool" 28 100 53 57) (.u (.attr (.v "self" 0 100 58 62) "_ready_nodes" 15 (ps 100 58 75))) (ps 100 53 76)))) (ps 100 15 76)) (ps 100 8 76))))⟩
def uY:FD:=⟨1,true,[],8,(.cons (.iff (.cmp .Is (.attr (.v "self" 0 106 11 15) "_ready_nodes" 15 (ps 106 11 28)) (.cst .none .none 0 (ps 106 32 36)) (ps 106 11 36)) (.u (.bad (mO (gH 11 7) [0,0,0]))) .nil ⟨106,8,107,62⟩) (.cons (.asg (.u (.v "n2i" 2 108 8 11)) (.attr (.v "self" 0 108 14 18) "_node2info" 14 (ps 108 14 29)) (ps 108 8 29)) (.u (.loop (.v "node" 3 109 12 16) (.v "nodes" 1 109 20 25) (.cons (.iff (.cmp .Is (.rV (.v "nodeinfo" 4 110 16 24) (.bV (.v "n2i" 2 110 28 31) "get" 6 (.u (.v "node" 3 110 36 40)) (ps 110 28 35) (ps 110 28 41)) (ps 110 16 41)) (.cst .none .none 0 (ps 110 46 50)) (ps 110 15 50)) (.u (.bad (mO (gH 11 7) [2,0,0,0,0]))) .nil ⟨110,12,111,76⟩) (.cons (.asg (.u (.v "stat" 5 112 12 16)) (.attr (.v "nodeinfo" 4 112 19 27) "npredecessors" 20 (ps 112 19 41)) (ps 112 12 41)) (.cons (.iff (.cmp .NotEq (.v "stat" 5 113 15 19) (.g "_NODE_OUT" 27 113 23 32) (ps 113 15 32)) (.u (.iff (.cmp .GtE (.v "stat" 5 114 19 23) (.cst (.int 0) (.int 0) 0 (ps 114 27 28)) (ps 114 19 28)) (.u (.bad (mO (gH 11 7) [2,0,2,0,0,0,0]))) (.u (.iff (.cmp .Eq (.v "stat" 5 116 21 25) (.g "_NODE_DONE" 29 116 29 39) (ps 116 21 39)) (.u (.bad (mO (gH 11 7) [2,0,2,0,0,1,0,0,0]))) (.u (.bad (mO (gH 11 7) [2,0,2,0,0,1,0,1,0]))) ⟨116,16,119,73⟩)) ⟨114,16,119,73⟩)) .nil ⟨113,12,119,73⟩) (.cons (.asg (.u (.attr (.v "nodeinfo" 4 120 12 20) "npredecessors" 20 (ps 120 12 34))) (.g "_NODE_DONE" 29 120 37 47) (ps 120 12 47)) (.cons (.loop (.v "successor" 6 121 16 25) (.attr (.v "nodeinfo" 4 121 29 37) "successors" 21 (ps 121 29 48)) (.cons (.asg (.u (.v "successor_info" 7 122 16 30)) (.sub (.v "n2i" 2 122 33 36) (.v "successor" 6 122 37 46) (ps 122 33 47)) (ps 122 16 47)) (.cons (.aug .Sub (.attr (.v "successor_info" 7 123 16 30) "npredecessors" 20 (ps 123 16 44)) (.cst (.int 1) (.int 1) 0 (ps 123 48 49)) (ps 123 16 49)) (.u (.iff (.cmp .Eq (.attr (.v "successor_info" 7 124 19 33) "npredecessors" 20 (ps 124 19 47)) (.cst (.int 0) (.int 0) 0 (ps 124 51 52)) (ps 124 19 52)) (.u (.expr (.bV (.attr (.v "self" 0 125 20 24) "_ready_nodes" 15 (ps 125 20 37)) "append" 0 (.u (.v "successor" 6 125 45 54)) (ps 125 20 44) (ps 125 20 55)) (ps 125 20 55))) .nil ⟨124,16,125,55⟩)))) ⟨121,12,125,55⟩) (.u (.aug .Add (.attr (.v "self" 0 126 12 16) "_nfinished" 17 (ps 126 12 27)) (.cst (.int 1) (.int 1) 0 (ps 126 31 32)) (ps 126 12 32)))))))) ⟨109,8,126,32⟩))))⟩
def Dt:FD:=⟨1,false,[],7,(.cons (.asg (.u (.v "n2i" 1 129 8 11)) (.attr (.v "self" 0 129 14 18) "_node2info" 14 (ps 129 14 29)) (ps 129 8 29)) (.cons (.asg (.u (.v "stack" 2 130 8 13)) (.list .nil true (ps 130 16 18)) (ps 130 8 18)) (.cons (.asg (.u (.v "itstack" 3 131 8 15)) (.list .nil true (ps 131 18 20)) (ps 131 8 20)) (.cons (.asg (.u (.v "seen" 4 132 8 12)) (.call (.g "set" 30 132 15 18) .nil (ps 132 15 20)) (ps 132 8 20)) (.cons (.asg (.u (.v "node2stacki" 5 133 8 19)) (.dict false (ps 133 22 24)) (ps 133 8 24)) (.cons (.loop (.v "node" 6 134 12 16) (.v "n2i" 1 134 20 23) (.cons (.iff (.cmp .In (.v "node" 6 135 15 19) (.v "seen" 4 135 23 27) (ps 135 15 27)) (.u (.cont (ps 136 16 24))) .nil ⟨135,12,136,24⟩) (.u (.ie (.cst (.bool true) (.bool true) 0 (ps 137 18 22)) (.cons (.iff (.cmp .In (.v "node" 6 138 19 23) (.v "seen" 4 138 27 31) (ps 138 19 31)) (.u (.iff (.cmp .In (.v "node" 6 139 23 27) (.v "node2stacki" 5 139 31 42) (ps 139 23 42)) (.u (.ret (.bin .Add (.iq (.v "stack" 2 140 31 36) (.sub (.v "node2stacki" 5 140 37 48) (.v "node" 6 140 49 53) (ps 140 37 54)) .nil (ps 140 37 55) (ps 140 31 56)) (.list (.u (.v "node" 6 140 60 64)) false (ps 140 59 65)) (ps 140 31 65)) (ps 140 24 65))) .nil ⟨139,20,140,65⟩)) (.cons (.expr (.bV (.v "seen" 4 142 20 24) "add" 8 (.u (.v "node" 6 142 29 33)) (ps 142 20 28) (ps 142 20 34)) (ps 142 20 34)) (.cons (.expr (.bV (.v "itstack" 3 143 20 27) "append" 0 (.u (.attr (.call (.g "iter" 31 143 35 39) (.u (.attr (.sub (.v "n2i" 1 143 40 43) (.v "node" 6 143 44 48) (ps 143 40 49)) "successors" 21 (ps 143 40 60))) (ps 143 35 61)) "__next__" 9 (ps 143 35 70))) (ps 143 20 34) (ps 143 20 71)) (ps 143 20 71)) (.cons (.asg (.u (.sub (.v "node2stacki" 5 144 20 31) (.v "node" 6 144 32 36) (ps 144 20 37))) (.call (.g "len" 10 144 40 43) (.u (.v "stack" 2 144 44 49)) (ps 144 40 50)) (ps 144 20 50)) (.u (.expr (.bV (.v "stack" 2 145 20 25) "append" 0 (.u (.v "node" 6 145 33 37)) (ps 145 20 32) (ps 145 20 38)) (ps 145 20 38)))))) ⟨138,16,145,38⟩) (.u (.ie (.v "stack" 2 146 22 27) (.u (.tri (.cons (.asg (.u (.v "node" 6 148 24 28)) (.call (.sub (.v "itstack" 3 148 31 38) (.neg (.cst (.int 1) (.int 1) 0 (ps 148 40 41)) (ps 148 39 41)) (ps 148 31 42)) .nil (ps 148 31 44)) (ps 148 24 44)) (.u (.brk (ps 149 24 29)))) "StopIteration" 32 (ps 150 27 40) (.cons (.del (.v "node2stacki" 5 151 28 39) (.bV (.v "stack" 2 151 40 45) "pop" 1 .nil (ps 151 40 49) (ps 151 40 51)) (ps 151 28 52) (ps 151 24 52)) (.u (.expr (.bV (.v "itstack" 3 152 24 31) "pop" 1 .nil (ps 152 24 35) (ps 152 24 37)) (ps 152 24 37)))) ⟨150,20,152,37⟩ ⟨147,20,152,37⟩)) (.u (.brk (ps 154 20 25))) ⟨146,16,154,25⟩))) .nil ⟨137,12,154,25⟩))) ⟨134,8,154,25⟩) (.u (.ret (.cst .none .none 0 (ps 155 15 19)) (ps 155 8 19)))))))))⟩
def JQ:FD:=⟨2,false,[],2,(.cons (.asg (.u (.attr (.v "self" 0 48 8 12) "node" 22 (ps 48 8 17))) (.v "node" 1 48 20 24) (ps 48 8 24)) (.cons (.asg (.u (.attr (.v "self" 0 49 8 12) "npredecessors" 20 (ps 49 8 26))) (.cst (.int 0) (.int 0) 0 (ps 49 29 30)) (ps 49 8 30)) (.u (.asg (.u (.attr (.v "self" 0 50 8 12) "successors" 21 (ps 50 8 23))) (.list .nil true (ps 50 26 28)) (ps 50 8 28)))))⟩
def P:bO:=⟨[.fn f0,.fn f1,.fn f2,.fn f3,.fn f4,.fn f5,.fn f6,.fn f7,.fn f8,.fn f9,.bi .len,.bi .range,.fn u0,.fn uZ,.bi .sorted,.bi .abs,.bi .min,.bi .int,.bi .divmod,.bi .chr,.fn JT,.fn xG,.cl ⟨35,false,[(19,36),(8,37),(10,38),(12,39),(11,40),(13,41),(23,42)],[14,15,16,17]⟩,.fn sY,.fn rj,.cl ⟨43,true,[],[22,20,21]⟩,.bi .tuple,.cv (.int (-1)),.bi .bool,.cv (.int (-2)),.bi .set,.bi .iter,.exc 0,.bi .list,.bi .zip,.fn JS,.fn Dv,.fn z7,.fn Du,.fn z6,.fn JR,.fn uY,.fn Dt,.fn JQ]⟩
noncomputable def gl:List Str:=[("law":Str),("_law_rows":Str),("_law_number":Str),("Int2AP":Str),("_law_text":Str),("_law_letters":Str),("_law_euclid":Str),("_law_spelled":Str),("_law_longest":Str),("_law_clash":Str),("len":Str),("range":Str),("_law_fold":Str),("_law_pieces":Str),("sorted":Str),("abs":Str),("min":Str),("int":Str),("divmod":Str),("chr":Str),("heappush":Str),("heappop":Str),("TopologicalSorter":Str),("_siftdown":Str),("_siftup":Str),("_NodeInfo":Str),("tuple":Str),("_NODE_OUT":Str),("bool":Str),("_NODE_DONE":Str),("set":Str),("iter":Str),("StopIteration":Str),("list":Str),("zip":Str)]
noncomputable def nm:List Str:=[("append":Str),("pop":Str),("clear":Str),("count":Str),("?":Str),("join":Str),("get":Str),("values":Str),("add":Str),("__next__":Str),("prepare":Str),("is_active":Str),("get_ready":Str),("done":Str),("_node2info":Str),("_ready_nodes":Str),("_npassedout":Str),("_nfinished":Str),("items":Str),("_get_nodeinfo":Str),("npredecessors":Str),("successors":Str),("node":Str),("_find_cycle":Str)]
def KZ:List (Nat×List Stmt):=[(0,(iW 25)),(1,(iW 15)),(2,(iW 16)),(3,(iW 13)),(4,(iW 18)),(5,(iW 17)),(6,(iW 19)),(7,(iW 20)),(8,(iW 21)),(9,(iW 22)),(12,(iW 23)),(13,(iW 24)),(20,(iW 2)),(21,(iW 3)),(23,(iW 4)),(24,(iW 5)),(35,(gH 11 0)),(36,(gH 11 1)),(37,(gH 11 2)),(38,(gH 11 3)),(39,(gH 11 4)),(40,(gH 11 5)),(41,(gH 11 7)),(42,(gH 11 8)),(43,(gH 9 1))]
section
def bD{α:Type}(P:bO)(f:Ev->M α)(U:aD)(H:Hp)(r:du α):Prop:=∃N,∀n,N<=n->f (ev P n) U H=r
section
variable {P:bO}{α β:Type}{U ρ1 ρ2 ρ3:aD}{H H1 H2 H3:Hp}{d:Nat}{q:Bool}
def bD.step{f:Ev->M α}{r:du α}(h:bD P (λE=>f (FR P E)) U H r):bD P f U H r:=by obtain⟨N,h⟩:=h;refine⟨N+1,λn hn=>?_⟩;obtain⟨m,rfl⟩:∃m,n=m+1:=⟨n-1,(Nat.sub_add_cancel (aH (Nat.le_add_left 1 N) hn)).symm⟩;exact h m (by exact MO ‹_›)
def bD.const{m:M α}{r:du α}(h:m U H=r):bD P (λO=>m) U H r:=⟨0,λO O=>h⟩
variable {f:Ev->α->M β}
def bD.bind{m:Ev->M α}{a:α}{r:du β}(h1:bD P m U H (.ok a ρ1 H1))(h2:bD P (λE=>f E a) ρ1 H1 r):bD P (λE=>M.bind (m E) (f E)) U H r:=by obtain⟨N1,h1⟩:=h1;obtain⟨N2,h2⟩:=h2;refine⟨max N1 N2,λn hn=>?_⟩;have e:=h1 n (aH (Nat.le_max_left ..) hn);show M.bind (m (ev P n)) (f (ev P n)) U H=r;unfold M.bind;rw[e];exact(h2 n (aH (Nat.le_max_right ..) hn))
def bD.K0{m:Ev->M α}{k:Nat}(h1:bD P m U H (.exc k ρ1 H1)):bD P (λE=>M.bind (m E) (f E)) U H (.exc k ρ1 H1):=by obtain⟨N1,h1⟩:=h1;refine⟨N1,λn hn=>?_⟩;show M.bind (m (ev P n)) (f (ev P n)) U H=_;unfold M.bind;rw[h1 n hn]
def bD.ret{a:α}:bD P (λO=>cq a) U H (.ok a U H):=.const rfl
def bD.rd{f:Hp->Option α}{a:α}(h:f H=some a):bD P (λO=>bX f) U H (.ok a U H):=.const (by unfold bX;rw[h])
def bD.wr{f:Hp->Option (α×Hp)}{a:α}(h:f H=some (a,H1)):bD P (λO=>mF f) U H (.ok a U H1):=.const (by unfold mF;rw[h])
def bD.up{f:Hp->Option Hp}(h:f H=some H1):bD P (λO=>ij f) U H (.ok () U H1):=.const (by unfold ij;rw[h])
def bD.NH{k:Nat}{v:AV}(h:ae U k=some (some v)):bD P (λO=>Mine.mI k) U H (.ok v U H):=.const (by unfold Mine.mI;rw[h])
def bD.setM{k:Nat}{v:AV}(h:Nat.blt k U.length=true):bD P (λO=>Mine.lx k v) U H (.ok () (ai U (some v) k) H):=.const (by unfold Mine.lx;rw[h])
def bD.calm{m:Ev->M α}{a:α}(h:bD P m U H (.ok a ρ1 H1)):bD P (λE=>M.calm (m E)) U H (.ok a ρ1 H1):=by obtain⟨N,h⟩:=h;refine⟨N,λn hn=>?_⟩;show M.calm (m (ev P n)) U H=_;unfold M.calm;rw[h n hn]
def RE(P:bO)(d:Nat)(q:Bool)(c:C)(U:aD)(H:Hp)(v:AV)(ρ':aD)(H':Hp):Prop:=bD P (λE=>E.e d q c) U H (.ok v ρ' H')
def RT(P:bO)(d:Nat)(q:Bool)(c:C)(U:aD)(H:Hp)(v:Bool)(ρ':aD)(H':Hp):Prop:=bD P (λE=>E.t d q c) U H (.ok v ρ' H')
def RS(P:bO)(d:Nat)(q:Bool)(c:S)(U:aD)(H:Hp)(v:Fl)(ρ':aD)(H':Hp):Prop:=bD P (λE=>E.s d q c) U H (.ok v ρ' H')
def RB(P:bO)(d:Nat)(q:Bool)(c:S)(U:aD)(H:Hp)(v:Fl)(ρ':aD)(H':Hp):Prop:=bD P (λE=>d0 (E.s d q) (ss c)) U H (.ok v ρ' H')
def RW(P:bO)(d:Nat)(q:Bool)(t:C)(b e:S)(U:aD)(H:Hp)(v:Fl)(ρ':aD)(H':Hp):Prop:=bD P (λE=>E.w d q t b e) U H (.ok v ρ' H')
def RA(P:bO)(d:Nat)(q:Bool)(c:C)(U:aD)(H:Hp)(v:List AV)(ρ':aD)(H':Hp):Prop:=bD P (λE=>iX (E.e d q) (cs c)) U H (.ok v ρ' H')
structure RC(P:bO)(d:Nat)(f:AV)(args:List AV)(H:Hp)(v:AV)(H':Hp):Prop where
 run:∀U,bD P (λE=>E.call d f args) U H (.ok v U H')
def RO(P:bO)(d:Nat)(q:Bool)(c:C)(U:aD)(H:Hp)(v:AV)(ρ':aD)(H':Hp):Prop:=bD P (λE=>sZ (E.e d q) c) U H (.ok v ρ' H')
def RF(P:bO)(d:Nat)(tg:C)(src:ba)(b:S)(U:aD)(H:Hp)(v:Fl)(ρ':aD)(H':Hp):Prop:=bD P (λE=>E.f d true tg src b) U H (.ok v ρ' H')
def RK(P:bO)(d:Nat)(tg:C)(src:ba)(ifs elt:C)(k:Nat)(U:aD)(H:Hp)(ρ':aD)(H':Hp):Prop:=bD P (λE=>E.cp d tg src ifs elt k) U H (.ok () ρ' H')
def RM(P:bO)(d:Nat)(elt tg it ifs:C)(U:aD)(H:Hp)(v:AV)(ρ':aD)(H':Hp):Prop:=bD P (λE=>vj E d true elt tg it ifs) U H (.ok v ρ' H')
def RQ(P:bO)(d:Nat)(ifs:C)(U:aD)(H:Hp)(v:Bool)(ρ':aD)(H':Hp):Prop:=bD P (λE=>tP (E.t d true) true (cs ifs)) U H (.ok v ρ' H')
variable {a b c l args:C}{x y v w:AV}{p p' BR:Pos}{k m:Nat}{s:S}{r bb ee:S}{fl:Fl}
def aY{cc:Const}:RE P d q (.cst cc v k p) U H v U H:=.step .ret
variable {n:Str}
def af(h:ae U k=some (some v)):RE P d q (.var n k p) U H v U H:=.step (.NH h)
def bg(h:xy P k U H=.ok v U H):RE P d q (.glob n k p) U H v U H:=.step (.const h)
def cU{op:Operator}(h1:RE P d q a U H x ρ1 H1)(h2:RE P d q b ρ1 H1 y ρ2 H2)(h:i6 op x y H2=some v):RE P d q (.bin op a b p) U H v ρ2 H2:=.step (.bind h1 (.bind h2 (.rd h)))
def t6(h1:RE P d q a U H x ρ1 H1)(h:B4 x=some v):RE P d q (.neg a p) U H v ρ1 H1:=.step (.bind h1 (.rd h))
def BE{op:CmpOp}(h1:RE P d q a U H x ρ1 H1)(h2:RE P d q b ρ1 H1 y ρ2 H2)(h:xK op x y H2=some v):RE P d q (.cmp op a b p) U H v ρ2 H2:=.step (.bind h1 (.bind h2 (.rd h)))
def dD(h1:RE P d q a U H x ρ1 H1)(h2:RE P d q b ρ1 H1 y ρ2 H2)(h:jh x y H2=some v):RE P d q (.sub a b p) U H v ρ2 H2:=.step (.bind h1 (.bind h2 (.rd h)))
def fg(h1:RE P d q a U H x ρ1 H1)(h:qg P k x H1=some v):RE P d q (.attr a n k p) U H v ρ1 H1:=.step (.bind h1 (.rd h))
def aF:RA P d q .nil U H [] U H:=.ret
variable {vs:List AV}
def aG(hs:a.lq=none)(h1:RE P d q a U H x ρ1 H1)(h2:RA P d q l ρ1 H1 vs ρ2 H2):RA P d q (.cons a l) U H (x::vs) ρ2 H2:=by
 have:(λE:Ev=>iX (E.e d q) (cs (.cons a l)))=λE=>M.bind (E.e d q a) λv=>M.bind (iX (E.e d q) (cs l)) λvs=>cq (v::vs):=by
  funext E
  show(match a.lq with|some a=>_|none=>_)=_;rw[hs];rfl
 unfold RA;rw[this];exact .bind h1 (.bind h2 .ret)
def tZ(h1:RA P d q l U H vs ρ1 H1):RE P d q (.tup l k p) U H (.tup vs) ρ1 H1:=.step (.bind h1 .ret)
def de{bb:Bool}(h1:RA P d q l U H vs ρ1 H1)(h:HM bb vs H1=some (v,H2)):RE P d q (.list l bb p) U H v ρ1 H2:=.step (.bind h1 (.wr h))
def yM:RE P d q (.dict false p) U H (.ref H.length) U (H++[.dict 0 []]):=.step (.const rfl)
def GO:RE P d q (.dict true p) U H (.ref H.length) U (H++[.idict 0 []]):=.step (.const rfl)
variable {t:Bool}
def GN(h1:RT P d q c U H t ρ1 H1)(h2:RE P d q (bif t then a else b) ρ1 H1 v ρ2 H2):RE P d q (.qU c a b p) U H v ρ2 H2:=by refine .step (.bind h1 ?_);cases t<;>exact h2
def lA{lo hi:C}{sp:Pos}{x1 x2:AV}(h1:RE P d q a U H x ρ1 H1)(h2:RO P d q lo ρ1 H1 x1 ρ2 H2)(h3:RO P d q hi ρ2 H2 x2 ρ3 H3)(h:mP x x1 x2 H3=some v):RE P d q (.iq a lo hi sp p) U H v ρ3 H3:=.step (.bind h1 (.bind h2 (.bind h3 (.rd h))))
def BD{p2:Pos}(h1:RE P d q a U H v ρ1 H1)(hk:Nat.blt k ρ1.length=true):RE P d q (.rV (.var n k p2) a p) U H v (ai ρ1 (some v) k) H1:=.step (.bind h1 (.bind (.setM hk) .ret))
def oq:RO P d q .nil U H .none U H:=.ret
def jG(h1:RE P d q a U H v ρ1 H1)(hn:∀f:C->M AV,sZ f a=f a):RO P d q a U H v ρ1 H1:=by unfold RO;simp only[hn];exact h1
def Qs{r:C}(h1:RE P d q a U H v ρ1 H1)(h:jg v H1=some true):RE P d q (.gX false (.cons a (.cons b r)) p) U H v ρ1 H1:=.step (.bind h1 (.bind (.rd h) .ret))
def Qt(h1:RE P d q a U H x ρ1 H1)(h:jg x H1=some false)(h2:RE P d q b ρ1 H1 v ρ2 H2):RE P d q (.gX false (.cons a (.cons b .nil)) p) U H v ρ2 H2:=.step (.bind h1 (.bind (.rd h) h2))
def Gw{r:C}(h1:RT P d q a U H false ρ1 H1):RT P d q (.gX true (.cons a r) p) U H false ρ1 H1:=.step (.bind h1 .ret)
def Bt(h1:RT P d q a U H true ρ1 H1)(h2:RT P d q b ρ1 H1 t ρ2 H2):RT P d q (.gX true (.cons a (.cons b .nil)) p) U H t ρ2 H2:=by refine .step (.bind h1 (.bind h2 ?_));cases t<;>exact .ret
def bp(h1:RE P d true a U H x ρ1 H1)(hc:tj x=true)(h2:RA P d true args ρ1 H1 vs ρ2 H2)(h:RC P d x vs H2 v H3):RE P d true (.call a args p) U H v ρ2 H3:=by refine .step (.bind h1 ?_);show bD P (λE=>match tj x&&true with|true=>M.bind (iX (E.e d true) (cs args)) λvs=>E.call d x vs|false=>M.stuck) _ _ _;rw[hc];exact .bind h2 (h.run ρ2)
def fu{mk:MK}(h1:RE P d q a U H x ρ1 H1)(hk:nc P x m H1=some mk)(hu:uk mk m=true)(hs:uQ (cs args)=false)(h2:RA P d q args ρ1 H1 vs ρ2 H2)(h:jK mk m x vs H2=some (v,H3)):
  RE P d q (.bV a n m args p p') U H v ρ2 H3:=by
 have e:(λE:Ev=>B9 E d q mk x m args)=λE=>zc E d q mk x m args:=by funext E;cases mk<;>first|rfl|cases hu
 refine .step (.bind h1 (.bind (.rd hk) ?_));show bD P (λE=>B9 E d q mk x m args) _ _ _;rw[e];show bD P (λE=>match uk mk m&&!uQ (cs args) with|true=>_|false=>M.stuck) _ _ _;rw[hu,hs];exact .bind h2 (.wr h)
variable {j:Nat}
def ou(h1:RE P d true a U H x ρ1 H1)(hk:nc P x m H1=some (.user j))(h2:RA P d true args ρ1 H1 vs ρ2 H2)(h:RC P d (.glob j) (x::vs) H2 v H3):
  RE P d true (.bV a n m args p p') U H v ρ2 H3:=.step (.bind h1 (.bind (.rd hk) (.bind h2 (h.run ρ2))))
def bC{op:CmpOp}(h1:RE P d q a U H x ρ1 H1)(h2:RE P d q b ρ1 H1 y ρ2 H2)(h:gF op x y H2=some t):RT P d q (.cmp op a b p) U H t ρ2 H2:=.step (.bind h1 (.bind h2 (.rd h)))
def P2(h1:RT P d q a U H t ρ1 H1):RT P d q (.not a p) U H (!t) ρ1 H1:=.step (.bind h1 .ret)
def ly(h1:RE P d q (.var n k p) U H x ρ1 H1)(h:jg x H1=some t):RT P d q (.var n k p) U H t ρ1 H1:=.step (.bind h1 (.rd h))
def bB(h1:RE P d q a U H v ρ1 H1)(hn:∀E,qA E d q a=E.e d q a)(hk:Nat.blt k ρ1.length=true)(hr:ai ρ1 (some v) k=ρ2):RS P d q (.asg (.cons (.var n k p) .nil) a p') U H .next ρ2 H1:=by subst hr;refine .step (.bind (a:=v) (ρ1:=ρ1) (H1:=H1) ?_ (.bind (.bind (.setM hk) .ret) .ret));simp only[hn];exact h1
def om(h1:RE P d q a U H v ρ1 H1)(hn:∀E,qA E d q a=E.e d q a)(h2:RE P d q b ρ1 H1 x ρ2 H2)(h3:RE P d q c ρ2 H2 y ρ3 H3){H4:Hp}(h:og x y v H3=some H4):RS P d q (.asg (.cons (.sub b c p) .nil) a p') U H .next ρ3 H4:=by refine .step (.bind (a:=v) (ρ1:=ρ1) (H1:=H1) ?_ (.bind (.bind (.bind h2 (.bind h3 (.up h))) .ret) .ret));simp only[hn];exact h1
def pI(h1:RE P d q a U H v ρ1 H1)(hn:∀E,qA E d q a=E.e d q a)(h2:RE P d q b ρ1 H1 x ρ2 H2)(h:pF P j x v H2=some H3):RS P d q (.asg (.cons (.attr b n j p) .nil) a p') U H .next ρ2 H3:=by refine .step (.bind (a:=v) (ρ1:=ρ1) (H1:=H1) ?_ (.bind (.bind (.bind h2 (.up h)) .ret) .ret));simp only[hn];exact h1
def wt{tl:C}{kk:Nat}(h1:RE P d true a U H v ρ1 H1)(hn:∀E,qA E d true a=E.e d true a)(h:iF (.tup tl kk p) v ρ1 H1=.ok () ρ2 H1):RS P d true (.asg (.cons (.tup tl kk p) .nil) a p') U H .next ρ2 H1:=by refine .step (.bind (a:=v) (ρ1:=ρ1) (H1:=H1) ?_ (.bind (.bind (.const h) .ret) .ret));simp only[hn];exact h1
def P7(h1:RE P d q a U H v ρ1 H1)(hn:∀E,qA E d q a=E.e d q a)(h2:RE P d q b ρ1 H1 x ρ2 H2)(h3:RE P d q c ρ2 H2 y ρ3 H3){H4:Hp}(h:og x y v H3=some H4)(hk:Nat.blt k ρ3.length=true):RS P d q (.asg (.cons (.sub b c p) (.cons (.var n k BR) .nil)) a p') U H .next (ai ρ3 (some v) k) H4:=by refine .step (.bind (a:=v) (ρ1:=ρ1) (H1:=H1) ?_ (.bind (.bind (.bind h2 (.bind h3 (.up h))) (.bind (.setM hk) .ret)) .ret));simp only[hn];exact h1
variable {tg it ifs:C}{sc:Scope}
def r9(h1:RM P d a tg it ifs U H v ρ1 H1)(hk:Nat.blt k ρ1.length=true)(hr:ai ρ1 (some v) k=ρ2):RS P d true (.asg (.cons (.var n k BR) .nil) (.comp a tg it ifs sc p) p') U H .next ρ2 H1:=by subst hr;exact .step (.bind h1 (.bind (.bind (.setM hk) .ret) .ret))
def P9(h1:RM P d a tg it ifs U H v ρ1 H1)(h2:RE P d true b ρ1 H1 x ρ2 H2)(h:pF P j x v H2=some H3):RS P d true (.asg (.cons (.attr b n j BR) .nil) (.comp a tg it ifs sc p) p') U H .next ρ2 H3:=.step (.bind h1 (.bind (.bind (.bind h2 (.up h)) .ret) .ret))
def wu{op:Operator}{z:AV}(h1:RE P d q b U H z ρ1 H1)(hx:qg P j z H1=some x)(h2:RE P d q a ρ1 H1 y ρ2 H2)(h:xT op x y=some v)(h3:pF P j z v H2=some H3):RS P d q (.aug op (.attr b n j p) a p') U H .next ρ2 H3:=.step (.bind h1 (.bind (.rd hx) (.bind h2 (.bind (.rd (f:=λO=>xT op x y) h) (.bind (.up h3) .ret)))))
def P8{sp:Pos}(h1:RE P d q a U H x ρ1 H1)(h2:RE P d q b ρ1 H1 y ρ2 H2)(h:xI x y H2=some H3):RS P d q (.del a b sp p) U H .next ρ2 H3:=.step (.bind h1 (.bind h2 (.bind (.up h) .ret)))
def fL(h1:RE P d q a U H v ρ1 H1):RS P d q (.expr a p) U H .next ρ1 H1:=.step (.bind h1 .ret)
def gj(h1:RE P d q a U H v ρ1 H1)(hn:∀f:C->M AV,sZ f a=f a):RS P d q (.ret a p) U H (.ret v) ρ1 H1:=by refine .step (.bind (a:=v) (ρ1:=ρ1) (H1:=H1) ?_ .ret);simp only[hn];exact h1
def Bu:RS P d q (.brk p) U H .brk U H:=.step .ret
def Gx:RS P d q (.cont p) U H .cont U H:=.step .ret
def cn(h1:RT P d q a U H t ρ1 H1)(h2:RB P d q (bif t then r else bb) ρ1 H1 fl ρ2 H2):RS P d q (.iff a r bb p) U H fl ρ2 H2:=by refine .step (.bind h1 ?_);cases t<;>exact h2
def aV:RB P d q .nil U H .next U H:=.ret
def ay(h1:RS P d q s U H .next ρ1 H1)(h2:RB P d q r ρ1 H1 fl ρ2 H2):RB P d q (.cons s r) U H fl ρ2 H2:=.bind h1 h2
def cV(h1:RS P d q s U H fl ρ1 H1)(hf:fl≠.next):RB P d q (.cons s r) U H fl ρ1 H1:=by
 refine .bind h1 ?_;cases fl with
 |next=>exact absurd rfl hf
 |_=>exact .ret
def mQ(h:RW P d q a r bb U H fl ρ1 H1):RS P d q (.ie a r bb p) U H fl ρ1 H1:=.step (.calm h)
noncomputable def xx(f:Fl):Bool:=match f with|.next=>true|.cont=>true|_=>false
noncomputable def BS(f:Fl):Fl:=match f with|.brk=>.next|f=>f
def pH(h1:RT P d q a U H false ρ1 H1)(h2:RB P d q bb ρ1 H1 fl ρ2 H2):RW P d q a r bb U H fl ρ2 H2:=.step (.calm (.bind h1 h2))
def pG{f:Fl}(h1:RT P d q a U H true ρ1 H1)(h2:RB P d q r ρ1 H1 f ρ2 H2)(hf:xx f=true)(h3:RW P d q a r bb ρ2 H2 fl ρ3 H3):RW P d q a r bb U H fl ρ3 H3:=by
 refine .step (.calm (.bind h1 (.bind h2 ?_)));cases f with
 |next=>exact h3
 |cont=>exact h3
 |brk=>cases hf
 |ret=>cases hf
def yG{f:Fl}(h1:RT P d q a U H true ρ1 H1)(h2:RB P d q r ρ1 H1 f ρ2 H2)(hf:xx f=false):RW P d q a r bb U H (BS f) ρ2 H2:=by
 refine .step (.calm (.bind h1 (.bind h2 ?_)));cases f with
 |next=>cases hf
 |cont=>cases hf
 |brk=>exact .ret
 |ret=>exact .ret
noncomputable def Xn(f:Fl):Option AV:=match f with
 |.ret v=>some v
 |.next=>some .none
 |_=>Option.none
def eG{fd:FD}(hj:ae P.gt j=some (.fn fd))(hb:nz fd vs=some ρ1)(h:∃ρ2,RB P d true fd.body ρ1 H fl ρ2 H2)(hf:Xn fl=some v):RC P (d+1) (.glob j) vs H v H2:=by
 refine⟨λU=>?_⟩;obtain⟨ρ2,h⟩:=h;refine .step ?_;obtain⟨N,h⟩:=h;refine⟨N,λn hn=>?_⟩;have h:d0 ((ev P n).s d true) (ss fd.body) ρ1 H=_:=h n hn;show(match ae P.gt j with|some g=>qc (ev P n) (d+1) j g vs|none=>M.stuck) U H=_;rw[hj];show(match nz fd vs with|some ρ'=>sX U (d0 ((ev P n).s d true) (ss fd.body) ρ' H)|none=>.stuck)=_;rw[hb];show sX U (d0 ((ev P n).s d true) (ss fd.body) ρ1 H)=_;rw[h];cases fl with
 |ret v=>obtain rfl:=sj hf;rfl
 |next=>obtain rfl:=sj hf;rfl
 |_=>exact aT hf
def Q9{bi:BI}(hj:ae P.gt j=some (.bi bi))(h:xR bi vs H=some (v,H2)):RC P d (.glob j) vs H v H2:=by refine⟨λU=>?_⟩;refine .step ⟨0,λn O=>?_⟩;show(match ae P.gt j with|some g=>qc (ev P n) d j g vs|none=>M.stuck) U H=_;rw[hj];show mF (λH=>xR bi vs H) U H=_;unfold mF;dsimp only;rw[h]
variable {src:ba}
def gP(h1:RE P d true it U H x ρ1 H1)(hs:dX x H1=some src)(h2:RF P d tg src r ρ1 H1 fl ρ2 H2):RS P d true (.loop tg it r p) U H fl ρ2 H2:=by refine .step (.bind h1 ?_);refine ue (bD.calm h2) λN h2=>?_;refine⟨N,λn hn=>?_⟩;show zm (ev P n) d tg r x ρ1 H1=_;unfold zm;rw[hs];exact h2 n hn
def lF{o:Option (AV×ba)}(h:src.next H=some o):src.nx tg H=some (o,H):=by
 cases src with
 |zip n=>cases h
 |_=>show(ba.next _ H).map _=_;rw[h];rfl
def BA(h:src.nx tg H=some (none,H1)):RF P d tg src r U H .next U H1:=by refine .step ⟨0,λn O=>?_⟩;show pD (ev P n) d true tg src r U H=_;unfold pD;rw[h]
def jj(h:src.next H=some none):RF P d tg src r U H .next U H:=BA (lF h)
variable {src':ba}
def GG{f:Fl}{H0:Hp}(h:src.nx tg H=some (some (v,src'),H0))(hb:iF tg v U H0=.ok () ρ1 H0)(h1:RB P d true r ρ1 H0 f ρ2 H2)(hf:xx f=true)(h2:RF P d tg src' r ρ2 H2 fl ρ3 H3):RF P d tg src r U H fl ρ3 H3:=by
 have h1:bD P (λE=>M.bind (iF tg v) λO=>M.bind (d0 (E.s d true) (ss r)) (vP (E.f d true tg src' r))) U H0 (.ok fl ρ3 H3):=by
  refine .bind (.const hb) (.bind h1 ?_);cases f with
  |next=>exact h2
  |cont=>exact h2
  |brk=>cases hf
  |ret=>cases hf
 refine ue (bD.calm h1) λN h1=>?_;refine .step ⟨N,λn hn=>?_⟩;show pD (ev P n) d true tg src r U H=_;unfold pD;rw[h];exact h1 n hn
def gz{f:Fl}(h:src.next H=some (some (v,src')))(hb:iF tg v U H=.ok () ρ1 H)(h1:RB P d true r ρ1 H f ρ2 H2)(hf:xx f=true)(h2:RF P d tg src' r ρ2 H2 fl ρ3 H3):RF P d tg src r U H fl ρ3 H3:=GG (lF h) hb h1 hf h2
def GH{f:Fl}{H0:Hp}(h:src.nx tg H=some (some (v,src'),H0))(hb:iF tg v U H0=.ok () ρ1 H0)(h1:RB P d true r ρ1 H0 f ρ2 H2)(hf:xx f=false):RF P d tg src r U H (BS f) ρ2 H2:=by
 have h1:bD P (λE=>M.bind (iF tg v) λO=>M.bind (d0 (E.s d true) (ss r)) (vP (E.f d true tg src' r))) U H0 (.ok (BS f) ρ2 H2):=by
  refine .bind (.const hb) (.bind h1 ?_);cases f with
  |next=>cases hf
  |cont=>cases hf
  |brk=>exact .ret
  |ret=>exact .ret
 refine ue (bD.calm h1) λN h1=>?_;refine .step ⟨N,λn hn=>?_⟩;show pD (ev P n) d true tg src r U H=_;unfold pD;rw[h];exact h1 n hn
variable {elt:C}
def By(h1:RE P d true it U H x ρ1 H1)(hs:dX x H1=some src)(h2:RK P d tg src ifs elt H1.length (iD (slots tg elt) ρ1) (H1++[.list []]) ρ2 H2):RM P d elt tg it ifs U H (.ref H1.length) ρ1 H2:=by refine .bind h1 ?_;obtain⟨N,h2⟩:=h2;refine⟨N,λn hn=>?_⟩;have h2:(ev P n).cp d tg src ifs elt H1.length (iD (slots tg elt) ρ1) (H1++[.list []])=_:=h2 n hn;show s9 (ev P n) d elt tg ifs x ρ1 H1=_;unfold s9;rw[hs];dsimp only;rw[h2]
def mT(h:RM P d elt tg it ifs U H v ρ1 H1):RE P d true (.comp elt tg it ifs sc p) U H v ρ1 H1:=.step h
def Bz(h:src.nx tg H=some (none,H1)):RK P d tg src ifs elt k U H U H1:=by refine .step ⟨0,λn O=>?_⟩;show r0 (ev P n) d tg src ifs elt k U H=_;unfold r0;rw[h]
def Qm(h:src.next H=some none):RK P d tg src ifs elt k U H U H:=Bz (lF h)
def RL(P:bO)(d:Nat)(elt:C)(k:Nat)(U:aD)(H:Hp)(ρ':aD)(H':Hp):Prop:=bD P (λE=>vc E d elt k) U H (.ok () ρ' H')
def ui(elt:C):Prop:=∀E d k,vc E d elt k=M.bind (E.e d true elt) λx=>ij (tu k x)
def GC(hg:ui elt)(h1:RE P d true elt U H x ρ1 H1)(h2:tu k x H1=some H2):RL P d elt k U H ρ1 H2:=by unfold RL;simp only[hg _ _ _];exact .bind h1 (.up h2)
def Qk(h1:RE P d true it U H x ρ1 H1)(hs:dX x H1=some src)(h2:RK P d tg src .nil elt k ρ1 H1 ρ2 H2):RL P d (.gen tg it elt) k U H ρ2 H2:=.bind h1 (.bind (.rd hs) h2)
def wz{H0:Hp}(h:src.nx tg H=some (some (v,src'),H0))(hb:iF tg v U H0=.ok () ρ1 H0)(h1:RQ P d ifs ρ1 H0 t ρ2 H2)
  {ρ':aD} {H':Hp} (h2:match t with
   |true=>∃ρ3 H3,RL P d elt k ρ2 H2 ρ3 H3/\RK P d tg src' ifs elt k ρ3 H3 ρ' H'
   |false=>RK P d tg src' ifs elt k ρ2 H2 ρ' H'):RK P d tg src ifs elt k U H ρ' H':=by
 have h1:bD P (λE=>M.bind (iF tg v) λO=>M.bind (tP (E.t d true) true (cs ifs)) λb=>match b with
  |true=>M.bind (vc E d elt k) λO=>E.cp d tg src' ifs elt k
  |false=>E.cp d tg src' ifs elt k) U H0 (.ok () ρ' H'):=by
  refine .bind (.const hb) (.bind h1 ?_);cases t with
  |true=>exact dJ h2 λρ3 H3 h3 h5=>.bind h3 h5
  |false=>exact h2
 refine ue (bD.calm h1) λN h1=>?_;refine .step ⟨N,λn hn=>?_⟩;show r0 (ev P n) d tg src ifs elt k U H=_;unfold r0;rw[h];exact h1 n hn
def se:RQ P d .nil U H true U H:=.ret
def qH(h:RT P d true a U H t ρ1 H1):RQ P d (.cons a .nil) U H t ρ1 H1:=by refine .bind h ?_;cases t<;>exact .ret
def P5{xn:Str}{np hp:Pos}{hh:S}(h:RB P d true r U H fl ρ1 H1):RS P d true (.tri r xn k np hh hp p) U H fl ρ1 H1:=by obtain⟨N,h⟩:=h;refine .step ⟨N,λn hn=>?_⟩;have h:d0 ((ev P n).s d true) (ss r) U H=_:=h n hn;show tQ P (ev P n) d true r k hh U H=_;unfold tQ;dsimp only;rw[h]
def P6{xn:Str}{np hp:Pos}{hh:S}{y:Nat}(h:bD P (λE=>d0 (E.s d true) (ss r)) U H (.exc y ρ1 H1))(hk:ae P.gt k=some (.exc y))(h2:RB P d false hh ρ1 H1 fl ρ2 H2):RS P d true (.tri r xn k np hh hp p) U H fl ρ2 H2:=by obtain⟨N,h⟩:=h;obtain⟨N2,h2⟩:=bD.calm h2;refine .step ⟨max N N2,λn hn=>?_⟩;have h:d0 ((ev P n).s d true) (ss r) U H=_:=h n (aH (Nat.le_max_left ..) hn);show tQ P (ev P n) d true r k hh U H=_;unfold tQ;dsimp only;rw[h];unfold uR;rw[hk];dsimp only;rw[jy];exact(h2 n (aH (Nat.le_max_right ..) hn):M.calm (d0 ((ev P n).s d false) (ss hh)) ρ1 H1=_)
def QM{i:Nat}{lst:List AV}(h1:sL H j=some (m,i))(h2:bq H m=some lst)(h3:ae lst i=some v):RC P d (.cK j) [] H v (ai H (.iter m (i+1)) j):=by refine⟨λU=>?_⟩;refine .step ⟨0,λn O=>?_⟩;show sm j [] U H=_;unfold sm;dsimp only;rw[h1];dsimp only;rw[h2];dsimp only;rw[h3]
def Qy{i:Nat}{lst:List AV}(h1:sL H j=some (m,i))(h2:bq H m=some lst)(h3:ae lst i=none):bD P (λE=>E.call d (.cK j) []) U H (.exc 0 U (ai H .dead j)):=by refine .step ⟨0,λn O=>?_⟩;show sm j [] U H=_;unfold sm;dsimp only;rw[h1];dsimp only;rw[h2];dsimp only;rw[h3]
def Q8{cd:CD}(hj:ae P.gt j=some (.cl cd))(hs:cd.slots=false)(h:RC P d (.glob cd.init) (.ref H.length::vs) (H++[.inst j (cd.bx.map λO=>none)]) .none H2):RC P (d+1) (.glob j) vs H (.ref H.length) H2:=by refine⟨λU=>?_⟩;refine ue (h.run U) λN h=>?_;refine .step ⟨N,λn hn=>?_⟩;have h:(ev P n).call d (.glob cd.init) (.ref H.length::vs) U (H++[.inst j (cd.bx.map λO=>none)])=_:=h n hn;show(match ae P.gt j with|some g=>qc (ev P n) (d+1) j g vs|none=>M.stuck) U H=_;rw[hj];show vm (ev P n) (d+1) j cd vs U H=_;unfold vm;dsimp only;rw[hs];dsimp only;rw[h];rfl
def QD{cd:CD}(hj:ae P.gt j=some (.cl cd))(hs:cd.slots=true)(h:RC P d (.glob cd.init) (.ref (H.length+1)::vs) (H++[.dead,.inst j (cd.bx.map λO=>none)]) .none H2):RC P (d+1) (.glob j) vs H (.ref (H.length+1)) H2:=by refine⟨λU=>?_⟩;refine ue (h.run U) λN h=>?_;refine .step ⟨N,λn hn=>?_⟩;have h:(ev P n).call d (.glob cd.init) (.ref (H.length+1)::vs) U (H++[.dead,.inst j (cd.bx.map λO=>none)])=_:=h n hn;show(match ae P.gt j with|some g=>qc (ev P n) (d+1) j g vs|none=>M.stuck) U H=_;rw[hj];show vm (ev P n) (d+1) j cd vs U H=_;unfold vm;dsimp only;rw[hs];dsimp only;rw[h];rfl
end
end
section
section
variable {α:Type}{l m:List α}{n k:Nat}{x y:α}
def cF(h:n<l.length):ae (ai l y n) n=some y:=by
 induction l generalizing n with
 |nil=>cases h
 |cons a r ih=>cases n with
  |zero=>rfl
  |succ n=>exact ih (tH h)
def aZ(h:n≠k):ae (ai l y n) k=ae l k:=by
 induction l generalizing n k with
 |nil=>rfl
 |cons a r ih=>cases n with
  |zero=>cases k with
   |zero=>exact absurd rfl h
   |succ k=>rfl
  |succ n=>cases k with
   |zero=>rfl
   |succ k=>exact ih λe=>h (congrArg (·+1) e)
def mJ:ai (ai l x n) y n=ai l y n:=by
 induction l generalizing n with
 |nil=>rfl
 |cons a r ih=>cases n with
  |zero=>rfl
  |succ n=>exact congrArg (a::·) ih
def pn(h:ae l n=some x):ai l x n=l:=by
 induction l generalizing n with
 |nil=>rfl
 |cons a r ih=>cases n with
  |zero=>obtain rfl:=sj h;rfl
  |succ n=>exact congrArg (a::·) (ih h)
def bW:(ai l x n).length=l.length:=by
 induction l generalizing n with
 |nil=>rfl
 |cons a r ih=>cases n with
  |zero=>rfl
  |succ n=>exact congrArg (·+1) ih
def bE(h:ae l n=some x):n<l.length:=by
 induction l generalizing n with
 |nil=>exact aT h
 |cons a r ih=>cases n with
  |zero=>exact mE _
  |succ n=>exact Nat.succ_lt_succ (ih h)
def gA(h:n<l.length):∃x,ae l n=some x:=by
 induction l generalizing n with
 |nil=>cases h
 |cons a r ih=>cases n with
  |zero=>exact⟨a,rfl⟩
  |succ n=>exact ih (tH h)
def bU(h:ae l n=some x):ae (l++m) n=some x:=by
 induction l generalizing n with
 |nil=>exact aT h
 |cons a r ih=>cases n with
  |zero=>exact h
  |succ n=>exact ih h
def cL:ae (l++x::m) l.length=some x:=by
 induction l with
 |nil=>rfl
 |cons a r ih=>exact ih
def jm:ae (l++m) (l.length+n)=ae m n:=by
 induction l with
 |nil=>rw[List.nil_append,List.length_nil,dW]
 |cons a r ih=>rw[List.cons_append,jB,Nat.add_right_comm];exact ih
def E9:ai (l++m) y (l.length+n)=l++ai m y n:=by
 induction l with
 |nil=>rw[List.nil_append,List.length_nil,dW];rfl
 |cons a r ih=>rw[List.cons_append,jB,Nat.add_right_comm];exact congrArg (a::·) ih
def rW:ai (l++x::m) y l.length=l++y::m:=by have:=E9 (l:=l) (m:=x::m) (y:=y) (n:=0);exact this
def ir{β:Type}(f:α->β):ae (l.map f) n=(ae l n).map f:=by
 induction l generalizing n with
 |nil=>rfl
 |cons a r ih=>cases n with
  |zero=>rfl
  |succ n=>exact ih
def kW{β:Type}(f:α->β):ai (l.map f) (f x) n=(ai l x n).map f:=by
 induction l generalizing n with
 |nil=>rfl
 |cons a r ih=>cases n with
  |zero=>rfl
  |succ n=>exact congrArg (f a::·) ih
end
section
variable {H:Hp}{n:Nat}
def iT{l:List AV}(h:ae H n=some (.list l)):bq H n=some l:=by unfold bq;rw[h];rfl
variable {e:Nat}{l:List (List Nat×AV)}
def kD(h:ae H n=some (.dict e l)):cM H n=some (e,l):=by unfold cM;rw[h];rfl
def Gj{l:List (List Nat)}(h:ae H n=some (.set l)):oh H n=some l:=by unfold oh;rw[h];rfl
def Vn{c:Nat}{f:List (Option AV)}(h:ae H n=some (.inst c f)):xd H n=some (c,f):=by unfold xd;rw[h];rfl
variable {m:Nat}
def Il{i:Nat}(h:ae H n=some (.iter m i)):sL H n=some (m,i):=by unfold sL;rw[h];rfl
def wJ(h:ae H n=some (.dict e l)):bq H n=none:=by unfold bq;rw[h];rfl
variable {v:AV}
def qC{l:List AV}{k:Int}(h:ae H n=some (.list l))(hk:jo k l=some v):jh (.ref n) (.int k) H=some v:=by show(match bq H n with|some l=>_|none=>_)=_;rw[iT h];exact hk
def B2(h:ae H n=some (.dict e l)):gT H n=none:=by unfold gT;rw[h];rfl
def CK(h:ae H n=some (.idict e l)):gT H n=some (e,l):=by unfold gT;rw[h];rfl
def B1(h:ae H n=some (.idict e l)):bq H n=none:=by unfold bq;rw[h];rfl
def vW{k:List Nat}(h:ae H n=some (.dict e l))(hk:bT k l=some v):jh (.ref n) (.str k) H=some v:=by unfold jh;show(match bq H n with|some l=>_|none=>_)=_;rw[wJ h,B2 h,kD h];exact hk
def OC{k:Nat}(h:ae H n=some (.idict e l))(hk:bT [k] l=some v):jh (.ref n) (.int k) H=some v:=by unfold jh;show(match bq H n with|some l=>_|none=>_)=_;rw[B1 h,CK h];exact hk
def wh{p:Nat}{l:List AV}(h:ae H n=some (.list l))(hp:p<l.length):og (.ref n) (.int p) v H=some (ai H (.list (ai l v p)) n):=by show(match bq H n with|some l=>_|none=>_)=_;rw[iT h];show aK (Nat.blt p l.length) _=_;rw[bf.mpr hp];rfl
def wi{k:List Nat}(h:ae H n=some (.dict e l))(hl:l.length<az):og (.ref n) (.str k) v H=some (ai H (.dict (match bS k l with|true=>e|false=>e+1) (fx k v l)) n):=by unfold og;show(match bq H n with|some l=>_|none=>_)=_;rw[wJ h,B2 h,kD h];show aK (Nat.blt l.length az) _=_;rw[bf.mpr hl];rfl
def Pz{k:Nat}(h:ae H n=some (.idict e l))(hl:l.length<az):og (.ref n) (.int k) v H=some (ai H (.idict (match bS [k] l with|true=>e|false=>e+1) (fx [k] v l)) n):=by unfold og;show(match bq H n with|some l=>_|none=>_)=_;rw[B1 h,CK h];show aK (Nat.blt l.length az) _=_;rw[bf.mpr hl];rfl
def Ul{l:List AV}(h:ae H n=some (.list l))(hl:l.length<=az):Av .len (.ref n) H=some (.int l.length,H):=by show((match bq H n with|some l=>some l.length|none=>_).bind λk=>aK (Nat.ble k az) (some (AV.int k,H)))=_;rw[iT h];show aK (Nat.ble l.length az) _=_;rw[dU.mpr hl];rfl
def Ca{l:List AV}{args:List AV}(h:ae H n=some (.list l)):jK .list m (.ref n) args H=uo m n l args H:=by show((AV.ref n).jH.bind λn=>(bq H n).bind λl=>uo m n l args H)=_;show((bq H n).bind λl=>uo m n l args H)=_;rw[iT h];rfl
def rB{l:List AV}(h:ae H n=some (.list l))(hl:l.length<az):jK .list 0 (.ref n) [v] H=some (.none,ai H (.list (l++[v])) n):=by rw[Ca h];show aK (Nat.blt l.length az) _=_;rw[bf.mpr hl];rfl
def BP{l:List AV}(h:ae H n=some (.list (l++[v]))):jK .list 1 (.ref n) [] H=some (v,ai H (.list l) n):=by rw[Ca h];show((l++[v]).getLast?).map _=_;rw[List.getLast?_concat,List.dropLast_concat];rfl
def ky{P:bO}{l:List AV}(h:ae H n=some (.list l)):nc P (.ref n) m H=some .list:=by show(ae H n).bind _=_;rw[h];rfl
def sJ{P:bO}(h:ae H n=some (.dict e l)):nc P (.ref n) m H=some .dict:=by show(ae H n).bind _=_;rw[h];rfl
def UN{P:bO}{l:List (List Nat)}(h:ae H n=some (.set l)):nc P (.ref n) m H=some .set:=by show(ae H n).bind _=_;rw[h];rfl
def vQ{l:List AV}(h:ae H n=some (.list l)):jg (.ref n) H=some (!l.isEmpty):=by show(bq H n).map _=_;rw[iT h];rfl
end
end
section
noncomputable def aW(b:S)(n:Nat):S:=match n with
 |0=>(match b with|.cons a _=>a|b=>b)
 |n+1=>(match b with|.cons _ r=>aW r n|b=>b)
noncomputable def tW(b:S)(n:Nat):S:=match n with
 |0=>b
 |n+1=>(match b with|.cons _ r=>tW r n|b=>b)
noncomputable def iL(s:S):C:=match s with
 |.ie t _ _ _=>t
 |.iff t _ _ _=>t
 |_=>.nil
noncomputable def bk(s:S):S:=match s with
 |.ie _ b _ _=>b
 |.iff _ b _ _=>b
 |.loop _ _ b _=>b
 |.tri b _ _ _ _ _ _=>b
 |_=>.nil
noncomputable def jt(s:S):S:=match s with
 |.ie _ _ b _=>b
 |.iff _ _ b _=>b
 |_=>.nil
noncomputable def iM(s:S):C:=match s with
 |.loop t _ _ _=>t
 |_=>.nil
noncomputable def fc(s:S):C:=match s with
 |.asg _ e _=>e
 |.ret e _=>e
 |.expr e _=>e
 |.loop _ e _ _=>e
 |_=>.nil
noncomputable def eV(c:C):C:=match c with
 |.comp e _ _ _ _ _=>e
 |_=>.nil
noncomputable def cO(c:C):C:=match c with
 |.comp _ t _ _ _ _=>t
 |_=>.nil
noncomputable def eO(c:C):C:=match c with
 |.comp _ _ i _ _ _=>i
 |_=>.nil
noncomputable def gC(c:C):C:=match c with
 |.comp _ _ _ i _ _=>i
 |_=>.nil
section
variable {d:Nat}{U:aD}{H:Hp}
variable {i k:Int}
def nC{j:Int}(h:i+j=k):i6 .Add (.int i) (.int j) H=some (.int k):=by subst h;rfl
def FF{j:Int}(h:i-j=k):i6 .Sub (.int i) (.int j) H=some (.int k):=by subst h;rfl
def Bl{n:Nat}(h:n<=az):fT (n:Int)=true:=bf.mpr (cN h (by decide))
def wL{j:Int}(h1:fT i=true)(h2:fT j=true)(h:i*j=k):i6 .Mult (.int i) (.int j) H=some (.int k):=by subst h;show aK (fT i&&fT j) _=_;rw[h1,h2];rfl
def Pk(h:i.fdiv (2^1)=k):i6 .RShift (.int i) (.int 1) H=some (.int k):=by subst h;rfl
def JN:∀a b:Nat,((a:Nat):Int).fdiv (b:Nat)=((a/b:Nat):Int)
 |0,b=>by rw[Nat.zero_div];rfl
 |_+1,_=>rfl
def Wn(p:Nat):((p+1:Nat)-1:Int).fdiv (2^1)=((p/2:Nat):Int):=by rw[show((p+1:Nat):Int)-1=(p:Nat) from Int.add_sub_cancel p 1];exact JN p 2
abbrev aN:=Int×List Nat
noncomputable def aX(p:aN):AV:=.tup [.int p.1,.str p.2]
def dY(a b:aN):Bool:=match e8 a.1 b.1 with
 |true=>(match au a.2 b.2 with|true=>false|false=>cg a.2 b.2)
 |false=>fV a.1 b.1
def zj(a b:aN):gQ (aX a) (aX b)=some (dY a b):=by
 show((some (e8 a.1 b.1)).bind λt=>match t with|true=>((some (au a.2 b.2)).bind λt=>match t with|true=>some false|false=>some (cg a.2 b.2))|false=>some (fV a.1 b.1))=_;unfold dY;cases e8 a.1 b.1 with
 |false=>rfl
 |true=>show((some (au a.2 b.2)).bind λt=>match t with|true=>some false|false=>some (cg a.2 b.2))=_;cases au a.2 b.2<;>rfl
def bF(l:List aN):AO:=.list (l.map aX)
noncomputable def gO(x:aN):Nat->List aN->Nat->List aN
 |0,l,p=>ai l x p
 |n+1,l,p=>match p with
  |0=>ai l x 0
  |p+1=>match ae l (p/2) with
   |none=>ai l x (p+1)
   |some y=>match dY x y with
    |true=>gO x n (ai l y (p+1)) (p/2)
    |false=>ai l x (p+1)
variable {a:Nat}
def PL{x:aN}:∀(n:Nat) {l:List aN} {p:Nat} {u v:Option AV} {H:Hp},p<=n->p<l.length->ae H a=some (bF l) ->
  ∃l' p' u' v',RW P d true (iL (aW sY.body 1)) (bk (aW sY.body 1)) (jt (aW sY.body 1))
   [some (.ref a),some (.int 0),some (.int p),some (aX x),u,v] H .next [some (.ref a),some (.int 0),some (.int (p':Nat)),some (aX x),u',v'] (ai H (bF l') a)/\p'<l'.length/\ai l' x p'=gO x n l p:=by
 intro n
 induction n with
 |zero=>intro l p u v H hn hp hl;cases Nat.le_zero.mp hn;refine⟨l,0,u,v,?_,hp,rfl⟩;rw[pn hl];exact pH (bC (af rfl) (af rfl) rfl) aV
 |succ n ih=>
  intro l p u v H hn hp hl;cases p with
  |zero=>refine⟨l,0,u,v,?_,hp,rfl⟩;rw[pn hl];exact pH (bC (af rfl) (af rfl) rfl) aV
  |succ p=>
   have hq:p/2<l.length:=cN (Nat.div_le_self p 2) (Nat.lt_of_succ_lt hp);refine ue (gA hq) λy h1=>?_;have zV:ae (l.map aX) (p/2)=some (aX y):=by rw[ir,h1];rfl
   have hs:∀{fl:Fl} {ρ':aD} {H':Hp},RB P d true (tW (bk (aW sY.body 1)) 2) [some (.ref a),some (.int 0),some (.int (p+1:Nat)),some (aX x),some (.int (p/2:Nat)),some (aX y)] H fl ρ' H' ->
     RB P d true (bk (aW sY.body 1)) [some (.ref a),some (.int 0),some (.int (p+1:Nat)),some (aX x),u,v] H fl ρ' H':=λ{fl ρ' H'} h=>by
    exact ay (bB (v:=.int (p/2:Nat)) (cU (cU (af rfl) aY (FF rfl)) aY (Pk (Wn p))) (λO=>rfl) rfl rfl) (ay (bB (dD (af rfl) (af rfl) (qC hl zV)) (λO=>rfl) rfl rfl) h)
   have e:gO x (n+1) l (p+1)=match dY x y with|true=>gO x n (ai l y (p+1)) (p/2)|false=>ai l x (p+1):=by show(match ae l (p/2) with|none=>_|some y=>_)=_;rw[h1]
   rw[e];cases hb:dY x y with
   |true=>
    refine gN (ih (l:=ai l y (p+1)) (p:=p/2) (u:=some (.int (p/2:Nat))) (v:=some (aX y)) (H:=ai H (bF (ai l y (p+1))) a) (aH (Nat.div_le_self p 2) (Nat.le_of_succ_le_succ hn)) (by rw[bW];assumption) (cF (bE hl))) λl' p' u' v' h3 h4 h5=>?_;rw[mJ] at h3;refine⟨l',p',u',v',?_,h4,h5⟩;apply pG (f:=.cont) (hf:=rfl) (h3:=h3)
    ·exact bC (af rfl) (af rfl) rfl
    ·refine hs ?_;apply cV (fl:=.cont)
     ·refine cn (t:=true) (bC (af rfl) (af rfl) ((zj x y).trans (by rw[hb]))) ?_;refine ay (om (af rfl) (λO=>rfl) (af rfl) (af rfl) (wh hl (by rw[aC];exact hp))) ?_;rw[kW];refine ay (bB (af rfl) (λO=>rfl) rfl rfl) ?_;exact cV Gx nofun
     ·nofun
   |false=>refine⟨l,p+1,some (.int (p/2:Nat)),some (aX y),?_,hp,rfl⟩;rw[pn hl];exact yG (f:=.brk) (bC (af rfl) (af rfl) rfl) (hs (ay (cn (t:=false) (bC (af rfl) (af rfl) ((zj x y).trans (by rw[hb]))) aV) (cV Bu nofun))) rfl
def GP{p:Nat}{l:List aN}{x:aN}(hl:ae H a=some (bF l))(hx:ae l p=some x):RC P (d+1) (.glob 23) [.ref a,.int 0,.int p] H .none (ai H (bF (gO x p l p)) a):=by refine gN (PL (d:=d) (x:=x) p (u:=none) (v:=none) (aQ _) (bE hx) hl) λl' p' u' v' h3 h4 h5=>?_;refine eG (fd:=sY) (fl:=.next) (ρ1:=[some (.ref a),some (.int 0),some (.int p),none,none,none]) rfl rfl ?_ rfl;refine⟨[some (.ref a),some (.int 0),some (.int (p':Nat)),some (aX x),u',v'],?_⟩;refine ay (bB (dD (af rfl) (af rfl) (qC hl (show ae (l.map aX) p=_ by rw[ir,hx];rfl))) (λO=>rfl) rfl rfl) ?_;refine ay (mQ h3) ?_;apply ay (h1:=om (af rfl) (λO=>rfl) (af rfl) (af rfl) (wh (cF (bE hl)) (by rw[aC];exact h4)));rw[kW,mJ,h5];exact aV
def fN(x:aN)(l:List aN):List aN:=gO x l.length (l++[x]) l.length
def fF{P:bO}{j:Nat}{b:BI}{vs:List AV}{v:AV}{H':Hp}(hj:ae P.gt j=some (.bi b))(h:xR b vs H=some (v,H')):RC P d (.glob j) vs H v H':=Q9 hj h
def wB{l:List AV}(hl:ae H a=some (.list l))(h:l.length<=az):RC P d (.glob 10) [.ref a] H (.int l.length) H:=fF (b:=.len) rfl (Ul hl h)
def BH{l:List aN}{x:aN}(hl:ae H a=some (bF l))(hs:l.length<az):RC P (d+2) (.glob 20) [.ref a,aX x] H .none (ai H (bF (fN x l)) a):=by
 have e:(l++[x]).map aX=l.map aX++[aX x]:=by rw[bR];rfl
 refine eG (fd:=JT) (fl:=.next) (ρ1:=[some (.ref a),some (aX x)]) rfl rfl ?_ rfl;refine⟨[some (.ref a),some (aX x)],?_⟩;refine ay (fL (fu (mk:=.list) (af rfl) (ky hl) rfl rfl (aG rfl (af rfl) aF) (rB hl (by rw[aC];exact hs)))) ?_;rw[<- e];have qX:ae (ai H (.list ((l++[x]).map aX)) a) a=some (bF (l++[x])):=cF (bE hl);have f1:=wB (d:=d+1) qX (by rw[aC,bu];exact hs);rw[aC,bu] at f1;refine ay (fL (bp (vs:=[.ref a,.int 0,.int (l.length:Nat)]) (bg rfl) rfl (aG rfl (af rfl) (aG rfl aY (aG rfl (cU (bp (bg rfl) rfl (aG rfl (af rfl) aF) f1) aY (FF (Int.add_sub_cancel l.length 1))) aF))) (GP qX cL))) ?_;rw[mJ];exact aV
end
end
section
section
variable {d:Nat}{U:aD}{H:Hp}
def gb(l:List aN)(c:Nat):Nat:=match Nat.blt (c+1) l.length with
 |true=>(match ae l c with
  |some a=>(match ae l (c+1) with
   |some b=>(match dY a b with|true=>c|false=>c+1)
   |none=>c)
  |none=>c)
 |false=>c
noncomputable def gh:Nat->List aN->Nat->List aN×Nat
 |0,l,p=>(l,p)
 |n+1,l,p=>match Nat.blt (2*p+1) l.length with
  |false=>(l,p)
  |true=>match ae l (gb l (2*p+1)) with
   |some y=>gh n (ai l y p) (gb l (2*p+1))
   |none=>(l,p)
def OA(n:Nat)(l:List aN)(p:Nat):gh (n+1) l p=match Nat.blt (2*p+1) l.length with|false=>(l,p)|true=>match ae l (gb l (2*p+1)) with|some y=>gh n (ai l y p) (gb l (2*p+1))|none=>(l,p):=rfl
variable {l:List aN}
def Zv{c:Nat}(h:c<l.length):gb l c<l.length/\c<=gb l c:=by
 have z:c<l.length/\c<=c:=⟨h,aQ _⟩;unfold gb;cases hb:Nat.blt (c+1) l.length with
 |false=>exact z
 |true=>
  cases ae l c with
  |none=>exact z
  |some a=>
   cases ae l (c+1) with
   |none=>exact z
   |some b=>
    show(match dY a b with|true=>c|false=>c+1)<l.length/\c<=(match dY a b with|true=>c|false=>c+1);cases dY a b with
    |true=>exact z
    |false=>exact⟨bf.mp hb,jx _⟩
variable {a:Nat}
def vV{p:Nat}{y:aN}(hl:ae H a=some (bF l))(h:ae l p=some y):jh (.ref a) (.int p) H=some (aX y):=qC hl (show ae (l.map aX) p=_ by rw[ir,h];rfl)
variable {x:aN}
def OF{p n:Nat}{u:Option AV}(hl:ae H a=some (bF l))(hc:2*p+1<l.length){fl:Fl}{ρ':aD}{H':Hp}
  (h:RB P d true (tW (bk (aW rj.body 4)) 2) [some (.ref a),some (.int (p:Nat)),some (.int (l.length:Nat)),some (.int 0),some (aX x),some (.int (gb l (2*p+1):Nat)),some (.int (2*p+1+1:Nat))] H fl ρ' H'):
  RB P d true (bk (aW rj.body 4)) [some (.ref a),some (.int (p:Nat)),some (.int (l.length:Nat)),some (.int 0),some (aX x),some (.int (2*p+1:Nat)),u] H fl ρ' H':=by
 refine ay (bB (v:=.int (2*p+1+1:Nat)) (cU (af rfl) aY (nC rfl)) (λO=>rfl) rfl rfl) ?_;apply ay (h2:=h);unfold gb;cases hb:Nat.blt (2*p+1+1) l.length with
 |false=>exact cn (t:=false) (Gw (bC (af rfl) (af rfl) (congrArg some hb))) aV
 |true=>
  refine ue (gA hc) λy1 h1=>?_;refine ue (gA (bf.mp hb)) λy2 h2=>?_;have il:RT P d true (iL (aW (bk (aW rj.body 4)) 1)) [some (.ref a),some (.int (p:Nat)),some (.int (l.length:Nat)),some (.int 0),some (aX x),some (.int (2*p+1:Nat)),some (.int (2*p+1+1:Nat))] H (!dY y1 y2) [some (.ref a),some (.int (p:Nat)),some (.int (l.length:Nat)),some (.int 0),some (aX x),some (.int (2*p+1:Nat)),some (.int (2*p+1+1:Nat))] H:=by exact Bt (bC (af rfl) (af rfl) (congrArg some hb)) (P2 (bC (dD (af rfl) (af rfl) (vV hl h1)) (dD (af rfl) (af rfl) (vV hl h2)) (zj y1 y2)))
  rw[h1,h2];dsimp only;cases hq:dY y1 y2 with
  |true=>rw[hq] at il;exact cn il aV
  |false=>rw[hq] at il;exact cn il (ay (bB (af rfl) (λO=>rfl) rfl rfl) aV)
def OE:∀(n:Nat) {l:List aN} {p:Nat} {u:Option AV} {H:Hp},l.length<=p+n->l.length<=az->p<l.length->ae H a=some (bF l) ->
  ∃u' w',RW P d true (iL (aW rj.body 4)) (bk (aW rj.body 4)) (jt (aW rj.body 4))
   [some (.ref a),some (.int (p:Nat)),some (.int (l.length:Nat)),some (.int 0),some (aX x),some (.int (2*p+1:Nat)),u] H .next
   [some (.ref a),some (.int ((gh n l p).2:Nat)),some (.int (l.length:Nat)),some (.int 0),some (aX x),w',u'] (ai H (bF (gh n l p).1) a)/\(gh n l p).1.length=l.length/\(gh n l p).2<l.length:=by
 intro n
 induction n with
 |zero=>intro l p u H hn hs hp hl;exact absurd hp (hJ.mpr hn)
 |succ n ih=>
  intro l p u H hn hs hp hl;rw[OA];cases hb:Nat.blt (2*p+1) l.length with
  |false=>refine⟨u,some (.int (2*p+1:Nat)),?_,rfl,hp⟩;rw[pn hl];exact pH (bC (af rfl) (af rfl) (congrArg some hb)) aV
  |true=>
   have hc:=bf.mp hb;refine ua (Zv hc) λc1 c2=>?_;refine ue (gA c1) λy h1=>?_;rw[h1];dsimp only;refine bo (ih (l:=ai l y p) (p:=gb l (2*p+1)) (u:=some (.int (2*p+1+1:Nat))) (H:=ai H (bF (ai l y p)) a) (by rw[bW];exact Mb ‹_› ‹_›) (by rw[bW];exact hs) (by rw[bW];exact c1) (cF (bE hl))) λu' w' h3 h4 h5=>?_;rw[mJ] at h3;rw[bW] at h3 h4 h5;refine⟨u',w',?_,h4,h5⟩;apply pG (f:=.next) (hf:=rfl) (h3:=h3)
   ·exact bC (af rfl) (af rfl) (congrArg some hb)
   ·refine OF (n:=n) hl hc ?_;refine ay (om (dD (af rfl) (af rfl) (vV hl h1)) (λO=>rfl) (af rfl) (af rfl) (wh hl (by rw[aC];exact hp))) ?_;rw[kW];refine ay (bB (af rfl) (λO=>rfl) rfl rfl) ?_;exact ay (bB (v:=.int (2*gb l (2*p+1)+1:Nat)) (cU (cU aY (af rfl) (wL (by decide) (Bl (by exact EE ‹_› ‹_›)) rfl)) aY (nC (i:=2*(gb l (2*p+1):Nat)) (j:=1) rfl)) (λO=>rfl) rfl rfl) aV
def qF(x:aN)(l:List aN):List aN:=gO x (gh l.length l 0).2 (ai (gh l.length l 0).1 x (gh l.length l 0).2) (gh l.length l 0).2
def QE(hl:ae H a=some (bF l))(hx:ae l 0=some x)(hs:l.length<=az):RC P (d+2) (.glob 24) [.ref a,.int 0] H .none (ai H (bF (qF x l)) a):=by
 have ha:=bE hl;refine bo (OE (d:=d+1) (x:=x) l.length (u:=none) (by exact EF) hs (bE hx) hl) λu' w' h3 h4 h5=>?_;generalize hL:(gh l.length l 0).1=l' at h3 h4;generalize hP:(gh l.length l 0).2=p' at h3 h5;have sS:p'<l'.length:=by exact AP ‹_› ‹_›
 have f1:=wB (d:=d+1) hl (by rw[aC];exact hs);refine eG (fd:=rj) (fl:=.next) (ρ1:=[some (.ref a),some (.int 0),none,none,none,none,none]) rfl rfl ?_ rfl;refine⟨[some (.ref a),some (.int (p':Nat)),some (.int (l.length:Nat)),some (.int 0),some (aX x),w',u'],?_⟩;rw[aC] at f1;refine ay (bB (bp (bg rfl) rfl (aG rfl (af rfl) aF) f1) (λO=>rfl) rfl rfl) (ay (bB (af rfl) (λO=>rfl) rfl rfl) (ay (bB (dD (af rfl) (af rfl) (vV (p:=0) hl hx)) (λO=>rfl) rfl rfl) (ay (bB (cU (cU aY (af rfl) (wL (by decide) (by decide) rfl)) aY (nC rfl)) (λO=>rfl) rfl rfl) (ay (mQ h3) ?_))));apply ay (h1:=om (af rfl) (λO=>rfl) (af rfl) (af rfl) (wh (cF ha:ae (ai H (bF l') a) a=some (bF l')) (by rw[aC];exact sS)));have f2:=GP (d:=d) (cF ha:ae (ai H (bF (ai l' x p')) a) a=some (bF (ai l' x p'))) (cF sS);rw[kW,mJ];rw[mJ] at f2;refine ay (fL (bp (bg rfl) rfl (aG rfl (af rfl) (aG rfl (af rfl) (aG rfl (af rfl) aF))) f2)) ?_;unfold qF;rw[hL,hP];exact aV
def fi(l:List aN)(x:aN):aN×List aN:=match l with
 |[]=>(x,[])
 |y::r=>(y,qF x (x::r))
def QK(hl:ae H a=some (bF (l++[x])))(hs:l.length<=az):RC P (d+3) (.glob 21) [.ref a] H (aX (fi l x).1) (ai H (bF (fi l x).2) a):=by
 have ha:=bE hl;have e:(l++[x]).map aX=l.map aX++[aX x]:=by rw[bR];rfl
 have qX:ae (ai H (.list (l.map aX)) a) a=some (bF l):=cF ha;have first:∀{fl:Fl} {ρ':aD} {H':Hp},RB P (d+2) true (tW xG.body 1) [some (.ref a),some (aX x),none] (ai H (bF l) a) fl ρ' H'->RB P (d+2) true xG.body [some (.ref a),none,none] H fl ρ' H':=λ{fl ρ' H'} h=>by apply ay (h2:=h);exact bB (fu (mk:=.list) (af rfl) (ky hl) rfl rfl aF (BP (by rw[<- e];exact hl:ae H a=some (.list (l.map aX++[aX x]))))) (λO=>rfl) rfl rfl
 have il:=vQ qX;cases l with
 |nil=>refine eG (fd:=xG) (fl:=.ret (aX x)) (ρ1:=[some (.ref a),none,none]) rfl rfl ?_ rfl;refine⟨[some (.ref a),some (aX x),none],first ?_⟩;refine ay (cn (ly (af rfl) il) aV) ?_;exact cV (gj (af rfl) λO=>rfl) nofun
 |cons y r=>
  have f2:=QE (d:=d) (H:=ai H (bF (x::r)) a) (x:=x) (cF ha) rfl hs;refine eG (fd:=xG) (fl:=.ret (aX y)) (ρ1:=[some (.ref a),none,none]) rfl rfl ?_ rfl;refine⟨[some (.ref a),some (aX x),some (aX y)],first ?_⟩;refine cV (fl:=.ret (aX y)) (cn (ly (af rfl) il) ?_) nofun;refine ay (bB (dD (af rfl) aY (vV (p:=0) qX rfl)) (λO=>rfl) rfl rfl) ?_;refine ay (om (af rfl) (λO=>rfl) (af rfl) aY (wh (p:=0) qX (mE _))) ?_;rw[mJ] at f2⊢;refine ay (fL (bp (bg rfl) rfl (aG rfl (af rfl) (aG rfl aY aF)) f2)) ?_
  ·exact cV (gj (af rfl) λO=>rfl) nofun
end
end
section
abbrev Ky:=List Nat
structure Nd where
 key:Ky
 np:Int
 su:List Ky
 ia:Nat
 sa:Nat
noncomputable def fX(n:Nd):AO:=.inst 25 [some (.str n.key),some (.int n.np),some (.ref n.sa)]
noncomputable def aS(l:List Ky):AO:=.list (l.map .str)
noncomputable def dG(ns:List Nd):List (List Nat×AV):=ns.map λn=>(n.key,.ref n.ia)
def iH(H:Hp)(n:Nd):Prop:=(ae H n.ia=some (fX n))/\(ae H n.sa=some (aS n.su))
section
variable {b1 b2}(x:iH b1 b2)
def iH.mk:=iu (iH b1 b2) rfl
def iH.inf:=x.1
def iH.cQ:=x.2
end
def dw(H:Hp)(d ep:Nat)(ns:List Nd):Prop:=(ae H d=some (.dict ep (dG ns)))/\(∀n∈ns,iH H n)/\((ns.map (·.key)).Nodup)/\((ns.map (·.ia)).Nodup)/\((ns.map (·.sa)).Nodup)
section
variable {b1 b2 b3 b4}(x:dw b1 b2 b3 b4)
def dw.mk:=jJ (dw b1 b2 b3 b4) rfl
def dw.dct:=x.1
def dw.ok:=x.2.1
def dw.keys:=x.2.2.1
def dw.uH:=x.2.2.2.1
def dw.tV:=x.2.2.2.2
end
section
variable {d ep:Nat}{ns:List Nd}{H H':Hp}
def dw.mono(G:dw H d ep ns)(h1:ae H' d=ae H d)(h2:∀n∈ns,ae H' n.ia=ae H n.ia/\ae H' n.sa=ae H n.sa):dw H' d ep ns:=(dw.mk (h1.trans G.dct) (λn hn=>(iH.mk ((h2 n hn).1.trans (G.ok n hn).inf) ((h2 n hn).2.trans (G.ok n hn).cQ))) G.keys G.uH G.tV)
def dw.app(G:dw H d ep ns)(Y:Hp):dw (H++Y) d ep ns:=(dw.mk (bU G.dct) (λn hn=>(iH.mk (bU (G.ok n hn).inf) (bU (G.ok n hn).cQ))) G.keys G.uH G.tV)
def iZ(k:Ky):au k k=true:=by
 induction k with
 |nil=>rfl
 |cons a r ih=>show(match Nat.beq a a with|true=>au r r|false=>false)=true;rw[jy];exact ih
theorem oM:∀{a b:Ky},au a b=true->a=b:=by
 intro a
 induction a with
 |nil=>
  intro t_ h;cases t_ with
  |nil=>exact rfl
  |cons _ _=>exact nomatch h
 |cons x xs ih=>
  intro t_ h;cases t_ with
  |nil=>exact nomatch h
  |cons y ys=>
   have h:(match Nat.beq x y with|true=>au xs ys|false=>false)=true:=h;cases e:Nat.beq x y with
   |true=>rw[e] at h;rw[ck e,ih h]
   |false=>rw[e] at h;cases h
def rq{a b:Ky}(h:a≠b):au a b=false:=by
 cases e:au a b with
 |true=>exact absurd (oM e) h
 |false=>rfl
theorem zo:∀{l:List Nd},(l.map (·.key)).Nodup->∀n∈l,bT n.key (dG l)=some (.ref n.ia):=by
 intro l
 induction l with
 |nil=>intro _ n hn;exact nomatch hn
 |cons m l ih=>
  intro h n hn;rw[bQ,hU] at h;show(match au m.key n.key with|true=>some (AV.ref m.ia)|false=>bT n.key (dG l))=_;rcases bl.mp hn with rfl|hn
  ·rw[iZ]
  ·rw[rq (λe=>h.1 (bj.mpr ⟨n,hn,e.symm⟩))];exact ih h.2 n hn
theorem HP{k:Ky}:∀{l:List Nd},(∀n∈l,n.key≠k)->bT k (dG l)=none:=by
 intro l
 induction l with
 |nil=>intro _;exact rfl
 |cons m l ih=>intro h;show(match au m.key k with|true=>some (AV.ref m.ia)|false=>bT k (dG l))=_;rw[rq (h m bz)];exact ih λn hn=>h n (bI _ hn)
theorem Rq{k:Ky}{v:AV}:∀{l:List Nd},(∀n∈l,n.key≠k)->fx k v (dG l)=dG l++[(k,v)]:=by
 intro l
 induction l with
 |nil=>intro _;exact rfl
 |cons m l ih=>intro h;show(match au m.key k with|true=>(m.key,v)::dG l|false=>(m.key,AV.ref m.ia)::fx k v (dG l))=_;rw[rq (h m bz)];exact congrArg ((m.key,AV.ref m.ia)::·) (ih λn hn=>h n (bI _ hn))
def fp(ns:List Nd)(k:Ky)(f:Nd->Nd):List Nd:=ns.map λn=>match au n.key k with|true=>f n|false=>n
theorem uh{α β:Type}{f:α->β}:∀{l:List α},(l.map f).Nodup->∀a∈l,∀b∈l,f a=f b->a=b:=by
 intro l
 induction l with
 |nil=>intro _ _ ha _ _ _;exact nomatch ha
 |cons c l ih=>
  intro h a ha b hb e;rw[bQ,hU] at h;rcases bl.mp ha with e1|ha<;>rcases bl.mp hb with e2|hb
  ·rw[e1,e2]
  ·exact absurd (bj.mpr ⟨b,hb,by rw[<- e,e1]⟩) h.1
  ·exact absurd (bj.mpr ⟨a,ha,by rw[e,e2]⟩) h.1
  ·exact ih h.2 a ha b hb e
variable {f:Nd->Nd}
def yC{k:Ky}{m:Nd}(h:m∈fp ns k f):∃n∈ns,(n.key=k/\m=f n)\/(n.key≠k/\m=n):=by
 refine ak (bj.mp h) λn hn e=>?_;refine⟨n,hn,?_⟩;cases hk:au n.key k with
 |true=>rw[hk] at e;exact .inl ⟨oM hk,e.symm⟩
 |false=>rw[hk] at e;refine .inr ⟨λq=>?_,e.symm⟩;rw[q,iZ] at hk;cases hk
def yD{β:Type}(g:Nd->β){k:Ky}(h:∀n,g (f n)=g n):(fp ns k f).map g=ns.map g:=by
 unfold fp;rw[cm];refine jC λn O=>?_;show g (match au n.key k with|true=>f n|false=>n)=g n;cases au n.key k with
 |true=>exact h n
 |false=>rfl
def tT{β:Type}(g:Nd->β){k:Ky}(h:∀n,g (f n)=g n)(hn:(ns.map g).Nodup):((fp ns k f).map g).Nodup:=by rw[yD g h];exact hn
variable {fs:List (Option AV)}
def sP{a b:Nat}{c:Nat}{l:List AV}(h1:ae H a=some (.inst c fs))(h2:ae H b=some (.list l)):a≠b:=λe=>by rw[e,h2] at h1;cases h1
variable {l:List (List Nat×AV)}
def uG{a b:Nat}{c e:Nat}(h1:ae H a=some (.inst c fs))(h2:ae H b=some (.dict e l)):a≠b:=λe=>by rw[e,h2] at h1;cases h1
def kr{a b:Nat}{e:Nat}{fs:List AV}(h1:ae H a=some (.list fs))(h2:ae H b=some (.dict e l)):a≠b:=λe=>by rw[e,h2] at h1;cases h1
def dw.Gf(G:dw H d ep ns){n:Nd}(hn:n∈ns)(v:Int):dw (ai H (fX {n with np:=v}) n.ia) d ep (fp ns n.key λm=>{m with np:=v}):=by
 have hi:=(G.ok n hn).inf;refine(dw.mk ?_ (λm hm=>?_) ?_ ?_ ?_)
 ·rw[aZ (uG hi G.dct),G.dct];unfold dG;rw[show(fp ns n.key λm=>{m with np:=v}).map (λm=>(m.key,AV.ref m.ia))=ns.map λm=>(m.key,AV.ref m.ia) from yD (λm=>(m.key,AV.ref m.ia)) λO=>rfl]
 ·obtain⟨n',dP,h|h⟩:=yC hm
  ·refine ua h λh1 aa=>?_;clear h;subst aa;have:=uh G.keys n' dP n hn h1;subst this;exact(iH.mk (cF (bE hi)) ((aZ (sP hi (G.ok n' dP).cQ)).trans (G.ok n' dP).cQ))
  ·refine ua h λh1 aa=>?_;clear h;subst aa;exact(iH.mk ((aZ (λe=>h1 (by rw[uh G.uH n hn m dP e]):n.ia≠m.ia)).trans (G.ok m dP).inf) ((aZ (sP hi (G.ok m dP).cQ)).trans (G.ok m dP).cQ))
 ·exact tT (·.key) (by intro _;rfl) G.keys
 ·exact tT (·.ia) (by intro _;rfl) G.uH
 ·exact tT (·.sa) (by intro _;rfl) G.tV
def dw.PA(G:dw H d ep ns){n:Nd}(hn:n∈ns)(l:List Ky):dw (ai H (aS l) n.sa) d ep (fp ns n.key λm=>{m with su:=l}):=by
 have hi:=(G.ok n hn).cQ;refine(dw.mk ?_ (λm hm=>?_) ?_ ?_ ?_)
 ·rw[aZ (kr hi G.dct),G.dct];unfold dG;rw[show(fp ns n.key λm=>{m with su:=l}).map (λm=>(m.key,AV.ref m.ia))=ns.map λm=>(m.key,AV.ref m.ia) from yD (λm=>(m.key,AV.ref m.ia)) λO=>rfl]
 ·obtain⟨n',dP,h|h⟩:=yC hm
  ·refine ua h λh1 aa=>?_;clear h;subst aa;have:=uh G.keys n' dP n hn h1;subst this;exact(iH.mk ((aZ (sP (G.ok n' dP).inf hi).symm).trans (G.ok n' dP).inf) (cF (bE hi)))
  ·refine ua h λh1 aa=>?_;clear h;subst aa;exact(iH.mk ((aZ (sP (G.ok m dP).inf hi).symm).trans (G.ok m dP).inf) ((aZ (λe=>h1 (by rw[uh G.tV n hn m dP e]):n.sa≠m.sa)).trans (G.ok m dP).cQ))
 ·exact tT (·.key) (by intro _;rfl) G.keys
 ·exact tT (·.ia) (by intro _;rfl) G.uH
 ·exact tT (·.sa) (by intro _;rfl) G.tV
end
section
variable {P:bO}{H:Hp}{n c a:Nat}{fs fs':List (Option AV)}{v:AV}
def et(h:ae H n=some (.inst c fs))(hv:((lR P c).bind λcd=>(ae fs (fZ cd.bx a)).bind λr=>r)=some v):qg P a (.ref n) H=some v:=by
 show((ae H n).bind λo=>match o with
 |.inst c fs=>(lR P c).bind λcd=>(ae fs (fZ cd.bx a)).bind λr=>r
 |.iter _ _=>aK (Nat.beq a 9) (some (.cK n))
 |_=>none)=_
 rw[h];exact hv
def ji(h:ae H n=some (.inst c fs))(hv:((lR P c).bind λcd=>aK (Nat.blt (fZ cd.bx a) fs.length) (some (ai fs (some v) (fZ cd.bx a))))=some fs'):pF P a (.ref n) v H=some (ai H (.inst c fs') n):=by
 show((xd H n).bind λr=>(lR P r.1).bind λcd=>aK (Nat.blt (fZ cd.bx a) r.2.length) (some (ai H (.inst r.1 (ai r.2 (some v) (fZ cd.bx a))) n)))=_;rw[Vn h];show((lR P c).bind λcd=>aK (Nat.blt (fZ cd.bx a) fs.length) (some (ai H (.inst c (ai fs (some v) (fZ cd.bx a))) n)))=_;cases hc:lR P c with
 |none=>rw[hc] at hv;exact aT hv
 |some cd=>
  rw[hc] at hv;obtain⟨h1,h2⟩:Nat.blt (fZ cd.bx a) fs.length=true/\ai fs (some v) (fZ cd.bx a)=fs':=by
   have hv:aK (Nat.blt (fZ cd.bx a) fs.length) (some (ai fs (some v) (fZ cd.bx a)))=some fs':=hv;cases hb:Nat.blt (fZ cd.bx a) fs.length with
   |false=>rw[hb] at hv;exact aT hv
   |true=>rw[hb] at hv;exact⟨rfl,jA hv⟩
  show aK (Nat.blt (fZ cd.bx a) fs.length) (some (ai H (.inst c (ai fs (some v) (fZ cd.bx a))) n))=_;rw[h1,h2];rfl
def oD{m k:Nat}(h:ae H n=some (.inst c fs))(hv:((lR P c).bind λcd=>(cd.meths.lookup m).map MK.user)=some (.user k)):nc P (.ref n) m H=some (.user k):=by show(ae H n).bind _=_;rw[h];exact hv
end
section
variable {d:Nat}{H:Hp}
def QX(k:Ky):RC P (d+2) (.glob 25) [.str k] H (.ref (H.length+1)) (H++[.dead,fX ⟨k,0,[],H.length+1,H.length+2⟩,aS []]):=by
 have e:∀o m,ai (H++.dead::o::m)=λy n=>ai (H++.dead::o::m) y n:=λO O=>rfl;have at1:∀{o:AO} {m:Hp},ae (H++.dead::o::m) (H.length+1)=some o:=λ{o m}=>jm (n:=1);have up1:∀{o y:AO} {m:Hp},ai (H++.dead::o::m) y (H.length+1)=H++.dead::y::m:=λ{o y m}=>E9 (n:=1);refine QD (cd:=⟨43,true,[],[22,20,21]⟩) rfl rfl ?_;refine eG (fd:=JQ) (fl:=.next) (ρ1:=[some (.ref (H.length+1)),some (.str k)]) rfl rfl ?_ rfl;refine⟨[some (.ref (H.length+1)),some (.str k)],?_⟩;refine ay (pI (af rfl) (λO=>rfl) (af rfl) (ji at1 rfl)) ?_;rw[up1];refine ay (pI aY (λO=>rfl) (af rfl) (ji at1 rfl)) ?_;rw[up1];refine ay (pI (de aF rfl) (λO=>rfl) (af rfl) (ji (fs':=[some (.str k),some (.int 0),some (.ref (H.length+2))]) (bU at1) ?_)) ?_
 ·have:(H++[AO.dead,AO.inst 25 [some (AV.str k),some (AV.int 0),none]]).length=H.length+2:=by rw[bu];rfl
  show some [some (AV.str k),some (AV.int 0),some (AV.ref (List.length _))]=_;rw[<- this];rfl
 ·rw[dA];show RB _ _ _ _ _ (ai (H++.dead::_::[.list []]) _ _) _ _ _;rw[up1];exact aV
end
end
section
noncomputable def fS(d:Nat)(r:AV)(np nf:Int):AO:=.inst 22 [some (.ref d),some r,some (.int np),some (.int nf)]
abbrev Ad:=Ky×Int×List Ky
noncomputable def bZ(ns:List Nd):List Ad:=ns.map λn=>(n.key,n.np,n.su)
def gn(k:Ky)(g:List Ad):Bool:=g.any λt=>au t.1 k
def gI(g:List Ad)(k:Ky):List Ad:=match gn k g with|true=>g|false=>g++[(k,0,[])]
def gu(g:List Ad)(k:Ky)(f:Int->Int):List Ad:=g.map λt=>match au t.1 k with|true=>(t.1,f t.2.1,t.2.2)|false=>t
def nD(g:List Ad)(k x:Ky):List Ad:=g.map λt=>match au t.1 k with|true=>(t.1,t.2.1,t.2.2++[x])|false=>t
def Bd(lo hi:Nat)(ns:List Nd):Prop:=∀n∈ns,(lo<=n.ia/\n.ia<hi)/\lo<=n.sa/\n.sa<hi
def fj(H:Hp)(s d lo:Nat)(g:List Ad)(r:AV)(np nf:Int):Prop:=(ae H s=some (fS d r np nf))/\(∃ep ns,dw H d ep ns/\bZ ns=g/\Bd lo H.length ns)/\(lo<=s)/\(lo<=d)/\(d<H.length)
section
variable {b1 b2 b3 b4 b5 b6 b7 b8}(x:fj b1 b2 b3 b4 b5 b6 b7 b8)
def fj.mk:=jJ (fj b1 b2 b3 b4 b5 b6 b7 b8) rfl
def fj.self:=x.1
def fj.dj:=x.2.1
def fj.mY:=x.2.2.1
def fj.qO:=x.2.2.2.1
def fj.ve:=x.2.2.2.2
end
def aJ(lo:Nat)(H H':Hp):Prop:=(H.length<=H'.length)/\(∀a,a<lo->ae H' a=ae H a)
section
variable {b1 b2 b3}(x:aJ b1 b2 b3)
def aJ.mk:=iu (aJ b1 b2 b3) rfl
def aJ.len:=x.1
def aJ.low:=x.2
end
def aJ.refl(lo:Nat)(H:Hp):aJ lo H H:=(aJ.mk (aQ _) (λO O=>rfl))
variable {lo:Nat}
def aJ.trans{H H1 H2:Hp}(a:aJ lo H H1)(b:aJ lo H1 H2):aJ lo H H2:=(aJ.mk (aH a.len b.len) (λx hx=>(b.low x hx).trans (a.low x hx)))
def aJ.upd{n:Nat}{H:Hp}{o:AO}(h:lo<=n):aJ lo H (ai H o n):=(aJ.mk (by rw[bW];exact aQ _) (λa ha=>aZ (by exact L8 ‹_› ‹_›)))
def oy{α:Type}{l:List α}{n:Nat}(h:l.length<=n):ae l n=none:=by
 cases e:ae l n with
 |none=>rfl
 |some x=>exact absurd (bE e) (by exact LU ‹_›)
def yX{α:Type}{l m:List α}{n:Nat}(h:n<l.length):ae (l++m) n=ae l n:=by refine ue (gA h) λx e=>?_;rw[e,bU e]
def aJ.app{H:Hp}(Y:Hp)(h:lo<=H.length):aJ lo H (H++Y):=(aJ.mk (by rw[bu];exact x9) (λa ha=>yX (by exact Et ‹_› ‹_›)))
section
variable {ns:List Nd}
def Ly{k:Ky}{f:Nd->Nd}{g:Ad->Ad}(h:∀n,((f n).key,(f n).np,(f n).su)=g (n.key,n.np,n.su)):bZ (fp ns k f)=(bZ ns).map λt=>match au t.1 k with|true=>g t|false=>t:=by
 unfold bZ fp;rw[cm,cm];refine jC λn O=>?_;show((match au n.key k with|true=>f n|false=>n).key,(match au n.key k with|true=>f n|false=>n).np,(match au n.key k with|true=>f n|false=>n).su)=match au n.key k with|true=>g (n.key,n.np,n.su)|false=>(n.key,n.np,n.su)
 cases au n.key k with
 |true=>exact h n
 |false=>rfl
def zS{k:Ky}:gn k (bZ ns)=true↔∃n∈ns,n.key=k:=by unfold gn bZ;rw[List.any_map,List.any_eq_true];exact⟨λbN=>ak bN λn hn h=>⟨n,hn,oM h⟩,λbN=>ak bN λn hn h=>⟨n,hn,by rw[<- h];exact iZ _⟩⟩
def Bd.mono{lo hi uO:Nat}(b:Bd lo hi ns)(h:hi<=uO):Bd lo uO ns:=λn hn=>⟨⟨(b n hn).1.1,cA (b n hn).1.2 h⟩,(b n hn).2.1,cA (b n hn).2.2 h⟩
def Bd.Bo{lo hi:Nat}{k:Ky}{f:Nd->Nd}(b:Bd lo hi ns)(h1:∀n,(f n).ia=n.ia)(h2:∀n,(f n).sa=n.sa):Bd lo hi (fp ns k f):=λm hm=>by
 obtain⟨n,hn,⟨_,rfl⟩|⟨_,rfl⟩⟩:=yC hm
 ·rw[h1,h2];exact b n hn
 ·exact b m hn
end
section
variable {dd s d lo:Nat}{H:Hp}{g:List Ad}{r:AV}{np nf:Int}
def QP:RC P (dd+2) (.glob 22) [] H (.ref H.length) (H++[fS (H.length+1) .none 0 0,.dict 0 []]):=by refine Q8 (cd:=⟨35,false,[(19,36),(8,37),(10,38),(12,39),(11,40),(13,41),(23,42)],[14,15,16,17]⟩) rfl rfl ?_;refine eG (fd:=JS) (fl:=.next) (ρ1:=[some (.ref H.length),some .none,none,none]) rfl rfl ?_ rfl;refine⟨[some (.ref H.length),some .none,none,none],?_⟩;refine ay (pI yM (λO=>rfl) (af rfl) (ji (bU cL) rfl)) ?_;rw[dA,bu];show RB _ _ _ _ _ (ai (H++.inst 22 _::[.dict 0 []]) _ _) _ _ _;rw[rW];refine ay (pI aY (λO=>rfl) (af rfl) (ji cL rfl)) ?_;rw[rW];refine ay (pI aY (λO=>rfl) (af rfl) (ji cL rfl)) ?_;rw[rW];refine ay (pI aY (λO=>rfl) (af rfl) (ji cL rfl)) ?_;rw[rW];refine ay (cn (t:=false) (bC (af rfl) aY rfl) aV) ?_;exact aV
def OQ:fj (H++[fS (H.length+1) .none 0 0,.dict 0 []]) H.length (H.length+1) H.length [] .none 0 0:=(fj.mk cL ⟨0,[],(dw.mk (jm (n:=1)) nofun pf pf pf),rfl,nofun⟩ (aQ _) (jx _) (by rw[bu];exact Nat.add_lt_add_left (by decide:1<2) _))
variable {l:List (List Nat×AV)}
def Dm{k:Ky}{e:Nat}(h:ae H d=some (.dict e l)):jK .dict 6 (.ref d) [.str k] H=some ((bT k l).getD .none,H):=by show((cM H d).bind λr=>wN 6 d r.2 [.str k] H)=_;rw[kD h];rfl
def JA{k:Ky}(S:fj H s d lo g r np nf){e:Nat}(hd:ae H d=some (.dict e l)){u:Option AV}{p1 p2 p3 p4 p5:Pos}:
  RE P dd true (.bV (.attr (.var "self" 0 p1) "_node2info" 14 p2) "get" 6 (.cons (.var "node" 1 p3) .nil) p4 p5) [some (.ref s),some (.str k),u] H ((bT k l).getD .none) [some (.ref s),some (.str k),u] H:=
 fu (mk:=.dict) (fg (af rfl) (et S.self rfl)) (sJ hd) rfl rfl (aG rfl (af rfl) aF) (Dm hd)
def QY{k:Ky}(S:fj H s d lo g r np nf)(hg:g.length<az):
  ∃H' n,RC P (dd+3) (.glob 36) [.ref s,.str k] H (.ref n.ia) H'/\aJ lo H H'/\(∃ep ns,n∈ns/\n.key=k/\dw H' d ep ns/\bZ ns=gI g k/\Bd lo H'.length ns)/\ae H' s=some (fS d r np nf):=by
 refine bo S.dj λep ns G aa B=>?_;subst aa;by_cases hk:∃n∈ns,n.key=k
 ·have ek:gI (bZ ns) k=bZ ns:=by unfold gI;rw[zS.mpr hk]
  refine ak hk λn hn aa=>?_;clear hk;subst aa;have f:=λp1 p2 p3 p4 p5 p6 p7=>BD (n:="result") (k:=2) (p:=p6) (p2:=p7) (JA (p1:=p1) (p2:=p2) (p3:=p3) (p4:=p4) (p5:=p5) (dd:=dd+2) (k:=n.key) S G.dct (u:=none)) rfl;refine⟨H,n,?_,aJ.refl ..,⟨ep,ns,hn,rfl,G,ek.symm,B⟩,S.self⟩;refine eG (fd:=Dv) (fl:=.ret (.ref n.ia)) (ρ1:=[some (.ref s),some (.str n.key),none]) rfl rfl ?_ rfl;refine⟨[some (.ref s),some (.str n.key),some (.ref n.ia)],?_⟩;simp only[zo G.keys n hn] at f;refine ay (cn (t:=false) ?_ aV) (cV (gj (af rfl) λO=>rfl) nofun);exact bC (f ..) aY rfl
 ·have jq:∀n∈ns,n.key≠k:=λn hn e=>hk ⟨n,hn,e⟩;have ek:gI (bZ ns) k=bZ ns++[(k,0,[])]:=by
   unfold gI;cases h:gn k (bZ ns) with
   |true=>exact absurd (zS.mp h) hk
   |false=>rfl
  have lo1:lo<=H.length:=aH S.mY (bG (bE S.self));have hs:s≠d:=uG S.self G.dct;have G1:=G.app [.dead,fX ⟨k,0,[],H.length+1,H.length+2⟩,aS []];have d1:ae (H++[.dead,fX ⟨k,0,[],H.length+1,H.length+2⟩,aS []]) (H.length+1)=some (fX ⟨k,0,[],H.length+1,H.length+2⟩):=jm (n:=1);have d2:ae (H++[.dead,fX ⟨k,0,[],H.length+1,H.length+2⟩,aS []]) (H.length+2)=some (aS []):=jm (n:=2);have Um:(H++[.dead,fX ⟨k,0,[],H.length+1,H.length+2⟩,aS []]).length=H.length+3:=by rw[bu];rfl
  refine⟨ai (H++[.dead,fX ⟨k,0,[],H.length+1,H.length+2⟩,aS []]) (.dict (ep+1) (dG ns++[(k,.ref (H.length+1))])) d,⟨k,0,[],H.length+1,H.length+2⟩,?_,(aJ.app _ lo1).trans (aJ.upd S.qO),⟨ep+1,ns++[⟨k,0,[],H.length+1,H.length+2⟩],rL _ bz,rfl,?_,?_,?_⟩,?_⟩
  ·refine eG (fd:=Dv) (fl:=.ret (.ref (H.length+1))) (ρ1:=[some (.ref s),some (.str k),none]) rfl rfl ?_ rfl;have f:=λp1 p2 p3 p4 p5 p6 p7=>BD (n:="result") (k:=2) (p:=p6) (p2:=p7) (JA (p1:=p1) (p2:=p2) (p3:=p3) (p4:=p4) (p5:=p5) (dd:=dd+2) (k:=k) S G.dct (u:=none)) rfl;refine⟨[some (.ref s),some (.str k),some (.ref (H.length+1))],?_⟩;simp only[HP jq] at f;refine ay (cn (t:=true) (bC (f ..) aY rfl) ?_) (cV (gj (af rfl) λO=>rfl) nofun);refine ay (P7 (bp (bg rfl) rfl (aG rfl (af rfl) aF) (QX k)) (λO=>rfl) (fg (af rfl) (et (bU S.self) rfl)) (af rfl) (H4:=ai (H++[.dead,fX ⟨k,0,[],H.length+1,H.length+2⟩,aS []]) (.dict (ep+1) (dG ns++[(k,.ref (H.length+1))])) d) ?_ rfl) aV;have:=wi (k:=k) (v:=.ref (H.length+1)) G1.dct (by unfold dG;rw[aC];unfold bZ at hg;rw[aC] at hg;exact hg);rw[Rq jq] at this;have h0:bS k (dG ns)=false:=by unfold bS;rw[HP jq];rfl
   rw[h0] at this;exact this
  ·refine(dw.mk ?_ (λm hm=>?_) ?_ ?_ ?_)
   ·rw[cF (bE G1.dct)];unfold dG;rw[bR];rfl
   ·rcases hM.mp hm with hm|hm
    ·have o:=G1.ok m hm;exact(iH.mk ((aZ (uG o.inf G1.dct).symm).trans o.inf) ((aZ (kr o.cQ G1.dct).symm).trans o.cQ))
    ·cases fR.mp hm;exact(iH.mk ((aZ (uG d1 G1.dct).symm).trans d1) ((aZ (kr d2 G1.dct).symm).trans d2))
   ·rw[bR];refine rR.mpr ⟨G.keys,by simp,λa ha b hb e=>?_⟩;refine ak (bj.mp ha) λm hm aa=>?_;subst aa;exact jq m hm (e.trans (by simpa using hb))
   ·rw[bR];refine rR.mpr ⟨G.uH,by simp,λa ha b hb e=>?_⟩;refine ak (bj.mp ha) λm hm aa=>?_;subst aa;have hb:b=H.length+1:=by simpa using hb
    have:=(B m hm).1.2;exact Mz (e:m.ia=b) hb this
   ·rw[bR];refine rR.mpr ⟨G.tV,by simp,λa ha b hb e=>?_⟩;refine ak (bj.mp ha) λm hm aa=>?_;subst aa;have hb:b=H.length+2:=by simpa using hb
    have:=(B m hm).2.2;exact My (e:m.sa=b) hb this
  ·rw[ek];unfold bZ;rw[bR];rfl
  ·rw[bW,Um];intro m hm;rcases hM.mp hm with hm|hm
   ·exact B.mono (by exact x9) m hm
   ·cases fR.mp hm;exact⟨⟨by show lo<=H.length+1;exact AQ ‹_›,by show H.length+1<H.length+3;exact AM⟩,by show lo<=H.length+2;exact LS ‹_›,by show H.length+2<H.length+3;exact AN⟩
  ·exact(aZ hs.symm).trans (bU S.self)
end
end
section
def fz(H:Hp)(s d lo:Nat)(g:List Ad)(r:AV)(np nf:Int)(n:Nd):Prop:=(ae H s=some (fS d r np nf))/\(∃ep ns,n∈ns/\dw H d ep ns/\bZ ns=g/\Bd lo H.length ns)/\(lo<=s)/\(lo<=d)/\(d<H.length)
section
variable {b1 b2 b3 b4 b5 b6 b7 b8 b9}(x:fz b1 b2 b3 b4 b5 b6 b7 b8 b9)
def fz.mk:=jJ (fz b1 b2 b3 b4 b5 b6 b7 b8 b9) rfl
def fz.self:=x.1
def fz.dj:=x.2.1
def fz.mY:=x.2.2.1
def fz.qO:=x.2.2.2.1
def fz.ve:=x.2.2.2.2
end
section
variable {dd s d lo:Nat}{H:Hp}{g:List Ad}{r:AV}{np nf:Int}{n:Nd}
def fz.FX(S:fz H s d lo g r np nf n):fj H s d lo g r np nf:=(fj.mk S.self (ka S.dj λep ns O a b c=>⟨ep,ns,a,b,c⟩) S.mY S.qO S.ve)
def fz.ok(S:fz H s d lo g r np nf n):iH H n:=bo S.dj λep ns a G O=>G.ok n a
def fz.HN(S:fz H s d lo g r np nf n):lo<=n.ia/\lo<=n.sa:=ka S.dj λep ns a O O B=>⟨(B n a).1.1,(B n a).2.1⟩
def yv(h1:ae H s=some (fS d r np nf))(h2:ae H n.ia=some (fX n)):n.ia≠s:=λe=>by rw[e,h1] at h2;cases h2
variable {ns:List Nd}
def Gg{f:Nd->Nd}(h:n∈ns):f n∈fp ns n.key f:=bj.mpr ⟨n,h,by rw[iZ]⟩
variable {k:Ky}
def Az{v:Int}:bZ (fp ns k λm=>{m with np:=v})=gu (bZ ns) k λO=>v:=Ly (g:=λt=>(t.1,v,t.2.2)) (by intro _;rfl)
def fz.wC(S:fz H s d lo g r np nf n)(v:Int):fz (ai H (fX {n with np:=v}) n.ia) s d lo (gu g n.key λO=>v) r np nf {n with np:=v}:=by refine ka S.dj λep ns a G aa B=>?_;subst aa;refine(fz.mk ((aZ (yv S.self (G.ok n a).inf)).trans S.self) ⟨ep,_,Gg (f:=λm=>{m with np:=v}) a,G.Gf a v,Az,?_⟩ S.mY S.qO (by rw[bW];exact S.ve));rw[bW];exact B.Bo (by intro _;rfl) (by intro _;rfl)
def abp{f f':Int->Int}(h:∀t∈g,t.1=k->f t.2.1=f' t.2.1):gu g k f=gu g k f':=jC λt ht=>by
 cases e:au t.1 k with
 |true=>show(t.1,f t.2.1,t.2.2)=(t.1,f' t.2.1,t.2.2);rw[h t ht (oM e)]
 |false=>rfl
def abl(hk:(ns.map (·.key)).Nodup)(hn:n∈ns)(x:Ky):bZ (fp ns n.key λm=>{m with su:=n.su++[x]})=nD (bZ ns) n.key x:=by
 rw[Ly (g:=λt=>(t.1,t.2.1,n.su++[x])) (by intro _;rfl)];unfold nD bZ;rw[cm,cm];refine jC λm hm=>?_;show(match au m.key n.key with|true=>(m.key,m.np,n.su++[x])|false=>(m.key,m.np,m.su))=match au m.key n.key with|true=>(m.key,m.np,m.su++[x])|false=>(m.key,m.np,m.su)
 cases e:au m.key n.key with
 |true=>rw[uh hk m hm n hn (oM e)]
 |false=>rfl
def Bi(h1:ae H s=some (fS d r np nf))(h2:ae H n.sa=some (aS n.su)):n.sa≠s:=λe=>by rw[e,h1] at h2;cases h2
def fz.Rv(S:fz H s d lo g r np nf n)(x:Ky):fz (ai H (aS (n.su++[x])) n.sa) s d lo (nD g n.key x) r np nf {n with su:=n.su++[x]}:=by refine ka S.dj λep ns a G aa B=>?_;subst aa;refine(fz.mk ((aZ (Bi S.self (G.ok n a).cQ)).trans S.self) ⟨ep,_,Gg (f:=λm=>{m with su:=n.su++[x]}) a,G.PA a _,abl G.keys a x,?_⟩ S.mY S.qO (by rw[bW];exact S.ve));rw[bW];exact B.Bo (by intro _;rfl) (by intro _;rfl)
def GS(S:fj H s d lo g r np nf)(hg:g.length<az):
  ∃H' n,RC P (dd+3) (.glob 36) [.ref s,.str k] H (.ref n.ia) H'/\aJ lo H H'/\n.key=k/\fz H' s d lo (gI g k) r np nf n:=by
 obtain⟨H',n,h1,h2,⟨ep,ns,a,b,c,e,f⟩,h3⟩:=QY (dd:=dd) (k:=k) S hg;exact⟨H',n,h1,h2,b,fz.mk h3 ⟨ep,ns,a,c,e,f⟩ S.mY S.qO (cA S.ve h2.len)⟩
def fJ(g:List Ad)(n:Nat):Prop:=(g.length+n<az)/\(∀t∈g,t.2.2.length+n<az)
section
variable {b1 b2}(x:fJ b1 b2)
def fJ.mk:=iu (fJ b1 b2) rfl
def fJ.len:=x.1
def fJ.cQ:=x.2
end
def fJ.key{m:Nat}(h:fJ g (m+1)):fJ (gI g k) m:=by
 have h1:=h.len;unfold gI;cases gn k g with
 |true=>exact(fJ.mk (by exact nP ‹_›) (λt ht=>by have:=h.cQ t ht;exact nP ‹_›))
 |false=>
  refine(fJ.mk (by rw[bu];show g.length+1+m<_;exact j5 ‹_›) (λt ht=>?_));rcases hM.mp ht with ht|ht
  ·have:=h.cQ t ht;exact nP ‹_›
  ·rw[fR.mp ht];show 0+m<_;exact MA ‹_›
def fJ.chg{m:Nat}{f:Int->Int}(h:fJ g m):fJ (gu g k f) m:=by refine(fJ.mk (by unfold gu;rw[aC];exact h.len) (λt ht=>?_));refine ak (bj.mp ht) λu hu aa=>?_;subst aa;cases au u.1 k<;>exact h.cQ u hu
def fJ.su{x:Ky}{m:Nat}(h:fJ g (m+1)):fJ (nD g k x) m:=by
 have h1:=h.len;refine(fJ.mk (by unfold nD;rw[aC];exact nP ‹_›) (λt ht=>?_));refine ak (bj.mp ht) λu hu aa=>?_;subst aa;have:=h.cQ u hu;cases au u.1 k
 ·show u.2.2.length+m<_;exact nP ‹_›
 ·show(u.2.2++[x]).length+m<_;rw[bu];show u.2.2.length+1+m<_;exact j5 ‹_›
def vw(g:List Ad)(k:Ky)(ps:List Ky):List Ad:=ps.foldl (λg p=>nD (gI g p) p k) (gu (gI g k) k (·+ps.length))
def abb{tup:AV}{u:Option AV}:∀(ps:List Ky) {g:List Ad} {H:Hp} {v w:Option AV},fj H s d lo g .none np nf->fJ g (2*ps.length) ->
  ∃H' v' w',RF P (dd+3) (iM (aW z7.body 3)) (.fix (ps.map .str)) (bk (aW z7.body 3)) [some (.ref s),some (.str k),some tup,u,v,w] H .next [some (.ref s),some (.str k),some tup,u,v',w'] H' /\
   aJ lo H H'/\fj H' s d lo (ps.foldl (λg p=>nD (gI g p) p k) g) .none np nf:=by
 intro ps
 induction ps with
 |nil=>intro g H v w S _;exact⟨H,v,w,jj rfl,aJ.refl ..,S⟩
 |cons q ps ih=>
  intro g H v w S F;refine ka (GS (dd:=dd) (k:=q) S (by have:=F.len;exact j4 ‹_›)) λH1 n h1 h2 h3 S1=>?_;have F1:=(by rw[jB] at F;exact F:fJ g (2*ps.length+1+1)).key (k:=q);have fs:=S1.dj;refine ka fs λep ns a G e B=>?_;clear fs;have CS:n.su.length<az:=by have:=F1.cQ (n.key,n.np,n.su) (by rw[<- e];exact bj.mpr ⟨n,a,rfl⟩);have this:n.su.length+(2*ps.length+1)<az:=this;exact j4 ‹_›
  have o:=S1.ok;have S2:=S1.Rv k;rw[h3] at S2;obtain⟨H',v',w',h4,h5,S'⟩:=ih (v:=some (.str q)) (w:=some (.ref n.ia)) S2.FX F1.su;refine⟨H',v',w',?_,(h2.trans (aJ.upd S1.HN.2)).trans h5,S'⟩;refine gz rfl rfl (ay (bB (ou (af rfl) (oD S.self rfl) (aG rfl (af rfl) aF) h1) (λO=>rfl) rfl rfl) (ay (fL (fu (mk:=.list) (fg (af rfl) (et o.inf rfl)) (ky o.cQ) rfl rfl (aG rfl (af rfl) aF) (rB o.cQ (by rw[aC];exact CS)))) aV)) rfl ?_;have e2:(AO.list (n.su.map .str++[.str k]))=aS (n.su++[k]):=by unfold aS;rw[bR];rfl
  rw[e2];exact h4
def GV{ps:List Ky}(S:fj H s d lo g .none np nf)(F:fJ g (2*ps.length+1)):
  ∃H',RC P (dd+4) (.glob 37) (.ref s::.str k::ps.map .str) H .none H'/\aJ lo H H'/\fj H' s d lo (vw g k ps) .none np nf:=by
 refine ka (GS (dd:=dd) (k:=k) S (by have:=F.len;exact j4 ‹_›)) λH1 n h1 h2 h3 S1=>?_;have o:=S1.ok;have S2:=S1.wC (n.np+ps.length);refine ka S1.dj λep ns a G e B=>?_;have e1:gu (gI g k) n.key (λO=>n.np+ps.length)=gu (gI g k) k (·+ps.length):=by rw[h3];refine abp λt ht hk=>?_;rw[<- e] at ht;refine ak (bj.mp ht) λm hm aa=>?_;subst aa;have:m=n:=uh G.keys m hm n a (hk.trans h3.symm);rw[this]
 rw[e1] at S2;refine lj (abb (dd:=dd) (k:=k) (tup:=.tup (ps.map .str)) (u:=some (.ref n.ia)) ps (v:=none) (w:=none) S2.FX ((F.key (k:=k)).chg (k:=k) (f:=(·+(ps.length:Int))))) λH' v' w' h4 h5 S'=>?_;refine⟨H',?_,(h2.trans (aJ.upd S1.HN.1)).trans h5,S'⟩;have hl:ps.length<=az:=by have:=F.len;exact MB ‹_›
 refine eG (fd:=z7) (fl:=.next) (ρ1:=[some (.ref s),some (.str k),some (.tup (ps.map .str)),none,none,none]) rfl ?_ ?_ rfl
 ·show aK (Nat.ble 2 (ps.map AV.str).length.succ.succ&&Nat.ble (ps.map AV.str).length.succ.succ az) _=_;rw[dU.mpr (by exact LY),dU.mpr (by rw[aC];exact Ng F.len)]
  rfl
 refine⟨[some (.ref s),some (.str k),some (.tup (ps.map .str)),some (.ref n.ia),v',w'],?_⟩;refine ay (cn (t:=false) (bC (fg (af rfl) (et S.self rfl)) aY rfl) aV) ?_;refine ay (bB (ou (af rfl) (oD S.self rfl) (aG rfl (af rfl) aF) h1) (λO=>rfl) rfl rfl) ?_;refine ay (wu (x:=.int n.np) (y:=.int ps.length) (af rfl) (et o.inf rfl) (bp (bg rfl) rfl (aG rfl (af rfl) aF) (fF (b:=.len) rfl ?_)) rfl (ji (fs':=[some (.str n.key),some (.int (n.np+ps.length)),some (.ref n.sa)]) o.inf rfl)) ?_
 ·show((some (ps.map AV.str).length).bind λm=>aK (Nat.ble m az) (some (AV.int m,H1)))=_;rw[aC];show aK (Nat.ble ps.length az) _=_;rw[dU.mpr hl];rfl
 ·exact ay (gP (af rfl) rfl h4) aV
end
end
section
section
variable {P:bO}{U ρ1 ρ2:aD}{H H1 H2:Hp}{d k x:Nat}{a args:C}{s r:S}{p p':Pos}{v:AV}{vs:List AV}
def Qp{H3:Hp}(h1:RE P d true a U H v ρ1 H1)(hc:tj v=true)(h2:RA P d true args ρ1 H1 vs ρ2 H2)(h:bD P (λE=>E.call d v vs) ρ2 H2 (.exc x ρ2 H3)):bD P (λE=>E.e d true (.call a args p)) U H (.exc x ρ2 H3):=by refine .step (.bind h1 ?_);show bD P (λE=>match tj v&&true with|true=>M.bind (iX (E.e d true) (cs args)) λvs=>E.call d v vs|false=>M.stuck) _ _ _;rw[hc];exact .bind h2 h
def P4{ts:C}(hn:∀E,qA E d true a=E.e d true a)(h:bD P (λE=>E.e d true a) U H (.exc x ρ1 H1)):bD P (λE=>E.s d true (.asg ts a p)) U H (.exc x ρ1 H1):=by refine .step (.K0 ?_);simp only[hn];exact h
def Rb(h:bD P (λE=>E.s d true s) U H (.exc x ρ1 H1)):bD P (λE=>d0 (E.s d true) (ss (.cons s r))) U H (.exc x ρ1 H1):=.K0 h
end
structure En where
 n:Nd
 i:Nat
 j:Nat
noncomputable def pK(E:List En):Nat:=(E.map λe=>e.n.su.length-e.i).sum
def jf(w:Nd->Nat)(ns:List Nd)(seen:List Ky):Nat:=(ns.map λn=>match bw n.key seen with|true=>0|false=>w n).sum
theorem Cb(k x:Ky):∀l:List Ky,bw k (l++[x])=(bw k l||au x k)
 |[]=>by show(match au x k with|true=>true|false=>false)=(false||au x k);cases au x k<;>rfl
 |y::l=>by have ih:=Cb k x l;show(match au y k with|true=>true|false=>bw k (l++[x]))=((match au y k with|true=>true|false=>bw k l)||au x k);rw[ih];cases au y k<;>rfl
theorem Nv(w:Nd->Nat)(seen:List Ky)(x:Ky):∀ns:List Nd,jf w ns (seen++[x])<=jf w ns seen:=by
 intro ns
 induction ns with
 |nil=>exact aQ _
 |cons n ns ih=>
  show(match bw n.key (seen++[x]) with|true=>0|false=>w n)+jf w ns (seen++[x])<=(match bw n.key seen with|true=>0|false=>w n)+jf w ns seen;rw[Cb];cases bw n.key seen with
  |true=>simpa using ih
  |false=>
   cases au x n.key with
   |true=>show 0+_<=w n+_;exact MJ ‹_›
   |false=>show w n+_<=w n+_;exact AW ‹_›
theorem EM(w:Nd->Nat)(seen:List Ky){n0:Nd}(h0:bw n0.key seen=false):∀{ns:List Nd},n0∈ns->jf w ns (seen++[n0.key])+w n0<=jf w ns seen:=by
 intro ns
 induction ns with
 |nil=>intro h;exact nomatch h
 |cons n ns fM=>
  intro h;have mono:=Nv w seen n0.key ns;show(match bw n.key (seen++[n0.key]) with|true=>0|false=>w n)+jf w ns (seen++[n0.key])+w n0<=(match bw n.key seen with|true=>0|false=>w n)+jf w ns seen;rw[Cb];rcases bl.mp h with rfl|h
  ·rw[h0,iZ];show 0+_+_<=w n0+_;exact Mv ‹_›
  ·have ih:=fM h;cases bw n.key seen with
   |true=>show 0+_+_<=0+_;exact Mk ‹_›
   |false=>
    cases au n0.key n.key with
    |true=>show 0+_+_<=w n+_;exact Mi ‹_›
    |false=>show w n+_+_<=w n+_;exact Mf ‹_›
theorem HB(k:Ky):∀l:List Ky,bw k l=true↔k∈l
 |[]=>⟨λh=>(nomatch h),λh=>(nomatch h)⟩
 |y::l=>by
  show(match au y k with|true=>true|false=>bw k l)=true↔_;cases h:au y k with
  |true=>exact⟨λO=>by rw[oM h];exact bz,λO=>rfl⟩
  |false=>
   refine(HB k l).trans ⟨bI _,λh'=>?_⟩;rcases bl.mp h' with e|h'
   ·rw[e,iZ] at h;cases h
   ·exact h'
def d9(K:Hp)(ns:List Nd)(rk:Ky->Nat)(E:List En)(seen:List Ky)(H:Hp):Prop:=(∀a,a<K.length->ae H a=ae K a)/\(ae H K.length=some (.list ((E.reverse).map λe=>.str e.n.key)))/\(ae H (K.length+1)=some (.list ((E.reverse).map λe=>.cK e.j)))/\(ae H (K.length+2)=some (.set seen))/\(∃ep l,ae H (K.length+3)=some (.dict ep l)/\l.map (·.1)=(E.reverse).map λe=>e.n.key)/\(∀e∈E,K.length+4<=e.j/\ae H e.j=some (.iter e.n.sa e.i))/\((E.map (·.j)).Nodup)/\(∀e∈E,e.n∈ns/\e.n.key∈seen)/\(E.Pairwise λa b=>rk a.n.key<rk b.n.key)/\(K.length+4<=H.length)/\(E.length<=seen.length)/\(seen.length+jf (λO=>1) ns seen<=ns.length)
section
variable {b1 b2 b3 b4 b5 b6}(x:d9 b1 b2 b3 b4 b5 b6)
def d9.mk:=λm1 m2 m3 m4 m5 m6 m7 m8 m9 kj ki mX=>(⟨m1,m2,m3,m4,m5,m6,m7,m8,m9,kj,ki,mX⟩:d9 b1 b2 b3 b4 b5 b6)
def d9.low:=x.1
def d9.Bh:=x.2.1
def d9.Ii:=x.2.2.1
def d9.tU:=x.2.2.2.1
def d9.B6:=x.2.2.2.2.1
def d9.it:=x.2.2.2.2.2.1
def d9.js:=x.2.2.2.2.2.2.1
def d9.mem:=x.2.2.2.2.2.2.2.1
def d9.rank:=x.2.2.2.2.2.2.2.2.1
def d9.len:=x.2.2.2.2.2.2.2.2.2.1
def d9.cnt:=x.2.2.2.2.2.2.2.2.2.2.1
def d9.nv:=x.2.2.2.2.2.2.2.2.2.2.2
end
section
variable {K:Hp}{ns:List Nd}{rk:Ky->Nat}{seen:List Ky}{dg ep d:Nat}
def ot{α β:Type}(f:α->β)(e:α)(E:List α):((e::E).reverse).map f=(E.reverse).map f++[f e]:=by rw[List.reverse_cons,bR];rfl
def CH{α:Type}(l:List α)(x:α):jo (-1) (l++[x])=some x:=by
 show aK (Nat.blt 0 (l++[x]).length) (ae (l++[x]) ((l++[x]).length-1))=_;have e:(l++[x]).length=l.length+1:=by rw[bu];rfl
 rw[e];show ae (l++[x]) l.length=_;exact cL
theorem Ys{k:Ky}{v:AV}:∀{l:List (List Nat×AV)},k∉l.map (·.1)->oN k (l++[(k,v)])=l:=by
 intro l
 induction l with
 |nil=>intro _;show(match au k k with|true=>[]|false=>_)=_;rw[iZ]
 |cons p l ih=>intro h;show(match au p.1 k with|true=>l++[(k,v)]|false=>p::oN k (l++[(k,v)]))=_;rw[bQ,bl,not_or] at h;rw[rq (cP h.1)];exact congrArg (p::·) (ih h.2)
theorem Rr{k:Ky}{v:AV}:∀{l:List (List Nat×AV)},k∉l.map (·.1)->fx k v l=l++[(k,v)]/\bS k l=false:=by
 intro l
 induction l with
 |nil=>intro _;exact⟨rfl,rfl⟩
 |cons p l ih=>
  intro h;rw[bQ,bl,not_or] at h;refine ua (ih h.2) λh1 h2=>?_;have e:=rq (cP h.1);constructor
  ·show(match au p.1 k with|true=>(p.1,v)::l|false=>p::fx k v l)=_;rw[e];exact congrArg (p::·) h1
  ·show(match au p.1 k with|true=>some p.2|false=>bT k l).isSome=_;rw[e];exact h2
def YH{H:Hp}{n e:Nat}{l:List (List Nat×AV)}{k:List Nat}(h:ae H n=some (.dict e l))(hk:bS k l=true):xI (.ref n) (.str k) H=some (ai H (.dict (e+1) (oN k l)) n):=by show((cM H n).bind λr=>aK (bS k r.2) (some (ai H (AO.dict (r.1+1) (oN k r.2)) n)))=_;rw[kD h];show aK (bS k l) _=_;rw[hk];rfl
theorem Wi{k:Ky}:∀{l:List (List Nat×AV)},bS k l=true->k∈l.map (·.1):=by
 intro l
 induction l with
 |nil=>intro h;exact nomatch h
 |cons p l ih=>
  intro h;have h:(match au p.1 k with|true=>some p.2|false=>bT k l).isSome=true:=h;rw[bQ];cases e:au p.1 k with
  |true=>rw[oM e];exact bz
  |false=>rw[e] at h;exact bI _ (ih h)
noncomputable def jQ(s dg L:Nat)(x:Option AV):aD:=[some (.ref s),some (.ref dg),some (.ref L),some (.ref (L+1)),some (.ref (L+2)),some (.ref (L+3)),x]
abbrev Dp:S:=aW Dt.body 5
abbrev vL:S:=aW (bk Dp) 1
abbrev kX:S:=aW (bk vL) 1
theorem Fd{s:Nat}(G:∀n∈ns,iH K n):∀(E:List En) {H:Hp} {x:AV},d9 K ns rk E seen H ->
  (∃H' e E1 y,RW P d true (iL kX) (bk kX) (jt kX) (jQ s dg K.length (some x)) H .next (jQ s dg K.length (some (.str y))) H'/\d9 K ns rk ({e with i:=e.i+1}::E1) seen H'/\ae e.n.su e.i=some y/\e.n∈ns/\pK (e::E1)<=pK E) \/
  (∃H',RW P d true (iL kX) (bk kX) (jt kX) (jQ s dg K.length (some x)) H .brk (jQ s dg K.length (some x)) H'/\d9 K ns rk [] seen H'):=by
 intro E
 induction E with
 |nil=>intro H x D;refine .inr ⟨H,?_,D⟩;refine pH (ly (af rfl) (vQ D.Bh)) (cV Bu nofun)
 |cons e E fM=>
  intro H x D;refine ua (D.mem e bz) λm1 m2=>?_;refine ua (D.it e bz) λj1 j2=>?_;have hs:ae H e.n.sa=some (aS e.n.su):=(D.low _ (bE (G e.n m1).cQ)).trans (G e.n m1).cQ;have oF:=D.Bh;have hit:=D.Ii;rw[ot (λe:En=>AV.str e.n.key)] at oF;rw[ot (λe:En=>AV.cK e.j)] at hit;have tr:jg (.ref K.length) H=some true:=by rw[vQ oF];cases (List.map (λe:En=>AV.str e.n.key) E.reverse)<;>rfl
  have keep:∀{o:AO} {a:Nat},a<K.length+4->ae (ai H o e.j) a=ae H a:=λh=>aZ ((λh=>Mr ‹_› h:∀{a:Nat},a<K.length+4->e.j≠a) h);have js:=D.js;rw[bQ,hU] at js;have other:∀{o:AO},∀e'∈E,ae (ai H o e.j) e'.j=ae H e'.j:=λe' h'=>aZ λq=>js.1 (bj.mpr ⟨e',h',q.symm⟩);have pw:=nV.mp D.rank;cases hy:ae e.n.su e.i with
  |some y=>
   have rc:=QM (P:=P) (d:=d) (v:=.str y) (Il j2) (iT hs) (by rw[ir,hy];rfl);refine .inl ⟨ai H (.iter e.n.sa (e.i+1)) e.j,e,E,y,?_,?_,hy,m1,aQ _⟩
   ·exact yG (f:=.brk) (ly (af rfl) tr) (cV (P5 (ay (bB (bp (dD (af rfl) (t6 aY rfl) (qC hit (CH _ _))) rfl aF rc) (λO=>rfl) rfl rfl) (cV Bu nofun))) nofun) rfl
   ·refine dJ D.B6 λep l n1 n2=>?_;refine(d9.mk (λa ha=>(keep (by exact Ey ‹_›)).trans (D.low a ha)) (by rw[ot (λe:En=>AV.str e.n.key)];exact(keep (by exact El)).trans oF) (by rw[ot (λe:En=>AV.cK e.j)];exact(keep (by exact Ek)).trans hit) ((keep (by exact AM)).trans D.tU) ⟨ep,l,(keep (by exact AN)).trans n1,by rw[n2,ot (λe:En=>e.n.key),ot (λe:En=>e.n.key)]⟩ (λe' eU=>?_) D.js (λe' eU=>?_) ?_ (by rw[bW];exact D.len) D.cnt D.nv)
    ·rcases bl.mp eU with rfl|eU
     ·exact⟨j1,cF (bE j2)⟩
     ·exact⟨(D.it e' (bI _ eU)).1,(other e' eU).trans (D.it e' (bI _ eU)).2⟩
    ·rcases bl.mp eU with rfl|eU
     ·exact⟨m1,m2⟩
     ·exact D.mem e' (bI _ eU)
    ·exact nV.mpr pw
  |none=>
   refine dJ D.B6 λep l n1 n2=>?_;rw[ot (λe:En=>e.n.key)] at n2;refine bo (List.map_eq_append_iff.mp n2) λl0 l1 aa n3 n4=>?_;subst aa;obtain⟨q,rfl,n5⟩:∃q,l1=[q]/\q.1=e.n.key:=by
    cases l1 with
    |nil=>exact absurd (congrArg List.length n4) (by simp)
    |cons q l1=>cases l1 with
     |nil=>exact⟨q,rfl,(nR n4).1⟩
     |cons=>exact absurd (congrArg List.length n4) (by simp)
   obtain⟨qk,qv⟩:=q;have n5:qk=e.n.key:=n5;rw[n5] at n1;clear n2 n4 n5;have fresh:e.n.key∉l0.map (·.1):=λhm=>by rw[n3] at hm;refine ak (bj.mp hm) λe' eU q=>?_;have:=pw.1 e' (List.mem_reverse.mp eU);rw[q] at this;exact jz _ this
   have stop:=Qy (P:=P) (d:=d) (U:=jQ s dg K.length (some x)) (Il j2) (iT hs) (by rw[ir,hy];rfl);have a1:ae (ai H .dead e.j) K.length=some (.list ((E.reverse).map (λe:En=>AV.str e.n.key)++[.str e.n.key])):=(keep (by exact El)).trans oF;have a2:ae (ai H .dead e.j) (K.length+1)=some (.list ((E.reverse).map (λe:En=>AV.cK e.j)++[.cK e.j])):=(keep (by exact Ek)).trans hit;have a3:ae (ai H .dead e.j) (K.length+3)=some (.dict ep (l0++[(e.n.key,qv)])):=(keep (by exact AN)).trans n1;have a4:ae (ai H .dead e.j) (K.length+2)=some (.set seen):=(keep (by exact AM)).trans D.tU;have Un:(ai H .dead e.j).length=H.length:=bW;have uw:∀a,a<K.length->ae (ai H .dead e.j) a=ae K a:=λa ha=>(keep (by exact Ey ‹_›)).trans (D.low a ha);have it1:∀e'∈E,K.length+4<=e'.j/\ae (ai H .dead e.j) e'.j=some (.iter e'.n.sa e'.i):=λe' eU=>⟨(D.it e' (bI _ eU)).1,(other e' eU).trans (D.it e' (bI _ eU)).2⟩;generalize ai H .dead e.j=H1 at *;have del:xI (.ref (K.length+3)) (.str e.n.key) (ai H1 (.list ((E.reverse).map λe:En=>AV.str e.n.key)) K.length)=some (ai (ai H1 (.list ((E.reverse).map λe:En=>AV.str e.n.key)) K.length) (.dict (ep+1) l0) (K.length+3)):=by
    have:bS e.n.key (l0++[(e.n.key,qv)])=true:=by
     cases h:bS e.n.key (l0++[(e.n.key,qv)]) with
     |true=>rfl
     |false=>
      have h2:∀l:List (List Nat×AV),bS e.n.key (l++[(e.n.key,qv)])=true:=λl=>by
       induction l with
       |nil=>show(match au e.n.key e.n.key with|true=>some qv|false=>none).isSome=true;rw[iZ];rfl
       |cons p l ih=>
        show(match au p.1 e.n.key with|true=>some p.2|false=>bT e.n.key (l++[(e.n.key,qv)])).isSome=true;cases au p.1 e.n.key with
        |true=>rfl
        |false=>exact ih
      rw[h2] at h;cases h
    have r:=YH (H:=ai H1 (.list ((E.reverse).map λe:En=>AV.str e.n.key)) K.length) (n:=K.length+3) ((aZ (by exact AS)).trans a3) this;rwa[Ys fresh] at r
   have D':d9 K ns rk E seen (ai (ai (ai H1 (.list ((E.reverse).map λe:En=>AV.str e.n.key)) K.length) (.dict (ep+1) l0) (K.length+3)) (.list ((E.reverse).map λe:En=>AV.cK e.j)) (K.length+1)):=by
    have k3:∀{a},a≠K.length->a≠K.length+1->a≠K.length+3->ae (ai (ai (ai H1 (.list ((E.reverse).map λe:En=>AV.str e.n.key)) K.length) (.dict (ep+1) l0) (K.length+3)) (.list ((E.reverse).map λe:En=>AV.cK e.j)) (K.length+1)) a=ae H1 a:=λh1 h2 h3=>by rw[aZ (cP h2),aZ (cP h3),aZ (cP h1)]
    have hl:=D.len;refine(d9.mk (λa ha=>(k3 (by exact AL ‹_›) (by exact EB ‹_›) (by exact Ez ‹_›)).trans (uw a ha)) ?_ ?_ ((k3 (by exact ya) (by exact AR) (by exact tG)).trans a4) ⟨ep+1,l0,?_,n3⟩ (λe' eU=>⟨(it1 e' eU).1,?_⟩) js.2 (λe' eU=>D.mem e' (bI _ eU)) pw.2 (by rw[bW,bW,bW,Un];exact D.len) (rQ D.cnt) D.nv)
    ·rw[aZ (by exact LZ),aZ (by exact L3),cF (by exact MC ‹_› ‹_›)]
    ·rw[cF (by rw[bW,bW];exact Ms ‹_› ‹_›)]
    ·rw[aZ (by exact EC),cF (by rw[bW];exact AP ‹_› ‹_›)]
    ·have:=(it1 e' eU).1;exact(k3 (by exact EA ‹_›) (by exact Es ‹_›) (by exact Er ‹_›)).trans (it1 e' eU).2
   have turn:∀{fl ρ' H'},RW P d true (iL kX) (bk kX) (jt kX) (jQ s dg K.length (some x)) (ai (ai (ai H1 (.list ((E.reverse).map λe:En=>AV.str e.n.key)) K.length) (.dict (ep+1) l0) (K.length+3)) (.list ((E.reverse).map λe:En=>AV.cK e.j)) (K.length+1)) fl ρ' H'->RW P d true (iL kX) (bk kX) (jt kX) (jQ s dg K.length (some x)) H fl ρ' H':=λ{fl ρ' H'} h=>by
    refine pG (f:=.next) (ly (af rfl) tr) (ay (P6 (Rb (P4 (λO=>rfl) (Qp (dD (af rfl) (t6 aY rfl) (qC hit (CH _ _))) rfl aF stop))) rfl ?_) aV) rfl h;refine ay (P8 (af rfl) (fu (mk:=.list) (af rfl) (ky a1) rfl rfl aF (BP a1)) del) ?_;have a5:ae (ai (ai H1 (.list ((E.reverse).map λe:En=>AV.str e.n.key)) K.length) (.dict (ep+1) l0) (K.length+3)) (K.length+1)=some (.list ((E.reverse).map (λe:En=>AV.cK e.j)++[.cK e.j])):=by rw[aZ (by exact ya),aZ (by exact tG)];exact a2
    exact ay (fL (fu (mk:=.list) (af rfl) (ky a5) rfl rfl aF (BP a5))) aV
   rcases fM D' (x:=x) with⟨H',e1,E1,y,b1,b2,b3,b4,b5⟩|⟨H',b1,b2⟩
   ·exact .inl ⟨H',e1,E1,y,turn b1,b2,b3,b4,aH b5 (by unfold pK;rw[bQ,List.sum_cons];exact Nat.le_add_left ..)⟩
   ·exact .inr ⟨H',turn b1,b2⟩
end
end
section
section
variable {K:Hp}{ns:List Nd}{rk:Ky->Nat}{seen:List Ky}{dg ep d s:Nat}
def l9(K:Hp)(dg ep:Nat)(ns:List Nd)(rk:Ky->Nat):Prop:=(dw K dg ep ns)/\(∀n∈ns,∀y∈n.su,(∃n'∈ns,n'.key=y)/\rk y<rk n.key)/\(ns.length<1000)
section
variable {b1 b2 b3 b4 b5}(x:l9 b1 b2 b3 b4 b5)
def l9.mk:=jn (l9 b1 b2 b3 b4 b5) rfl
def l9.dj:=x.1
def l9.X4:=x.2.1
def l9.nv:=x.2.2
end
variable {H:Hp}{n:Nat}{k:Ky}
def IC{l:List Ky}(h:ae H n=some (.set l)):gF .In (.str k) (.ref n) H=some (bw k l):=by
 have e1:bq H n=none:=by unfold bq;rw[h];rfl
 have e2:cM H n=none:=by unfold cM;rw[h];rfl
 have e3:gT H n=none:=by unfold gT;rw[h];rfl
 show iz (.str k) (.ref n) H=_;unfold iz;show(match bq H n with|some l=>_|none=>_)=_;rw[e1];show(match gT H n with|some r=>_|none=>_)=_;rw[e3];show(match cM H n with|some r=>some (bS k r.2)|none=>(oh H n).map λl=>bw k l)=_;rw[e2,Gj h];rfl
variable {l:List (List Nat×AV)}
def CE{e:Nat}(h:ae H n=some (.dict e l)):gF .In (.str k) (.ref n) H=some (bS k l):=by show iz (.str k) (.ref n) H=_;unfold iz;show(match bq H n with|some l=>_|none=>_)=_;rw[wJ h];show(match gT H n with|some r=>_|none=>_)=_;rw[B2 h];show(match cM H n with|some r=>some (bS k r.2)|none=>(oh H n).map λl=>bw k l)=_;rw[kD h]
def Vs{e:Nat}{k:Nat}(h:ae H n=some (.idict e l)):iz (.int k) (.ref n) H=some (bS [k] l):=by unfold iz;show(match bq H n with|some l=>_|none=>_)=_;rw[B1 h];show(match gT H n with|some r=>_|none=>_)=_;rw[CK h];rfl
def aa7{l:List Ky}(h:ae H n=some (.set l))(hk:bw k l=false)(hl:l.length<1000):jK .set 8 (.ref n) [.str k] H=some (.none,ai H (.set (l++[k])) n):=by show((oh H n).bind λl=>aK (Nat.blt l.length 1000) (some (AV.none,match bw k l with|true=>H|false=>ai H (.set (l++[k])) n)))=_;rw[Gj h];show aK (Nat.blt l.length 1000) (some (AV.none,match bw k l with|true=>H|false=>ai H (.set (l++[k])) n))=_;rw[bf.mpr hl,hk];rfl
def aaM{P:bO}{m i:Nat}(h:ae H n=some (.iter m i)):qg P 9 (.ref n) H=some (.cK n):=by
 show((ae H n).bind λo=>match o with
 |.inst c fs=>(lR P c).bind λcd=>(ae fs (fZ cd.bx 9)).bind λr=>r
 |.iter _ _=>aK (Nat.beq 9 9) (some (.cK n))
 |_=>none)=_
 rw[h];rfl
def QV{l:List AV}(h:ae H n=some (.list l)):RC P d (.glob 31) [.ref n] H (.ref H.length) (H++[.iter n 0]):=fF (b:=.iter) rfl (by show((bq H n).map λO=>(AV.ref H.length,H++[.iter n 0]))=_;rw[iT h];rfl)
def UQ(h:k∉l.map (·.1)):bS k l=false:=by
 cases e:bS k l with
 |true=>exact absurd (Wi e) h
 |false=>rfl
def HD{E:List En}{n0:Nd}(A:l9 K dg ep ns rk)(D:d9 K ns rk E seen H)(h0:n0∈ns)(hr:∀e∈E,rk n0.key<rk e.n.key):
  ∃H' E' kf,RS P (d+1) true (aW (bk vL) 0) (jQ s dg K.length (some (.str n0.key))) H .next (jQ s dg K.length (some (.str n0.key))) H'/\d9 K ns rk E' kf H'/\(∀e∈E',e.n.key=n0.key\/e∈E) /\
   pK E'+jf (λn=>1+n.su.length) ns kf<=pK E+jf (λn=>1+n.su.length) ns seen:=by
 refine dJ D.B6 λed l n1 n2=>?_;have fresh:n0.key∉l.map (·.1):=λhm=>by rw[n2] at hm;refine ak (bj.mp hm) λe he q=>?_;have:=hr e (List.mem_reverse.mp he);rw[q] at this;exact jz _ this
 have pY:=IC (k:=n0.key) D.tU;have inD:=CE (k:=n0.key) n1;rw[UQ fresh] at inD;cases hm:bw n0.key seen with
 |true=>rw[hm] at pY;exact⟨H,E,seen,cn (bC (af rfl) (af rfl) pY) (ay (cn (bC (af rfl) (af rfl) inD) aV) aV),D,λe he=>.inr he,aQ _⟩
 |false=>
  rw[hm] at pY;have hw1:=EM (λO=>1) seen hm h0;have CQ:=EM (λn=>1+n.su.length) seen hm h0;have abT:=D.nv;have hlen:=D.len;have Wb:=D.cnt;have qW:=A.nv;have hs:seen.length<1000:=by exact Mu ‹_› ‹_›
  have hE:E.length<1000:=by exact MV ‹_› ‹_›
  have hz:(1000:Nat)<=az:=by decide
  have g0:=A.dj.ok n0 h0;have gY:=aa7 D.tU hm hs;have b1:∀{a},a≠K.length+2->ae (ai H (.set (seen++[n0.key])) (K.length+2)) a=ae H a:=λh=>aZ (cP h);have c2:ae (ai H (.set (seen++[n0.key])) (K.length+2)) (K.length+2)=some (.set (seen++[n0.key])):=cF (by exact nP ‹_›);have l1:(ai H (.set (seen++[n0.key])) (K.length+2)).length=H.length:=bW;have uw:∀a,a<K.length->ae (ai H (.set (seen++[n0.key])) (K.length+2)) a=ae K a:=λa ha=>(b1 (by exact LV ‹_›)).trans (D.low a ha);have OK:=(b1 (by exact L4)).trans D.Bh;have Ih:=(b1 (by exact tG)).trans D.Ii;have Td:=(b1 (by exact AR)).trans n1;have it1:∀e∈E,K.length+4<=e.j/\ae (ai H (.set (seen++[n0.key])) (K.length+2)) e.j=some (.iter e.n.sa e.i):=λe he=>⟨(D.it e he).1,(b1 (by have:=(D.it e he).1;exact MQ ‹_›)).trans (D.it e he).2⟩;generalize ai H (.set (seen++[n0.key])) (K.length+2)=H1 at *;have wQ:∀a x,ae H1 a=some x->ae (H1++[.iter n0.sa 0]) a=some x:=λa x h=>bU h;have nw:ae (H1++[.iter n0.sa 0]) H1.length=some (.iter n0.sa 0):=cL;have l2:(H1++[AO.iter n0.sa 0]).length=H.length+1:=by rw[bu,l1];rfl
  have TZ:∀a,a<K.length->ae (H1++[.iter n0.sa 0]) a=ae K a:=λa ha=>(yX (Ml ‹K.length+4<=H.length› ha l1)).trans (uw a ha);have OJ:=wQ _ _ OK;have U5:=wQ _ _ Ih;have Tc:=wQ _ _ Td;have PJ:=wQ _ _ c2;have it2:∀e∈E,K.length+4<=e.j/\ae (H1++[.iter n0.sa 0]) e.j=some (.iter e.n.sa e.i):=λe he=>⟨(it1 e he).1,wQ _ _ (it1 e he).2⟩;have U2:∀e∈E,e.j<H1.length:=λe he=>bE (it1 e he).2;have f3:RC P (d+1) (.glob 31) [.ref n0.sa] H1 (.ref H1.length) (H1++[.iter n0.sa 0]):=QV ((uw _ (bE g0.cQ)).trans g0.cQ);have s1:jh (.ref dg) (.str n0.key) H1=some (.ref n0.ia):=vW ((uw _ (bE A.dj.dct)).trans A.dj.dct) (zo A.dj.keys n0 h0);have s2:qg P 21 (.ref n0.ia) H1=some (.ref n0.sa):=et ((uw _ (bE g0.inf)).trans g0.inf) rfl;have s3:qg P 9 (.ref H1.length) (H1++[.iter n0.sa 0])=some (.cK H1.length):=aaM nw;generalize hH2:H1++[.iter n0.sa 0]=H2 at *;have ap1:=rB (v:=.cK H1.length) U5 (by rw[aC,List.length_reverse];exact rI ‹_› ‹_›);have b3:∀{a},a≠K.length+1->ae (ai H2 (.list ((E.reverse).map (λe:En=>AV.cK e.j)++[.cK H1.length])) (K.length+1)) a=ae H2 a:=λh=>aZ (cP h);have U4:ae (ai H2 (.list ((E.reverse).map (λe:En=>AV.cK e.j)++[.cK H1.length])) (K.length+1)) (K.length+1)=some (.list ((E.reverse).map (λe:En=>AV.cK e.j)++[.cK H1.length])):=cF (by exact Mh ‹_› ‹_›);have l3:(ai H2 (.list ((E.reverse).map (λe:En=>AV.cK e.j)++[.cK H1.length])) (K.length+1)).length=H.length+1:=bW.trans l2;generalize ai H2 (.list ((E.reverse).map (λe:En=>AV.cK e.j)++[.cK H1.length])) (K.length+1)=H3 at *;have FN:=(b3 (by exact tG)).trans OJ;have Ta:=(b3 (by exact ya)).trans Tc;have f4:=wB (d:=d+1) FN (by rw[aC,List.length_reverse];exact EE ‹_› ‹_›);have st:=wi (k:=n0.key) (v:=.int (((E.reverse).map λe:En=>AV.str e.n.key).length:Nat)) Ta (by have:=congrArg List.length n2;rw[aC,aC,List.length_reverse] at this;exact Mo ‹_› ‹_› ‹_›)
  refine ua (Rr (v:=.int (((E.reverse).map λe:En=>AV.str e.n.key).length:Nat)) fresh) λp1 p2=>?_;rw[p1,p2] at st;dsimp only at st;have b4:∀{o:AO} {a},a≠K.length+3->ae (ai H3 o (K.length+3)) a=ae H3 a:=λh=>aZ (cP h);have S9:∀{o:AO},ae (ai H3 o (K.length+3)) (K.length+3)=some o:=cF (by exact Mg ‹_› ‹_›);have l4:∀{o:AO},(ai H3 o (K.length+3)).length=H.length+1:=bW.trans l3;have FK:=λ{o:AO}=>(b4 (o:=o) (by exact AS)).trans FN;have ap2:=rB (v:=.str n0.key) (FK (o:=.dict (ed+1) (l++[(n0.key,.int (((E.reverse).map λe:En=>AV.str e.n.key).length:Nat))]))) (by rw[aC,List.length_reverse];exact rI ‹_› ‹_›);refine⟨_,⟨n0,0,H1.length⟩::E,seen++[n0.key],cn (bC (af rfl) (af rfl) pY)
   (ay (fL (fu (mk:=.set) (af rfl) (UN D.tU) rfl rfl (aG rfl (af rfl) aF) gY))
   (ay (fL (fu (mk:=.list) (af rfl) (ky Ih) rfl rfl (aG rfl (fg (bp (bg rfl) rfl (aG rfl (fg (dD (af rfl) (af rfl) s1) s2) aF) f3) s3) aF) ap1))
   (ay (om (bp (bg rfl) rfl (aG rfl (af rfl) aF) f4) (λO=>rfl) (af rfl) (af rfl) st)
   (ay (fL (fu (mk:=.list) (af rfl) (ky FK) rfl rfl (aG rfl (af rfl) aF) ap2)) aV)))),?_,λe he=>?_,?_⟩
  ·have kk:∀{a},a≠K.length->a≠K.length+1->a≠K.length+3->∀{o o':AO},ae (ai (ai H3 o (K.length+3)) o' K.length) a=ae H2 a:=by intro a h1 h2 h3 o o';rw[aZ (cP h1),b4 h3,b3 h2]
   refine(d9.mk (λa ha=>(kk (by exact AL ‹_›) (by exact EB ‹_›) (by exact Ez ‹_›)).trans (TZ a ha)) ?_ ?_ ((kk (by exact ya) (by exact AR) (by exact tG)).trans PJ) ⟨ed+1,l++[(n0.key,.int (((E.reverse).map λe:En=>AV.str e.n.key).length:Nat))],?_,?_⟩ (λe he=>?_) ?_ (λe he=>?_) ?_ ?_ ?_ ?_)
   ·rw[ot (λe:En=>AV.str e.n.key),cF (by rw[l4];exact MP ‹_›)]
   ·rw[ot (λe:En=>AV.cK e.j),aZ (by exact tG),b4 (by exact EC)];exact U4
   ·rw[aZ (by exact AS)];exact S9
   ·rw[bR,n2,ot (λe:En=>e.n.key)];rfl
   ·rcases bl.mp he with rfl|he
    ·exact⟨by show K.length+4<=H1.length;exact AP ‹_› ‹_›,(kk (by show H1.length≠_;exact MF ‹_› ‹_›) (by show H1.length≠_;exact Mt ‹_› ‹_›) (by show H1.length≠_;exact MU ‹_› ‹_›)).trans nw⟩
    ·have:=(it2 e he).1;exact⟨this,(kk (by exact EA ‹_›) (by exact Es ‹_›) (by exact Er ‹_›)).trans (it2 e he).2⟩
   ·rw[bQ,hU];refine⟨λhm=>?_,D.js⟩;refine ak (bj.mp hm) λe he q=>?_;have:=U2 e he;have q:e.j=H1.length:=q;exact jz _ (q▸this)
   ·rcases bl.mp he with rfl|he
    ·exact⟨h0,rL _ bz⟩
    ·exact⟨(D.mem e he).1,o8 _ (D.mem e he).2⟩
   ·exact nV.mpr ⟨hr,D.rank⟩
   ·rw[bW,l4];exact AQ ‹_›
   ·rw[bu];exact Nat.succ_le_succ Wb
   ·rw[bu];show seen.length+1+_<=_;exact Mc ‹_› ‹_›
  ·rcases bl.mp he with rfl|he
   ·exact .inl rfl
   ·exact .inr he
  ·unfold pK;have CQ:jf (λn=>1+n.su.length) ns (seen++[n0.key])+(1+n0.su.length)<=_:=CQ;rw[bQ,List.sum_cons];show n0.su.length-0+_+_<=_;exact Nn CQ
end
end
section
section
variable {K:Hp}{ns:List Nd}{rk:Ky->Nat}{seen:List Ky}{dg ep d s:Nat}
def Bs{P:bO}{q t:Bool}{U:aD}{H:Hp}{c:Const}{v:AV}{k:Nat}{p:Pos}(h:jg v H=some t):RT P d q (.cst c v k p) U H t U H:=.step (.bind aY (.rd h))
def pS{α:Type}{l:List α}{n:Nat}{x:α}(h:ae l n=some x):x∈l:=by
 induction l generalizing n with
 |nil=>exact aT h
 |cons a r ih=>cases n with
  |zero=>obtain rfl:=sj h;exact bz
  |succ n=>exact bI _ (ih h)
def YF(A:l9 K dg ep ns rk):∀(m:Nat) {E:List En} {seen:List Ky} {H:Hp} {n0:Nd},d9 K ns rk E seen H->n0∈ns->(∀e∈E,rk n0.key<rk e.n.key)->pK E+jf (λn=>1+n.su.length) ns seen<=m ->
  ∃H' kf x',RW P (d+1) true (iL vL) (bk vL) (jt vL) (jQ s dg K.length (some (.str n0.key))) H .next (jQ s dg K.length (some x')) H'/\d9 K ns rk [] kf H':=by
 intro m
 induction m with
 |zero=>
  intro E seen H n0 D h0 hr hm;refine kZ (HD (d:=d) (s:=s) A D h0 hr) λH1 E1 yE r1 D1 O m1=>?_;rcases Fd (d:=d+1) (s:=s) (dg:=dg) A.dj.ok E1 D1 (x:=.str n0.key) with⟨H2,e,E2,y,r2,D2,hy,he,pZ⟩|⟨H2,r2,D2⟩
  ·have:=bE hy;unfold pK at *;rw[bQ,List.sum_cons,Bf this] at pZ;exact absurd (Nh hm m1 pZ) (by decide)
  ·exact⟨H2,yE,_,yG (f:=.brk) (Bs rfl) (ay r1 (cV (mQ r2) nofun)) rfl,D2⟩
 |succ m ih=>
  intro E seen H n0 D h0 hr hm;refine kZ (HD (d:=d) (s:=s) A D h0 hr) λH1 E1 yE r1 D1 O m1=>?_;rcases Fd (d:=d+1) (s:=s) (dg:=dg) A.dj.ok E1 D1 (x:=.str n0.key) with⟨H2,e,E2,y,r2,D2,hy,he,pZ⟩|⟨H2,r2,D2⟩
  ·obtain⟨⟨n',dP,rfl⟩,fy⟩:=A.X4 e.n he y (pS hy);obtain⟨H',kf,x',r3,D'⟩:=ih D2 dP (λe' eU=>by
    rcases bl.mp eU with rfl|eU
    ·exact fy
    ·exact jb fy ((nV.mp D2.rank).1 e' eU)) (by
    have:=bE hy;unfold pK at *;rw[bQ,List.sum_cons] at pZ⊢;rw[Bf this] at pZ;show e.n.su.length-(e.i+1)+_+_<=m;exact Nm hm m1 pZ)
   exact⟨H',kf,x',pG (f:=.next) (Bs rfl) (ay r1 (ay (mQ r2) aV)) rfl r3,D'⟩
  ·exact⟨H2,yE,_,yG (f:=.brk) (Bs rfl) (ay r1 (cV (mQ r2) nofun)) rfl,D2⟩
def vg{H:Hp}{n e i:Nat}{l:List (List Nat×AV)}(h:ae H n=some (.dict e l)):(ba.dct n i l.length e).next H=some ((ae l i).map λp=>(.str p.1,.dct n (i+1) l.length e)):=by show((cM H n).bind λr=>aK (Nat.beq r.2.length l.length&&Nat.beq r.1 e) (some ((ae r.2 i).map λp=>(AV.str p.1,ba.dct n (i+1) l.length e))))=_;rw[kD h];show aK (Nat.beq l.length l.length&&Nat.beq e e) _=_;rw[jy,jy];rfl
def Xv(A:l9 K dg ep ns rk):∀(k i:Nat) {seen:List Ky} {H:Hp} {x:Option AV},i+k=ns.length->d9 K ns rk [] seen H ->
  ∃H' kf x',RF P (d+1) (iM Dp) (.dct dg i (dG ns).length ep) (bk Dp) (jQ s dg K.length x) H .next (jQ s dg K.length x') H'/\d9 K ns rk [] kf H':=by
 intro k
 induction k with
 |zero=>intro i seen H x hk D;have hd:ae H dg=some (.dict ep (dG ns)):=(D.low _ (bE A.dj.dct)).trans A.dj.dct;refine⟨H,seen,x,jj ?_,D⟩;rw[vg hd,oy (by unfold dG;rw[aC];exact iJ ‹_›)];rfl
 |succ k ih=>
  intro i seen H x hk D;have hd:ae H dg=some (.dict ep (dG ns)):=(D.low _ (bE A.dj.dct)).trans A.dj.dct;refine ue (gA (l:=ns) (n:=i) (by exact me ‹_›)) λn0 hn=>?_;have lI:(ba.dct dg i (dG ns).length ep).next H=some (some (.str n0.key,.dct dg (i+1) (dG ns).length ep)):=by rw[vg hd];unfold dG;rw[ir,hn];rfl
  have pY:=IC (k:=n0.key) D.tU;cases hm:bw n0.key seen with
  |true=>rw[hm] at pY;refine cJ (ih (i+1) (x:=some (.str n0.key)) (by exact ja ‹_›) D) λH' kf x' r D'=>?_;exact⟨H',kf,x',gz (f:=.cont) lI rfl (cV (cn (bC (af rfl) (af rfl) pY) (cV Gx nofun)) nofun) rfl r,D'⟩
  |false=>rw[hm] at pY;refine cJ (YF (d:=d) (s:=s) A _ D (pS hn) nofun (aQ _)) λH1 yE x1 r1 D1=>?_;refine cJ (ih (i+1) (x:=some x1) (by exact ja ‹_›) D1) λH' kf x' r D'=>?_;exact⟨H',kf,x',gz (f:=.next) lI rfl (ay (cn (bC (af rfl) (af rfl) pY) aV) (ay (mQ r1) aV)) rfl r,D'⟩
def Q0{g:List Ad}{r:AV}{np nf:Int}{lo:Nat}(A:l9 K dg ep ns rk)(hs:ae K s=some (fS dg r np nf)):∃H',RC P (d+2) (.glob 42) [.ref s] K .none H'/\aJ K.length K H':=by
 have hw:∀ns:List Nd,jf (λO=>1) ns []<=ns.length:=λns=>by
  induction ns with
  |nil=>exact aQ _
  |cons n ns ih=>show 1+jf (λO=>1) ns []<=ns.length+1;exact MN ‹_›
 have D:d9 K ns rk [] [] (K++[.list [],.list [],.set [],.dict 0 []]):=(d9.mk (λa ha=>yX ha) (cL:ae (K++[AO.list [],.list [],.set [],.dict 0 []]) K.length=some (.list [])) (jm (n:=1):ae (K++[AO.list [],.list [],.set [],.dict 0 []]) (K.length+1)=some (.list [])) (jm (n:=2):ae (K++[AO.list [],.list [],.set [],.dict 0 []]) (K.length+2)=some (.set [])) ⟨0,[],(jm (n:=3):ae (K++[AO.list [],.list [],.set [],.dict 0 []]) (K.length+3)=some (.dict 0 [])),rfl⟩ nofun pf nofun .nil (by rw[bu];exact aQ _) (aQ _) (by show 0+_<=_;rw[dW];exact hw ns))
 refine cJ (Xv (d:=d) (s:=s) A ns.length 0 (x:=none) (dW _) D) λH' kf x' r D'=>?_;refine⟨H',?_,(aJ.mk (by have:=D'.len;exact Ew ‹_›) D'.low)⟩;refine eG (fd:=Dt) (fl:=.ret .none) (ρ1:=[some (.ref s),none,none,none,none,none,none]) rfl rfl ?_ rfl;refine⟨jQ s dg K.length x',?_⟩;refine ay (bB (fg (af rfl) (et hs rfl)) (λO=>rfl) rfl rfl) ?_;refine ay (bB (de aF rfl) (λO=>rfl) rfl rfl) ?_;refine ay (bB (de aF rfl) (λO=>rfl) rfl rfl) ?_;refine ay (bB (bp (bg rfl) rfl aF (fF (b:=.set) rfl rfl)) (λO=>rfl) rfl rfl) ?_;refine ay (bB yM (λO=>rfl) rfl rfl) ?_;have eK:((((K++[AO.list []])++[AO.list []])++[AO.set []])++[AO.dict 0 []])=K++[.list [],.list [],.set [],.dict 0 []]:=by rw[dA,dA,dA];rfl
 have l1:(K++[AO.list []]).length=K.length+1:=bu;have l2:((K++[AO.list []])++[AO.list []]).length=K.length+2:=by rw[bu,l1];rfl
 have l3:(((K++[AO.list []])++[AO.list []])++[AO.set []]).length=K.length+3:=by rw[bu,l2];rfl
 rw[eK,l1,l2,l3];have hd:ae (K++[AO.list [],.list [],.set [],.dict 0 []]) dg=some (.dict ep (dG ns)):=(D.low _ (bE A.dj.dct)).trans A.dj.dct;refine ay (gP (af rfl) (src:=.dct dg 0 (dG ns).length ep) ?_ r) (cV (gj aY λO=>rfl) nofun);show(match bq _ dg with|some _=>some (ba.lst dg 0)|none=>Option.map (λr:Nat×List (List Nat×AV)=>ba.dct dg 0 r.2.length r.1) (cM _ dg))=_;rw[wJ hd,kD hd];rfl
end
end
section
def Sr(H:Hp)(s d rl lo hi:Nat)(ns:List Nd)(bc:List Ky)(np nf:Int):Prop:=(ae H s=some (fS d (.ref rl) np nf))/\(ae H rl=some (aS bc))/\(∃ep,dw H d ep ns)/\(Bd lo hi ns)/\(lo<=s/\s<hi)/\(lo<=rl/\rl<hi)/\(∀n∈ns,n.sa≠rl)
section
variable {b1 b2 b3 b4 b5 b6 b7 b8 b9 gq}(x:Sr b1 b2 b3 b4 b5 b6 b7 b8 b9 gq)
def Sr.mk:=zb (Sr b1 b2 b3 b4 b5 b6 b7 b8 b9 gq) rfl
def Sr.self:=x.1
def Sr.iQ:=x.2.1
def Sr.dj:=x.2.2.1
def Sr.bd:=x.2.2.2.1
def Sr.bs:=x.2.2.2.2.1
def Sr.br:=x.2.2.2.2.2.1
def Sr.sx:=x.2.2.2.2.2.2
end
def dy(lo hi:Nat)(H H':Hp):Prop:=(H'.length=H.length)/\(∀a,a<lo\/hi<=a->ae H' a=ae H a)
section
variable {b1 b2 b3 b4}(x:dy b1 b2 b3 b4)
def dy.mk:=iu (dy b1 b2 b3 b4) rfl
def dy.len:=x.1
def dy.out:=x.2
end
section
variable {dd s d rl lo hi:Nat}{H:Hp}{ns:List Nd}{bc:List Ky}{np nf:Int}{n:Nd}
def dy.refl:dy lo hi H H:=(dy.mk rfl (λO O=>rfl))
def dy.trans{H1 H2:Hp}(a:dy lo hi H H1)(b:dy lo hi H1 H2):dy lo hi H H2:=(dy.mk (b.len.trans a.len) (λx hx=>(b.out x hx).trans (a.out x hx)))
def dy.upd{o:AO}{a:Nat}(h:lo<=a/\a<hi):dy lo hi H (ai H o a):=(dy.mk bW (λb hb=>aZ (hb.elim (λk=>ei (cA k h.1)) λk=>dz (cA h.2 k))))
def Sr.ok(S:Sr H s d rl lo hi ns bc np nf)(hn:n∈ns):iH H n:=ue S.dj λO G=>G.ok n hn
def Sr.wC(S:Sr H s d rl lo hi ns bc np nf)(hn:n∈ns)(v:Int):Sr (ai H (fX {n with np:=v}) n.ia) s d rl lo hi (fp ns n.key λm=>{m with np:=v}) bc np nf:=by
 refine ue S.dj λep G=>?_;have o:=G.ok n hn;refine(Sr.mk ((aZ (yv S.self o.inf)).trans S.self) ((aZ (sP o.inf S.iQ)).trans S.iQ) ⟨ep,G.Gf hn v⟩ (S.bd.Bo (by intro _;rfl) (by intro _;rfl)) S.bs S.br (λm hm=>?_));obtain⟨n',dP,⟨_,rfl⟩|⟨_,rfl⟩⟩:=yC hm
 ·exact S.sx n' dP
 ·exact S.sx m dP
def Sr.GW(S:Sr H s d rl lo hi ns bc np nf)(r:List Ky):Sr (ai H (aS r) rl) s d rl lo hi ns r np nf:=by
 have hs:rl≠s:=λe=>by have:=S.iQ;rw[e,S.self] at this;cases this
 refine ue S.dj λep G=>?_;exact(Sr.mk ((aZ hs).trans S.self) (cF (bE S.iQ)) ⟨ep,G.mono (aZ (kr S.iQ G.dct)) λm hm=>⟨aZ (sP (G.ok m hm).inf S.iQ).symm,aZ (S.sx m hm).symm⟩⟩ S.bd S.bs S.br S.sx)
def Sr.yR(S:Sr H s d rl lo hi ns bc np nf)(G9 Hi:Int):Sr (ai H (fS d (.ref rl) G9 Hi) s) s d rl lo hi ns bc G9 Hi:=by
 have hs:s≠rl:=λe=>by have:=S.iQ;rw[<- e,S.self] at this;cases this
 refine ue S.dj λep G=>?_;exact(Sr.mk (cF (bE S.self)) ((aZ hs).trans S.iQ) ⟨ep,G.mono (aZ (uG S.self G.dct)) λm hm=>⟨aZ (yv S.self (G.ok m hm).inf).symm,aZ (Bi S.self (G.ok m hm).cQ).symm⟩⟩ S.bd S.bs S.br S.sx)
def Sr.look(S:Sr H s d rl lo hi ns bc np nf)(hn:n∈ns):jh (.ref d) (.str n.key) H=some (.ref n.ia):=by refine ue S.dj λep G=>?_;exact vW G.dct (zo G.keys n hn)
def Bn{k:Ky}{f:Nd->Nd}(h:∀m,(f m).key=m.key):(fp ns k f).map (·.key)=ns.map (·.key):=yD (·.key) h
def H7{k:Ky}(h:k∈ns.map (·.key)):∃n∈ns,n.key=k:=ak (bj.mp h) λn hn e=>⟨n,hn,e⟩
def Ra(S:Sr H s d rl lo hi ns bc np nf):RC P (dd+2) (.glob 40) [.ref s] H (.bool (fV nf np||!bc.isEmpty)) H:=by
 have c1:∀p1 p2 p3 p4 p5,RE P (dd+1) true (.cmp .Lt (.attr (.var "self" 0 p1) "_nfinished" 17 p2) (.attr (.var "self" 0 p3) "_npassedout" 16 p4) p5) [some (.ref s)] H (.bool (fV nf np)) [some (.ref s)] H:=λp1 p2 p3 p4 p5=>BE (fg (af rfl) (et S.self rfl)) (fg (af rfl) (et S.self rfl)) rfl;refine eG (fd:=JR) (fl:=.ret (.bool (fV nf np||!bc.isEmpty))) (ρ1:=[some (.ref s)]) rfl rfl ?_ rfl;refine⟨[some (.ref s)],ay (cn (t:=false) (bC (fg (af rfl) (et S.self rfl)) aY rfl) aV) (cV (gj ?_ λO=>rfl) nofun)⟩;cases hb:fV nf np with
 |true=>rw[hb] at c1;exact Qs (c1 ..) rfl
 |false=>rw[hb] at c1;refine Qt (c1 ..) rfl (bp (bg rfl) rfl (aG rfl (fg (af rfl) (et S.self rfl)) aF) (fF (b:=.bool) rfl ?_));show((bq H rl).map λl=>(AV.bool (!l.isEmpty),H))=_;rw[iT S.iQ];cases bc<;>rfl
def pP(ns:List Nd)(l:List Ky):List Nd:=l.foldl (λns k=>fp ns k λm=>{m with np:=-1}) ns
def WM{tup:AV}:∀(l:List Ky) {ns:List Nd} {H:Hp} {x:Option AV},Sr H s d rl lo hi ns bc np nf->(∀k∈l,k∈ns.map (·.key)) ->
  ∃H' x',RF P (dd+1) (iM (aW z6.body 3)) (.fix (l.map .str)) (bk (aW z6.body 3)) [some (.ref s),some tup,some (.ref d),x] H .next [some (.ref s),some tup,some (.ref d),x'] H'/\dy lo hi H H'/\Sr H' s d rl lo hi (pP ns l) bc np nf:=by
 intro l
 induction l with
 |nil=>intro ns H x S _;exact⟨H,x,jj rfl,dy.refl,S⟩
 |cons k l ih=>intro ns H x S hk;refine ak (H7 (hk k bz)) λn hn aa=>?_;subst aa;obtain⟨H',x',r,fr,S'⟩:=ih (x:=some (.str n.key)) (S.wC hn (-1)) (λk' jq=>by rw[Bn (by intro _;rfl)];exact hk k' (bI _ jq));refine⟨H',x',gz (f:=.next) rfl rfl (ay (pI (bg rfl) (λO=>rfl) (dD (af rfl) (af rfl) (S.look hn)) (ji (S.ok hn).inf rfl)) aV) rfl r,(dy.upd (S.bd n hn).1).trans fr,S'⟩
def QI(S:Sr H s d rl lo hi ns bc np nf)(hk:∀k∈bc,k∈ns.map (·.key))(hl:bc.length<=az):
  ∃H',RC P (dd+2) (.glob 39) [.ref s] H (.tup (bc.map .str)) H'/\dy lo hi H H'/\Sr H' s d rl lo hi (pP ns bc) [] (np+bc.length) nf:=by
 refine bo (WM (dd:=dd) (tup:=.tup (bc.map .str)) bc (x:=none) S hk) λH1 x1 r1 W2 S1=>?_;have S2:=S1.GW [];have ft:RC P (dd+1) (.glob 26) [.ref rl] H (.tup (bc.map .str)) H:=fF (b:=.tuple) rfl (by show((bq H rl).map λl=>(AV.tup l,H))=_;rw[iT S.iQ];rfl)
 refine⟨_,?_,(W2.trans (dy.upd S.br)).trans (dy.upd S.bs),(S2.yR (np+bc.length) nf)⟩;refine eG (fd:=z6) (fl:=.ret (.tup (bc.map .str))) (ρ1:=[some (.ref s),none,none,none]) rfl rfl ?_ rfl;have fl:RC P (dd+1) (.glob 10) [.tup (bc.map .str)] (ai H1 (aS []) rl) (.int bc.length) (ai H1 (aS []) rl):=fF (b:=.len) rfl (by show((some (bc.map AV.str).length).bind λm=>aK (Nat.ble m az) (some (AV.int m,ai H1 (aS []) rl)))=_;rw[aC];show aK (Nat.ble bc.length az) _=_;rw[dU.mpr hl];rfl)
 refine⟨[some (.ref s),some (.tup (bc.map .str)),some (.ref d),x1],ay (cn (t:=false) (bC (fg (af rfl) (et S.self rfl)) aY rfl) aV) ?_⟩;refine ay (bB (bp (bg rfl) rfl (aG rfl (fg (af rfl) (et S.self rfl)) aF) ft) (λO=>rfl) rfl rfl) ?_;refine ay (bB (fg (af rfl) (et S.self rfl)) (λO=>rfl) rfl rfl) ?_;refine ay (gP (af rfl) rfl r1) ?_;refine ay (fL (fu (mk:=.list) (v:=.none) (H3:=ai H1 (aS []) rl) (fg (af rfl) (et S1.self rfl)) (ky S1.iQ) rfl rfl aF (Ca S1.iQ))) ?_;refine ay (wu (af rfl) (et S2.self rfl) (bp (bg rfl) rfl (aG rfl (af rfl) aF) fl) rfl (ji S2.self rfl)) ?_;exact cV (gj (af rfl) λO=>rfl) nofun
def uf(ns:List Nd)(k:Ky):Int:=match ns.find? λn=>au n.key k with
 |some n=>n.np
 |none=>0
def lP(q:List Nd×List Ky)(y:Ky):List Nd×List Ky:=(fp q.1 y λm=>{m with np:=uf q.1 y-1},match e8 (uf q.1 y-1) 0 with|true=>q.2++[y]|false=>q.2)
def SE(hk:(ns.map (·.key)).Nodup)(hn:n∈ns):uf ns n.key=n.np:=by
 unfold uf
 induction ns with
 |nil=>cases hn
 |cons m ns ih=>
  rw[bQ,hU] at hk;rw[List.find?_cons];rcases bl.mp hn with rfl|hn
  ·rw[iZ]
  ·rw[rq (λe=>hk.1 (bj.mpr ⟨n,hn,e.symm⟩))];exact ih hk.2 hn
def qN{n i:Nat}{l:List AV}(h:ae H n=some (.list l)):(ba.lst n i).next H=some ((ae l i).map λv=>(v,.lst n (i+1))):=by show((bq H n).map λl=>(ae l i).map λd=>(d,ba.lst n (i+1)))=_;rw[iT h];rfl
def Gh{k:Ky}{f:Nd->Nd}{sa:Nat}{su:List Ky}(h1:∀m,(f m).sa=m.sa)(h2:∀m,(f m).su=m.su)(h:∃n∈ns,n.sa=sa/\n.su=su):∃n∈fp ns k f,n.sa=sa/\n.su=su:=by
 refine gc h λn hn e1 e2=>?_;clear h;refine⟨match au n.key k with|true=>f n|false=>n,bj.mpr ⟨n,hn,rfl⟩,?_⟩;cases au n.key k with
 |true=>exact⟨(h1 n).trans e1,(h2 n).trans e2⟩
 |false=>exact⟨e1,e2⟩
def lO{α:Type}{l:List α}{n:Nat}{x:α}(h:ae l n=some x):l.drop n=x::l.drop (n+1):=by
 induction l generalizing n with
 |nil=>exact aT h
 |cons a r ih=>cases n with
  |zero=>obtain rfl:=sj h;rfl
  |succ n=>exact ih h
def Bc(l:List Ky)(y:Ky):AO.list (l.map .str++[.str y])=aS (l++[y]):=by unfold aS;rw[bR];rfl
def YC{x st:AV}{tup:AV}{sa i0:Nat}{su:List Ky}:∀(k i:Nat) {ns:List Nd} {bc:List Ky} {H:Hp} {u v:Option AV},i+k=su.length->Sr H s d rl lo hi ns bc np nf->(∃n∈ns,n.sa=sa/\n.su=su)->(∀y∈su,y∈ns.map (·.key))->bc.length+k<az ->
  ∃H' u' v',RF P (dd+1) (iM (aW (bk (aW uY.body 2)) 4)) (.lst sa i) (bk (aW (bk (aW uY.body 2)) 4)) [some (.ref s),some tup,some (.ref d),some x,some (.ref i0),some st,u,v] H .next [some (.ref s),some tup,some (.ref d),some x,some (.ref i0),some st,u',v'] H' /\
   dy lo hi H H'/\Sr H' s d rl lo hi ((su.drop i).foldl lP (ns,bc)).1 ((su.drop i).foldl lP (ns,bc)).2 np nf:=by
 intro k
 induction k with
 |zero=>
  intro i ns bc H u v hk S h hy hz;refine gc h λn hn aa sg=>?_;clear h;subst aa;subst sg;refine⟨H,u,v,jj ?_,dy.refl,?_⟩
  ·rw[qN (S.ok hn).cQ,oy (by rw[aC];exact iJ ‹_›)];rfl
  ·rw[kR (by exact iJ ‹_›)];exact S
 |succ k ih=>
  intro i ns bc H u v hk S h hy hz;refine ue (gA (l:=su) (n:=i) (by exact me ‹_›)) λy CP=>?_;have lI:(ba.lst sa i).next H=some (some (.str y,.lst sa (i+1))):=by refine gc h λn hn aa sg=>?_;clear h;subst aa;subst sg;rw[qN (S.ok hn).cQ,ir,CP];rfl
  refine ak (H7 (hy y (pS CP))) λm hm aa=>?_;subst aa;have hd:=lO CP;have o:=S.ok hm;have S1:=S.wC hm (m.np-1);refine ue S.dj λep G=>?_;have ed:lP (ns,bc) m.key=(fp ns m.key λn=>{n with np:=m.np-1},match e8 (m.np-1) 0 with|true=>bc++[m.key]|false=>bc):=by unfold lP;rw[SE G.keys hm]
  have i1:ae (ai H (fX {m with np:=m.np-1}) m.ia) m.ia=some (fX {m with np:=m.np-1}):=cF (bE o.inf);have h1:=Gh (k:=m.key) (f:=λn=>{n with np:=m.np-1}) (by intro _;rfl) (by intro _;rfl) h;have zC:∀y∈su,y∈(fp ns m.key λn=>{n with np:=m.np-1}).map (·.key):=λy VB=>by rw[Bn (by intro _;rfl)];exact hy y VB
  have il:∀p1 p2 p3 p4,RT P (dd+1) true (.cmp .Eq (.attr (.var "successor_info" 7 p1) "npredecessors" 20 p2) (.cst (.int 0) (.int 0) 0 p3) p4) [some (.ref s),some tup,some (.ref d),some x,some (.ref i0),some st,some (.str m.key),some (.ref m.ia)] (ai H (fX {m with np:=m.np-1}) m.ia) (e8 (m.np-1) 0) [some (.ref s),some tup,some (.ref d),some x,some (.ref i0),some st,some (.str m.key),some (.ref m.ia)] (ai H (fX {m with np:=m.np-1}) m.ia):=λp1 p2 p3 p4=>bC (fg (af rfl) (et i1 rfl)) aY rfl
  rw[hd,List.foldl_cons,ed];cases IK:e8 (m.np-1) 0 with
  |true=>rw[IK] at il;have S2:=S1.GW (bc++[m.key]);obtain⟨H',u',v',r,fr,S'⟩:=ih (i+1) (u:=some (.str m.key)) (v:=some (.ref m.ia)) (by exact ja ‹_›) S2 h1 zC (by rw[bu];show bc.length+1+k<_;exact j5 ‹_›);have ap:=rB (v:=.str m.key) S1.iQ (by rw[aC];exact j4 ‹_›);rw[Bc] at ap;exact⟨H',u',v',gz (f:=.next) lI rfl (ay (bB (dD (af rfl) (af rfl) (S.look hm)) (λO=>rfl) rfl rfl) (ay (wu (af rfl) (et o.inf rfl) aY rfl (ji o.inf rfl)) (ay (cn (il ..) (ay (fL (fu (mk:=.list) (fg (af rfl) (et S1.self rfl)) (ky S1.iQ) rfl rfl (aG rfl (af rfl) aF) ap)) aV)) aV))) rfl r,((dy.upd (S.bd m hm).1).trans (dy.upd S.br)).trans fr,S'⟩
  |false=>rw[IK] at il;obtain⟨H',u',v',r,fr,S'⟩:=ih (i+1) (u:=some (.str m.key)) (v:=some (.ref m.ia)) (by exact ja ‹_›) S1 h1 zC (by exact nP ‹_›);exact⟨H',u',v',gz (f:=.next) lI rfl (ay (bB (dD (af rfl) (af rfl) (S.look hm)) (λO=>rfl) rfl rfl) (ay (wu (af rfl) (et o.inf rfl) aY rfl (ji o.inf rfl)) (ay (cn (il ..) aV) aV))) rfl r,(dy.upd (S.bd m hm).1).trans fr,S'⟩
def qD(ns:List Nd)(k:Ky):List Ky:=match ns.find? λn=>au n.key k with
 |some n=>n.su
 |none=>[]
def FH(hk:(ns.map (·.key)).Nodup)(hn:n∈ns):qD ns n.key=n.su:=by
 unfold qD
 induction ns with
 |nil=>cases hn
 |cons m ns ih=>
  rw[bQ,hU] at hk;rw[List.find?_cons];rcases bl.mp hn with rfl|hn
  ·rw[iZ]
  ·rw[rq (λe=>hk.1 (bj.mpr ⟨n,hn,e.symm⟩))];exact ih hk.2 hn
def i4(q:List Nd×List Ky)(x:Ky):List Nd×List Ky:=(qD q.1 x).foldl lP (fp q.1 x λm=>{m with np:=-2},q.2)
def tE(ns:List Nd)(x:Ky):Prop:=(∃n∈ns,n.key=x/\n.np=-1)/\(∀n∈ns,n.key=x->∀y∈n.su,y∈ns.map (·.key))
section
variable {b1 b2}(x:tE b1 b2)
def tE.mk:=iu (tE b1 b2) rfl
end
theorem YB{tup:AV}:∀(l:List Ky) {ns:List Nd} {bc:List Ky} {nf:Int} {H:Hp} {v4 v5 v6 v7 v8:Option AV},Sr H s d rl lo hi ns bc np nf ->
  (∀q:List Nd×List Ky,∀pre x post,l=pre++x::post->q=pre.foldl i4 (ns,bc)->tE q.1 x/\q.2.length+(qD q.1 x).length<az) ->
  ∃H' u4 u5 u6 u7 u8,RF P (dd+1) (iM (aW uY.body 2)) (.fix (l.map .str)) (bk (aW uY.body 2)) [some (.ref s),some tup,some (.ref d),v4,v5,v6,v7,v8] H .next [some (.ref s),some tup,some (.ref d),u4,u5,u6,u7,u8] H' /\
   dy lo hi H H'/\Sr H' s d rl lo hi (l.foldl i4 (ns,bc)).1 (l.foldl i4 (ns,bc)).2 np (nf+l.length):=by
 intro l
 induction l with
 |nil=>intro ns bc nf H v4 v5 v6 v7 v8 S _;exact⟨H,v4,v5,v6,v7,v8,jj rfl,dy.refl,by show Sr H s d rl lo hi ns bc np (nf+(0:Nat));rw[Int.natCast_zero,Int.add_zero];exact S⟩
 |cons x l fM=>
  intro ns bc nf H v4 v5 v6 v7 v8 S hq;obtain⟨⟨⟨n,hn,rfl,VQ⟩,CS⟩,hz⟩:=hq (ns,bc) [] _ l rfl rfl;have o:=S.ok hn;refine ue S.dj λep G=>?_;have es:=FH G.keys hn;have zC:∀y∈n.su,y∈(fp ns n.key λm=>{m with np:=-2}).map (·.key):=λy hy=>by rw[Bn (by intro _;rfl)];exact CS n hn rfl y hy
  have h1:=Gh (k:=n.key) (f:=λm=>{m with np:=-2}) (by intro _;rfl) (by intro _;rfl) ⟨n,hn,rfl,rfl⟩;refine lj (YC (dd:=dd) (x:=.str n.key) (st:=.int (-1)) (tup:=tup) (i0:=n.ia) n.su.length 0 (u:=v7) (v:=v8) (dW _) (S.wC hn (-2)) h1 zC (by rw[es] at hz;exact hz)) λH2 u2 w2 r2 W0 S2=>?_;rw[j7,<- es] at S2;have S3:=S2.yR np (nf+1);have ih:=fM (v4:=some (.str n.key)) (v5:=some (.ref n.ia)) (v6:=some (.int (-1))) (v7:=u2) (v8:=w2) S3 λq pre x post e1 e2=>hq q (n.key::pre) x post (by rw[e1];rfl) e2;refine Ff ih λH' u4 u5 u6 u7 u8 r fr S'=>?_;clear ih;have i1:ae (ai H (fX {n with np:=-2}) n.ia) n.ia=some (fX {n with np:=-2}):=cF (bE o.inf);have hd:ae H d=some (.dict ep (dG ns)):=G.dct;have g1:jK .dict 6 (.ref d) [.str n.key] H=some (.ref n.ia,H):=by rw[Dm hd,zo G.keys n hn];rfl
  have l1:ae (ai H (fX {n with np:=-2}) n.ia) n.sa=some (aS n.su):=(aZ (sP o.inf o.cQ)).trans o.cQ;have sr:dX (.ref n.sa) (ai H (fX {n with np:=-2}) n.ia)=some (.lst n.sa 0):=by show(match bq _ n.sa with|some _=>some (ba.lst n.sa 0)|none=>_)=_;rw[iT l1]
  refine⟨H',u4,u5,u6,u7,u8,gz (f:=.next) rfl rfl (ay (cn (t:=false) (bC (BD (fu (mk:=.dict) (af rfl) (sJ hd) rfl rfl (aG rfl (af rfl) aF) g1) rfl) aY rfl) aV)
   (ay (bB (v:=.int (-1)) (fg (af rfl) (et o.inf (by show some (AV.int n.np)=_;rw[VQ]))) (λO=>rfl) rfl rfl)
   (ay (cn (t:=false) (bC (af rfl) (bg rfl) rfl) aV)
   (ay (pI (bg rfl) (λO=>rfl) (af rfl) (ji o.inf rfl))
   (ay (gP (fg (af rfl) (et i1 rfl)) sr r2)
   (ay (wu (af rfl) (et S2.self rfl) aY rfl (ji S2.self rfl)) aV)))))) rfl r,(((dy.upd (S.bd n hn).1).trans W0).trans (dy.upd S.bs)).trans fr,?_⟩
  have e:nf+((l.length+1:Nat):Int)=nf+1+(l.length:Int):=by rw[Int.add_assoc,Int.add_comm 1];rfl
  show Sr H' s d rl lo hi (l.foldl i4 (i4 (ns,bc) n.key)).1 (l.foldl i4 (i4 (ns,bc) n.key)).2 np (nf+((l.length+1:Nat):Int));rw[e];exact S'
def Q7{l:List Ky}(S:Sr H s d rl lo hi ns bc np nf)(hl:l.length<az)
  (hq:∀q:List Nd×List Ky,∀pre x post,l=pre++x::post->q=pre.foldl i4 (ns,bc)->tE q.1 x/\q.2.length+(qD q.1 x).length<az):
  ∃H',RC P (dd+2) (.glob 41) (.ref s::l.map .str) H .none H'/\dy lo hi H H'/\Sr H' s d rl lo hi (l.foldl i4 (ns,bc)).1 (l.foldl i4 (ns,bc)).2 np (nf+l.length):=by
 refine Ff (YB (dd:=dd) (tup:=.tup (l.map .str)) l (v4:=none) (v5:=none) (v6:=none) (v7:=none) (v8:=none) S hq) λH' u4 u5 u6 u7 u8 r fr S'=>?_;refine⟨H',?_,fr,S'⟩;refine eG (fd:=uY) (fl:=.next) (ρ1:=[some (.ref s),some (.tup (l.map .str)),none,none,none,none,none,none]) rfl ?_ ?_ rfl
 ·show aK (Nat.ble 1 (l.map AV.str).length.succ&&Nat.ble (l.map AV.str).length.succ az) _=_;rw[dU.mpr (by exact L5),dU.mpr (by rw[aC];assumption)]
  rfl
 exact⟨_,ay (cn (t:=false) (bC (fg (af rfl) (et S.self rfl)) aY rfl) aV) (ay (bB (fg (af rfl) (et S.self rfl)) (λO=>rfl) rfl rfl) (ay (gP (af rfl) rfl r) aV))⟩
end
end
section
section
variable {dd s d lo ep:Nat}{H:Hp}{ns:List Nd}
def fw(ns:List Nd):List Ky:=(ns.filter λn=>e8 n.np 0).map (·.key)
def EZ{n e i:Nat}{l:List (List Nat×AV)}(h:ae H n=some (.dict e l)):(ba.vals n i l.length e).next H=some ((ae l i).map λp=>(p.2,.vals n (i+1) l.length e)):=by show((cM H n).bind λr=>aK (Nat.beq r.2.length l.length&&Nat.beq r.1 e) (some ((ae r.2 i).map λp=>(p.2,ba.vals n (i+1) l.length e))))=_;rw[kD h];show aK (Nat.beq l.length l.length&&Nat.beq e e) _=_;rw[jy,jy];rfl
def Lq{Y:Hp}{l:List AV}{x:AV}(h:l.length<az):tu H.length x (H++.list l::Y)=some (H++.list (l++[x])::Y):=by show((bq (H++.list l::Y) H.length).bind λl'=>aK (Nat.blt l'.length az) (some (ai (H++.list l::Y) (.list (l'++[x])) H.length)))=_;rw[iT cL];show aK (Nat.blt l.length az) (some (ai (H++.list l::Y) (.list (l++[x])) H.length))=_;rw[bf.mpr h,rW];rfl
abbrev pN:C:=fc (aW Du.body 1)
def RH(G:dw H d ep ns)(hz:ns.length<az):∀(k i:Nat) {acc:List Ky} {x:Option AV},i+k=ns.length->acc.length<=i ->
  ∃x',RK P dd (cO pN) (.vals d i (dG ns).length ep) (gC pN) (eV pN) H.length [some (.ref s),none,x] (H++[aS acc]) [some (.ref s),none,x'] (H++[aS (acc++fw (ns.drop i))]):=by
 intro k
 induction k with
 |zero=>intro i acc x hk hl;refine⟨x,?_⟩;rw[kR (by exact iJ ‹_›)];show RK P dd _ _ _ _ _ _ _ _ (H++[aS (acc++[])]);rw[cE];refine Qm ?_;rw[EZ (bU G.dct),oy (by unfold dG;rw[aC];exact iJ ‹_›)];rfl
 |succ k ih=>
  intro i acc x hk hl;refine ue (gA (l:=ns) (n:=i) (by exact me ‹_›)) λn hn=>?_;have o:=(G.app [aS acc]).ok n (pS hn);have lI:(ba.vals d i (dG ns).length ep).next (H++[aS acc])=some (some (.ref n.ia,.vals d (i+1) (dG ns).length ep)):=by rw[EZ (bU G.dct)];unfold dG;rw[ir,hn];rfl
  have t:RQ P dd (gC pN) [some (.ref s),none,some (.ref n.ia)] (H++[aS acc]) (e8 n.np 0) [some (.ref s),none,some (.ref n.ia)] (H++[aS acc]):=qH (bC (fg (af rfl) (et o.inf rfl)) aY rfl)
  rw[lO hn];cases hb:e8 n.np 0 with
  |true=>
   rw[hb] at t;refine ue (ih (i+1) (acc:=acc++[n.key]) (x:=some (.ref n.ia)) (by exact ja ‹_›) (by rw[bu];exact Nat.succ_le_succ hl)) λx' r=>?_;have e:fw (n::ns.drop (i+1))=n.key::fw (ns.drop (i+1)):=by unfold fw;rw[List.filter_cons,hb];rfl
   rw[e];refine⟨x',wz (lF lI) rfl t ⟨_,_,GC (x:=.str n.key) (λO O O=>rfl) (fg (af rfl) (et o.inf rfl)) (Lq (by rw[aC];exact Nf ‹_› hz hl)),?_⟩⟩;rw[Bc];rw[dA] at r;exact r
  |false=>
   rw[hb] at t;refine ue (ih (i+1) (acc:=acc) (x:=some (.ref n.ia)) (by exact ja ‹_›) (by exact AQ ‹_›)) λx' r=>?_;have e:fw (n::ns.drop (i+1))=fw (ns.drop (i+1)):=by unfold fw;rw[List.filter_cons,hb];rfl
   rw[e];exact⟨x',wz (lF lI) rfl t r⟩
def QJ{g:List Ad}{rk:Ky->Nat}(S:fj H s d lo g .none 0 0)(edge:∀t∈g,∀y∈t.2.2,y∈g.map (·.1)/\rk y<rk t.1)(few:g.length<1000):
  ∃H' ns,RC P (dd+3) (.glob 38) [.ref s] H .none H'/\aJ lo H H'/\bZ ns=g/\(ns.map (·.key)).Nodup/\Sr H' s d H.length lo H'.length ns (fw ns) 0 0:=by
 refine bo S.dj λep ns G aa B=>?_;subst aa;have hl:ns.length<1000:=by unfold bZ at few;rwa[aC] at few
 have hz:(1000:Nat)<=az:=by decide
 refine ue (RH (dd:=dd+2) (s:=s) G (by exact rI ‹_› ‹_›) ns.length 0 (acc:=[]) (x:=none) (dW _) (aQ _)) λx' r=>?_;rw[j7,List.nil_append] at r;have hs:=S.self;have sl:=bE hs;have G1:=G.app [aS (fw ns)];have gU:ae (H++[aS (fw ns)]) s=some (fS d .none 0 0):=bU hs;have Ql:ae (H++[aS (fw ns)]) H.length=some (aS (fw ns)):=cL;have lK:(ai (H++[aS (fw ns)]) (fS d (.ref H.length) 0 0) s).length=H.length+1:=by rw[bW,bu];rfl
 have GK:dw (ai (H++[aS (fw ns)]) (fS d (.ref H.length) 0 0) s) d ep ns:=G1.mono (aZ (uG gU G1.dct)) λm hm=>⟨aZ (yv gU (G1.ok m hm).inf).symm,aZ (Bi gU (G1.ok m hm).cQ).symm⟩;have zF:ae (ai (H++[aS (fw ns)]) (fS d (.ref H.length) 0 0) s) s=some (fS d (.ref H.length) 0 0):=cF (bE gU);have GD:ae (ai (H++[aS (fw ns)]) (fS d (.ref H.length) 0 0) s) H.length=some (aS (fw ns)):=(aZ (by exact AL ‹_›)).trans Ql;have TY:aJ lo H (ai (H++[aS (fw ns)]) (fS d (.ref H.length) 0 0) s):=(aJ.app _ (aH S.mY (bG sl))).trans (aJ.upd S.mY);have st:=ji (P:=P) (a:=15) (v:=.ref H.length) (fs':=[some (.ref d),some (.ref H.length),some (.int 0),some (.int 0)]) gU rfl;have st:pF P 15 (.ref s) (.ref H.length) (H++[aS (fw ns)])=some (ai (H++[aS (fw ns)]) (fS d (.ref H.length) 0 0) s):=st;generalize ai (H++[aS (fw ns)]) (fS d (.ref H.length) 0 0) s=K at *;have A:l9 K d ep ns rk:=(l9.mk GK (λn hn y hy=>by refine ua (edge (n.key,n.np,n.su) (bj.mpr ⟨n,hn,rfl⟩) y hy) λh1 h2=>?_;refine⟨?_,h2⟩;refine ak (bj.mp h1) λt ht aa=>?_;subst aa;refine ak (bj.mp ht) λm hm aa=>?_;subst aa;exact⟨m,hm,rfl⟩) hl)
 refine ak (Q0 (d:=dd) (lo:=lo) (g:=bZ ns) A zF) λH' rf lw=>?_;have sK:=bE zF;have dK:=bE GK.dct;refine⟨H',ns,?_,TY.trans (aJ.mk lw.len (λa ha=>lw.low a (by have:=S.mY;exact Mq ‹_› ‹_› ‹_›))),rfl,G.keys,Sr.mk ((lw.low s sK).trans zF) ((lw.low _ (bE GD)).trans GD) ⟨ep,GK.mono (lw.low d dK) λm hm=>⟨lw.low _ (bE (GK.ok m hm).inf),lw.low _ (bE (GK.ok m hm).cQ)⟩⟩ ?_ ?_ ?_ ?_⟩
 ·refine eG (fd:=Du) (fl:=.next) (ρ1:=[some (.ref s),none,none]) rfl rfl ?_ rfl;have fv:RE P (dd+2) true (eO pN) [some (.ref s),none,none] H (.vals d) [some (.ref s),none,none] H:=fu (mk:=.dict) (fg (af rfl) (et hs rfl)) (sJ G.dct) rfl rfl aF (by show((cM H d).bind λr=>wN 7 d r.2 [] H)=_;rw[kD G.dct];rfl)
  have sv:dX (.vals d) H=some (.vals d 0 (dG ns).length ep):=by show((cM H d).map λr=>ba.vals d 0 r.2.length r.1)=_;rw[kD G.dct];rfl
  have rm:RM P (dd+2) (eV pN) (cO pN) (eO pN) (gC pN) [some (.ref s),none,none] H (.ref H.length) [some (.ref s),none,none] (H++[aS (fw ns)]):=By fv sv r;exact⟨_,ay (cn (t:=false) (bC (fg (af rfl) (et hs rfl)) aY rfl) aV) (ay (P9 rm (af rfl) st) (ay (bB (ou (af rfl) (oD zF rfl) aF rf) (λO=>rfl) rfl rfl) (ay (cn (t:=false) (ly (af rfl) rfl) aV) aV)))⟩
 ·exact B.mono (by have:=lw.len;exact ME ‹_› ‹_›)
 ·exact⟨S.mY,by have:=lw.len;exact Et ‹_› ‹_›⟩
 ·exact⟨aH S.mY (bG sl),by have:=lw.len;exact MD ‹_› ‹_›⟩
 ·intro n hn e;exact LX e (B n hn).2.2
end
end
section
noncomputable def kM(I:Hp->Prop)(tg:C):Hp->ba->List AV->Hp->Prop
 |H,src,[],H'=>(∀Y,src.nx tg (H++Y)=some (none,H'++Y))/\H'.length=H.length
 |H,src,x::r,H'=>∃src' H1,(∀Y,src.nx tg (H++Y)=some (some (x,src'),H1++Y))/\I H1/\H1.length=H.length/\kM I tg H1 src' r H'
section
variable {H:Hp}{tg:C}
abbrev Is(H:Hp):Hp->Prop:=λK=>K=H
def ri:∀l:List AV,kM (Is H) tg H (.fix l) l H:=by
 intro r
 induction r with
 |nil=>exact⟨λO=>lF rfl,rfl⟩
 |cons x r ih=>exact⟨.fix r,H,λO=>lF rfl,rfl,rfl,ih⟩
variable {n:Nat}{l:List AV}
def Xr(h:ae H n=some (.list l)):∀(k i:Nat),i+k=l.length->kM (Is H) tg H (.lst n i) (l.drop i) H:=by
 intro k
 induction k with
 |zero=>intro i e;rw[kR (by exact iJ ‹_›)];exact⟨λY=>lF (by rw[qN (bU h),oy (by exact iJ ‹_›)];rfl),rfl⟩
 |succ k ih=>intro i e;refine ue (gA (l:=l) (n:=i) (by exact me ‹_›)) λx hx=>?_;rw[lO hx];exact⟨.lst n (i+1),H,λY=>lF (by rw[qN (bU h),hx];rfl),rfl,rfl,ih (i+1) (by exact ja ‹_›)⟩
def xE(h:ae H n=some (.list l)):kM (Is H) tg H (.lst n 0) l H:=by have:=Xr (tg:=tg) h l.length 0 (dW _);rwa[j7] at this
variable {L:List (List Nat×AV)}
def Xs{ep:Nat}(h:ae H n=some (.dict ep L)):∀(k i:Nat),i+k=L.length->kM (Is H) tg H (.dct n i L.length ep) ((L.drop i).map λp=>.str p.1) H:=by
 intro k
 induction k with
 |zero=>intro i e;rw[kR (by exact iJ ‹_›)];exact⟨λY=>lF (by rw[vg (bU h),oy (by exact iJ ‹_›)];rfl),rfl⟩
 |succ k ih=>intro i e;refine ue (gA (l:=L) (n:=i) (by exact me ‹_›)) λx hx=>?_;rw[lO hx];exact⟨.dct n (i+1) L.length ep,H,λY=>lF (by rw[vg (bU h),hx];rfl),rfl,rfl,ih (i+1) (by exact ja ‹_›)⟩
def pE(h:ae H n=some (.list l)):dX (.ref n) H=some (.lst n 0):=by show(match bq H n with|some _=>some (ba.lst n 0)|none=>_)=_;rw[iT h]
def FY{ep:Nat}(h:ae H n=some (.dict ep L)):dX (.ref n) H=some (.dct n 0 L.length ep):=by show(match bq H n with|some _=>some (ba.lst n 0)|none=>Option.map (λr:Nat×List (List Nat×AV)=>ba.dct n 0 r.2.length r.1) (cM H n))=_;rw[wJ h,kD h];rfl
end
def Ef(n:Nat)(K K':Hp):Prop:=∀a o,n<a->ae K a=some o->ae K' a=some o
noncomputable def vC(R:AV->AV->Hp->Prop):List AV->List AV->Hp->Prop
 |[],vs,_=>vs=[]
 |x::l,vs,K=>∃v r,vs=v::r/\R x v K/\vC R l r K
def RZ{K K':Hp}{a b:List AV}{Y Y':Hp}(h:K'.length=K.length):Ef K.length (K++.list a::Y) (K'++.list b::(Y++Y')):=by intro x o hx e;obtain⟨m,rfl⟩:∃m,x=K.length+(m+1):=Nat.exists_eq_add_of_lt hx;rw[jm] at e;rw[<- h,jm];exact bU (l:=Y) e
section
variable {d:Nat}{H Hz:Hp}{tg ifs elt it:C}{e:Option AV->aD}{t:AV->Bool}{f:AV->AV}{I:Hp->Prop}{R:AV->AV->Hp->Prop}
theorem GF(hg:ui elt)(hR:∀x v K K',R x v K->Ef H.length K K'->R x v K'):∀(l:List AV) {src:ba} {H1:Hp} {acc:List AV} {Y:Hp} {o:Option AV},kM I tg H1 src l Hz->H1.length=H.length ->
  (∀x∈l,∀o K,iF tg x (e o) K=.ok () (e (some x)) K) ->
  (∀x∈l,∀K,I K->K.length=H.length->∀Y,∃Y',RQ P d ifs (e (some x)) (K++Y) (t x) (e (some x)) (K++(Y++Y'))) ->
  (∀x∈l,t x=true->∀K,I K->K.length=H.length->∀a Y,∃v Y',RE P d true elt (e (some x)) (K++a::Y) v (e (some x)) (K++a::(Y++Y'))/\R x v (K++a::(Y++Y')))->acc.length+l.length<az ->
  ∃o' Y' vs,RK P d tg src ifs elt H.length (e o) (H1++.list acc::Y) (e o') (Hz++.list (acc++vs)::(Y++Y'))/\vC R (l.filter t) vs (Hz++.list (acc++vs)::(Y++Y'))/\Hz.length=H.length:=by
 intro l
 induction l with
 |nil=>intro src H1 acc Y o F hl hb ht he hz;exact⟨o,[],[],by rw[cE,cE];exact Bz (F.1 _),rfl,F.2.trans hl⟩
 |cons x l ih=>
  intro src H1 acc Y o F hl hb ht he hz;rw[jB] at hz;refine ka F λsrc' H2 hn i2 l2 F'=>?_;clear F;have l2:=l2.trans hl;have ih:=λ(acc:List AV) (Y:Hp) (hz:acc.length+l.length<az)=>ih (acc:=acc) (Y:=Y) (o:=some x) F' l2 (λy hy=>hb y (bI _ hy)) (λy hy=>ht y (bI _ hy)) (λy hy=>he y (bI _ hy)) hz;refine ue (ht x bz H2 i2 l2 (.list acc::Y)) λY1 tx=>?_;cases hx:t x with
  |false=>rw[hx] at tx;refine eB (ih acc (Y++Y1) (by exact nP ‹_›)) λo' Y' vs r=>?_;refine⟨o',Y1++Y',vs,?_⟩;rw[List.filter_cons,hx,<- dA];exact⟨wz (hn _) (hb x bz ..) tx r.1,r.2⟩
  |true=>
   rw[hx] at tx;refine dJ (he x bz hx H2 i2 l2 (.list acc) (Y++Y1)) λv Y2 r1 rv=>?_;refine eB (ih (acc++[v]) (Y++Y1++Y2) (by rw[bu];show acc.length+1+_<_;exact j5 ‹_›)) λo' Y' vs r=>?_;have eY:Y++(Y1++Y2++Y')=Y++Y1++Y2++Y':=by simp only[dA]
   have ev:acc++[v]++vs=acc++v::vs:=by rw[dA];rfl
   refine⟨o',Y1++Y2++Y',v::vs,?_⟩;rw[eY,List.filter_cons,hx];rw[ev] at r;refine⟨wz (hn _) (hb x bz ..) tx ⟨_,_,GC hg r1 (by rw[<- l2];exact Lq (by exact j4 ‹_›):tu H.length v (H2++.list acc::(Y++Y1++Y2))=some (H2++.list (acc++[v])::(Y++Y1++Y2))),r.1⟩,⟨v,vs,rfl,hR x v _ _ rv ?_,r.2.1⟩,r.2.2⟩;rw[<- l2];exact RZ (r.2.2.trans l2.symm)
def Bx(hg:ui elt)(hR:∀x v K K',R x v K->Ef H.length K K'->R x v K'){U:aD}{H0:Hp}{x:AV}{src:ba}{l:List AV}(h1:RE P d true it U H0 x U H)(hs:dX x H=some src)(F:kM I tg H src l Hz)(hc:iD (slots tg elt) U=e none)(hb:∀x∈l,∀o K,iF tg x (e o) K=.ok () (e (some x)) K)
  (ht:∀x∈l,∀K,I K->K.length=H.length->∀Y,∃Y',RQ P d ifs (e (some x)) (K++Y) (t x) (e (some x)) (K++(Y++Y')))
  (he:∀x∈l,t x=true->∀K,I K->K.length=H.length->∀a Y,∃v Y',RE P d true elt (e (some x)) (K++a::Y) v (e (some x)) (K++a::(Y++Y'))/\R x v (K++a::(Y++Y'))) (hz:l.length<az):
  ∃Y vs,RM P d elt tg it ifs U H0 (.ref H.length) U (Hz++.list vs::Y)/\vC R (l.filter t) vs (Hz++.list vs::Y)/\Hz.length=H.length:=by
 refine eB (GF hg hR l (acc:=[]) (Y:=[]) (o:=none) F rfl hb ht he (by show 0+_<_;exact MH ‹_›)) λo' Y' vs r=>?_;rw[<- hc] at r;exact⟨Y',vs,By h1 hs r.1,r.2⟩
theorem GJ:∀{l vs:List AV} {K:Hp},vC (λx v O=>v=f x) l vs K->vs=l.map f:=by
 intro l
 induction l with
 |nil=>intro vs K h;exact h
 |cons x l ih=>intro vs K h;exact bo h λv r e1 e2 e3=>by rw[e1,e2,ih e3];rfl
def yI(hg:ui elt){U:aD}{H0:Hp}{x:AV}{src:ba}{l:List AV}(h1:RE P d true it U H0 x U H)(hs:dX x H=some src)(F:kM I tg H src l Hz)(hc:iD (slots tg elt) U=e none)(hb:∀x∈l,∀o K,iF tg x (e o) K=.ok () (e (some x)) K)
  (ht:∀x∈l,∀K,I K->K.length=H.length->∀Y,∃Y',RQ P d ifs (e (some x)) (K++Y) (t x) (e (some x)) (K++(Y++Y')))
  (he:∀x∈l,t x=true->∀K,I K->K.length=H.length->∀Y,∃Y',RE P d true elt (e (some x)) (K++Y) (f x) (e (some x)) (K++(Y++Y'))) (hz:l.length<az):
  ∃Y,RM P d elt tg it ifs U H0 (.ref H.length) U (Hz++.list ((l.filter t).map f)::Y)/\Hz.length=H.length:=by
 refine cb (Bx (R:=λx v O=>v=f x) hg (λO O O O h O=>h) h1 hs F hc hb ht (λx hx ht K i hl a Y=>ue (he x hx ht K i hl (a::Y)) λY' r=>⟨f x,Y',r,rfl⟩) hz) λY vs r=>?_;exact⟨Y,by rw[<- GJ r.2.1];exact⟨r.1,r.2.2⟩⟩
end
def xD{α:Type}:∀l:List α,l.filter (λO=>true)=l:=by
 intro l
 induction l with
 |nil=>exact rfl
 |cons x l ih=>exact congrArg (x::·) (ih)
section
variable {d:Nat}{H:Hp}
def Ie:∀l:List Ky,pX (l.map .str)=some l.flatten:=by
 intro l
 induction l with
 |nil=>exact rfl
 |cons x l ih=>show((AV.str x).ip.bind λa=>(pX (l.map .str)).map (a++·))=_;rw[ih];rfl
def Ig{n:Nat}{l:List Ky}(h:ae H n=some (.list (l.map .str)))(hz:l.flatten.length<=az):jK .str 5 (.str []) [.ref n] H=some (.str l.flatten,H):=by show(((aP H (.ref n)).bind λl=>(pX l).bind λx=>aK (Nat.ble x.length az) (some (AV.str x,H))))=_;show((bq H n).bind λl=>(pX l).bind λx=>aK (Nat.ble x.length az) (some (AV.str x,H)))=_;rw[iT h];show((pX (l.map .str)).bind λx=>aK (Nat.ble x.length az) (some (AV.str x,H)))=_;rw[Ie];show aK (Nat.ble l.flatten.length az) _=_;rw[dU.mpr hz];rfl
def z0(l:List Nat):(l.map λc=>[c]).flatten=l:=by
 induction l with
 |nil=>rfl
 |cons c l ih=>rw[bQ,List.flatten_cons,ih];rfl
noncomputable def aU(l:List Nat):List AV:=l.map λn:Nat=>.int n
def a0(l:List Nat):AV:=.lst (aU l)
def abk:∀n:Nat,n<16->jo (n:Int) [0,1,2,3,4,5,6,7,8,9,10,11,12,13,14,15]=some n:=by decide
noncomputable def qh(c:C):C:=match c with
 |.bV _ _ _ args _ _=>(match args with|.cons a _=>a|_=>.nil)
 |.call _ args _=>(match args with|.cons a _=>a|_=>.nil)
 |_=>.nil
def tY{tg elt it:C}{e:Option AV->aD}{f:AV->AV}(hg:ui elt){U:aD}{H0:Hp}{x:AV}{src:ba}{l:List AV}(h1:RE P d true it U H0 x U H)(hs:dX x H=some src)(F:kM (Is H) tg H src l H)(hc:iD (slots tg elt) U=e none)(hb:∀x∈l,∀o K,iF tg x (e o) K=.ok () (e (some x)) K)
  (he:∀x∈l,∀Y,∃Y',RE P d true elt (e (some x)) (H++Y) (f x) (e (some x)) (H++(Y++Y'))) (hz:l.length<az):∃Y,RM P d elt tg it .nil U H0 (.ref H.length) U (H++.list (l.map f)::Y):=by
 refine ue (yI (t:=λO=>true) (ifs:=.nil) hg h1 hs F hc hb (λO O K i O Y=>⟨[],by rw[cE];exact se⟩) (λx hx O K i O=>by cases i;exact he x hx) hz) λY r=>?_;rw[xD] at r;exact⟨Y,r.1⟩
variable {row:List Nat}
def GR(gE:∀c∈row,c<16)(hz:row.length<az):∃Y,RC P (d+1) (.glob 5) [a0 row] H (.str row) (H++Y):=by
 obtain⟨Y,r⟩:=tY (d:=d) (H:=H) (tg:=cO (qh (fc (aW f5.body 0)))) (elt:=eV (qh (fc (aW f5.body 0)))) (it:=eO (qh (fc (aW f5.body 0)))) (U:=[some (a0 row),none]) (e:=λo=>[some (a0 row),o]) (f:=λv=>match v with|.int i=>.str [i.toNat]|v=>v) (λO O O=>rfl) (af rfl) rfl (ri (aU row)) rfl (λO O O O=>rfl)
  (λx hx Y=>by refine ak (bj.mp hx) λc hc aa=>?_;subst aa;refine⟨[],?_⟩;rw[cE];refine dD aY (af rfl) ?_;show(jo (c:Int) [0,1,2,3,4,5,6,7,8,9,10,11,12,13,14,15]).map (λc=>AV.str [c])=_;rw[abk c (gE c hc)];rfl) (by unfold aU;rw[aC];exact hz)
 have e:(aU row).map (λv=>match v with|.int i=>AV.str [i.toNat]|v=>v)=(row.map λc=>[c]).map AV.str:=by unfold aU;rw[cm,cm];rfl
 rw[e] at r;refine⟨.list ((row.map λc=>[c]).map .str)::Y,eG (fd:=f5) (fl:=.ret (.str row)) (ρ1:=[some (a0 row),none]) rfl rfl ⟨_,cV (gj (fu (mk:=.str) aY rfl rfl rfl (aG rfl (mT r) aF) ?_) λO=>rfl) nofun⟩ rfl⟩;have:=Ig (H:=H++.list ((row.map λc=>[c]).map .str)::Y) cL (by rw[z0];exact bG hz);rwa[z0] at this
def Qx(gE:∀c∈row,c<16)(hz:row.length<az):∃Y,RC P (d+1) (.glob 4) [.cj row] H (.str row) (H++Y):=by
 obtain⟨Y,r⟩:=tY (d:=d) (H:=H) (tg:=cO (qh (fc (aW f4.body 0)))) (elt:=eV (qh (fc (aW f4.body 0)))) (it:=eO (qh (fc (aW f4.body 0)))) (U:=[some (.cj row),none]) (e:=λo=>[some (.cj row),o]) (f:=λv=>match v with|.int i=>.str [i.toNat-65]|v=>v) (λO O O=>rfl) (af rfl) rfl (ri (row.map λd=>.int ((65+d:Nat):Int))) rfl (λO O O O=>rfl)
  (λx hx Y=>by refine ak (bj.mp hx) λc hc aa=>?_;subst aa;refine⟨[],?_⟩;rw[cE];refine bp (bg rfl) rfl (aG rfl (af rfl) aF) (fF (b:=.chr) rfl ?_);have:=gE c hc;show aK (Nat.ble 65 (65+c)&&Nat.blt (65+c) 81) (some (AV.str [65+c-65],H++Y))=_;rw[dU.mpr (by exact x9),bf.mpr (by exact LQ ‹_›)];rfl) (by rw[aC];exact hz)
 have e:(row.map λd=>AV.int ((65+d:Nat):Int)).map (λv=>match v with|.int i=>AV.str [i.toNat-65]|v=>v)=(row.map λc=>[c]).map AV.str:=by rw[cm,cm];refine jC λc O=>?_;show AV.str [65+c-65]=AV.str [c];rw[Nat.add_sub_cancel_left]
 rw[e] at r;refine⟨.list ((row.map λc=>[c]).map .str)::Y,eG (fd:=f4) (fl:=.ret (.str row)) (ρ1:=[some (.cj row),none]) rfl rfl ⟨_,cV (gj (fu (mk:=.str) aY rfl rfl rfl (aG rfl (mT r) aF) ?_) λO=>rfl) nofun⟩ rfl⟩;have:=Ig (H:=H++.list ((row.map λc=>[c]).map .str)::Y) cL (by rw[z0];exact bG hz);rwa[z0] at this
noncomputable def b0(l:List Nat):Nat:=l.foldl (λn c=>16*n+c) 0
def A5(l:List Nat)(c:Nat):b0 (l++[c])=16*b0 l+c:=by unfold b0;rw[List.foldl_append];rfl
def NJ:∀(l:List Nat) (n:Nat),(∀c∈l,c<16)->l.foldl (λn c=>16*n+c) n<(n+1)*16^l.length:=by
 intro l
 induction l with
 |nil=>intro n _;show n<(n+1)*1;exact EF
 |cons c l ih=>intro n h;have h2:=h c bz;show l.foldl _ (16*n+c)<(n+1)*16^(l.length+1);exact cA (ih (16*n+c) λx hx=>h x (bI _ hx)) (aH (Nat.mul_le_mul_right _ (by exact AW ‹_›):(16*n+c+1)*16^l.length<=(16*(n+1))*16^l.length) (bL (by rw[Nat.pow_succ,Nat.mul_comm (16^l.length) 16,<- Nat.mul_assoc,Nat.mul_comm (n+1) 16]:(n+1)*16^(l.length+1)=(16*(n+1))*16^l.length).symm))
def NI(l:List Nat)(h:∀c∈l,c<16):b0 l<16^l.length:=by have:=NJ l 0 h;rwa[dW,Nat.one_mul] at this
def O7{α:Type}:∀l:List α,l=[]\/∃m c,l=m++[c]:=by
 intro l
 induction l with
 |nil=>exact .inl rfl
 |cons x l ih=>
  rcases ih with rfl|⟨m,c,rfl⟩
  ·exact .inr ⟨[],x,rfl⟩
  ·exact .inr ⟨x::m,c,rfl⟩
def O9{l:List Nat}(h:∀c∈l,c<16)(hl:l.length<=40):fT (b0 l:Nat)=true:=by refine bf.mpr (cA (show(b0 l:Int).natAbs<16^l.length from NI l h) ?_);exact aH (Nat.pow_le_pow_right (by decide) hl) (by decide)
def Sz{row:AV}:∀(l pre:List Nat) {u:Option AV},(∀c∈pre++l,c<16)->(pre++l).length<=40 ->
  ∃u',RF P d (iM (aW f2.body 1)) (.fix (aU l)) (bk (aW f2.body 1)) [some row,some (.int (b0 pre:Nat)),u] H .next [some row,some (.int (b0 (pre++l):Nat)),u'] H:=by
 intro l
 induction l with
 |nil=>intro pre u _ _;exact⟨u,by rw[cE];exact jj rfl⟩
 |cons c l ih=>
  intro pre u h hl;have e:pre++c::l=(pre++[c])++l:=by rw[dA];rfl
  refine ue (ih (pre++[c]) (u:=some (.int c)) (by rw[<- e];exact h) (by rw[<- e];exact hl)) λu' r=>?_;rw[<- e] at r;refine⟨u',gz (f:=.next) rfl rfl (ay (bB (cU (cU aY (af rfl) (wL (by decide) (O9 (l:=pre) (λx hx=>h x (o8 _ hx)) (by rw[bu] at hl;exact Ew ‹_›)) rfl)) (af rfl) (nC (k:=(b0 (pre++[c]):Nat)) ?_)) (λO=>rfl) rfl rfl) aV) rfl r⟩;rw[A5];show(16:Int)*(b0 pre:Nat)+(c:Nat)=_
  rfl
def QO(h:∀c∈row,c<16)(hl:row.length<=40):RC P (d+1) (.glob 2) [a0 row] H (.int (b0 row:Nat)) H:=by refine ue (Sz (d:=d) (H:=H) (row:=a0 row) row [] (u:=none) h hl) λu' r=>?_;exact eG (fd:=f2) (fl:=.ret (.int (b0 row:Nat))) (ρ1:=[some (a0 row),none,none]) rfl rfl ⟨_,ay (bB aY (λO=>rfl) rfl rfl) (ay (gP (af rfl) rfl r) (cV (gj (af rfl) λO=>rfl) nofun))⟩ rfl
def E5:∀{c:Nat} {l:List Nat},1<=c->1<=b0 (c::l):=λ{c l} h=>by
 have:∀(l:List Nat) (n:Nat),1<=n->1<=l.foldl (λn c=>16*n+c) n:=λl=>by
  induction l with
  |nil=>exact λn h=>h
  |cons x l ih=>exact λn h=>ih _ (show 1<=16*n+x by exact MR ‹_›)
 exact this l _ (show 1<=16*0+c by exact MS ‹_›)
def abj:∀c:Nat,c<16->(List.take (c+1) [0,1,2,3,4,5,6,7,8,9,10,11,12,13,14,15]).drop c=[c]:=by decide
def aaU(c:Nat)(h:c<16):mP (.cj [0,1,2,3,4,5,6,7,8,9,10,11,12,13,14,15]) (.int c) (.int ((c+1:Nat):Int)) []=some (.cj [c]):=by
 have z:(16:Nat)<=az:=by decide
 show((aK (Nat.ble c az) (some (some (c:Int)))).bind λa=>(aK (Nat.ble (c+1) az) (some (some ((c+1:Nat):Int)))).map λb=>AV.cj (dq a b [0,1,2,3,4,5,6,7,8,9,10,11,12,13,14,15]))=_;rw[dU.mpr (aH (bG h) z),dU.mpr (aH h z)];exact congrArg (λl=>some (AV.cj l)) (abj c h)
noncomputable abbrev Lz:AV:=.cj [0,1,2,3,4,5,6,7,8,9,10,11,12,13,14,15]
def aaT:∀(n:Nat) {l post:List Nat} {u:Option AV},l.length=n->(∀c∈l,c<16)->n+post.length<=40->(∀c r,l=c::r->1<=c) ->
  ∃u',RW P d true (iL (aW f3.body 3)) (bk (aW f3.body 3)) (jt (aW f3.body 3)) [some (.int (b0 l:Nat)),some (.cj post),some Lz,u] H .next [some (.int (0:Nat)),some (.cj (l++post)),some Lz,u'] H:=by
 intro n
 induction n with
 |zero=>intro l post u hn _ _ _;cases vJ hn;exact⟨u,pH (ly (af rfl) rfl) aV⟩
 |succ n ih=>
  intro l post u hn h hl h1;rcases O7 l with rfl|⟨m,c,rfl⟩
  ·cases hn
  have hc:c<16:=h c (rL _ bz);have pos:1<=b0 (m++[c]):=by
   cases m with
   |nil=>exact E5 (h1 c [] rfl)
   |cons x m=>exact E5 (h1 x (m++[c]) rfl)
  refine ue (ih (l:=m) (post:=c::post) (u:=some (.int c)) (by rw[bu] at hn;exact Nat.succ.inj hn:m.length=n) (λx hx=>h x (o8 _ hx)) (by rw[jB];exact Mm ‹_›) (λx r e=>h1 x (r++[c]) (by rw[e];rfl))) λu' r=>?_;have tr:jg (.int (b0 (m++[c]):Nat)) H=some true:=by
   show some (!(Nat.beq (b0 (m++[c])) 0))=_;have:Nat.beq (b0 (m++[c])) 0=false:=by
    cases hb:Nat.beq (b0 (m++[c])) 0 with
    |true=>exact absurd (ck hb) (ei pos)
    |false=>rfl
   rw[this];rfl
  have dm:RC P d (.glob 18) [.int (b0 (m++[c]):Nat),.int 16] H (.tup [.int (b0 m:Nat),.int (c:Nat)]) H:=fF (b:=.divmod) rfl (by
   have e1:((b0 (m++[c]):Nat):Int).fdiv 16=(b0 m:Nat):=by rw[A5,Int.fdiv_eq_ediv_of_nonneg _ (by decide)];exact congrArg Int.ofNat (show(16*b0 m+c)/16=b0 m by rw[Nat.mul_add_div (by decide),Nat.div_eq_of_lt hc,Nat.add_zero])
   have e2:((b0 (m++[c]):Nat):Int).fmod 16=(c:Nat):=by rw[A5,Int.fmod_eq_emod_of_nonneg _ (by decide)];exact congrArg Int.ofNat (show(16*b0 m+c)%16=c by rw[Nat.mul_add_mod,Nat.mod_eq_of_lt hc])
   show aK (!iU 16 0&&fT 16) (some (AV.tup [.int (((b0 (m++[c]):Nat):Int).fdiv 16),.int (((b0 (m++[c]):Nat):Int).fmod 16)],H))=_;rw[e1,e2];rfl)
  have ad:i6 .Add (.cj [c]) (.cj post) H=some (.cj (c::post)):=by show aK (Nat.ble (1+post.length) az) (some (AV.cj (c::post)))=_;rw[dU.mpr (by exact Me ‹_› (by decide))];rfl
  refine⟨u',?_⟩;rw[dA];exact pG (f:=.next) (ly (af rfl) tr) (ay (wt (bp (bg rfl) rfl (aG rfl (af rfl) (aG rfl aY aF)) dm) (λO=>rfl) rfl) (ay (bB (cU (lA (af rfl) (jG (af rfl) λO=>rfl) (jG (cU (af rfl) aY (nC (k:=((c+1:Nat):Int)) rfl)) λO=>rfl) (aaU c hc)) (af rfl) ad) (λO=>rfl) rfl rfl) aV)) rfl r
def QW(h:∀c∈row,c<16)(hl:row.length<=40)(h1:∀c r,row=c::r->1<=c):RC P (d+1) (.glob 3) [.int (-(b0 row:Nat))] H (.cj row) H:=by
 refine ue (aaT (d:=d) (H:=H) row.length (l:=row) (post:=[]) (u:=none) rfl h hl h1) λu' r=>?_;rw[cE] at r;have ab:RC P d (.glob 15) [.int (-(b0 row:Nat))] H (.int (b0 row:Nat)) H:=fF (b:=.abs) rfl (by
  have:(match fV (-(b0 row:Nat)) 0 with|true=>-(-(b0 row:Nat):Int)|false=>-(b0 row:Nat))=(b0 row:Int):=by
   cases b0 row with
   |zero=>rfl
   |succ n=>rfl
  show some (AV.int (match fV (-(b0 row:Nat)) 0 with|true=>-(-(b0 row:Nat):Int)|false=>-(b0 row:Nat)),H)=_;rw[this])
 exact eG (fd:=f3) (fl:=.ret (.cj row)) (ρ1:=[some (.int (-(b0 row:Nat))),none,none,none]) rfl rfl ⟨_,ay (bB aY (λO=>rfl) rfl rfl) (ay (bB aY (λO=>rfl) rfl rfl) (ay (bB (bp (bg rfl) rfl (aG rfl (bp (bg rfl) rfl (aG rfl (af rfl) aF) ab) aF) (fF (b:=.int) rfl rfl:RC P d (.glob 17) [.int (b0 row:Nat)] H (.int (b0 row:Nat)) H)) (λO=>rfl) rfl rfl) (ay (mQ r) (cV (gj (af rfl) λO=>rfl) nofun))))⟩ rfl
end
end
section
def J4:∀{i j:Int},e8 i j=true->i=j
 |.ofNat _,.ofNat _,h=>congrArg Int.ofNat (ck h).symm
 |.ofNat _,.negSucc _,h=>nomatch h
 |.negSucc _,.ofNat _,h=>nomatch h
 |.negSucc _,.negSucc _,h=>congrArg Int.negSucc (ck h)
def YM{G:Prop}(h:∀g:Prop,(G->g)->g):G:=h G id
def N0{ta:Type}{p1 p2 p3 p4:ta->Prop}{P:Prop}(h:∃a,p1 a/\p2 a/\p3 a/\p4 a)(k:∀a,p1 a->p2 a->p3 a->p4 a->P):P:=h.elim λa q=>k a q.1 q.2.1 q.2.2.1 q.2.2.2
def Fg{ta tb tc td te tf:Type}{p1:ta->tb->tc->td->te->tf->Prop}{p2:ta->tb->tc->td->te->tf->Prop}{P:Prop}(h:∃a,∃b,∃c,∃d,∃e,∃f,p1 a b c d e f/\p2 a b c d e f)(k:∀a,∀b,∀c,∀d,∀e,∀f,p1 a b c d e f->p2 a b c d e f->P):P:=h.elim λa q0=>q0.elim λb q1=>q1.elim λc q2=>q2.elim λd q3=>q3.elim λe q4=>q4.elim λf q5=>q5.elim λh1 h2=>k a b c d e f h1 h2
section
variable {d:Nat}{H:Hp}{U:aD}
def Rd(a b:Nat):pM (a:Nat) (b:Nat) 1=b-a:=by
 show(match Nat.blt a b with|true=>(((b:Nat)-(a:Nat)-1:Int)/1+1).toNat|false=>0)=_;cases h:Nat.blt a b with
 |false=>
  have:¬ a<b:=λq=>by rw[bf.mpr q] at h;cases h
  exact(Nat.sub_eq_zero_of_le (Nat.le_of_not_lt this)).symm
 |true=>rw[Int.ediv_one];show((b:Int)-a-1+1).toNat=_;rw[Int.sub_add_cancel];exact Int.toNat_sub b a
def Rf:∀n a:Nat,yO 1 n (a:Nat)=(List.range' a n).map λk:Nat=>AV.int k:=by
 intro n
 induction n with
 |zero=>intro a;exact rfl
 |succ n ih=>intro a;exact congrArg (AV.int a::·) (ih (a+1))
noncomputable def ng(a n:Nat):List AV:=(List.range' a n).map λk:Nat=>.int k
def v9(a b:Nat):dX (.fq (a:Nat) (b:Nat) 1) H=some (.fix (ng a (b-a))):=by show some (ba.fix (yO 1 (pM a b 1) a))=_;rw[Rd,Rf];rfl
def G3{a b:Nat}(ha:a<=az)(hb:b<=az):mW (a:Nat) (b:Nat) 1=true:=by show(Nat.ble a az&&Nat.ble b az&&true&&Nat.ble 1 az)=true;rw[dU.mpr ha,dU.mpr hb];rfl
def BG{b:Nat}(hb:b<=az):RC P d (.glob 11) [.int (b:Nat)] H (.fq (0:Nat) (b:Nat) 1) H:=fF (b:=.range) rfl (by show aK (mW (0:Nat) (b:Nat) 1) _=_;rw[G3 (kU _) hb];rfl)
def QH{a b:Nat}(ha:a<=az)(hb:b<=az):RC P d (.glob 11) [.int (a:Nat),.int (b:Nat)] H (.fq (a:Nat) (b:Nat) 1) H:=fF (b:=.range) rfl (by show aK (mW (a:Nat) (b:Nat) 1) _=_;rw[G3 ha hb];rfl)
def t8{w:Ky}(hw:w.length<=az):RC P d (.glob 10) [.str w] H (.int (w.length:Nat)) H:=fF (b:=.len) rfl (by show aK (Nat.ble w.length az) _=_;rw[dU.mpr hw];rfl)
def yN{l:List AV}(hw:l.length<=az):RC P d (.glob 10) [.lst l] H (.int (l.length:Nat)) H:=fF (b:=.len) rfl (by show aK (Nat.ble l.length az) _=_;rw[dU.mpr hw];rfl)
def yB{w:Ky}{k:Nat}(hk:k<=az):mP (.str w) .none (.int (k:Nat)) H=some (.str (w.take k)):=by show((some none).bind λa=>(aK (Nat.ble k az) (some (some (k:Int)))).map λb=>AV.str (dq a b w))=_;rw[dU.mpr hk];rfl
def Pf{w:Ky}{k:Nat}(hk:k<=az):mP (.str w) (.int (k:Nat)) .none H=some (.str (w.drop k)):=by show((aK (Nat.ble k az) (some (some (k:Int)))).bind λa=>(some none).map λb=>AV.str (dq a b w))=_;rw[dU.mpr hk];rfl
def yV:∀(l:List Ky) (n:Nat),fU (l.map .str) n=true:=by
 intro l
 induction l with
 |nil=>intro _;exact rfl
 |cons _ l ih=>intro n;exact ih n
def Vt(k:Ky):∀l:List Ky,sQ (.str k) (l.map .str)=some (bw k l):=by
 intro l
 induction l with
 |nil=>exact rfl
 |cons y l ih=>show((some (au y k)).bind λb=>(sQ (.str k) (l.map .str)).map λc=>b||c)=some (match au y k with|true=>true|false=>bw k l);rw[ih];cases au y k<;>rfl
variable {v:AV}{l:List Ky}
def Vq{k:Ky}(h:aP H v=some (l.map .str)):iz (.str k) v H=some (bw k l):=by unfold iz;rw[h];show aK (true&&fU (l.map .str) 3) (sQ (.str k) (l.map .str))=_;rw[yV,Vt];rfl
def Ha{k:Ky}(h:aP H v=some (l.map .str)):gF .NotIn (.str k) v H=some (!bw k l):=by show(iz (.str k) v H).map (!·)=_;rw[Vq h];rfl
def SG{n e:Nat}{l:List (List Nat×AV)}{k:Ky}(h:ae H n=some (.dict e l)):gF .NotIn (.str k) (.ref n) H=some (!bS k l):=by show(iz (.str k) (.ref n) H).map (!·)=_;rw[show iz (.str k) (.ref n) H=some (bS k l) from CE h];rfl
def Yu(l:List Ky)(n:Nat):(l.map .str).map (d3 H n)=l.map AV.str:=by rw[cm];refine jC λk O=>?_;cases n<;>rfl
def Ag{n:Nat}(h:aP H v=some (l.map .str)):d3 H (n+1) v=.lst (l.map .str):=by show(match aP H v with|some l=>AV.lst (l.map (d3 H n))|none=>v)=_;rw[h];show AV.lst ((l.map .str).map (d3 H n))=_;rw[Yu]
def ej{n:Nat}{l:List AV}(h:ae H n=some (.list l)):aP H (.ref n)=some l:=iT h
def Dz(h:aP H v=some (l.map .str)):jP v (.lst []) H=some l.isEmpty:=by unfold jP;rw[Ag h];show aK (fU (l.map .str) 2&&true) (kC (l.map .str) [])=_;rw[yV];cases l<;>rfl
def y6(h:aP H v=some (l.map .str)):gF .NotEq v (.lst []) H=some (!l.isEmpty):=by show(jP v (.lst []) H).map (!·)=_;rw[Dz h];rfl
def Xo(t:AV->Bool)(l:List Ky):(l.map AV.str).filter t=(l.filter λk=>t (.str k)).map .str:=by rw[List.filter_map];rfl
def sf{tg ifs elt it:C}{e:Option AV->aD}{t:Ky->Bool}{g:Ky->AV}(hg:ui elt){H0:Hp}{x:AV}{src:ba}(h1:RE P d true it U H0 x U H)(hs:dX x H=some src)(F:kM (Is H) tg H src (l.map .str) H)(hc:iD (slots tg elt) U=e none)
  (hb:∀w∈l,∀o K,iF tg (.str w) (e o) K=.ok () (e (some (.str w))) K) (ht:∀w∈l,∀Y,∃Y',RQ P d ifs (e (some (.str w))) (H++Y) (t w) (e (some (.str w))) (H++(Y++Y')))
  (he:∀w∈l,t w=true->∀Y,∃Y',RE P d true elt (e (some (.str w))) (H++Y) (g w) (e (some (.str w))) (H++(Y++Y'))) (hz:l.length<az):
  ∃Y,RM P d elt tg it ifs U H0 (.ref H.length) U (H++.list ((l.filter t).map g)::Y):=by
 refine ue (yI (ifs:=ifs) (e:=e) (t:=λv=>match v with|.str w=>t w|_=>false) (f:=λv=>match v with|.str w=>g w|v=>v) hg h1 hs F hc ?_ ?_ ?_ (by rw[aC];exact hz)) λY r=>⟨Y,?_⟩
 ·intro v hv;refine ak (bj.mp hv) λw hw q=>?_;subst q;exact hb w hw
 ·intro v hv K i _;cases i;refine ak (bj.mp hv) λw hw q=>?_;subst q;exact ht w hw
 ·intro v hv t K i _;cases i;revert t;refine ak (bj.mp hv) λw hw q=>?_;subst q;exact he w hw
 ·rw[Xo,cm] at r;exact r.1
end
noncomputable def gS(w:Ky):aN:=((w.length:Nat),w)
noncomputable def bK{α:Type}:α->List α->List α×α
 |x,[]=>([],x)
 |x,y::r=>(x::(bK y r).1,(bK y r).2)
theorem HY{α:Type}:∀(x:α) (r:List α),(bK x r).1++[(bK x r).2]=x::r
 |x,[]=>rfl
 |x,y::r=>congrArg (x::·) (HY y r)
def jN:List aN->Option (aN×List aN)
 |[]=>none
 |x::r=>some (fi (bK x r).1 (bK x r).2)
def GQ{d a:Nat}{H:Hp}{h h':List aN}{x:aN}(hl:ae H a=some (bF h))(e:jN h=some (x,h'))(hs:h.length<=az):RC P (d+3) (.glob 21) [.ref a] H (aX x) (ai H (bF h') a):=by
 cases h with
 |nil=>cases e
 |cons y r=>have q:=HY y r;have:=QK (d:=d) (l:=(bK y r).1) (x:=(bK y r).2) (by rw[q];exact hl) (by rw[<- q,bu] at hs;exact aH (hV ..) hs);rw[sj e] at this;exact this
theorem PK(x:aN):∀(n:Nat) (l:List aN) (p:Nat),(gO x n l p).length=l.length:=by
 intro n
 induction n with
 |zero=>intro l p;exact bW
 |succ n ih=>
  intro l t_;cases t_ with
  |zero=>exact bW
  |succ p=>
   show(match ae l (p/2) with|none=>ai l x (p+1)|some y=>match dY x y with|true=>gO x n (ai l y (p+1)) (p/2)|false=>ai l x (p+1)).length=_;cases ae l (p/2) with
   |none=>exact bW
   |some y=>
    cases hb:dY x y with
    |true=>show(match dY x y with|true=>gO x n (ai l y (p+1)) (p/2)|false=>ai l x (p+1)).length=_;rw[hb];exact(ih _ _).trans bW
    |false=>show(match dY x y with|true=>gO x n (ai l y (p+1)) (p/2)|false=>ai l x (p+1)).length=_;rw[hb];exact bW
def zG(x:aN)(l:List aN):(fN x l).length=l.length+1:=by unfold fN;rw[PK,bu];rfl
theorem BK{k:Ky}{v:AV}:∀{l:List (List Nat×AV)},bS k l=false->fx k v l=l++[(k,v)]:=by
 intro l
 induction l with
 |nil=>intro _;exact rfl
 |cons p l ih=>
  intro h;show(match au p.1 k with|true=>(p.1,v)::l|false=>p::fx k v l)=_;have h:(match au p.1 k with|true=>some p.2|false=>bT k l).isSome=false:=h
  revert h
  cases au p.1 k with
  |true=>intro h;cases h
  |false=>intro h;exact congrArg (p::·) (ih h)
end
section
abbrev bA:=Ky×Ky×Ky
noncomputable def eP(w:Ky):List bA->Option (Ky×Ky)
 |[]=>none
 |c::r=>match au c.1 w with|true=>some c.2|false=>eP w r
noncomputable def pO(p:Ky×Ky):AV:=.lst [.str p.1,.str p.2]
def e9(C:List bA):List (List Nat×AV):=C.map λc=>(c.1,pO c.2)
def zq(w:Ky):∀C:List bA,bT w (e9 C)=(eP w C).map pO:=by
 intro C
 induction C with
 |nil=>exact rfl
 |cons c C ih=>show(match au c.1 w with|true=>some (pO c.2)|false=>bT w (e9 C))=(match au c.1 w with|true=>some c.2|false=>eP w C).map pO;rw[ih];cases au c.1 w<;>rfl
def Dd(w:Ky)(C:List bA):bS w (e9 C)=(eP w C).isSome:=by unfold bS;rw[zq];cases eP w C<;>rfl
def jl(x:aN)(g h:List aN)(K:List Ky)(C:List bA):Bool:=e8 x.1 (x.2.length:Nat)&&(Nat.blt x.2.length 1000&&(Nat.blt g.length 1000&&(Nat.blt h.length 1000&&(Nat.blt K.length 1000&&Nat.blt C.length 1000))))
def iR(w:Ky)(h:List aN)(o:Ky):List aN:=match au (o.take w.length) w with|true=>fN (gS o) h|false=>h
noncomputable def eu:Nat->List aN->List Ky->List bA->Option (List Ky×List bA)
 |0,_,_,_=>none
 |n+1,h,K,C=>match jN h with
  |none=>some (K,C)
  |some q=>match jl q.1 h q.2 K C with
   |false=>none
   |true=>match(eP q.1.2 C).isSome||bw q.1.2 K with
    |true=>eu n q.2 K C
    |false=>match K.filter λo=>au (q.1.2.take o.length) o with
     |b::_=>eu n (fN (gS (q.1.2.drop b.length)) q.2) K (C++[(q.1.2,b,q.1.2.drop b.length)])
     |[]=>eu n (K.foldl (iR q.1.2) q.2) ((K.filter λo=>!au (o.take q.1.2.length) q.1.2)++[q.1.2]) C
def jk(h:List aN)(w:Ky):List aN:=fN (gS w) h
def rn(ws:List Ky):Option (List Ky×List bA):=eu 100 (ws.foldl jk []) [] []
def d8(H0 H:Hp)(ah ac:Nat)(h:List aN)(C:List bA):Prop:=(ae H ah=some (bF h))/\(ae H ac=some (.dict C.length (e9 C)))/\(aJ H0.length H0 H)/\(H0.length<=ah)/\(H0.length<=ac)
section
variable {b1 b2 b3 b4 b5 b6}(x:d8 b1 b2 b3 b4 b5 b6)
def d8.mk:=jJ (d8 b1 b2 b3 b4 b5 b6) rfl
def d8.hp:=x.1
def d8.ct:=x.2.1
def d8.low:=x.2.2.1
def d8.la:=x.2.2.2.1
def d8.lc:=x.2.2.2.2
end
section
variable {d ah ac:Nat}{H0 H:Hp}{h:List aN}{C:List bA}{K:List Ky}{W:AV}{w s o b r:Option AV}
def d8.app(E:d8 H0 H ah ac h C)(Y:Hp):d8 H0 (H++Y) ah ac h C:=(d8.mk (bU E.hp) (bU E.ct) (E.low.trans (aJ.app Y E.low.len)) E.la E.lc)
def d8.heap(E:d8 H0 H ah ac h C)(h':List aN):d8 H0 (ai H (bF h') ah) ah ac h' C:=(d8.mk (cF (bE E.hp)) ((aZ (kr E.hp E.ct)).trans E.ct) (E.low.trans (aJ.upd E.la)) E.la E.lc)
def d8.cut(E:d8 H0 H ah ac h C)(c:bA):d8 H0 (ai H (.dict (C++[c]).length (e9 (C++[c]))) ac) ah ac h (C++[c]):=(d8.mk ((aZ (kr E.hp E.ct).symm).trans E.hp) (cF (bE E.ct)) (E.low.trans (aJ.upd E.lc)) E.la E.lc)
noncomputable abbrev oL(W:AV)(ah ac:Nat)(w:Option AV)(K:List Ky)(s o b r:Option AV)(c9 D0:Option AV):aD:=[some W,some (.ref ah),w,some (.lst (K.map .str)),some (.ref ac),s,o,b,r,c9,D0]
abbrev JZ:S:=aW f6.body 1
abbrev s8:S:=aW f6.body 4
abbrev rp:S:=aW (bk s8) 1
abbrev Dw:S:=aW (bk rp) 1
def GY{U:aD}{x y p1 p2 p3 p4 p5 p6 p7:Pos}{nh no:Str}{kh ko kp:Nat}{o:Ky}(E:d8 H0 H ah ac h C)(hh:h.length<az)(ho:o.length<=az)(e1:ae U kh=some (some (.ref ah)))(e2:ae U ko=some (some (.str o))):
  RS P (d+3) true (.expr (.call (.glob "heappush" 20 p1) (.cons (.var nh kh p2) (.cons (.tup (.cons (.call (.glob "len" 10 p3) (.cons (.var no ko p4) .nil) p5) (.cons (.var no ko p6) .nil)) kp p7) .nil)) x) y) U H .next U (ai H (bF (fN (gS o) h)) ah):=
 fL (bp (bg rfl) rfl (aG rfl (af e1) (aG rfl (tZ (aG rfl (bp (bg rfl) rfl (aG rfl (af e2) aF) (t8 ho)) (aG rfl (af e2) aF))) aF)) (BH (x:=gS o) E.hp hh))
def XN{aw:Nat}{ws:List Ky}{ρ1:aD}:∀(n i:Nat) {h:List aN} {H:Hp} {u:Option AV},i+n=ws.length->ae H aw=some (aS ws)->ae H ah=some (bF h)->aw≠ah->(∀w∈ws,w.length<=az)->h.length+n<az ->
  ∃u',RF P (d+3) (iM JZ) (.lst aw i) (bk JZ) (some W::some (.ref ah)::u::ρ1) H .next (some W::some (.ref ah)::u'::ρ1) (ai H (bF ((ws.drop i).foldl jk h)) ah):=by
 intro n
 induction n with
 |zero=>
  intro i h H u hn h1 h2 ne hw hl;exact⟨u,by
  rw[kR (by exact iJ ‹_›)];show RF P _ _ _ _ _ _ _ _ (ai H (bF h) ah);rw[pn h2];exact jj (by rw[qN h1,oy (by rw[aC];exact iJ ‹_›)];rfl)⟩
 |succ n ih=>
  intro i h H u hn h1 h2 ne hw hl;refine ue (gA (l:=ws) (n:=i) (by exact me ‹_›)) λw hx=>?_;have lI:(ba.lst aw i).next H=some (some (.str w,.lst aw (i+1))):=by rw[qN h1,ir,hx];rfl
  rw[lO hx];refine ue (ih (i+1) (h:=jk h w) (H:=ai H (bF (jk h w)) ah) (u:=some (.str w)) (by exact ja ‹_›) ((aZ ne.symm).trans h1) (cF (bE h2)) ne hw (by show(fN (gS w) h).length+n<_;rw[zG];exact j5 ‹_›)) λu' r=>?_;rw[mJ] at r;refine⟨u',gz (f:=.next) lI rfl (ay (fL (bp (bg rfl) rfl (aG rfl (af rfl) (aG rfl (tZ (aG rfl (bp (bg rfl) rfl (aG rfl (af rfl) aF) (t8 (hw w (pS hx)))) (aG rfl (af rfl) aF))) aF)) (BH (x:=gS w) h2 (by exact j4 ‹_›)))) aV) rfl r⟩
def XQ{x:Ky}{z:Int}(hx:x.length<=az)(hz:z=(x.length:Nat)):∀(l:List Ky) {h:List aN} {H:Hp} {o:Option AV},d8 H0 H ah ac h C->(∀o∈l,o.length<=az)->h.length+l.length<az ->
  ∃H' o',RF P (d+3) (iM (aW (jt Dw) 0)) (.fix (l.map .str)) (bk (aW (jt Dw) 0)) (oL W ah ac (some (.str x)) K (some (.int z)) o b r none none) H .next (oL W ah ac (some (.str x)) K (some (.int z)) o' b r none none) H'/\d8 H0 H' ah ac (l.foldl (iR x) h) C:=by
 intro l
 induction l with
 |nil=>intro h H o E hl hn;exact⟨H,o,jj rfl,E⟩
 |cons y l ih=>
  intro h H o E hl hn;subst hz;rw[jB] at hn;have e:(y::l).foldl (iR x) h=l.foldl (iR x) (iR x h y):=rfl;rw[e];unfold iR;cases hb:au (y.take x.length) x with
  |true=>refine dJ (ih (o:=some (.str y)) (E.heap (fN (gS y) h)) (λo ho=>hl o (bI _ ho)) (by rw[zG];exact j5 ‹_›)) λH' o' r1 E'=>?_;exact⟨H',o',gz (f:=.next) rfl rfl (ay (cn (t:=true) (bC (lA (af rfl) oq (jG (af rfl) λO=>rfl) (yB hx)) (af rfl) (congrArg some hb)) (ay (GY E (by exact j4 ‹_›) (hl y bz) rfl rfl) aV)) aV) rfl r1,E'⟩
  |false=>refine dJ (ih (o:=some (.str y)) E (λo ho=>hl o (bI _ ho)) (by exact nP ‹_›)) λH' o' r1 E'=>?_;exact⟨H',o',gz (f:=.next) rfl rfl (ay (cn (t:=false) (bC (lA (af rfl) oq (jG (af rfl) λO=>rfl) (yB hx)) (af rfl) (congrArg some hb)) aV) aV) rfl r1,E'⟩
end
end
section
noncomputable def Ud(c:C):C:=match c with
 |.bin _ a _ _=>a
 |_=>.nil
abbrev Ac:C:=Ud (fc (aW (jt Dw) 1))
section
variable {d ah ac:Nat}{H0 H:Hp}{h:List aN}{C:List bA}{K:List Ky}{W:AV}{w s o b r:Option AV}
def gp(w:Ky)(h:List aN)(K:List Ky)(C:List bA):List aN×List Ky×List bA:=match(eP w C).isSome||bw w K with
 |true=>(h,K,C)
 |false=>match K.filter λo=>au (w.take o.length) o with
  |b::_=>(fN (gS (w.drop b.length)) h,K,C++[(w,b,w.drop b.length)])
  |[]=>(K.foldl (iR w) h,(K.filter λo=>!au (o.take w.length) w)++[w],C)
variable {R:List Ky×List bA}
def XI{n:Nat}(e:eu (n+1) h K C=some R):(h=[]/\R=(K,C))\/∃x h',jN h=some (x,h')/\jl x h h' K C=true/\eu n (gp x.2 h' K C).1 (gp x.2 h' K C).2.1 (gp x.2 h' K C).2.2=some R:=by
 cases h with
 |nil=>exact .inl ⟨rfl,(sj e).symm⟩
 |cons y t=>
  have e:(match jl (fi (bK y t).1 (bK y t).2).1 (y::t) (fi (bK y t).1 (bK y t).2).2 K C with
   |false=>none
   |true=>match(eP (fi (bK y t).1 (bK y t).2).1.2 C).isSome||bw (fi (bK y t).1 (bK y t).2).1.2 K with
    |true=>eu n (fi (bK y t).1 (bK y t).2).2 K C
    |false=>match K.filter λo=>au ((fi (bK y t).1 (bK y t).2).1.2.take o.length) o with
     |b::_=>eu n (fN (gS ((fi (bK y t).1 (bK y t).2).1.2.drop b.length)) (fi (bK y t).1 (bK y t).2).2) K (C++[((fi (bK y t).1 (bK y t).2).1.2,b,(fi (bK y t).1 (bK y t).2).1.2.drop b.length)])
     |[]=>eu n (K.foldl (iR (fi (bK y t).1 (bK y t).2).1.2) (fi (bK y t).1 (bK y t).2).2) ((K.filter λo=>!au (o.take (fi (bK y t).1 (bK y t).2).1.2.length) (fi (bK y t).1 (bK y t).2).1.2)++[(fi (bK y t).1 (bK y t).2).1.2]) C)=some R:=e
  refine .inr ⟨(fi (bK y t).1 (bK y t).2).1,(fi (bK y t).1 (bK y t).2).2,rfl,?_⟩;generalize fi (bK y t).1 (bK y t).2=q at *;cases ho:jl q.1 (y::t) q.2 K C with
  |false=>rw[ho] at e;cases e
  |true=>
   rw[ho] at e;refine⟨rfl,?_⟩;unfold gp
   revert e
   cases (eP q.1.2 C).isSome||bw q.1.2 K with
   |true=>exact id
   |false=>cases K.filter λo=>au (q.1.2.take o.length) o<;>exact id
abbrev eR(W:AV)(ah ac:Nat)(w:Ky)(z:Int)(K:List Ky)(o b r:Option AV):aD:=oL W ah ac (some (.str w)) K (some (.int z)) o b r none none
def XO{x:Ky}{z:Int}(hk:∀o∈K,o.length<1000)(hl:K.length<1000):∃Y,RM P (d+3) (eV (fc (aW (bk rp) 0))) (cO (fc (aW (bk rp) 0))) (eO (fc (aW (bk rp) 0))) (gC (fc (aW (bk rp) 0))) (eR W ah ac x z K o b r) H (.ref H.length) (eR W ah ac x z K o b r) (H++.list ((K.filter λo=>au (x.take o.length) o).map .str)::Y):=by
 have zz:(1000:Nat)<=az:=by decide
 refine sf (e:=λc=>oL W ah ac (some (.str x)) K (some (.int z)) o b r c none) (λO O O=>rfl) (af rfl) rfl (ri _) rfl (λO O O O=>rfl) (λw hw Y=>⟨[],?_⟩) (λw hw O Y=>⟨[],?_⟩) (by exact rI ‹_› ‹_›)
 ·rw[cE];have lw:w.length<=az:=aH (bG (hk w hw)) zz;exact qH (bC (lA (af rfl) oq (jG (bp (bg rfl) rfl (aG rfl (af rfl) aF) (t8 lw)) λO=>rfl) (yB lw)) (af rfl) rfl)
 ·rw[cE];exact af rfl
def XM{x:Ky}{z:Int}(hx:x.length<1000)(hz:z=(x.length:Nat))(hl:K.length<1000):∃Y,RM P (d+3) (eV Ac) (cO Ac) (eO Ac) (gC Ac) (eR W ah ac x z K o b r) H (.ref H.length) (eR W ah ac x z K o b r) (H++.list ((K.filter λo=>!au (o.take x.length) x).map .str)::Y):=by
 have zz:(1000:Nat)<=az:=by decide
 refine sf (e:=λc=>oL W ah ac (some (.str x)) K (some (.int z)) o b r none c) (λO O O=>rfl) (af rfl) rfl (ri _) rfl (λO O O O=>rfl) (λw hw Y=>⟨[],?_⟩) (λw hw O Y=>⟨[],?_⟩) (by exact rI ‹_› ‹_›)
 ·rw[cE];subst hz;exact qH (bC (lA (af rfl) oq (jG (af rfl) λO=>rfl) (yB (aH (bG hx) zz))) (af rfl) rfl)
 ·rw[cE];exact af rfl
def aa8{k:Nat}{l m:List AV}(h:ae H k=some (.list l))(hz:l.length+m.length<=az):i6 .Add (.ref k) (.lst m) H=some (.lst (l++m)):=by show((aP H (.ref k)).bind λa=>(some m).bind λb=>aK (Nat.ble (a.length+b.length) az) (some (AV.lst (a++b))))=_;rw[ej h];show aK (Nat.ble (l.length+m.length) az) _=_;rw[dU.mpr hz];rfl
def XJ{x:Ky}{z:Int}(E:d8 H0 H ah ac h C)(hx:x.length<1000)(hz:z=(x.length:Nat))(hc:(eP x C).isSome=false)(hk:∀o∈K,o.length<1000)(hl:K.length<1000)(lh:h.length<1000)(lC:C.length<1000):
  ∃o' b' r' H',RB P (d+3) true (bk rp) (eR W ah ac x z K o b r) H .next (eR W ah ac x z (match K.filter λo=>au (x.take o.length) o with|_::_=>K|[]=>(K.filter λo=>!au (o.take x.length) x)++[x]) o' b' r') H' /\
   d8 H0 H' ah ac (match K.filter λo=>au (x.take o.length) o with|b::_=>fN (gS (x.drop b.length)) h|[]=>K.foldl (iR x) h) (match K.filter λo=>au (x.take o.length) o with|b::_=>C++[(x,b,x.drop b.length)]|[]=>C):=by
 have zz:(1000:Nat)<=az:=by decide
 have z3:(3000:Nat)<az:=by decide
 have hm:∀o∈K.filter (λo=>au (x.take o.length) o),o.length<1000:=λo ho=>hk o (List.mem_filter.mp ho).1;refine ue (XO (d:=d) (ah:=ah) (ac:=ac) (H:=H) (W:=W) (o:=o) (b:=b) (r:=r) (x:=x) (z:=z) hk hl) λY rb=>?_;have E1:=E.app (.list ((K.filter λo=>au (x.take o.length) o).map .str)::Y);have n1:ae (H++.list ((K.filter λo=>au (x.take o.length) o).map .str)::Y) H.length=some (.list ((K.filter λo=>au (x.take o.length) o).map .str)):=cL;generalize H++.list ((K.filter λo=>au (x.take o.length) o).map .str)::Y=H1 at *;generalize K.filter (λo=>au (x.take o.length) o)=B at *;have s0:RS P (d+3) true (aW (bk rp) 0) (eR W ah ac x z K o b r) H .next (eR W ah ac x z K o (some (.ref H.length)) r) H1:=r9 rb rfl rfl;cases B with
 |cons c B=>
  have lc:=hm c bz;have lr:(x.drop c.length).length<1000:=by rw[qo];exact cN (Nat.sub_le ..) hx
  have E2:=E1.cut (x,c,x.drop c.length);have E3:=E2.heap (fN (gS (x.drop c.length)) h);have sb:jh (.ref H.length) (.int 0) H1=some (.str c):=qC n1 rfl;have sd:=wi (k:=x) (v:=pO (c,x.drop c.length)) E1.ct (by unfold e9;rw[aC];exact cA lC zz);have hn:bS x (e9 C)=false:=by rw[Dd];exact hc
  refine⟨o,some (.ref H.length),some (.str (x.drop c.length)),_,ay s0 (ay (cn (t:=true) (bC (af rfl) (de (bb:=false) aF rfl) (y6 (ej n1))) ?_) aV),E3⟩;refine ay (bB (lA (af rfl) (jG (bp (bg rfl) rfl (aG rfl (dD (af rfl) aY sb) aF) (t8 (aH (bG lc) zz))) λO=>rfl) oq (Pf (aH (bG lc) zz))) (λO=>rfl) rfl rfl) ?_;rw[hn,BK hn] at sd;have ec:e9 (C++[(x,c,x.drop c.length)])=e9 C++[(x,pO (c,x.drop c.length))]:=bR;have el:(C++[(x,c,x.drop c.length)]).length=C.length+1:=bu;rw[ec,el] at E2⊢;refine ay (om (de (bb:=false) (aG rfl (dD (af rfl) aY sb) (aG rfl (af rfl) aF)) rfl) (λO=>rfl) (af rfl) (af rfl) sd) ?_;exact ay (GY E2 (cA lh zz) (aH (bG lr) zz) rfl rfl) aV
 |nil=>
  refine dJ (XQ (W:=W) (K:=K) (b:=some (.ref H.length)) (r:=r) (d:=d) (o:=o) (aH (bG hx) zz) hz K E1 (λo ho=>aH (bG (hk o ho)) zz) (cN (Nat.add_le_add (bG lh) (bG hl)) (by decide))) λH2 o' r2 E2=>?_;have lf:(K.filter λo=>!au (o.take x.length) x).length<=K.length:=List.length_filter_le _ _;refine ue (XM (d:=d) (ah:=ah) (ac:=ac) (H:=H2) (W:=W) (o:=o') (b:=some (.ref H.length)) (r:=r) (x:=x) (z:=z) hx hz hl) λY2 rk=>?_;have ad:=aa8 (k:=H2.length) (l:=(K.filter λo=>!au (o.take x.length) x).map .str) (m:=[.str x]) (H:=H2++.list ((K.filter λo=>!au (o.take x.length) x).map .str)::Y2) cL (by rw[aC];exact aH (nW (aH lf (bG hl)) 1) (by decide));have em:(K.filter λo=>!au (o.take x.length) x).map AV.str++[.str x]=((K.filter λo=>!au (o.take x.length) x)++[x]).map .str:=by rw[bR];rfl
  rw[em] at ad;refine⟨o',some (.ref H.length),r,_,ay s0 (ay (cn (t:=false) (bC (af rfl) (de (bb:=false) aF rfl) (y6 (ej n1))) ?_) aV),E2.app (.list ((K.filter λo=>!au (o.take x.length) x).map .str)::Y2)⟩;exact ay (gP (af rfl) rfl r2) (ay (bB (cU (mT rk) (de (bb:=false) (aG rfl (af rfl) aF) rfl) ad) (λO=>rfl) rfl rfl) aV)
def x8(d ah ac:Nat)(W:AV)(H0:Hp)(R:List Ky×List bA)(U:aD)(H:Hp):Prop:=∃H' w' s' o' b' r',RW P (d+3) true (iL s8) (bk s8) (jt s8) U H .next (oL W ah ac w' R.1 s' o' b' r' none none) H'/\d8 H0 H' ah ac [] R.2/\∀o∈R.1,o.length<1000
def x8.turn{U ρ1 ρ2:aD}{H1 H2:Hp}(h1:RT P (d+3) true (iL s8) U H true ρ1 H1)(h2:RB P (d+3) true (bk s8) ρ1 H1 .next ρ2 H2)(g:x8 d ah ac W H0 R ρ2 H2):x8 d ah ac W H0 R U H:=Fg g λH' w' s' o' b' r' r1 q=>⟨H',w',s',o',b',r',pG (f:=.next) h1 h2 rfl r1,q⟩
def XK:∀(n:Nat) {h:List aN} {K:List Ky} {C:List bA} {H:Hp} {w s o b r:Option AV},eu n h K C=some R->(∀o∈K,o.length<1000)->d8 H0 H ah ac h C ->
  x8 d ah ac W H0 R (oL W ah ac w K s o b r none none) H:=by
 intro n
 induction n with
 |zero=>intro h K C H w s o b r e hk E;cases e
 |succ n ih=>
  intro h K C H w s o b r e hk E;rcases XI e with⟨rfl,rfl⟩|⟨x,h',e1,ok,e2⟩
  ·exact⟨H,w,s,o,b,r,pH (ly (af rfl) (vQ E.hp)) aV,E,hk⟩
  ·refine NL ok λk1 k2 k3 k4 k5 k6=>?_;have k2:=bf.mp k2;have E1:=E.heap h';have tr:jg (.ref ah) H=some true:=by
    rw[vQ E.hp];cases h with
    |nil=>cases e1
    |cons=>rfl
   have s0:RS P (d+3) true (aW (bk s8) 0) (oL W ah ac w K s o b r none none) H .next (eR W ah ac x.2 x.1 K o b r) (ai H (bF h') ah):=wt (bp (bg rfl) rfl (aG rfl (af rfl) aF) (GQ E.hp e1 (aH (bG (bf.mp k3)) (by decide:(1000:Nat)<=az)))) (λO=>rfl) rfl;have ni:=SG (k:=x.2) E1.ct;rw[Dd] at ni;have nk:=Ha (H:=ai H (bF h') ah) (v:=.lst (K.map .str)) (k:=x.2) (l:=K) rfl;generalize ai H (bF h') ah=H1 at *;unfold gp at e2;cases hc:(eP x.2 C).isSome with
   |true=>rw[hc] at e2 ni;exact .turn (ly (af rfl) tr) (ay s0 (ay (cn (t:=false) (Gw (bC (af rfl) (af rfl) ni)) aV) aV)) (ih (w:=some (.str x.2)) (s:=some (.int x.1)) (o:=o) (b:=b) (r:=r) e2 hk E1)
   |false=>
    rw[hc] at e2 ni;cases hm:bw x.2 K with
    |true=>rw[hm] at e2 nk;exact .turn (ly (af rfl) tr) (ay s0 (ay (cn (t:=false) (Bt (bC (af rfl) (af rfl) ni) (bC (af rfl) (af rfl) nk)) aV) aV)) (ih (w:=some (.str x.2)) (s:=some (.int x.1)) (o:=o) (b:=b) (r:=r) e2 hk E1)
    |false=>
     rw[hm] at e2 nk;refine kY (XJ (d:=d) (W:=W) (o:=o) (b:=b) (r:=r) E1 k2 (J4 k1) hc hk (bf.mp k5) (bf.mp k4) (bf.mp k6)) λo1 b1 r1 H2 q1 E2=>?_;have go:∀{K':List Ky} {C':List bA} {h2:List aN},eu n h2 K' C'=some R->(∀o∈K',o.length<1000)->d8 H0 H2 ah ac h2 C'->RB P (d+3) true (bk rp) (eR W ah ac x.2 x.1 K o b r) H1 .next (eR W ah ac x.2 x.1 K' o1 b1 r1) H2 ->
       x8 d ah ac W H0 R (oL W ah ac w K s o b r none none) H:=λe3 jq E3 q=>
      .turn (ly (af rfl) tr) (ay s0 (ay (cn (t:=true) (Bt (bC (af rfl) (af rfl) ni) (bC (af rfl) (af rfl) nk)) q) aV)) (ih (w:=some (.str x.2)) (s:=some (.int x.1)) (o:=o1) (b:=b1) (r:=r1) e3 jq E3)
     cases hB:K.filter λo=>au (x.2.take o.length) o with
     |cons c B=>rw[hB] at e2 E2 q1;exact go e2 hk E2 q1
     |nil=>
      rw[hB] at e2 E2 q1;refine go e2 (λo ho=>?_) E2 q1;rcases hM.mp ho with ho|ho
      ·exact hk o (List.mem_filter.mp ho).1
      ·rw[fR.mp ho];exact k2
end
end
section
section
variable {d:Nat}{H:Hp}
def Q6{aw:Nat}{ws:List Ky}{R:List Ky×List bA}(hw:ae H aw=some (aS ws))(he:rn ws=some R)(hl:ws.length<1000)(hk:∀w∈ws,w.length<=az):
  ∃H' ac,RC P (d+4) (.glob 6) [.ref aw] H (.tup [.lst (R.1.map .str),.ref ac]) H'/\aJ H.length H H'/\ae H' ac=some (.dict R.2.length (e9 R.2))/\∀o∈R.1,o.length<1000:=by
 refine ue (XN (d:=d) (ah:=H.length) (W:=.ref aw) (ρ1:=[none,none,none,none,none,none,none,none]) ws.length 0 (h:=[]) (H:=H++[bF []]) (u:=none) (dW _) (bU hw) cL (dz (bE hw)) hk (by show 0+ws.length<az;exact cN (bL (dW _)) (jb hl (by decide)))) λu1 r1=>?_;rw[j7,rW] at r1;refine Fg (XK (d:=d) (W:=.ref aw) (R:=R) 100 (K:=[]) (w:=u1) (s:=none) (o:=none) (b:=none) (r:=none) he nofun ((d8.mk (bU cL) cL (by rw[dA];exact aJ.app _ (aQ _)) (aQ _) (by rw[bu];exact hV ..)):d8 H (H++[bF (ws.foldl jk [])]++[.dict 0 []]) H.length (H++[bF (ws.foldl jk [])]).length (ws.foldl jk []) [])) λH' w' s' o' b' r' r2 q=>?_;refine⟨H',(H++[bF (ws.foldl jk [])]).length,eG (fd:=f6) (fl:=.ret (.tup [.lst (R.1.map .str),.ref (H++[bF (ws.foldl jk [])]).length])) (ρ1:=[some (.ref aw),none,none,none,none,none,none,none,none,none,none]) rfl rfl ⟨oL (.ref aw) H.length (H++[bF (ws.foldl jk [])]).length w' R.1 s' o' b' r' none none,?_⟩ rfl,q.1.low,q.1.ct,q.2⟩;exact ay (bB (de (bb:=true) aF rfl) (λO=>rfl) rfl rfl) (ay (gP (af rfl) (pE (bU hw)) r1) (ay (bB (de (bb:=false) aF rfl) (λO=>rfl) rfl rfl) (ay (bB yM (λO=>rfl) rfl rfl) (ay (mQ r2) (cV (gj (tZ (aG rfl (af rfl) (aG rfl (af rfl) aF))) λO=>rfl) nofun)))))
end
end
section
section
variable {d:Nat}{q:Bool}{U ρ1:aD}{H H1:Hp}{x:AV}
def Rg{a r:C}{p:Pos}{vs:List AV}(h1:RE P d q a U H x ρ1 H1)(h:qG H1 x=some vs):RA P d q (.cons (.star a p) r) U H vs ρ1 H1:=.bind h1 (.rd h)
def Gv{o args:C}{n:Str}{m:Nat}{ap p:Pos}{t:Bool}(h1:RE P d q (.bV o n m args ap p) U H x ρ1 H1)(h:jg x H1=some t):RT P d q (.bV o n m args ap p) U H t ρ1 H1:=.step (.bind h1 (.rd h))
end
def Rm(g:List Ad)(n:Nat):Prop:=(g.length<=n)/\(∀t∈g,t.2.2.length<=n)
section
variable {b1 b2}(x:Rm b1 b2)
def Rm.mk:=iu (Rm b1 b2) rfl
def Rm.len:=x.1
def Rm.cQ:=x.2
end
variable {g:List Ad}{n:Nat}
def Rm.nv{m:Nat}(r:Rm g n)(h:n+m<az):fJ g m:=(fJ.mk (by have:=r.len;exact Eo ‹_› ‹_›) (λt ht=>by have:=r.cQ t ht;exact Eo ‹_› ‹_›))
def Rm.key(r:Rm g n)(k:Ky):Rm (gI g k) (n+1):=by
 unfold gI;cases gn k g with
 |true=>exact(Rm.mk (Nat.le_succ_of_le r.len) (λt ht=>Nat.le_succ_of_le (r.cQ t ht)))
 |false=>
  refine(Rm.mk (by rw[bu];exact Nat.succ_le_succ r.len) (λt ht=>?_));rcases hM.mp ht with ht|ht
  ·exact Nat.le_succ_of_le (r.cQ t ht)
  ·cases fR.mp ht;exact kU _
def Rm.np(r:Rm g n)(k:Ky)(f:Int->Int):Rm (gu g k f) n:=by unfold gu;refine(Rm.mk (by rw[aC];exact r.len) (λt ht=>?_));refine ak (bj.mp ht) λs hs aa=>?_;subst aa;have:=r.cQ s hs;cases au s.1 k<;>exact this
def Rm.su(r:Rm g n)(k x:Ky):Rm (nD g k x) (n+1):=by
 unfold nD;refine(Rm.mk (by rw[aC];exact Nat.le_succ_of_le r.len) (λt ht=>?_));refine ak (bj.mp ht) λs hs aa=>?_;subst aa;have:=r.cQ s hs;cases au s.1 k with
 |true=>show(s.2.2++[x]).length<=_;rw[bu];exact Nat.succ_le_succ this
 |false=>exact Nat.le_succ_of_le this
def sV(g:List Ad)(k:Ky):List Ad:=vw g k []
def zX(g:List Ad)(c:bA):List Ad:=vw g c.1 [c.2.1,c.2.2]
def Rm.add(r:Rm g n)(k:Ky):Rm (sV g k) (n+1):=by show Rm (gu (gI g k) k λz=>z+(([]:List Ky).length:Nat)) _;exact(r.key k).np _ _
def Rm.cut(r:Rm g n)(c:bA):Rm (zX g c) (n+5):=(((((r.key c.1).np _ _).key c.2.1).su _ _).key c.2.2).su _ _
def oH(K:List Ky)(C:List bA):List Ad:=C.foldl zX (K.foldl sV [])
def vt(g:List Ad):List Ky:=(g.filter λt=>e8 t.2.1 0).map (·.1)
def fh(g:List Ad)(l:List Ky):List Ad:=l.foldl (λg k=>gu g k λO=>-1) g
def lS(g:List Ad)(k:Ky):Int:=match g.find? λt=>au t.1 k with
 |some t=>t.2.1
 |none=>0
def vq(g:List Ad)(k:Ky):List Ky:=match g.find? λt=>au t.1 k with
 |some t=>t.2.2
 |none=>[]
def rD(q:List Ad×List Ky)(y:Ky):List Ad×List Ky:=(gu q.1 y λO=>lS q.1 y-1,match e8 (lS q.1 y-1) 0 with|true=>q.2++[y]|false=>q.2)
def gZ(g:List Ad)(x:Ky):List Ad×List Ky:=(vq g x).foldl rD (gu g x λO=>-2,[])
section
variable {ns:List Nd}
def abe:fw ns=vt (bZ ns):=by unfold fw vt bZ;rw[List.filter_map,cm];rfl
def Lx:∀(l:List Ky) {ns:List Nd},bZ (pP ns l)=fh (bZ ns) l:=by
 intro l
 induction l with
 |nil=>intro ns;exact rfl
 |cons k l ih=>intro ns;show bZ (pP (fp ns k λm=>{m with np:=-1}) l)=fh (gu (bZ ns) k λO=>-1) l;rw[ih,Az]
def abf(k:Ky):uf ns k=lS (bZ ns) k:=by
 unfold uf lS bZ;rw[List.find?_map];show _=match Option.map (λn:Nd=>((n.key,n.np,n.su):Ad)) (ns.find? λn=>au n.key k) with|some t=>t.2.1|none=>0
 cases ns.find? λn=>au n.key k<;>rfl
def abd(k:Ky):qD ns k=vq (bZ ns) k:=by
 unfold qD vq bZ;rw[List.find?_map];show _=match Option.map (λn:Nd=>((n.key,n.np,n.su):Ad)) (ns.find? λn=>au n.key k) with|some t=>t.2.2|none=>[]
 cases ns.find? λn=>au n.key k<;>rfl
def abi:∀(l:List Ky) (q:List Nd×List Ky),(bZ (l.foldl lP q).1,(l.foldl lP q).2)=l.foldl rD (bZ q.1,q.2):=by
 intro l
 induction l with
 |nil=>intro q;exact rfl
 |cons y l ih=>
  intro q;show(bZ (l.foldl lP (lP q y)).1,(l.foldl lP (lP q y)).2)=l.foldl rD (rD (bZ q.1,q.2) y);rw[ih];unfold lP rD;rw[Az,abf]
  try rfl
def abh(x:Ky):(bZ (i4 (ns,[]) x).1,(i4 (ns,[]) x).2)=gZ (bZ ns) x:=by unfold i4 gZ;rw[abi,Az,abd]
def wF(g:List Ad)(x:Ky):Bool:=gn x g&&g.all λt=>match au t.1 x with
 |true=>e8 t.2.1 (-1)&&(t.2.2.all (λy=>gn y g)&&Nat.blt t.2.2.length 1000)
 |false=>true
def Hy{y:Ky}(h:gn y (bZ ns)=true):y∈ns.map (·.key):=ak (zS.mp h) λn hn e=>bj.mpr ⟨n,hn,e⟩
def Se{x:Ky}(hk:(ns.map (·.key)).Nodup)(h:wF (bZ ns) x=true):tE ns x/\(qD ns x).length<1000:=by
 refine us h λh1 h2=>?_;have h3:∀n∈ns,n.key=x->n.np=-1/\(∀y∈n.su,y∈ns.map (·.key))/\n.su.length<1000:=λn hn e=>by have:=(fB.mp h2) (n.key,n.np,n.su) (bj.mpr ⟨n,hn,rfl⟩);have this:(match au n.key x with|true=>e8 n.np (-1)&&(n.su.all (λy=>gn y (bZ ns))&&Nat.blt n.su.length 1000)|false=>true)=true:=this;rw[e,iZ] at this;refine E6 this λa b c=>?_;exact⟨J4 a,λy hy=>Hy (fB.mp b y hy),bf.mp c⟩
 refine ak (zS.mp h1) λn hn e=>?_;refine⟨(tE.mk ⟨n,hn,e,(h3 n hn e).1⟩ (λn hn e=>(h3 n hn e).2.1)),?_⟩;have:=(h3 n hn e).2.2;rw[<- e,FH hk hn];exact this
end
section
variable {dd:Nat}{H:Hp}
noncomputable abbrev qE(K:AV)(ac s:Nat)(u a4 a5 a6 z:Option AV):aD:=[some K,some (.ref ac),some (.ref s),u,a4,a5,a6,z]
abbrev F5:S:=aW f7.body 1
abbrev F4:S:=aW f7.body 2
abbrev oa:S:=aW f7.body 7
def O0{K:AV}{ac s d lo:Nat}:∀(l:List Ky) {g:List Ad} {n:Nat} {H:Hp} {u:Option AV},fj H s d lo g .none 0 0->Rm g n->n+l.length<500000 ->
  ∃H' u',RF P (dd+4) (iM F5) (.fix (l.map .str)) (bk F5) (qE K ac s u none none none none) H .next (qE K ac s u' none none none none) H'/\aJ lo H H'/\fj H' s d lo (l.foldl sV g) .none 0 0/\Rm (l.foldl sV g) (n+l.length):=by
 intro l
 induction l with
 |nil=>intro g n H u S r _;exact⟨H,u,jj rfl,aJ.refl ..,S,r⟩
 |cons k l ih=>
  intro g n H u S r hn;rw[jB] at hn;refine gc (GV (dd:=dd) (k:=k) (ps:=[]) S (r.nv (cN (nW (bG (j4 hn)) _) (by decide)))) λH1 r1 dE S1=>?_;refine ka (ih (g:=sV g k) (H:=H1) (u:=some (.str k)) S1 (r.add k) (by exact j5 ‹_›)) λH' u' r2 eN S2 rm=>?_;refine⟨H',u',gz (f:=.next) rfl rfl (ay (fL (ou (af rfl) (oD S.self rfl) (aG rfl (af rfl) aF) r1)) aV) rfl r2,dE.trans eN,S2,?_⟩;have e:n+(k::l).length=n+1+l.length:=by rw[jB];exact(mj n 1 l.length).trans (congrArg (n+·) (mD 1 l.length)) |>.symm
  rw[e];exact rm
theorem YI:∀{C:List bA},(C.map (·.1)).Nodup->∀c∈C,eP c.1 C=some c.2:=by
 intro C
 induction C with
 |nil=>exact λO O h=>absurd h qp
 |cons c C ih=>
  intro h x hx;rw[bQ,hU] at h;show(match au c.1 x.1 with|true=>some c.2|false=>eP x.1 C)=_;rcases bl.mp hx with rfl|hx
  ·rw[iZ]
  ·rw[rq (λe=>h.1 (bj.mpr ⟨x,hx,e.symm⟩))];exact ih h.2 x hx
def OZ{K:AV}{ac s d lo:Nat}{C:List bA}(lc:ac<lo)(hu:(C.map (·.1)).Nodup):∀(k i:Nat) {g:List Ad} {n:Nat} {H:Hp} {u:Option AV},i+k=C.length->ae H ac=some (.dict C.length (e9 C))->fj H s d lo g .none 0 0->Rm g n->n+5*k<500000 ->
  ∃H' u',RF P (dd+4) (iM F4) (.dct ac i (e9 C).length C.length) (bk F4) (qE K ac s u none none none none) H .next (qE K ac s u' none none none none) H'/\aJ lo H H'/\fj H' s d lo ((C.drop i).foldl zX g) .none 0 0:=by
 intro k
 induction k with
 |zero=>
  intro i g n H u hn h S r _;have e:i=C.length:=hn;refine⟨H,u,jj ?_,aJ.refl ..,?_⟩
  ·rw[vg h,oy (by rw[e];exact bL (aC ..))];rfl
  ·rw[kR (bL e.symm)];exact S
 |succ k ih=>
  intro i g n H u hn h S r hz;refine ue (gA (l:=C) (n:=i) (by exact me ‹_›)) λc hc=>?_;have lI:(ba.dct ac i (e9 C).length C.length).next H=some (some (.str c.1,.dct ac (i+1) (e9 C).length C.length)):=by rw[vg h];unfold e9;rw[ir,hc];rfl
  have uI:n+5+5*k<500000:=by rw[Nat.mul_succ,<- mj,Nat.add_right_comm] at hz;exact hz
  refine gc (GV (dd:=dd) (k:=c.1) (ps:=[c.2.1,c.2.2]) S (r.nv (cN (aH (hV (n+5) (5*k)) (bG uI)) (by decide)))) λH1 r1 dE S1=>?_;refine bo (ih (i+1) (g:=zX g c) (H:=H1) (u:=some (.str c.1)) (by exact ja ‹_›) ((dE.low ac lc).trans h) S1 (r.cut c) uI) λH' u' r2 eN S2=>?_;rw[lO hc];exact⟨H',u',gz (f:=.next) lI rfl (ay (fL (ou (af rfl) (oD S.self rfl) (aG rfl (af rfl) (Rg (dD (af rfl) (af rfl) (vW h (by rw[zq,YI hu c (pS hc)];rfl:bT c.1 (e9 C)=some (pO c.2)))) rfl)) r1)) aV) rfl r2,dE.trans eN,S2⟩
end
end
section
noncomputable def bh(w:Ky):aN:=(-((w.length:Nat):Int),w)
def gk(h:List aN)(w:Ky):List aN:=fN (bh w) h
abbrev Sp:=List (Ky×List Ky)
noncomputable def dh(l:List Ky):AV:=.lst (l.map .str)
def cS(S:Sp):List (List Nat×AV):=S.map λp=>(p.1,dh p.2)
noncomputable def di(k:Ky):Sp->Option (List Ky)
 |[]=>none
 |p::r=>match au p.1 k with|true=>some p.2|false=>di k r
def zp(k:Ky):∀S:Sp,bT k (cS S)=(di k S).map dh:=by
 intro S
 induction S with
 |nil=>exact rfl
 |cons p S ih=>show(match au p.1 k with|true=>some (dh p.2)|false=>bT k (cS S))=(match au p.1 k with|true=>some p.2|false=>di k S).map dh;rw[ih];cases au p.1 k<;>rfl
def fe(C:List bA)(S:Sp)(x:Ky):List Ky:=match eP x C with
 |none=>[x]
 |some p=>(di p.1 (S++[(x,[x])])).getD []++(di p.2 (S++[(x,[x])])).getD []
def qK(g:List Ad)(r:List Ky)(h:List aN)(S:Sp):Bool:=(r.all λk=>gn k g&&Nat.blt k.length 1000)&&(Nat.blt r.length 1000&&(Nat.blt h.length 1000&&Nat.blt S.length 1000))
def mV(g:List Ad)(C:List bA)(S:Sp)(x:Ky):Bool:=wF g x&&((di x S).isNone&&Nat.blt (fe C S x).length 1000)
noncomputable def sp:Nat->List bA->List Ad->List Ky->Nat->List aN->Sp->Option Sp
 |0,_,_,_,_,_,_=>none
 |n+1,C,g,r,o,h,S=>match Nat.blt 0 o||!r.isEmpty with
  |false=>some S
  |true=>match qK g r h S with
   |false=>none
   |true=>match jN (r.foldl gk h) with
    |none=>none
    |some q=>match mV (fh g r) C S q.1.2 with
     |false=>none
     |true=>sp n C (gZ (fh g r) q.1.2).1 (gZ (fh g r) q.1.2).2 (o+r.length-1) q.2 (S++[(q.1.2,fe C S q.1.2)])
def Bk(n:Nat)(C:List bA)(g:List Ad)(r:List Ky)(o:Nat)(h:List aN)(S:Sp):sp (n+1) C g r o h S=match Nat.blt 0 o||!r.isEmpty with
  |false=>some S
  |true=>match qK g r h S with
   |false=>none
   |true=>match jN (r.foldl gk h) with
    |none=>none
    |some q=>match mV (fh g r) C S q.1.2 with
     |false=>none
     |true=>sp n C (gZ (fh g r) q.1.2).1 (gZ (fh g r) q.1.2).2 (o+r.length-1) q.2 (S++[(q.1.2,fe C S q.1.2)]):=rfl
def OW{n o:Nat}{C:List bA}{g:List Ad}{r:List Ky}{h:List aN}{S R:Sp}(e:sp (n+1) C g r o h S=some R):(Nat.blt 0 o||!r.isEmpty)=false/\S=R\/(Nat.blt 0 o||!r.isEmpty)=true/\qK g r h S=true/\∃q,jN (r.foldl gk h)=some q/\mV (fh g r) C S q.1.2=true /\
  sp n C (gZ (fh g r) q.1.2).1 (gZ (fh g r) q.1.2).2 (o+r.length-1) q.2 (S++[(q.1.2,fe C S q.1.2)])=some R:=by
 rw[Bk] at e;cases h1:Nat.blt 0 o||!r.isEmpty with
 |false=>rw[h1] at e;exact .inl ⟨rfl,sj e⟩
 |true=>
  rw[h1] at e;refine .inr ⟨rfl,?_⟩;cases h2:qK g r h S with
  |false=>rw[h2] at e;cases e
  |true=>
   rw[h2] at e;refine⟨rfl,?_⟩;cases h3:jN (r.foldl gk h) with
   |none=>rw[h3] at e;cases e
   |some q=>
    rw[h3] at e;have e:(match mV (fh g r) C S q.1.2 with|false=>none|true=>sp n C (gZ (fh g r) q.1.2).1 (gZ (fh g r) q.1.2).2 (o+r.length-1) q.2 (S++[(q.1.2,fe C S q.1.2)]))=some R:=e;refine⟨q,rfl,?_⟩;cases h4:mV (fh g r) C S q.1.2 with
    |false=>rw[h4] at e;cases e
    |true=>rw[h4] at e;exact⟨rfl,e⟩
def SH(H:Hp)(lo hi ac a4 a5 a6:Nat)(C:List bA)(e4:Nat)(E4:List (List Nat×AV))(T:List Ky)(h:List aN):Prop:=(ae H a4=some (.dict e4 E4))/\(ae H a5=some (aS T))/\(ae H a6=some (bF h))/\(ae H ac=some (.dict C.length (e9 C)))/\((hi<=a4/\hi<=a5/\hi<=a6)/\ac<lo/\lo<=hi/\a5≠a6)
section
variable {b1 b2 b3 b4 b5 b6 b7 b8 b9 gq jS nA}(x:SH b1 b2 b3 b4 b5 b6 b7 b8 b9 gq jS nA)
def SH.mk:=jJ (SH b1 b2 b3 b4 b5 b6 b7 b8 b9 gq jS nA) rfl
def SH.d4:=x.1
def SH.d5:=x.2.1
def SH.d6:=x.2.2.1
def SH.dc:=x.2.2.2.1
def SH.b:=x.2.2.2.2
end
section
variable {dd lo hi ac a4 a5 a6 e4:Nat}{C:List bA}{E4:List (List Nat×AV)}{T:List Ky}{h:List aN}{H H':Hp}
def SH.Fb(Q:SH H lo hi ac a4 a5 a6 C e4 E4 T h)(h':List aN):SH (ai H (bF h') a6) lo hi ac a4 a5 a6 C e4 E4 T h':=(SH.mk ((aZ (kr Q.d6 Q.d4)).trans Q.d4) ((aZ Q.b.2.2.2.symm).trans Q.d5) (cF (bE Q.d6)) ((aZ (kr Q.d6 Q.dc)).trans Q.dc) Q.b)
def SH.NS(Q:SH H lo hi ac a4 a5 a6 C e4 E4 T h)(T':List Ky):SH (ai H (aS T') a5) lo hi ac a4 a5 a6 C e4 E4 T' h:=(SH.mk ((aZ (kr Q.d5 Q.d4)).trans Q.d4) (cF (bE Q.d5)) ((aZ Q.b.2.2.2).trans Q.d6) ((aZ (kr Q.d5 Q.dc)).trans Q.dc) Q.b)
def SH.Fc(Q:SH H lo hi ac a4 a5 a6 C e4 E4 T h)(e':Nat)(E':List (List Nat×AV)):SH (ai H (.dict e' E') a4) lo hi ac a4 a5 a6 C e' E' T h:=(SH.mk (cF (bE Q.d4)) ((aZ (kr Q.d5 Q.d4).symm).trans Q.d5) ((aZ (kr Q.d6 Q.d4).symm).trans Q.d6) ((aZ (ei (cA Q.b.2.1 (aH Q.b.2.2.1 Q.b.1.1)))).trans Q.dc) Q.b)
def SH.JC(Q:SH H lo hi ac a4 a5 a6 C e4 E4 T h)(f:dy lo hi H H'):SH H' lo hi ac a4 a5 a6 C e4 E4 T h:=(SH.mk ((f.out _ (.inr Q.b.1.1)).trans Q.d4) ((f.out _ (.inr Q.b.1.2.1)).trans Q.d5) ((f.out _ (.inr Q.b.1.2.2)).trans Q.d6) ((f.out _ (.inl Q.b.2.1)).trans Q.dc) Q.b)
def Sr.up{s d rl:Nat}{ns:List Nd}{bc:List Ky}{np nf:Int}{a:Nat}{o:AO}(S:Sr H s d rl lo hi ns bc np nf)(hd:lo<=d/\d<hi)(ha:hi<=a):Sr (ai H o a) s d rl lo hi ns bc np nf:=by have h:∀b,lo<=b/\b<hi->ae (ai H o a) b=ae H b:=λb hb=>aZ (ei (cA hb.2 ha));refine ue S.dj λep G=>?_;exact(Sr.mk ((h s S.bs).trans S.self) ((h rl S.br).trans S.iQ) ⟨ep,G.mono (h d hd) λn hn=>⟨h _ (S.bd n hn).1,h _ (S.bd n hn).2⟩⟩ S.bd S.bs S.br S.sx)
def OY{ρ1:aD}{K kc ks:Option AV}{c4 c5:Option AV}:∀(l:List Ky) {h:List aN} {H:Hp} {u:Option AV},ae H a6=some (bF h)->(∀w∈l,w.length<=az)->h.length+l.length<az ->
  ∃u',RF P (dd+2) (iM (aW (bk oa) 0)) (.fix (l.map .str)) (bk (aW (bk oa) 0)) (K::kc::ks::u::c4::c5::some (.ref a6)::ρ1) H .next (K::kc::ks::u'::c4::c5::some (.ref a6)::ρ1) (ai H (bF (l.foldl gk h)) a6):=by
 intro l
 induction l with
 |nil=>
  intro h H u h2 hw hl;exact⟨u,by
  show RF P _ _ _ _ _ _ _ _ (ai H (bF h) a6);rw[pn h2];exact jj rfl⟩
 |cons w l ih=>intro h H u h2 hw hl;rw[jB] at hl;refine ue (ih (h:=gk h w) (H:=ai H (bF (gk h w)) a6) (u:=some (.str w)) (cF (bE h2)) (λx hx=>hw x (bI _ hx)) (by show(fN (bh w) h).length+_<_;rw[zG];exact j5 ‹_›)) λu' r=>?_;rw[mJ] at r;exact⟨u',gz (f:=.next) rfl rfl (ay (fL (bp (bg rfl) rfl (aG rfl (af rfl) (aG rfl (tZ (aG rfl (t6 (bp (bg rfl) rfl (aG rfl (af rfl) aF) (t8 (hw w bz))) rfl) (aG rfl (af rfl) aF))) aF)) (BH (x:=bh w) h2 (by exact j4 ‹_›)))) aV) rfl r⟩
end
end
section
section
variable {d:Nat}{H:Hp}
variable {k:Ky}
def Lp{a:Nat}{l:List Ky}(h:ae H a=some (aS l))(hl:l.length<az):jK .list 0 (.ref a) [.str k] H=some (.none,ai H (aS (l++[k])) a):=by rw[<- Bc];exact rB h (by rw[aC];exact hl)
def Dn{a e:Nat}{x:AV}{l:List (List Nat×AV)}(h:ae H a=some (.dict e l)):jK .dict 6 (.ref a) [.str k,x] H=some ((bT k l).getD x,H):=by show((cM H a).bind λr=>wN 6 a r.2 [.str k,x] H)=_;rw[kD h];rfl
theorem Rt{k:Ky}{v w:AV}:∀{l:List (List Nat×AV)},bS k l=false->fx k v (l++[(k,w)])=l++[(k,v)]/\bS k (l++[(k,w)])=true:=by
 intro l
 induction l with
 |nil=>
  intro _;refine⟨?_,?_⟩
  ·show(match au k k with|true=>[(k,v)]|false=>(k,w)::[(k,v)])=_;rw[iZ];rfl
  ·show(match au k k with|true=>some w|false=>none).isSome=_;rw[iZ];rfl
 |cons p l ih=>
  intro h;have h:(match au p.1 k with|true=>some p.2|false=>bT k l).isSome=false:=h;show(match au p.1 k with|true=>(p.1,v)::(l++[(k,w)])|false=>p::fx k v (l++[(k,w)]))=_/\(match au p.1 k with|true=>some p.2|false=>bT k (l++[(k,w)])).isSome=true
  revert h
  cases au p.1 k with
  |true=>intro h;cases h
  |false=>intro h;exact⟨congrArg (p::·) (ih h).1,(ih h).2⟩
def aa9{a b:List Ky}(h:(a++b).length<=az):i6 .Add (dh a) (dh b) H=some (dh (a++b)):=by show aK (Nat.ble ((a.map AV.str).length+(b.map AV.str).length) az) (some (AV.lst (a.map AV.str++b.map AV.str)))=_;rw[aC,aC,<- bu,dU.mpr h,<- bR];rfl
def SK{S:Sp}(h:(di k S).isNone=true):bS k (cS S)=false:=by
 unfold bS;rw[zp]
 revert h
 cases di k S<;>intro h<;>first|rfl|cases h
def T5{S:Sp}:(bT k (cS S)).getD (.lst [])=dh ((di k S).getD []):=by rw[zp];cases di k S<;>rfl
def DE(S:Sp)(p:Ky×List Ky):cS (S++[p])=cS S++[(p.1,dh p.2)]:=bR
variable {lo hi ac a4 a5 a6:Nat}{C:List bA}{T:List Ky}{h:List aN}{K z:Option AV}{s:Nat}
noncomputable abbrev pA(K:Option AV)(ac s:Nat)(x:Ky)(a4 a5 a6:Nat)(z:Option AV):aD:=[K,some (.ref ac),some (.ref s),some (.str x),some (.ref a4),some (.ref a5),some (.ref a6),z]
def OV{S:Sp}{x:Ky}(Q:SH H lo hi ac a4 a5 a6 C S.length (cS S) T h)(hx:(di x S).isNone=true)(hv:(fe C S x).length<1000)(hS:S.length<1000)(hT:T.length<1000):
  ∃H',(∀{fl:Fl} {ρ':aD} {H2:Hp},RB P d true (tW (bk oa) 5) (pA K ac s x a4 a5 a6 z) H' fl ρ' H2->RB P d true (tW (bk oa) 2) (pA K ac s x a4 a5 a6 z) H fl ρ' H2)/\SH H' lo hi ac a4 a5 a6 C (S.length+1) (cS (S++[(x,fe C S x)])) (T++[x]) h/\aJ lo H H' /\
   ∀{s d rl:Nat} {ns:List Nd} {bc:List Ky} {np nf:Int},Sr H s d rl lo hi ns bc np nf->lo<=d/\d<hi->Sr H' s d rl lo hi ns bc np nf:=by
 have zz:(1000:Nat)<=az:=by decide
 have l4:lo<=a4:=aH Q.b.2.2.1 Q.b.1.1;have Q1:=Q.NS (T++[x]);have s2:RS P d true (aW (bk oa) 2) (pA K ac s x a4 a5 a6 z) H .next (pA K ac s x a4 a5 a6 z) (ai H (aS (T++[x])) a5):=fL (fu (mk:=.list) (af rfl) (ky Q.d5) rfl rfl (aG rfl (af rfl) aF) (Lp (k:=x) Q.d5 (cA hT zz)));have sd:=wi (k:=x) (v:=dh [x]) Q1.d4 (by unfold cS;rw[aC];exact cA hS zz);have hn:=SK hx;rw[hn,BK hn] at sd;have s3:RS P d true (aW (bk oa) 3) (pA K ac s x a4 a5 a6 z) (ai H (aS (T++[x])) a5) .next (pA K ac s x a4 a5 a6 z) (ai (ai H (aS (T++[x])) a5) (.dict (S.length+1) (cS S++[(x,dh [x])])) a4):=om (de (bb:=false) (aG rfl (af rfl) aF) rfl) (λO=>rfl) (af rfl) (af rfl) sd;have Q2:=Q1.Fc (S.length+1) (cS S++[(x,dh [x])]);have eN:aJ lo H (ai (ai H (aS (T++[x])) a5) (.dict (S.length+1) (cS S++[(x,dh [x])])) a4):=(aJ.upd (aH Q.b.2.2.1 Q.b.1.2.1:lo<=a5)).trans (aJ.upd l4);have F0:∀{s d rl:Nat} {ns:List Nd} {bc:List Ky} {np nf:Int},Sr H s d rl lo hi ns bc np nf->lo<=d/\d<hi->Sr (ai (ai H (aS (T++[x])) a5) (.dict (S.length+1) (cS S++[(x,dh [x])])) a4) s d rl lo hi ns bc np nf:=λS hd=>(S.up hd Q.b.1.2.1).up hd Q.b.1.1;have xe:=CE (k:=x) Q2.dc;rw[Dd] at xe;generalize ai (ai H (aS (T++[x])) a5) (.dict (S.length+1) (cS S++[(x,dh [x])])) a4=H2 at *;cases hc:eP x C with
 |none=>
  rw[hc] at xe;have ev:fe C S x=[x]:=by unfold fe;rw[hc]
  refine⟨H2,λr=>ay s2 (ay s3 (ay (cn (t:=false) (bC (af rfl) (af rfl) xe) aV) r)),?_,eN,F0⟩;rw[ev,DE];exact Q2
 |some p=>
  rw[hc] at xe;have ev:fe C S x=(di p.1 (S++[(x,[x])])).getD []++(di p.2 (S++[(x,[x])])).getD []:=by unfold fe;rw[hc]
  have g1:=Dn (k:=p.1) (x:=.lst []) Q2.d4;have g2:=Dn (k:=p.2) (x:=.lst []) Q2.d4;rw[show cS S++[(x,dh [x])]=cS (S++[(x,[x])]) from(DE S (x,[x])).symm,T5] at g1 g2;have ad:=aa9 (H:=H2) (a:=(di p.1 (S++[(x,[x])])).getD []) (b:=(di p.2 (S++[(x,[x])])).getD []) (by rw[<- ev];exact aH (bG hv) zz);rw[<- ev] at ad;have pe:=Rt (v:=dh (fe C S x)) (w:=dh [x]) hn;have Gp:=wi (k:=x) (v:=dh (fe C S x)) Q2.d4 (by rw[bu];unfold cS;rw[aC];exact cN (Nat.succ_le_of_lt hS) (by decide));rw[pe.1,pe.2] at Gp;refine⟨ai H2 (.dict (S.length+1) (cS S++[(x,dh (fe C S x))])) a4,λr=>ay s2 (ay s3 (ay (cn (t:=true) (bC (af rfl) (af rfl) xe) (ay ?_ aV)) r)),?_,eN.trans (aJ.upd l4),λS hd=>(F0 S hd).up hd Q.b.1.1⟩
  ·have cu:∀p1 p2 p3,RE P d true (.sub (.var "cuts" 1 p1) (.var "word" 3 p2) p3) (pA K ac s x a4 a5 a6 z) H2 (pO p) (pA K ac s x a4 a5 a6 z) H2:=λp1 p2 p3=>dD (af rfl) (af rfl) (vW Q2.dc (by rw[zq,hc];rfl:bT x (e9 C)=some (pO p)));exact om (cU (fu (mk:=.dict) (af rfl) (sJ Q2.d4) rfl rfl (aG rfl (dD (cu ..) aY rfl) (aG rfl (de (bb:=false) aF rfl) aF)) g1) (fu (mk:=.dict) (af rfl) (sJ Q2.d4) rfl rfl (aG rfl (dD (cu ..) aY rfl) (aG rfl (de (bb:=false) aF rfl) aF)) g2) ad) (λO=>rfl) (af rfl) (af rfl) Gp
  ·rw[DE];exact Q2.Fc _ _
end
end
section
def TP:∀{i j:Int},i<j->fV i j=true
 |.ofNat _,.ofNat _,h=>bf.mpr (n7.mp h)
 |.ofNat _,.negSucc _,h=>by cases h
 |.negSucc _,.ofNat _,h=>rfl
 |.negSucc m,.negSucc n,h=>bf.mpr (tH (n7.mp (Int.neg_lt_neg_iff.mp (h:-((m+1:Nat):Int)<(-((n+1:Nat):Int))))))
def TQ(z:Int)(o:Nat):fV z (z+o)=Nat.blt 0 o:=by
 cases o with
 |zero=>
  rw[Int.natCast_zero,Int.add_zero];have:∀n,Nat.blt n n=false:=λn=>by
   cases h:Nat.blt n n with
   |false=>rfl
   |true=>exact absurd (bf.mp h) (jz n)
  cases z with
  |ofNat n=>exact this n
  |negSucc n=>exact this n
 |succ o=>exact(TP (Int.lt_add_of_pos_right z (Int.natCast_pos.mpr (mE o)))).trans rfl
def Ry:∀(l:List Ky) (h:List aN),(l.foldl gk h).length=h.length+l.length:=by
 intro l
 induction l with
 |nil=>intro h;exact rfl
 |cons w l ih=>intro h;show(l.foldl gk (gk h w)).length=_;rw[ih];show(fN (bh w) h).length+l.length=_;rw[zG,jB,mj,mD 1]
def R8{z:Int}{o r:Nat}(h:1<=o+r):z+(o:Nat)+(r:Nat)=z+(1:Nat)+((o+r-1:Nat):Int):=by refine ue (Nat.exists_eq_add_of_le h) λk e=>?_;rw[Int.add_assoc,<- Int.natCast_add,e,Nat.add_sub_cancel_left,Int.natCast_add,<- Int.add_assoc]
section
variable {dd lo hi ac a4 a5 a6 s d rl:Nat}{C:List bA}{K:Option AV}
noncomputable abbrev zk(K:Option AV)(ac s:Nat)(u:Option AV)(a4 a5 a6:Nat)(z:Option AV):aD:=[K,some (.ref ac),some (.ref s),u,some (.ref a4),some (.ref a5),some (.ref a6),z]
def OX(bd:lo<=d/\d<hi){R:Sp}:∀(n:Nat) {g:List Ad} {r:List Ky} {o:Nat} {h:List aN} {S:Sp} {ns:List Nd} {H:Hp} {z:Int} {u v:Option AV},sp n C g r o h S=some R->bZ ns=g->Sr H s d rl lo hi ns r (z+o) z->SH H lo hi ac a4 a5 a6 C S.length (cS S) (S.map (·.1)) h ->
  ∃H' u' v' h',RW P (dd+4) true (iL oa) (bk oa) (jt oa) (zk K ac s u a4 a5 a6 v) H .next (zk K ac s u' a4 a5 a6 v') H'/\SH H' lo hi ac a4 a5 a6 C R.length (cS R) (R.map (·.1)) h'/\aJ lo H H':=by
 intro n
 induction n with
 |zero=>intro g r o h S ns H z u v e ha vz Q;cases e
 |succ n ih=>
  intro g r o h S ns H z u v e ha vz Q;refine YM λgg hG=>?_;have zz:(1000:Nat)<=az:=by decide
  have act:=Ra (dd:=dd+2) vz;rw[TQ] at act;rcases OW e with⟨hb,rfl⟩|⟨hb,ok,q,e1,Sn,e2⟩
  ·rw[hb] at act;exact hG ⟨H,u,v,h,pH (Gv (ou (af rfl) (oD vz.self rfl) aF act) rfl) aV,Q,aJ.refl ..⟩
  ·rw[hb] at act;refine NN ok λk1 k2 k3 k4=>?_;have k1:∀k∈r,gn k g=true/\k.length<1000:=λk hk=>us (fB.mp k1 k hk) λa b=>⟨a,bf.mp b⟩;have k2:=bf.mp k2;have k3:=bf.mp k3;have k4:=bf.mp k4;refine E6 Sn λj1 j2 j3=>?_;have o1:1<=o+r.length:=by
    rcases Nat.eq_zero_or_pos (o+r.length) with q|q
    ·have q1:o=0:=(Nat.add_eq_zero_iff.mp q).1;have q2:r=[]:=vJ (Nat.add_eq_zero_iff.mp q).2;rw[q1,q2] at hb;cases hb
    ·exact q
   subst ha;refine gc (QI (dd:=dd+2) vz (λk hk=>Hy (k1 k hk).1) (aH (bG k2) zz)) λH1 r1 f1 S1=>?_;have Q1:=Q.JC f1;refine ue (OY (dd:=dd+2) (ρ1:=[v]) (K:=K) (kc:=some (.ref ac)) (ks:=some (.ref s)) (c4:=some (.ref a4)) (c5:=some (.ref a5)) r (u:=u) Q1.d6 (λw hw=>aH (bG (k1 w hw).2) zz) (cN (Nat.add_le_add (bG k3) (bG k2)) (by decide))) λu1 r2=>?_;have Q2:=Q1.Fb (r.foldl gk h);have S2:=S1.up bd (o:=bF (r.foldl gk h)) Q.b.1.2.2;have eN:aJ lo H (ai H1 (bF (r.foldl gk h)) a6):=(aJ.mk (bL (by rw[bW,f1.len])) (λa ha=>(aZ (ei (cA ha (aH Q.b.2.2.1 Q.b.1.2.2)))).trans (f1.out a (.inl ha))));generalize ai H1 (bF (r.foldl gk h)) a6=H2 at *;have pp:=GQ (d:=dd+1) Q2.d6 e1 (by rw[Ry];exact bG (cN (Nat.add_le_add (bG k3) (bG k2)) (by decide)));have Q3:=Q2.Fb q.2;have S3:=S2.up bd (o:=bF q.2) Q.b.1.2.2;have sF:=eN.trans (aJ.upd (H:=H2) (o:=bF q.2) (aH Q.b.2.2.1 Q.b.1.2.2));have s1:RS P (dd+4) true (aW (bk oa) 1) (zk K ac s u1 a4 a5 a6 v) H2 .next (pA K ac s q.1.2 a4 a5 a6 (some (.int q.1.1))) (ai H2 (bF q.2) a6):=wt (bp (bg rfl) rfl (aG rfl (af rfl) aF) pp) (λO=>rfl) rfl;generalize ai H2 (bF q.2) a6=H3 at *;refine N0 (OV (d:=dd+4) (K:=K) (s:=s) (z:=some (.int q.1.1)) Q3 j2 (bf.mp j3) k4 (by rw[aC];exact k4)) λH4 t4 Q4 Cg OT=>?_;have S4:=OT S3 bd;have ax:=Se (ns:=pP ns r) (x:=q.1.2) (ue S1.dj λO G=>G.keys) (by rw[Lx];exact j1);refine gc (Q7 (dd:=dd+2) (l:=[q.1.2]) S4 (show 1<az by decide) (λq' pre x post e e'=>by
    cases pre with
    |nil=>obtain⟨rfl,_⟩:=nR e;subst e';exact⟨ax.1,by show 0+_<_;rw[dW];exact cA ax.2 zz⟩
    |cons a pre=>exact absurd (congrArg List.length e) (by simp))) λH5 r5 f5 S5=>?_
   have ab:=abh (ns:=pP ns r) q.1.2;rw[Lx] at ab;have Q5:=Q4.JC f5;have S5:Sr H5 s d rl lo hi (i4 (pP ns r,[]) q.1.2).1 (i4 (pP ns r,[]) q.1.2).2 (z+o+r.length) (z+(1:Nat)):=S5;rw[R8 o1] at S5;have e2:sp n C (gZ (fh (bZ ns) r) q.1.2).1 (i4 (pP ns r,[]) q.1.2).2 (o+r.length-1) q.2 (S++[(q.1.2,fe C S q.1.2)])=some R:=by rw[congrArg Prod.snd ab];exact e2
   have Q5:SH H5 lo hi ac a4 a5 a6 C (S++[(q.1.2,fe C S q.1.2)]).length (cS (S++[(q.1.2,fe C S q.1.2)])) ((S++[(q.1.2,fe C S q.1.2)]).map (·.1)) q.2:=by rw[bu,bR];exact Q5
   refine gN (ih (u:=some (.str q.1.2)) (v:=some (.int q.1.1)) e2 (congrArg Prod.fst ab) S5 Q5) λH' u' v' h' r6 Q' TL=>?_;refine hG ⟨H',u',v',h',pG (f:=.next) (Gv (ou (af rfl) (oD vz.self rfl) aF act) rfl) (ay (gP (ou (af rfl) (oD vz.self rfl) aF r1) rfl r2) (ay s1 (t4 (ay (fL (ou (af rfl) (oD S4.self rfl) (aG rfl (af rfl) aF) r5)) aV)))) rfl r6,Q',?_⟩;exact((sF.trans Cg).trans (aJ.mk (bL f5.len.symm) (λa ha=>f5.out a (.inl ha)))).trans TL
end
end
section
noncomputable def tO:List Ky->Bool
 |[]=>true
 |k::l=>!bw k l&&tO l
theorem NT:∀{l:List Ky},tO l=true->l.Nodup:=by
 intro l
 induction l with
 |nil=>intro _;exact pf
 |cons k l ih=>intro h;exact us h λa b=>hU.mpr ⟨λhm=>(by rw[(HB k l).mpr hm] at a;cases a),ih b⟩
def ud(K:List Ky)(C:List bA)(g:List Ad):Bool:=Nat.blt K.length 1000&&(Nat.blt C.length 1000&&(Nat.blt g.length 1000&&(tO (C.map (·.1))&&g.all λt=>t.2.2.all λy=>gn y g&&Nat.blt (1000-y.length) (1000-t.1.length))))
def lu(K:List Ky)(C:List bA):Option Sp:=match ud K C (oH K C) with
 |false=>none
 |true=>sp 100 C (oH K C) (vt (oH K C)) 0 [] []
def Wk{y:Ky}{g:List Ad}(h:gn y g=true):y∈g.map (·.1):=by unfold gn at h;exact ak (List.any_eq_true.mp h) λt ht e=>bj.mpr ⟨t,ht,oM e⟩
def Sr.app{H:Hp}{s d rl lo:Nat}{ns:List Nd}{bc:List Ky}{np nf:Int}(S:Sr H s d rl lo H.length ns bc np nf)(hd:lo<=d/\d<H.length)(Y:Hp):Sr (H++Y) s d rl lo H.length ns bc np nf:=by have h:∀b,lo<=b/\b<H.length->ae (H++Y) b=ae H b:=λb hb=>yX hb.2;refine ue S.dj λep G=>?_;exact(Sr.mk ((h s S.bs).trans S.self) ((h rl S.br).trans S.iQ) ⟨ep,G.mono (h d hd) λn hn=>⟨h _ (S.bd n hn).1,h _ (S.bd n hn).2⟩⟩ S.bd S.bs S.br S.sx)
section
variable {dd:Nat}{H:Hp}
def Qz{ac:Nat}{K:List Ky}{C:List bA}{R:Sp}(hc:ae H ac=some (.dict C.length (e9 C)))(e:lu K C=some R):
  ∃H' a4 a5,RC P (dd+5) (.glob 7) [.lst (K.map .str),.ref ac] H (.tup [.ref a4,.ref a5]) H'/\aJ H.length H H'/\ae H' a4=some (.dict R.length (cS R))/\ae H' a5=some (aS (R.map (·.1))):=by
 unfold lu at e;cases ok:ud K C (oH K C) with
 |false=>rw[ok] at e;cases e
 |true=>
 rw[ok] at e;refine NM ok λk1 k2 k3 k4 k5=>?_;have k1:=bf.mp k1;have la:=bE hc;have n0:=QP (dd:=dd+2) (H:=H);have S0:=OQ (H:=H);have HI:=aJ.app (lo:=H.length) (H:=H) [fS (H.length+1) .none 0 0,.dict 0 []] (aQ _);generalize H++[fS (H.length+1) .none 0 0,.dict 0 []]=H0 at *;refine ka (O0 (dd:=dd) (K:=.lst (K.map .str)) (ac:=ac) K (g:=[]) (n:=0) (H:=H0) (u:=none) S0 (Rm.mk (aQ _) nofun) (cN (bL (dW _)) (jb k1 (by decide)))) λH1 u1 r1 dE S1 rm=>?_;have c1:=(dE.low ac la).trans ((HI.low ac la).trans hc);refine bo (OZ (dd:=dd) (K:=.lst (K.map .str)) la (NT k4) C.length 0 (u:=u1) (dW _) c1 S1 rm (cN (Nat.add_le_add (ib (bG k1) 0) (Nat.mul_le_mul_left 5 (bG (bf.mp k2)))) (by decide))) λH2 u2 r2 eN S2=>?_;rw[j7] at S2;have S2:fj H2 H.length (H.length+1) H.length (oH K C) .none 0 0:=S2;generalize oH K C=g at *;refine NX (QJ (dd:=dd+1) (g:=g) (rk:=λw=>1000-w.length) S2 (λt ht y hy=>us (fB.mp (fB.mp k5 t ht) y hy) λa b=>⟨Wk a,bf.mp b⟩) (bf.mp k3)) λH3 ns r3 sF en kn S3=>?_;have dlt:=cA S2.ve sF.len;have lw:=((HI.trans dE).trans eN).trans sF;have S4:=S3.app ⟨S2.qO,dlt⟩ ([.dict 0 []]++[aS []]++[bF []]);have Q:SH (H3++([.dict 0 []]++[aS []]++[bF []])) H.length H3.length ac H3.length (H3.length+1) (H3.length+2) C 0 (cS []) [] []:=(SH.mk (jm (n:=0)) (jm (n:=1)) (jm (n:=2)) (bU ((sF.low ac la).trans ((eN.low ac la).trans c1))) ⟨⟨aQ _,hV ..,hV ..⟩,la,lw.len,dz (Nat.lt_succ_self _)⟩);rw[<- en,<- abe] at e;have e5:(H3++[AO.dict 0 []]).length=H3.length+1:=bu;have e6:(H3++[AO.dict 0 []]++[aS []]).length=H3.length+2:=by rw[bu,e5];rfl
 have s5:RE P (dd+4) true (fc (aW f7.body 5)) (qE (.lst (K.map .str)) ac H.length u2 (some (.ref H3.length)) none none none) (H3++[.dict 0 []]) (.ref (H3.length+1)) (qE (.lst (K.map .str)) ac H.length u2 (some (.ref H3.length)) none none none) (H3++[.dict 0 []]++[aS []]):=de aF (by rw[<- e5];rfl);have s6:RE P (dd+4) true (fc (aW f7.body 6)) (qE (.lst (K.map .str)) ac H.length u2 (some (.ref H3.length)) (some (.ref (H3.length+1))) none none) (H3++[.dict 0 []]++[aS []]) (.ref (H3.length+2)) (qE (.lst (K.map .str)) ac H.length u2 (some (.ref H3.length)) (some (.ref (H3.length+1))) none none) (H3++([.dict 0 []]++[aS []]++[bF []])):=de aF (by rw[<- e6,<- dA,<- dA];rfl);refine gN (OX (dd:=dd) (K:=some (.lst (K.map .str))) ⟨S2.qO,dlt⟩ 100 (o:=0) (z:=0) (u:=u2) (v:=none) e rfl S4 Q) λH' u' v' h' r4 Q' Cg=>?_;refine⟨H',H3.length,H3.length+1,eG (fd:=f7) (fl:=.ret (.tup [.ref H3.length,.ref (H3.length+1)])) (ρ1:=[some (.lst (K.map .str)),some (.ref ac),none,none,none,none,none,none]) rfl rfl ⟨zk (some (.lst (K.map .str))) ac H.length u' H3.length (H3.length+1) (H3.length+2) v',?_⟩ rfl,(lw.trans (aJ.app _ lw.len)).trans Cg,Q'.d4,Q'.d5⟩;exact ay (bB (bp (bg rfl) rfl aF n0) (λO=>rfl) rfl rfl) (ay (gP (af rfl) rfl r1) (ay (gP (af rfl) (FY c1) r2) (ay (fL (ou (af rfl) (oD S2.self rfl) aF r3))
  (ay (bB yM (λO=>rfl) rfl rfl) (ay (bB s5 (λO=>rfl) rfl rfl) (ay (bB s6 (λO=>rfl) rfl rfl) (ay (mQ r4) (cV (gj (tZ (aG rfl (af rfl) (aG rfl (af rfl) aF))) λO=>rfl) nofun))))))))
end
end
section
def mU(C:List bA)(w:Ky):List Ky:=match eP w C with
 |none=>[]
 |some p=>[p.1,p.2]
def kB(C:List bA)(Oo:List Ky)(w:Ky):Bool:=((mU C w).filter λp=>!bw p Oo).isEmpty
noncomputable def dM:List aN->aN->aN
 |[],b=>b
 |x::r,b=>match dY x b with|true=>dM r x|false=>dM r b
noncomputable def lg:Nat->List bA->List Ky->List Ky->Option (List Ky)
 |0,_,_,_=>none
 |n+1,C,L,Oo=>match L with
  |[]=>some Oo
  |_::_=>match L.filter (kB C Oo) with
   |[]=>none
   |x::r=>lg n C (L.filter λw=>!au w (dM (r.map bh) (bh x)).2) (Oo++[(dM (r.map bh) (bh x)).2])
def km(K:List Ky)(C:List bA):Option (List Ky):=match Nat.blt (K.length+C.length) 500&&(K++C.map (·.1)).all λw=>Nat.blt w.length 1000 with
 |true=>lg 100 C (K++C.map (·.1)) []
 |false=>none
section
variable {d:Nat}{H:Hp}
variable {l:List AV}
def T9{o:AO}(h:(match o with|.list l=>some l|_=>none)=some l):o=.list l:=by
 cases o with
 |list m=>exact congrArg AO.list (sj h)
 |_=>exact aT h
variable {n:Nat}
def HU(h:bq H n=some l):ae H n=some (.list l):=by
 unfold bq at h;cases hn:ae H n with
 |none=>rw[hn] at h;exact aT h
 |some o=>rw[hn] at h;rw[T9 h]
def uu{v:AV}(h:aP H v=some l):v=.lst l\/∃n,v=.ref n/\ae H n=some (.list l):=by
 cases v with
 |lst m=>exact .inl (congrArg AV.lst (sj h))
 |ref n=>exact .inr ⟨n,rfl,HU h⟩
 |_=>exact aT h
def we{v:AV}{tg:C}(h:aP H v=some l):∃src,dX v H=some src/\kM (Is H) tg H src l H:=by
 rcases uu h with e|⟨n,e,hn⟩
 ·rw[e];exact⟨_,rfl,ri _⟩
 ·rw[e];exact⟨_,pE hn,xE hn⟩
def oA{v:AV}(h:aP H v=some l)(Y:Hp):aP (H++Y) v=some l:=by
 rcases uu h with e|⟨n,e,hn⟩
 ·rw[e];rfl
 ·rw[e];exact ej (bU hn)
def Yx(l:List aN)(n:Nat):(l.map aX).map (d3 H n)=l.map aX:=by rw[cm];refine jC λk O=>?_;cases n<;>rfl
def Sm:∀l:List aN,fU (l.map aX) 2=true:=by
 intro l
 induction l with
 |nil=>exact rfl
 |cons x l ih=>exact ih
def XS{l:List aN}(h:ae H n=some (.list (l.map aX))):gF .Eq (.ref n) (.lst []) H=some l.isEmpty:=by
 show jP (.ref n) (.lst []) H=_;unfold jP;have e:d3 H 3 (.ref n)=.lst (l.map aX):=by show(match aP H (.ref n) with|some l=>AV.lst (l.map (d3 H 2))|none=>.ref n)=_;rw[ej h];show AV.lst ((l.map aX).map (d3 H 2))=_;rw[Yx]
 rw[e];show aK (fU (l.map aX) 2&&true) (kC (l.map aX) [])=_;rw[Sm];cases l<;>rfl
def ZZ:∀(l:List aN) (b:aN),kE gQ (l.map aX) (aX b)=some (aX (dM l b)):=by
 intro l
 induction l with
 |nil=>intro b;exact rfl
 |cons x l ih=>
  intro b;show(gQ (aX x) (aX b)).bind (λc=>match c with|true=>kE gQ (l.map aX) (aX x)|false=>kE gQ (l.map aX) (aX b))=some (aX (match dY x b with|true=>dM l x|false=>dM l b));rw[zj];show(match dY x b with|true=>kE gQ (l.map aX) (aX x)|false=>kE gQ (l.map aX) (aX b))=_;cases dY x b with
  |true=>exact ih x
  |false=>exact ih b
def QQ{x:aN}{l:List aN}(h:ae H n=some (.list ((x::l).map aX))):RC P d (.glob 16) [.ref n] H (aX (dM l x)) H:=fF (b:=.min) rfl (by show((aP H (.ref n)).bind λl=>match l with|[]=>none|y::ys=>(kE gQ ys y).map λr=>(r,H))=_;rw[ej h];show(kE gQ (l.map aX) (aX x)).map (λr=>(r,H))=_;rw[ZZ];rfl)
def QU{e:Nat}{l:List (List Nat×AV)}(h:ae H n=some (.dict e l)):RC P d (.glob 33) [.ref n] H (.lst ((l.map (·.1)).map .str)) H:=fF (b:=.list) rfl (by show((cM H n).map λr=>(AV.lst (r.2.map λp=>.str p.1),H))=_;rw[kD h,cm];rfl)
abbrev qQ:S:=aW f8.body 2
abbrev uX:C:=fc (aW (bk qQ) 0)
abbrev wU:C:=fc (aW (bk qQ) 3)
noncomputable def Cp(c:C):C:=match c with
 |.cmp _ a _ _=>a
 |_=>.nil
noncomputable def Oa(c:C):C:=match c with
 |.cons a _=>a
 |_=>.nil
abbrev yT:C:=Cp (Oa (gC uX))
noncomputable abbrev iw(K:AV)(ac:Nat)(l:AV)(ao:Nat)(f:Option AV)(c5 c6 c7:Option AV):aD:=[some K,some (.ref ac),some l,some (.ref ao),f,c5,c6,c7]
variable {ac ao:Nat}{K lv:AV}{C:List bA}{L Oo:List Ky}{f:Option AV}
def Ug{w:Ky}(hc:ae H ac=some (.dict C.length (e9 C)))(ho:ae H ao=some (aS Oo)):∃Y,RM P d (eV yT) (cO yT) (eO yT) (gC yT) (iw K ac lv ao f (some (.str w)) none none) H (.ref H.length) (iw K ac lv ao f (some (.str w)) none none) (H++.list (((mU C w).filter λp=>!bw p Oo).map .str)::Y):=by
 have g:jK .dict 6 (.ref ac) [.str w,.lst []] H=some (.lst ((mU C w).map .str),H):=by rw[Dn hc,zq];unfold mU;cases eP w C<;>rfl
 refine sf (e:=λo=>iw K ac lv ao f (some (.str w)) o none) (λO O O=>rfl) (fu (mk:=.dict) (af rfl) (sJ hc) rfl rfl (aG rfl (af rfl) (aG rfl (de (bb:=false) aF rfl) aF)) g) rfl (ri _) rfl (λO O O O=>rfl) (λp hp Y=>⟨[],?_⟩) (λp hp O Y=>⟨[],?_⟩) ?_
 ·rw[cE];exact qH (bC (af rfl) (af rfl) (Ha (ej (bU ho))))
 ·rw[cE];exact af rfl
 ·unfold mU;cases eP w C with
  |none=>exact(show 0<az by decide)
  |some p=>exact(show 2<az by decide)
def Uj(hc:ae H ac=some (.dict C.length (e9 C)))(ho:ae H ao=some (aS Oo))(hl:aP H lv=some (L.map .str))(hw:∀w∈L,w.length<1000)(hz:L.length<1000):
  ∃Y,RM P d (eV uX) (cO uX) (eO uX) (gC uX) (iw K ac lv ao f none none none) H (.ref H.length) (iw K ac lv ao f none none none) (H++.list ((L.filter (kB C Oo)).map λw=>aX (bh w))::Y):=by
 have zz:(1000:Nat)<=az:=by decide
 refine ak (we (tg:=cO uX) hl) λsrc hs F=>?_;refine sf (e:=λo=>iw K ac lv ao f o none none) (λO O O=>rfl) (af rfl) hs F rfl (λO O O O=>rfl) (λw h Y=>?_) (λw h O Y=>⟨[],?_⟩) (by exact rI ‹_› ‹_›)
 ·refine ue (Ug (d:=d) (K:=K) (lv:=lv) (f:=f) (w:=w) (bU (m:=Y) hc) (bU (m:=Y) ho)) λY1 r=>?_;refine⟨.list (((mU C w).filter λp=>!bw p Oo).map .str)::Y1,?_⟩;have e:H++(Y++AO.list (((mU C w).filter λp=>!bw p Oo).map AV.str)::Y1)=H++Y++AO.list (((mU C w).filter λp=>!bw p Oo).map AV.str)::Y1:=(dA ..).symm;rw[e];exact qH (bC (mT r) (de (bb:=false) aF rfl) (Dz (ej cL)))
 ·rw[cE];exact tZ (aG rfl (t6 (bp (bg rfl) rfl (aG rfl (af rfl) aF) (t8 (aH (bG (hw w h)) zz))) rfl) (aG rfl (af rfl) aF))
def Ui{m:Ky}(ho:ae H ao=some (aS (Oo++[m])))(hl:aP H lv=some (L.map .str))(hz:L.length<1000):
  ∃Y,RM P d (eV wU) (cO wU) (eO wU) (gC wU) (iw K ac lv ao f none none none) H (.ref H.length) (iw K ac lv ao f none none none) (H++.list ((L.filter λw=>!au w m).map .str)::Y):=by
 have zz:(1000:Nat)<=az:=by decide
 refine ak (we (tg:=cO wU) hl) λsrc hs F=>?_;refine sf (e:=λo=>iw K ac lv ao f none none o) (λO O O=>rfl) (af rfl) hs F rfl (λO O O O=>rfl) (λw h Y=>⟨[],?_⟩) (λw h O Y=>⟨[],?_⟩) (by exact rI ‹_› ‹_›)
 ·rw[cE];exact qH (bC (af rfl) (dD (af rfl) (t6 aY rfl) (qC (bU ho) (by rw[bR];exact CH _ _):jh (.ref ao) (.int (-1)) (H++Y)=some (.str m))) rfl)
 ·rw[cE];exact af rfl
end
end
section
section
variable {d ac ao:Nat}{K:AV}{C:List bA}{H0:Hp}
variable {R:List Ky}
def Ue{n:Nat}{L Oo:List Ky}(e:lg (n+1) C L Oo=some R):(L=[]/\Oo=R)\/L.isEmpty=false/\∃x r,L.filter (kB C Oo)=x::r/\lg n C (L.filter λw=>!au w (dM (r.map bh) (bh x)).2) (Oo++[(dM (r.map bh) (bh x)).2])=some R:=by
 cases L with
 |nil=>exact .inl ⟨rfl,sj e⟩
 |cons y L=>
  have e:(match(y::L).filter (kB C Oo) with|[]=>none|x::r=>lg n C ((y::L).filter λw=>!au w (dM (r.map bh) (bh x)).2) (Oo++[(dM (r.map bh) (bh x)).2]))=some R:=e;refine .inr ⟨rfl,?_⟩;cases hf:(y::L).filter (kB C Oo) with
  |nil=>rw[hf] at e;cases e
  |cons x r=>rw[hf] at e;exact⟨x,r,rfl,e⟩
def HL{H:Hp}{v:AV}{a:Nat}{o:AO}(h:v≠.ref a):aP (ai H o a) v=aP H v:=by
 cases v with
 |ref n=>show(ae (ai H o a) n).bind _=_;rw[aZ λe=>h (by rw[e])];rfl
 |_=>rfl
def Uh:∀(n:Nat) {L Oo:List Ky} {H:Hp} {lv:AV} {f:Option AV},lg n C L Oo=some R->ae H ac=some (.dict C.length (e9 C))->ae H ao=some (aS Oo)->aP H lv=some (L.map .str)->(∀w∈L,w.length<1000)->L.length<1000->Oo.length+n<1000->lv≠.ref ao->H0.length<=ao/\ac<H0.length->aJ H0.length H0 H ->
  ∃H' zg f',RW P (d+1) true (iL qQ) (bk qQ) (jt qQ) (iw K ac lv ao f none none none) H .next (iw K ac zg ao f' none none none) H'/\ae H' ao=some (aS R)/\aJ H0.length H0 H':=by
 intro n
 induction n with
 |zero=>intro L Oo H lv f e hc ho hl hw hz hn hv b lw;cases e
 |succ n ih=>
  intro L Oo H lv f e hc ho hl hw hz hn hv b lw;rcases Ue e with⟨rfl,rfl⟩|⟨h0,x,r,hf,e2⟩
  ·exact⟨H,lv,f,pH (bC (af rfl) (de (bb:=false) aF rfl) (y6 (l:=[]) hl)) aV,ho,lw⟩
  ·have nn:=y6 hl;rw[h0] at nn;refine ue (Uj (d:=d+1) (K:=K) (f:=f) hc ho hl hw hz) λY rf=>?_;rw[hf] at rf;have p0:(x::r).map (λw=>aX (bh w))=(bh x::r.map bh).map aX:=by rw[bQ,bQ,cm];rfl
   rw[p0] at rf;have f1:ae (H++.list ((bh x::r.map bh).map aX)::Y) H.length=some (.list ((bh x::r.map bh).map aX)):=cL;have c1:=bU (m:=.list ((bh x::r.map bh).map aX)::Y) hc;have o1:=bU (m:=.list ((bh x::r.map bh).map aX)::Y) ho;have l1:=oA hl (.list ((bh x::r.map bh).map aX)::Y);have w1:=lw.trans (aJ.app (.list ((bh x::r.map bh).map aX)::Y) lw.len);have la:=bE ho;generalize H++.list ((bh x::r.map bh).map aX)::Y=H1 at *;have mn:=QQ (d:=d+1) f1;generalize dM (r.map bh) (bh x)=m at *;have hO:Oo.length<1000:=cN (hV ..) hn;have ap:=Lp (k:=m.2) o1 (cA hO (by decide));have c2:ae (ai H1 (aS (Oo++[m.2])) ao) ac=some (.dict C.length (e9 C)):=(aZ (kr o1 c1)).trans c1;have o2:ae (ai H1 (aS (Oo++[m.2])) ao) ao=some (aS (Oo++[m.2])):=cF (bE o1);have w2:=w1.trans (aJ.upd (H:=H1) (o:=aS (Oo++[m.2])) b.1);have l2:=(HL (H:=H1) (o:=aS (Oo++[m.2])) hv).trans l1;have s0:RS P (d+1) true (aW (bk qQ) 0) (iw K ac lv ao f none none none) H .next (iw K ac lv ao (some (.ref H.length)) none none none) H1:=r9 rf rfl rfl;have s1:RS P (d+1) true (aW (bk qQ) 1) (iw K ac lv ao (some (.ref H.length)) none none none) H1 .next (iw K ac lv ao (some (.ref H.length)) none none none) H1:=cn (t:=false) (bC (af rfl) (de (bb:=false) aF rfl) (XS (l:=bh x::r.map bh) f1)) aV;have s2:RS P (d+1) true (aW (bk qQ) 2) (iw K ac lv ao (some (.ref H.length)) none none none) H1 .next (iw K ac lv ao (some (.ref H.length)) none none none) (ai H1 (aS (Oo++[m.2])) ao):=fL (fu (mk:=.list) (af rfl) (ky o1) rfl rfl (aG rfl (dD (bp (bg rfl) rfl (aG rfl (af rfl) aF) mn) aY rfl) aF) ap);generalize ai H1 (aS (Oo++[m.2])) ao=H2 at *;have lf:(L.filter λw=>!au w m.2).length<=L.length:=List.length_filter_le _ _;refine ue (Ui (d:=d+1) (K:=K) (ac:=ac) (f:=some (.ref H.length)) (m:=m.2) o2 l2 hz) λY2 rl=>?_;have n3:ae (H2++.list ((L.filter λw=>!au w m.2).map .str)::Y2) H2.length=some (.list ((L.filter λw=>!au w m.2).map .str)):=cL;have HZ:=bE o2;refine lj (ih (lv:=.ref H2.length) (f:=some (.ref H.length)) e2 (bU c2) (bU o2) (ej n3) (λw zD=>hw w (List.mem_filter.mp zD).1) (cN lf hz) (by rw[bu];show Oo.length+1+n<1000;exact j5 ‹_›) (λq=>by injection q with q;rw[q] at HZ;exact jz _ HZ) b (w2.trans (aJ.app _ w2.len))) λH' zg f' r1 q1 q2=>?_;exact⟨H',zg,f',pG (f:=.next) (bC (af rfl) (de (bb:=false) aF rfl) nn) (ay s0 (ay s1 (ay s2 (ay (r9 rl rfl rfl) aV)))) rfl r1,q1,q2⟩
def QR{H:Hp}{K:List Ky}(hc:ae H ac=some (.dict C.length (e9 C)))(e:km K C=some R):
  ∃H' ao,RC P (d+2) (.glob 8) [.lst (K.map .str),.ref ac] H (.ref ao) H'/\aJ H.length H H'/\ae H' ao=some (aS R):=by
 unfold km at e;cases ok:Nat.blt (K.length+C.length) 500&&(K++C.map (·.1)).all λw=>Nat.blt w.length 1000 with
 |false=>rw[ok] at e;cases e
 |true=>
 rw[ok] at e;refine us ok λk1 k2=>?_;have k1:=bf.mp k1;have lv:aP (H++[aS []]) (.lst ((K++C.map (·.1)).map .str))=some ((K++C.map (·.1)).map .str):=rfl;refine lj (Uh (d:=d) (ac:=ac) (ao:=H.length) (K:=.lst (K.map .str)) (H0:=H) 100 (lv:=.lst ((K++C.map (·.1)).map .str)) (f:=none) e (bU hc) cL lv (λw hw=>bf.mp (fB.mp k2 w hw)) (by rw[bu,aC];exact jb k1 (by decide):(K++C.map (·.1)).length<1000) (show 0+100<1000 by decide) nofun ⟨aQ _,bE hc⟩ (aJ.app _ (aQ _))) λH' zg f' r1 q1 q2=>?_;have ek:(e9 C).map (·.1)=C.map (·.1):=by unfold e9;rw[cm];rfl
 refine⟨H',H.length,eG (fd:=f8) (fl:=.ret (.ref H.length)) (ρ1:=[some (.lst (K.map .str)),some (.ref ac),none,none,none,none,none,none]) rfl rfl ⟨_,ay (bB (cU (af rfl) (bp (bg rfl) rfl (aG rfl (af rfl) aF) (QU hc)) ?_) (λO=>rfl) rfl rfl) (ay (bB (de (bb:=true) aF rfl) (λO=>rfl) rfl rfl) (ay (mQ r1) (cV (gj (af rfl) λO=>rfl) nofun)))⟩ rfl,q2,q1⟩;rw[ek];show aK (Nat.ble ((K.map AV.str).length+((C.map (·.1)).map AV.str).length) az) (some (AV.lst (K.map AV.str++(C.map (·.1)).map AV.str)))=_;rw[<- bR,aC,aC,aC,dU.mpr (aH (bG k1) (by decide))];rfl
end
end
section
def Zp(H:Hp)(n:Nat)(a b:AV)(i:Nat):Prop:=(ae H n=some (.zip (n+1)))/\(ae H (n+1)=some .gw)/\(ae H (n+2)=some (.lit a i))/\(ae H (n+3)=some (.lit b i))
section
variable {b1 b2 b3 b4 b5}(x:Zp b1 b2 b3 b4 b5)
def Zp.mk:=eM (Zp b1 b2 b3 b4 b5) rfl
def Zp.z:=x.1
def Zp.t:=x.2.1
def Zp.l:=x.2.2.1
def Zp.r:=x.2.2.2
end
def j6(H:Hp)(n:Nat)(a b:AV)(i:Nat):Hp:=ai (ai H (.lit a i) (n+2)) (.lit b i) (n+3)
section
variable {d n i:Nat}{a b u v:AV}{l m:List AV}{H:Hp}
def tL{tl:C}{k:Nat}{p:Pos}(Z:Zp H n a b i)(ha:aP H a=some l)(hb:aP H b=some m):
  (ba.zip n).nx (.tup tl k p) H=some ((match ae l i with|some u=>(match ae m i with|some v=>(some (.tup [u,v],.zip n),j6 H n a b (i+1))|none=>(none,gy H n (n+1)))|none=>(none,gy H n (n+1)))):=by
 show(yc H n).map (λr=>(r.1.map λv=>(v,ba.zip n),r.2))=_;unfold yc;have e1:rS H n=some (n+1):=by unfold rS;rw[Z.z];rfl
 have e2:pW H (n+1+1)=some (a,i):=by unfold pW;rw[Z.l];rfl
 have e3:pW H (n+1+2)=some (b,i):=by unfold pW;rw[Z.r];rfl
 have e4:vI H (n+1)=true:=by unfold vI;rw[Z.t]
 rw[e1];show Option.map _ ((pW H (n+1+1)).bind λr=>_)=_;rw[e2];show Option.map _ ((pW H (n+1+2)).bind λr=>_)=_;rw[e3];show Option.map _ ((aP H a).bind λr=>_)=_;rw[ha];show Option.map _ ((aP H b).bind λr=>_)=_;rw[hb,e4];show Option.map (λr:Option AV×Hp=>(r.1.map λv=>(v,ba.zip n),r.2)) (some (match ae l i with|some u=>(match ae m i with|some v=>(some (AV.tup [u,v]),j6 H n a b (i+1))|none=>(none,gy H n (n+1)))|none=>(none,gy H n (n+1))))=_;cases ae l i with
 |none=>rfl
 |some u=>cases ae m i<;>rfl
def xU{j:Nat}(h:i≠j):n+i≠n+j:=λe=>h (Nat.add_left_cancel e)
def Zp.next(Z:Zp H n a b i):Zp (j6 H n a b (i+1)) n a b (i+1):=(Zp.mk ((aZ (xU (j:=0) (by decide))).trans ((aZ (xU (j:=0) (by decide))).trans Z.z)) ((aZ (xU (by decide))).trans ((aZ (xU (by decide))).trans Z.t)) ((aZ (xU (by decide))).trans (cF (bE Z.l))) (cF (by rw[bW];exact bE Z.r)))
def Zp.upd{o:AO}{x:Nat}(Z:Zp H n a b i)(h:x<n):Zp (ai H o x) n a b i:=(Zp.mk ((aZ (dz h)).trans Z.z) ((aZ (dz (by exact Nat.lt_succ_of_lt h))).trans Z.t) ((aZ (dz (Nat.lt_add_right 2 h))).trans Z.l) ((aZ (dz (Nat.lt_add_right 3 h))).trans Z.r))
def Zp.app(Z:Zp H n a b i)(Y:Hp):Zp (H++Y) n a b i:=(Zp.mk (bU Z.z) (bU Z.t) (bU Z.l) (bU Z.r))
def AX:Zp (H++[.zip (H.length+1),.gw,.lit a 0,.lit b 0]) H.length a b 0:=(Zp.mk cL (jm (n:=1)) (jm (n:=2)) (jm (n:=3)))
def BF(ha:aP H a=some l)(hb:aP H b=some m):RC P d (.glob 34) [a,b] H (.zip H.length) (H++[.zip (H.length+1),.gw,.lit a 0,.lit b 0]):=fF (b:=.zip) rfl (by show((aP H a).bind λO=>(aP H b).map λO=>_)=_;rw[ha,hb];rfl)
def yw(Z:Zp H n a b i):dX (.zip n) H=some (.zip n):=by show(rS H n).map _=_;unfold rS;rw[Z.z];rfl
variable {lo:Nat}
def Ck(h:lo<=n):aJ lo H (j6 H n a b i):=(aJ.upd (Nat.le_add_right_of_le h)).trans (aJ.upd (Nat.le_add_right_of_le h))
def zl(h:lo<=n):aJ lo H (gy H n (n+1)):=(((aJ.upd h).trans (aJ.upd (Nat.le_add_right_of_le h))).trans (aJ.upd (Nat.le_add_right_of_le (k:=2) h))).trans (aJ.upd (Nat.le_add_right_of_le (k:=3) h))
def fW{H':Hp}(h:aJ lo H H')(hl:H.length<=lo)(e:aP H a=some l):aP H' a=some l:=by
 rcases uu e with e|⟨n,e,hn⟩
 ·rw[e];rfl
 ·rw[e];exact ej ((h.low n (cA (bE hn) hl)).trans hn)
end
abbrev jv:=List (Nat×Nat×Nat)
noncomputable def jL(m c:Nat):jv->Option Nat
 |[]=>none
 |p::r=>match Nat.beq p.1 m&&Nat.beq p.2.1 c with|true=>some p.2.2|false=>jL m c r
noncomputable def ow(v m:Nat):Nat×Nat:=match Nat.blt m v with|true=>(m,v)|false=>(v,m)
noncomputable def gW:List Nat->List Nat->jv->Option (jv×Option (Nat×Nat))
 |[],_,A=>some (A,none)
 |c::row,line,A=>match line with
  |[]=>none
  |m::line=>match line with
   |[]=>none
   |m'::_=>match Nat.ble m 1000000 with
    |false=>none
    |true=>match jL m c A with
     |none=>gW row line (A++[(m,c,m')])
     |some v=>match Nat.beq m' v with
      |true=>gW row line A
      |false=>some (A,some (ow v m'))
noncomputable def fE:List (List Nat)->List (List Nat)->jv->Option (Option (Nat×Nat))
 |[],_,_=>some none
 |row::rows,marks,A=>match marks with
  |[]=>some none
  |line::marks=>match Nat.blt (A.length+row.length) 1000 with
   |false=>none
   |true=>match gW row line A with
    |none=>none
    |some q=>match q.2 with
     |none=>fE rows marks q.1
     |some p=>some (some p)
noncomputable def gV(A:jv):List (List Nat×AV):=A.map λp=>([p.1*16+p.2.1],.int (p.2.2:Nat))
def AD(A:jv):Prop:=∀p∈A,p.2.1<16
variable {m:Nat}
def Kj{c:Nat}(h:c<16):(m*16+c)/16=m:=by rw[mD,Nat.add_mul_div_right _ _ (by decide),Nat.div_eq_of_lt h,dW]
def zf{c:Nat}(h:c<16):(m*16+c)%16=c:=by rw[mD,Nat.add_mul_mod_self_right,Nat.mod_eq_of_lt h]
def UR{c m' c':Nat}(h:c<16)(h':c'<16):au [m*16+c] [m'*16+c']=(Nat.beq m m'&&Nat.beq c c'):=by
 show(match Nat.beq (m*16+c) (m'*16+c') with|true=>true|false=>false)=_;cases e:Nat.beq (m*16+c) (m'*16+c') with
 |true=>
  have e:=ck e;have e1:m=m':=by have:=congrArg (·/16) e;rwa[Kj h,Kj h'] at this
  have e2:c=c':=by have:=congrArg (·%16) e;rwa[zf h,zf h'] at this
  rw[e1,e2,jy,jy];rfl
 |false=>
  cases e1:Nat.beq m m' with
  |false=>rfl
  |true=>
   cases e2:Nat.beq c c' with
   |false=>rfl
   |true=>rw[ck e1,ck e2,jy] at e;cases e
theorem T4{m c:Nat}(hc:c<16):∀{A:jv},AD A->bT [m*16+c] (gV A)=(jL m c A).map λv:Nat=>.int v:=by
 intro A
 induction A with
 |nil=>intro _;exact rfl
 |cons p A ih=>intro h;show(match au [p.1*16+p.2.1] [m*16+c] with|true=>some (AV.int (p.2.2:Nat))|false=>bT [m*16+c] (gV A))=(match Nat.beq p.1 m&&Nat.beq p.2.1 c with|true=>some p.2.2|false=>jL m c A).map λv:Nat=>.int v;rw[UR (h p bz) hc,ih λq hq=>h q (bI _ hq)];cases Nat.beq p.1 m&&Nat.beq p.2.1 c<;>rfl
noncomputable def lB(q:Option (Nat×Nat)):List AV:=match q with
 |none=>[]
 |some p=>[.int (p.1:Nat),.int (p.2:Nat)]
noncomputable def Kv(q:Option (Nat×Nat)):Fl:=match q with
 |none=>.next
 |some p=>.ret (.lst [.int (p.1:Nat),.int (p.2:Nat)])
def SY{H:Hp}(v m:Nat):gF .NotEq (.int (v:Nat)) (.int (m:Nat)) H=some (!Nat.beq m v):=rfl
def QC{d:Nat}{H:Hp}{v:Nat}:RC P d (.glob 14) [.lst [.int (v:Nat),.int (m:Nat)]] H (.lst [.int ((ow v m).1:Nat),.int ((ow v m).2:Nat)]) H:=fF (b:=.sorted) rfl (by show some (AV.lst ((match Nat.blt m v with|true=>[(m:Int),(v:Int)]|false=>[(v:Int),(m:Int)]).map .int),H)=_;unfold ow;cases Nat.blt m v<;>rfl)
end
section
def Kc{α:Type}{l r:List α}{i:Nat}{x:α}(h:l.drop i=x::r):ae l i=some x/\r=l.drop (i+1):=by
 have hl:i<l.length:=Nat.lt_of_not_le λq=>by rw[kR q] at h;cases h
 refine ue (gA hl) λy hy=>?_;rw[lO hy] at h;obtain⟨rfl,rfl⟩:=nR h;exact⟨hy,rfl⟩
section
variable {d:Nat}{H:Hp}
def yt{v x:AV}{l:List AV}{k:Int}(h:aP H v=some l)(hk:jo k l=some x):jh v (.int k) H=some x:=by
 rcases uu h with e|⟨n,e,hn⟩
 ·rw[e];exact hk
 ·rw[e];exact qC hn hk
def zB{l:List Nat}{i m:Nat}(h:ae l i=some m):jo ((i:Nat):Int) (aU l)=some (.int (m:Nat)):=by show ae (aU l) i=_;unfold aU;rw[ir,h];rfl
def SF{n e:Nat}{l:List (List Nat×AV)}{k:Nat}(h:ae H n=some (.idict e l)):gF .NotIn (.int (k:Nat)) (.ref n) H=some (!bS [k] l):=by show(iz (.int (k:Nat)) (.ref n) H).map (!·)=_;rw[show iz (.int (k:Nat)) (.ref n) H=some (bS [k] l) from Vs h];rfl
abbrev DO:S:=aW f9.body 1
abbrev An:S:=aW (bk DO) 0
noncomputable abbrev jR(rv mv:AV)(ad:Nat)(row lv k w:Option AV):aD:=[some rv,some mv,some (.ref ad),row,lv,k,w]
variable {rv mv lv:AV}{ad:Nat}{row line:List Nat}
def X0(A:jv)(p:Nat×Nat×Nat):gV (A++[p])=gV A++[([p.1*16+p.2.1],.int (p.2.2:Nat))]:=bR
def Y4(gE:∀c∈row,c<16)(hv:lv≠.ref ad):∀(n i:Nat) {A A':jv} {q:Option (Nat×Nat)} {H:Hp} {e:Nat} {k w:Option AV},i+n=row.length->aP H lv=some (aU line)->ae H ad=some (.idict e (gV A))->AD A->A.length+n<az->gW (row.drop i) (line.drop i) A=some (A',q) ->
  ∃k' w' e',RF P d (iM An) (.fix (ng i n)) (bk An) (jR rv mv ad (some (a0 row)) (some lv) k w) H (Kv q) (jR rv mv ad (some (a0 row)) (some lv) k' w') (ai H (.idict e' (gV A')) ad)/\AD A':=by
 intro n
 induction n with
 |zero=>intro i A A' q H e k w hn hl hd ok hz hc;rw[kR (by exact iJ ‹_›)] at hc;obtain⟨rfl,rfl⟩:=Prod.mk.inj (sj hc);refine⟨k,w,e,?_,ok⟩;rw[pn hd];exact jj rfl
 |succ n ih=>
  intro i A A' q H e k w hn hl hd ok hz hc;refine ue (gA (l:=row) (n:=i) (by exact me ‹_›)) λc hx=>?_;rw[lO hx] at hc;have KV:=gE c (pS hx);cases el:line.drop i with
  |nil=>rw[el] at hc;cases hc
  |cons m r=>
   rw[el] at hc;obtain⟨m1,rfl⟩:=Kc el;cases Ab:line.drop (i+1) with
   |nil=>rw[Ab] at hc;cases hc
   |cons m' r2=>
    rw[Ab] at hc;have hc:(match Nat.ble m 1000000 with
     |false=>none
     |true=>match jL m c A with
      |none=>gW (row.drop (i+1)) (m'::r2) (A++[(m,c,m')])
      |some v=>match Nat.beq m' v with
       |true=>gW (row.drop (i+1)) (m'::r2) A
       |false=>some (A,some (ow v m')))=some (A',q):=hc
    rw[<- Ab] at hc;cases hb:Nat.ble m 1000000 with
    |false=>rw[hb] at hc;cases hc
    |true=>
     rw[hb] at hc;have lm:∀{w:Option AV} p1 p2 p3,RE P d true (.sub (.var "line" 4 p1) (.var "k" 5 p2) p3) (jR rv mv ad (some (a0 row)) (some lv) (some (.int (i:Nat))) w) H (.int (m:Nat)) (jR rv mv ad (some (a0 row)) (some lv) (some (.int (i:Nat))) w) H:=λp1 p2 p3=>dD (af rfl) (af rfl) (yt hl (zB m1));have zr:∀{w:Option AV} p1 p2 p3 p4 p5,RE P d true (.sub (.var "line" 4 p1) (.bin .Add (.var "k" 5 p2) (.cst (.int 1) (.int 1) 0 p3) p4) p5) (jR rv mv ad (some (a0 row)) (some lv) (some (.int (i:Nat))) w) H (.int (m':Nat)) (jR rv mv ad (some (a0 row)) (some lv) (some (.int (i:Nat))) w) H:=λp1 p2 p3 p4 p5=>dD (af rfl) (cU (af rfl) aY (nC (k:=((i+1:Nat):Int)) rfl)) (yt hl (zB ((Kc Ab).1)));have s0:RS P d true (aW (bk An) 0) (jR rv mv ad (some (a0 row)) (some lv) (some (.int (i:Nat))) w) H .next (jR rv mv ad (some (a0 row)) (some lv) (some (.int (i:Nat))) (some (.int ((m*16+c:Nat):Int)))) H:=bB (cU (cU (lm ..) aY (wL (k:=((m*16:Nat):Int)) (Bl (dU.mp hb):fT (m:Int)=true) (by decide) rfl)) (dD (af rfl) (af rfl) (yt (l:=aU row) rfl (zB hx))) (nC (k:=((m*16+c:Nat):Int)) rfl)) (λO=>rfl) rfl rfl
     have lk:=T4 (m:=m) KV ok;have ni:=SF (k:=m*16+c) hd;have eh:bS [m*16+c] (gV A)=(jL m c A).isSome:=by unfold bS;rw[lk];cases jL m c A<;>rfl
     rw[eh] at ni;cases hw:jL m c A with
     |none=>
      rw[hw] at hc ni eh;have sd:=Pz (k:=m*16+c) (v:=.int (m':Nat)) hd (by unfold gV;rw[aC];exact j4 ‹_›);rw[eh] at sd;rw[BK eh] at sd;have ea:=X0 A (m,c,m');have hd2:ae (ai H (.idict (e+1) (gV A++[([m*16+c],.int (m':Nat))])) ad) ad=some (.idict (e+1) (gV (A++[(m,c,m')]))):=by rw[ea];exact cF (bE hd)
      refine cJ (ih (i+1) (k:=some (.int (i:Nat))) (w:=some (.int ((m*16+c:Nat):Int))) (by exact ja ‹_›) ((HL hv).trans hl) hd2 (λp hp=>by
       rcases hM.mp hp with hp|hp
       ·exact ok p hp
       ·rw[fR.mp hp];exact KV) (by rw[bu];show A.length+1+n<_;exact j5 ‹_›) hc) λk' w' e' r BW=>?_
      rw[mJ] at r;exact⟨k',w',e',gz (f:=.next) rfl rfl (ay s0 (ay (cn (t:=true) (bC (af rfl) (af rfl) ni) (ay (om (zr ..) (λO=>rfl) (af rfl) (af rfl) sd) aV)) aV)) rfl r,BW⟩
     |some v=>
      rw[hw] at hc ni;have T7:bT [m*16+c] (gV A)=some (.int (v:Nat)):=by rw[lk,hw];rfl
      have ah:∀p1 p2 p3,RE P d true (.sub (.var "ahead" 2 p1) (.var "way" 6 p2) p3) (jR rv mv ad (some (a0 row)) (some lv) (some (.int (i:Nat))) (some (.int ((m*16+c:Nat):Int)))) H (.int (v:Nat)) (jR rv mv ad (some (a0 row)) (some lv) (some (.int (i:Nat))) (some (.int ((m*16+c:Nat):Int)))) H:=λp1 p2 p3=>dD (af rfl) (af rfl) (OC hd T7);have ne:=SY (H:=H) v m';have hc:(match Nat.beq m' v with
       |true=>gW (row.drop (i+1)) (line.drop (i+1)) A
       |false=>some (A,some (ow v m')))=some (A',q):=hc
      cases hq:Nat.beq m' v with
      |true=>rw[hq] at hc ne;refine cJ (ih (i+1) (k:=some (.int (i:Nat))) (w:=some (.int ((m*16+c:Nat):Int))) (by exact ja ‹_›) hl hd ok (by exact nP ‹_›) hc) λk' w' e' r BW=>?_;exact⟨k',w',e',gz (f:=.next) rfl rfl (ay s0 (ay (cn (t:=false) (bC (af rfl) (af rfl) ni) (ay (cn (t:=false) (bC (ah ..) (zr ..) ne) aV) aV)) aV)) rfl r,BW⟩
      |false=>rw[hq] at hc ne;obtain⟨rfl,rfl⟩:=Prod.mk.inj (sj hc);refine⟨some (.int (i:Nat)),some (.int ((m*16+c:Nat):Int)),e,?_,ok⟩;rw[pn hd];refine GH (f:=.ret (.lst [.int ((ow v m').1:Nat),.int ((ow v m').2:Nat)])) (lF rfl) rfl (ay s0 (cV (cn (t:=false) (bC (af rfl) (af rfl) ni) (cV (cn (t:=true) (bC (ah ..) (zr ..) ne) (cV (gj (bp (bg rfl) rfl (aG rfl (de (bb:=false) (aG rfl (ah ..) (aG rfl (zr ..) aF)) rfl) aF) QC) λO=>rfl) nofun)) nofun)) nofun)) rfl
end
end
section
noncomputable def gJ(H:Hp):List AV->List (List Nat)->Prop
 |[],ls=>ls=[]
 |v::vs,ls=>∃l r,ls=l::r/\aP H v=some (aU l)/\gJ H vs r
theorem gJ.at{H:Hp}:∀{vs:List AV} {ls:List (List Nat)} (i:Nat),gJ H vs ls->(ae vs i=none/\ls.drop i=[])\/∃v l,ae vs i=some v/\ls.drop i=l::ls.drop (i+1)/\aP H v=some (aU l):=by
 intro vs
 induction vs with
 |nil=>exact λi h=>.inl ⟨rfl,by rw[show _=[] from h,List.drop_nil]⟩
 |cons v vs ih=>
  intro ls i h;refine bo h λl r e1 e2 e3=>?_;subst e1;cases i with
  |zero=>exact .inr ⟨v,l,rfl,rfl,e2⟩
  |succ i=>exact ih i e3
noncomputable def Va(s:S):C:=match s with
 |.loop _ i _ _=>i
 |_=>.nil
def oK(l:List Nat):(aU l).length=l.length:=aC ..
section
variable {d:Nat}{rv mv:AV}{ad n:Nat}{H0:Hp}{rows marks:List (List Nat)}{vs:List AV}
def TU{v:AV}{l:List AV}{a:Nat}(h:aP H0 v=some l)(ha:H0.length<=a):v≠.ref a:=λe=>by rw[e] at h;exact hJ.mpr ha (bE (HU h))
def Y0(hr:aP H0 rv=some (rows.map a0))(hm:aP H0 mv=some vs)(hk:gJ H0 vs marks)(gE:∀r∈rows,∀c∈r,c<16)(b:H0.length<=ad/\ad<n):∀(k i:Nat) {A:jv} {q:Option (Nat×Nat)} {H:Hp} {e:Nat} {ro li kk w:Option AV},i+k=rows.length->aJ H0.length H0 H->Zp H n rv mv i->ae H ad=some (.idict e (gV A))->AD A->fE (rows.drop i) (marks.drop i) A=some q ->
  ∃H' yH zt zw w',RF P d (iM DO) (.zip n) (bk DO) (jR rv mv ad ro li kk w) H (Kv q) (jR rv mv ad yH zt zw w') H'/\aJ H0.length H0 H':=by
 intro k
 induction k with
 |zero=>intro i A q H e ro li kk w hi lw Z hd ok hc;rw[kR (by exact iJ ‹_›)] at hc;obtain rfl:=sj hc;refine⟨_,ro,li,kk,w,BA ((tL Z (fW lw (aQ _) hr) (fW lw (aQ _) hm)).trans ?_),lw.trans (zl (aH b.1 (bG b.2)))⟩;rw[oy (by rw[aC];exact iJ ‹_›)]
 |succ k ih=>
  intro i A q H e ro li kk w hi lw Z hd ok hc;have zz:(1000:Nat)<=az:=by decide
  have l0:H0.length<=n:=aH b.1 (bG b.2);refine ue (gA (l:=rows) (n:=i) (by exact me ‹_›)) λrow hx=>?_;rw[lO hx] at hc;have nx:=tL (tl:=.cons (.var "row" 3 ⟨0,0,0,0⟩) .nil) (k:=0) (p:=⟨0,0,0,0⟩) Z (fW lw (aQ _) hr) (fW lw (aQ _) hm);have nr:ae (rows.map a0) i=some (a0 row):=by rw[ir,hx];rfl
  rcases hk.at i with⟨n1,n2⟩|⟨v,line,n1,n2,n3⟩
  ·rw[n2] at hc;obtain rfl:=sj hc;refine⟨_,ro,li,kk,w,BA ((tL Z (fW lw (aQ _) hr) (fW lw (aQ _) hm)).trans ?_),lw.trans (zl l0)⟩;rw[nr,n1]
  ·rw[n2] at hc;have hc:(match Nat.blt (A.length+row.length) 1000 with
    |false=>none
    |true=>match gW row line A with
     |none=>none
     |some q=>match q.2 with
      |none=>fE (rows.drop (i+1)) (marks.drop (i+1)) q.1
      |some p=>some (some p))=some q:=hc
   cases hb:Nat.blt (A.length+row.length) 1000 with
   |false=>rw[hb] at hc;cases hc
   |true=>
    rw[hb] at hc;have hb:=bf.mp hb;cases hq:gW row line A with
    |none=>rw[hq] at hc;cases hc
    |some t=>
     rw[hq] at hc;have hc:(match t.2 with|none=>fE (rows.drop (i+1)) (marks.drop (i+1)) t.1|some p=>some (some p))=some q:=hc;have Z1:=Z.next;have I8:ae (j6 H n rv mv (i+1)) ad=some (.idict e (gV A)):=((Ck (lo:=n) (aQ _)).low ad b.2).trans hd;have dE:=lw.trans (Ck (H:=H) (a:=rv) (b:=mv) (i:=i+1) l0);have G7:∀tl k p,(ba.zip n).nx (.tup tl k p) H=some (some (.tup [a0 row,v],.zip n),j6 H n rv mv (i+1)):=λtl k p=>(tL Z (fW lw (aQ _) hr) (fW lw (aQ _) hm)).trans (by rw[nr,n1]);clear nx;generalize j6 H n rv mv (i+1)=H1 at *;have lr:row.length<=az:=aH (aH (Nat.le_add_left ..) (bG hb)) zz;refine cJ (Y4 (d:=d) (rv:=rv) (mv:=mv) (row:=row) (line:=line) (gE row (pS hx)) (TU n3 b.1) row.length 0 (A:=A) (A':=t.1) (q:=t.2) (k:=kk) (w:=w) (dW _) (fW dE (aQ _) n3) I8 ok (cA hb zz) (by rw[j7,j7];exact hq)) λk1 w1 e1 r1 So=>?_;have ln:=yN (d:=d) (H:=H1) (l:=aU row) (by rw[oK];exact lr);rw[oK] at ln;have it:RE P d true (Va An) (jR rv mv ad (some (a0 row)) (some v) kk w) H1 (.fq (0:Nat) (row.length:Nat) 1) (jR rv mv ad (some (a0 row)) (some v) kk w) H1:=bp (bg rfl) rfl (aG rfl (bp (bg rfl) rfl (aG rfl (af rfl) aF) ln) aF) (BG lr)
     have eN:=dE.trans (aJ.upd (H:=H1) (o:=.idict e1 (gV t.1)) b.1);have Z2:=Z1.upd (o:=.idict e1 (gV t.1)) b.2;have hd2:ae (ai H1 (.idict e1 (gV t.1)) ad) ad=some (.idict e1 (gV t.1)):=cF (bE I8);cases h2:t.2 with
     |none=>rw[h2] at hc r1;refine Fh (ih (i+1) (ro:=some (a0 row)) (li:=some v) (kk:=k1) (w:=w1) (by exact ja ‹_›) eN Z2 hd2 So hc) λH' yH zt zw w' r2 sF=>?_;exact⟨H',yH,zt,zw,w',GG (f:=.next) (G7 ..) rfl (ay (gP it (v9 0 row.length) r1) aV) rfl r2,sF⟩
     |some p=>rw[h2] at hc r1;obtain rfl:=sj hc;exact⟨_,some (a0 row),some v,k1,w1,GH (f:=.ret (.lst [.int (p.1:Nat),.int (p.2:Nat)])) (G7 ..) rfl (cV (gP it (v9 0 row.length) r1) nofun) rfl,eN⟩
def GU{q:Option (Nat×Nat)}(hr:aP H0 rv=some (rows.map a0))(hm:aP H0 mv=some vs)(hk:gJ H0 vs marks)(gE:∀r∈rows,∀c∈r,c<16)(hc:fE rows marks []=some q):
  ∃H',RC P (d+1) (.glob 9) [rv,mv] H0 (.lst (lB q)) H'/\aJ H0.length H0 H':=by
 have e1:(H0++[AO.idict 0 []]).length=H0.length+1:=bu;have Z:=AX (H:=H0++[AO.idict 0 []]) (a:=rv) (b:=mv);have rz:=BF (d:=d) (oA hr [.idict 0 []]) (oA hm [.idict 0 []]);have lw:aJ H0.length H0 (H0++[AO.idict 0 []]++[.zip ((H0++[AO.idict 0 []]).length+1),.gw,.lit rv 0,.lit mv 0]):=by rw[dA];exact aJ.app _ (aQ _)
 have hd:ae (H0++[AO.idict 0 []]++[.zip ((H0++[AO.idict 0 []]).length+1),.gw,.lit rv 0,.lit mv 0]) H0.length=some (.idict 0 (gV [])):=bU cL;generalize H0++[AO.idict 0 []]++[.zip ((H0++[AO.idict 0 []]).length+1),.gw,.lit rv 0,.lit mv 0]=H1 at *;refine Fh (Y0 (d:=d) hr hm hk gE (n:=(H0++[AO.idict 0 []]).length) (ad:=H0.length) ⟨aQ _,by rw[e1];exact Nat.lt_succ_self _⟩ rows.length 0 (ro:=none) (li:=none) (kk:=none) (w:=none) (dW _) lw Z hd nofun hc) λH' yH zt zw w' r TM=>?_;refine⟨H',?_,TM⟩;cases q with
 |none=>exact eG (fd:=f9) (fl:=.ret (.lst [])) (ρ1:=[some rv,some mv,none,none,none,none,none]) rfl rfl ⟨_,ay (bB GO (λO=>rfl) rfl rfl) (ay (gP (bp (bg rfl) rfl (aG rfl (af rfl) (aG rfl (af rfl) aF)) rz) (yw Z) r) (cV (gj (de (bb:=false) aF rfl) λO=>rfl) nofun))⟩ rfl
 |some p=>exact eG (fd:=f9) (fl:=.ret (.lst [.int (p.1:Nat),.int (p.2:Nat)])) (ρ1:=[some rv,some mv,none,none,none,none,none]) rfl rfl ⟨_,ay (bB GO (λO=>rfl) rfl rfl) (cV (gP (bp (bg rfl) rfl (aG rfl (af rfl) (aG rfl (af rfl) aF)) rz) (yw Z) r) nofun)⟩ rfl
end
end
section
noncomputable def eE(p:Nat×Nat)(m:Nat):Nat:=match Nat.beq p.2 m with|true=>p.1|false=>m
noncomputable def fd:Nat->List (List Nat)->List (List Nat)->Option (Nat×Nat)->Option (List (List Nat))
 |0,_,_,_=>none
 |n+1,rows,marks,q=>match q with
  |none=>some marks
  |some p=>match fE rows (marks.map λl=>l.map (eE p)) [] with
   |none=>none
   |some q=>fd n rows (marks.map λl=>l.map (eE p)) q
noncomputable def pU(i n:Nat):List Nat:=0::(((List.range' 1 (n-1)).map λk=>100*(i+1)+k)++[0])
noncomputable def jI:Nat->List (List Nat)->List (List Nat)
 |_,[]=>[]
 |i,r::rs=>pU i r.length::jI (i+1) rs
def jr(rows:List (List Nat)):Option (List (List Nat)):=match fE rows (jI 0 rows) [] with
 |none=>none
 |some q=>fd 100 rows (jI 0 rows) q
section
variable {d:Nat}{H:Hp}
def aba{k:Nat}{l m:List AV}(h:ae H k=some (.list m))(hz:l.length+m.length<=az):i6 .Add (.lst l) (.ref k) H=some (.lst (l++m)):=by show((some l).bind λa=>(aP H (.ref k)).bind λb=>aK (Nat.ble (a.length+b.length) az) (some (AV.lst (a++b))))=_;rw[ej h];show aK (Nat.ble (l.length+m.length) az) _=_;rw[dU.mpr hz];rfl
def Ec{l m:List AV}(hz:l.length+m.length<=az):i6 .Add (.lst l) (.lst m) H=some (.lst (l++m)):=by show aK (Nat.ble (l.length+m.length) az) _=_;rw[dU.mpr hz];rfl
abbrev Dq:S:=aW u0.body 1
abbrev zZ:S:=aW u0.body 3
abbrev Xf:C:=qh (match aW (bk Dq) 0 with|.expr e _=>e|_=>.nil)
abbrev sW:C:=match Xf with|.bin _ a _ _=>(match a with|.bin _ _ b _=>b|_=>.nil)|_=>.nil
noncomputable abbrev iC(rv mv:AV)(r pr c5 c6:Option AV):aD:=[some rv,some mv,r,pr,none,c5,c6]
def Xe{rv:AV}{row:List Nat}{ms:List (List Nat)}{am:Nat}(ha:ae H am=some (.list (ms.map a0)))(hr:row.length<1000)(hm:ms.length<1000):
  ∃Y,RM P d (eV sW) (cO sW) (eO sW) (gC sW) (iC rv (.ref am) (some (a0 row)) none none none) H (.ref H.length) (iC rv (.ref am) (some (a0 row)) none none none) (H++.list (aU ((List.range' 1 (row.length-1)).map λk=>100*(ms.length+1)+k))::Y):=by
 have zz:(1000:Nat)<=az:=by decide
 have ln:=yN (d:=d) (H:=H) (l:=aU row) (by rw[oK];exact aH (bG hr) zz);rw[oK] at ln;have r:=tY (d:=d) (H:=H) (tg:=cO sW) (elt:=eV sW) (it:=eO sW) (e:=λo=>[some rv,some (.ref am),some (a0 row),none,o,none,none]) (f:=λv=>match v with|.int i=>.int (((100*(ms.length+1):Nat):Int)+i)|v=>v) (λO O O=>rfl) (U:=iC rv (.ref am) (some (a0 row)) none none none) (H0:=H)
  (bp (bg rfl) rfl (aG rfl aY (aG rfl (bp (bg rfl) rfl (aG rfl (af rfl) aF) ln) aF)) (QH (a:=1) (b:=row.length) (by decide) (aH (bG hr) zz))) (v9 1 row.length) (ri _) rfl (λO O O O=>rfl) (λx hx Y=>?_) (by unfold ng;rw[aC,List.length_range'];exact cN (Nat.sub_le ..) (cA hr zz))
 ·have e:(ng 1 (row.length-1)).map (λv=>match v with|.int i=>AV.int (((100*(ms.length+1):Nat):Int)+i)|v=>v)=aU ((List.range' 1 (row.length-1)).map λk=>100*(ms.length+1)+k):=by unfold ng aU;rw[cm,cm];rfl
  rw[e] at r;exact r
 ·unfold ng at hx;refine ak (bj.mp hx) λk hk e=>?_;subst e;have l1:=wB (d:=d) (bU (m:=Y) ha) (by rw[aC];exact aH (bG hm) zz);refine⟨[],?_⟩;rw[cE];rw[aC] at l1;exact cU (cU aY (cU (bp (bg rfl) rfl (aG rfl (af rfl) aF) l1) aY (nC (k:=((ms.length+1:Nat):Int)) rfl)) (wL (k:=((100*(ms.length+1):Nat):Int)) (by decide) (Bl (aH hm zz)) rfl)) (af rfl) (nC rfl)
def Xd{ar am:Nat}{rows:List (List Nat)}{H0:Hp}(hr:∀r∈rows,r.length<1000)(b:H0.length<=am/\ar<H0.length):∀(k i:Nat) {ms:List (List Nat)} {H:Hp} {r:Option AV},i+k=rows.length->ae H ar=some (.list (rows.map a0))->ae H am=some (.list (ms.map a0))->ms.length+k<1000->aJ H0.length H0 H ->
  ∃H' r',RF P d (iM Dq) (.lst ar i) (bk Dq) (iC (.ref ar) (.ref am) r none none none) H .next (iC (.ref ar) (.ref am) r' none none none) H'/\ae H' am=some (.list ((ms++jI ms.length (rows.drop i)).map a0))/\aJ H0.length H0 H':=by
 intro k
 induction k with
 |zero=>
  intro i ms H r hn h1 h2 hm lw;refine⟨H,r,jj ?_,?_,lw⟩
  ·rw[qN h1,oy (by rw[aC];exact iJ ‹_›)];rfl
  ·rw[kR (by exact iJ ‹_›)];show _=some (AO.list ((ms++[]).map a0));rw[cE];exact h2
 |succ k ih=>
  intro i ms H r hn h1 h2 hm lw;refine ue (gA (l:=rows) (n:=i) (by exact me ‹_›)) λrow hx=>?_;have lr:=hr row (pS hx);have lm:ms.length<1000:=j4 hm;refine ue (Xe (d:=d) (rv:=.ref ar) h2 lr lm) λY rc=>?_;have c1:ae (H++.list (aU ((List.range' 1 (row.length-1)).map λk=>100*(ms.length+1)+k))::Y) H.length=some (.list (aU ((List.range' 1 (row.length-1)).map λk=>100*(ms.length+1)+k))):=cL;have WH:=bU (m:=.list (aU ((List.range' 1 (row.length-1)).map λk=>100*(ms.length+1)+k))::Y) h1;have Jo:=bU (m:=.list (aU ((List.range' 1 (row.length-1)).map λk=>100*(ms.length+1)+k))::Y) h2;have dE:=lw.trans (aJ.app (.list (aU ((List.range' 1 (row.length-1)).map λk=>100*(ms.length+1)+k))::Y) lw.len);have lf:(aU ((List.range' 1 (row.length-1)).map λk=>100*(ms.length+1)+k)).length=row.length-1:=by rw[oK,aC,List.length_range']
  generalize H++.list (aU ((List.range' 1 (row.length-1)).map λk=>100*(ms.length+1)+k))::Y=H1 at *;have z1:1+(aU ((List.range' 1 (row.length-1)).map λk=>100*(ms.length+1)+k)).length<=az:=by rw[lf];exact aH (ib (aH (Nat.sub_le ..) (bG lr)) 1) (by decide)
  have a1:=aba (l:=[.int 0]) c1 z1;have a2:=Ec (H:=H1) (l:=[AV.int 0]++aU ((List.range' 1 (row.length-1)).map λk=>100*(ms.length+1)+k)) (m:=[.int 0]) (by rw[bu,lf];exact aH (nW (ib (aH (Nat.sub_le ..) (bG lr)) 1) 1) (by decide));have em:[AV.int 0]++aU ((List.range' 1 (row.length-1)).map λk=>100*(ms.length+1)+k)++[.int 0]=aU (pU ms.length row.length):=by unfold pU aU;rw[bQ,bR];rfl
  rw[em] at a2;have ap:=rB (v:=a0 (pU ms.length row.length)) Jo (by rw[aC];exact cA lm (by decide:(1000:Nat)<=az));have e2:ms.map a0++[a0 (pU ms.length row.length)]=(ms++[pU ms.length row.length]).map a0:=by rw[bR];rfl
  rw[e2] at ap;have na:ar≠am:=dz (cA b.2 b.1);refine bo (ih (i+1) (ms:=ms++[pU ms.length row.length]) (r:=some (a0 row)) (by exact ja ‹_›) ((aZ na.symm).trans WH) (cF (bE Jo)) (by rw[bu];show ms.length+1+k<_;exact j5 ‹_›) (dE.trans (aJ.upd b.1))) λH' r' r1 q1 q2=>?_;rw[bu,dA] at q1;rw[lO hx];exact⟨H',r',gz (f:=.next) (by rw[qN h1,ir,hx];rfl:(ba.lst ar i).next H=some (some (a0 row,.lst ar (i+1)))) rfl (ay (fL (fu (mk:=.list) (af rfl) (ky h2) rfl rfl (aG rfl (cU (cU (de (bb:=false) (aG rfl aY aF) rfl) (mT rc) a1) (de (bb:=false) (aG rfl aY aF) rfl) a2) aF) ap)) aV) rfl r1,q1,q2⟩
end
end
section
theorem gJ.low{H H':Hp}{lo:Nat}(lw:aJ lo H H')(hl:H.length<=lo):∀{vs:List AV} {ls:List (List Nat)},gJ H vs ls->gJ H' vs ls:=by
 intro vs
 induction vs with
 |nil=>intro ls h;exact h
 |cons v vs ih=>intro ls h;exact bo h λl r e1 e2 e3=>⟨l,r,e1,fW lw hl e2,ih e3⟩
theorem gJ.mem{H:Hp}:∀{vs:List AV} {ls:List (List Nat)},gJ H vs ls->(∀v∈vs,∃l∈ls,aP H v=some (aU l))/\vs.length=ls.length:=by
 intro vs
 induction vs with
 |nil=>exact λh=>⟨λO h=>absurd h qp,by rw[show _=[] from h];rfl⟩
 |cons v vs ih=>
  intro ls h;refine bo h λl r e1 e2 e3=>?_;subst e1;have i:=ih e3;refine⟨λx hx=>?_,congrArg (·+1) i.2⟩;rcases bl.mp hx with rfl|hx
  ·exact⟨l,bz,e2⟩
  ·exact ak (i.1 x hx) λl' h1 h2=>⟨l',bI _ h1,h2⟩
section
variable {d:Nat}{H0 H:Hp}{rv mv:AV}{vs:List AV}{rows marks:List (List Nat)}
abbrev uV:C:=fc (aW (bk zZ) 0)
abbrev oJ:C:=eV uV
def LI(n:Nat)(H:Hp)(p:Nat×Nat)(x v:AV)(K:Hp):Prop:=∀line,aP H x=some (aU line)->∃m,v=.ref m/\n<m/\ae K m=some (.list (aU (line.map (eE p))))
theorem Qa{n:Nat}{p:Nat×Nat}{K:Hp}:∀{vs ws:List AV} {ls:List (List Nat)},vC (LI n H p) vs ws K->gJ H vs ls->gJ K ws (ls.map λl=>l.map (eE p)):=by
 intro vs
 induction vs with
 |nil=>intro ws ls r h;rw[show ws=[] from r,show ls=[] from h];rfl
 |cons v vs ih=>intro ws ls r h;refine bo h λl t e1 e2 e3=>?_;refine bo r λw Np q1 q2 q3=>?_;refine gc (q2 l e2) λm a1 a2 a3=>?_;rw[e1,q1,a1];exact⟨_,_,rfl,ej a3,ih q3 e3⟩
def Xc{r x:AV}{l:List Nat}{p:Nat×Nat}(hx:aP H x=some (aU l))(hl:l.length<1000){r2:Option AV}:
  ∃Y,RM P d (eV oJ) (cO oJ) (eO oJ) (gC oJ) (iC rv mv r2 (some (.lst (lB (some p)))) (some x) none) H (.ref H.length) (iC rv mv r2 (some (.lst (lB (some p)))) (some x) none) (H++.list (aU (l.map (eE p)))::Y):=by
 refine ak (we (tg:=cO oJ) hx) λsrc hs F=>?_;have q:=tY (d:=d) (H:=H) (tg:=cO oJ) (elt:=eV oJ) (it:=eO oJ) (e:=λo=>iC rv mv r2 (some (.lst (lB (some p)))) (some x) o) (f:=λv=>match v with|.int i=>.int ((eE p i.toNat:Nat):Int)|v=>v) (λO O O=>rfl) (U:=iC rv mv r2 (some (.lst (lB (some p)))) (some x) none) (H0:=H)
  (af rfl) hs F rfl (λO O O O=>rfl) (λy hy Y=>?_) (by rw[oK];exact cA hl (by decide))
 ·have e:(aU l).map (λv=>match v with|.int i=>AV.int ((eE p i.toNat:Nat):Int)|v=>v)=aU (l.map (eE p)):=by unfold aU;rw[cm,cm];rfl
  rw[e] at q;exact q
 ·unfold aU at hy;refine ak (bj.mp hy) λm hm e=>?_;subst e;refine⟨[],?_⟩;rw[cE];have il:∀p1 p2 p3 p4 p5,RT P d true (.cmp .Eq (.var "mark" 6 p1) (.sub (.var "pair" 3 p2) (.cst (.int 1) (.int 1) 0 p3) p4) p5) (iC rv mv r2 (some (.lst (lB (some p)))) (some x) (some (.int (m:Nat)))) (H++Y) (Nat.beq p.2 m) (iC rv mv r2 (some (.lst (lB (some p)))) (some x) (some (.int (m:Nat)))) (H++Y):=λp1 p2 p3 p4 p5=>bC (af rfl) (dD (af rfl) aY rfl) rfl;show RE P d true _ _ _ (.int ((match Nat.beq p.2 m with|true=>p.1|false=>m:Nat):Int)) _ _;cases hb:Nat.beq p.2 m with
  |true=>rw[hb] at il;exact GN (t:=true) (il ..) (dD (af rfl) aY rfl)
  |false=>rw[hb] at il;exact GN (t:=false) (il ..) (af rfl)
def Xb{p:Nat×Nat}{r2:Option AV}(hm:aP H mv=some vs)(hk:gJ H vs marks)(hl:∀l∈marks,l.length<1000)(hz:marks.length<1000):
  ∃Y ws,RM P d oJ (cO uV) (eO uV) (gC uV) (iC rv mv r2 (some (.lst (lB (some p)))) none none) H (.ref H.length) (iC rv mv r2 (some (.lst (lB (some p)))) none none) (H++.list ws::Y)/\gJ (H++.list ws::Y) ws (marks.map λl=>l.map (eE p)):=by
 refine ak (we (tg:=cO uV) hm) λsrc hs F=>?_;have mm:=hk.mem;refine cb (Bx (d:=d) (t:=λO=>true) (ifs:=.nil) (R:=LI H.length H p) (elt:=oJ) (it:=eO uV) (e:=λo=>iC rv mv r2 (some (.lst (lB (some p)))) o none) (U:=iC rv mv r2 (some (.lst (lB (some p)))) none none) (λO O O=>rfl) (λx v K K' h1 h2 line e=>gc (h1 line e) λm a b c=>⟨m,a,b,h2 m _ b c⟩) (af rfl) hs F rfl (λO O O O=>rfl) (λO O K i O Y=>⟨[],by rw[cE];exact se⟩) (λx hx O K i hK a Y=>?_) (by rw[mm.2];exact cA hz (by decide))) λY ws q=>?_
 ·cases i;refine ak (mm.1 x hx) λl h1 h2=>?_;refine ue (Xc (d:=d) (rv:=rv) (mv:=mv) (r:=.none) (p:=p) (r2:=r2) (oA h2 (a::Y)) (hl l h1)) λY2 r=>?_;refine⟨.ref (H++a::Y).length,.list (aU (l.map (eE p)))::Y2,?_,?_⟩
  ·have e:H++a::(Y++.list (aU (l.map (eE p)))::Y2)=H++a::Y++.list (aU (l.map (eE p)))::Y2:=by rw[dA];rfl
   rw[e];exact mT r
  ·intro line e;have ef:aU line=aU l:=by rw[h2] at e;exact(sj e).symm
   have em:aU (line.map (eE p))=aU (l.map (eE p)):=by
    have g:∀l:List Nat,aU (l.map (eE p))=(aU l).map λv=>match v with|.int i=>AV.int ((eE p i.toNat:Nat):Int)|v=>v:=λl=>by unfold aU;rw[cm,cm];rfl
    rw[g,g,ef]
   refine⟨_,rfl,by rw[bu];exact Nat.lt_add_of_pos_right (mE _),?_⟩;rw[em];have e:H++a::(Y++.list (aU (l.map (eE p)))::Y2)=H++a::Y++.list (aU (l.map (eE p)))::Y2:=by rw[dA];rfl
   rw[e];exact cL
 ·rw[xD] at q;exact⟨Y,ws,q.1,Qa q.2.1 hk⟩
variable {R:List (List Nat)}
def Xa(hr:aP H0 rv=some (rows.map a0))(gE:∀r∈rows,∀c∈r,c<16):∀(n:Nat) {marks:List (List Nat)} {q:Option (Nat×Nat)} {H:Hp} {mv:AV} {vs:List AV} {r:Option AV},fd n rows marks q=some R->aP H mv=some vs->gJ H vs marks->(∀l∈marks,l.length<1000)->marks.length<1000->aJ H0.length H0 H ->
  ∃H' sD pg r',RW P (d+1) true (iL zZ) (bk zZ) (jt zZ) (iC rv mv r (some (.lst (lB q))) none none) H .next (iC rv sD r' (some (.lst [])) none none) H'/\aP H' sD=some pg/\gJ H' pg R/\aJ H0.length H0 H':=by
 intro n
 induction n with
 |zero=>intro marks q H mv vs r e hm hk hl hz lw;cases e
 |succ n ih=>
  intro marks q H mv vs r e hm hk hl hz lw;cases q with
  |none=>obtain rfl:=sj e;exact⟨H,mv,vs,r,pH (bC (t:=false) (af rfl) (de (bb:=false) aF rfl) rfl) aV,hm,hk,lw⟩
  |some p=>
   have e:(match fE rows (marks.map λl=>l.map (eE p)) [] with|none=>none|some q=>fd n rows (marks.map λl=>l.map (eE p)) q)=some R:=e;cases hc:fE rows (marks.map λl=>l.map (eE p)) [] with
   |none=>rw[hc] at e;cases e
   |some q=>
    rw[hc] at e;refine cb (Xb (d:=d+1) (rv:=rv) (p:=p) (r2:=r) hm hk hl hz) λY ws a=>?_;have dE:=lw.trans (aJ.app (.list ws::Y) lw.len);have n1:ae (H++.list ws::Y) H.length=some (.list ws):=cL;refine ak (GU (d:=d) (fW dE (aQ _) hr) (ej n1) a.2 gE hc) λH2 r2 eN=>?_;refine yn (ih (r:=r) e (fW eN (aQ _) (ej n1)) (a.2.low eN (aQ _)) (λl VX=>?_) (by rw[aC];exact hz) ((aJ.mk (aH dE.len eN.len) (λx hx=>(eN.low x (cA hx dE.len)).trans (dE.low x hx))):aJ H0.length H0 H2)) λH' sD pg r' r3 b1 b2 b3=>?_
    ·refine ak (bj.mp VX) λl0 h0 e0=>?_;subst e0;rw[aC];exact hl l0 h0
    ·exact⟨H',sD,pg,r',pG (f:=.next) (bC (t:=true) (af rfl) (de (bb:=false) aF rfl) rfl) (ay (r9 a.1 rfl rfl) (ay (bB (bp (bg rfl) rfl (aG rfl (af rfl) (aG rfl (af rfl) aF)) r2) (λO=>rfl) rfl rfl) aV)) rfl r3,b1,b2,b3⟩
theorem Hu:∀{ls:List (List Nat)},gJ H (ls.map a0) ls:=by
 intro ls
 induction ls with
 |nil=>exact rfl
 |cons l ls ih=>exact⟨l,ls,rfl,rfl,ih⟩
def Tn:∀(rows:List (List Nat)) (i:Nat),(jI i rows).length=rows.length:=by
 intro rs
 induction rs with
 |nil=>intro i;exact rfl
 |cons r rs ih=>intro i;exact congrArg (·+1) (ih (i+1))
theorem Ht:∀{rows:List (List Nat)} {i:Nat},(∀r∈rows,r.length<900)->∀l∈jI i rows,l.length<1000
 |r::rs,i,h,l,hl=>by
  rcases bl.mp hl with rfl|hl
  ·have:=h r bz;unfold pU;rw[jB,bu,aC,List.length_range'];exact cN (nW (nW (Nat.sub_le ..) 1) 1) (jb (Nat.add_lt_add_right this 2) (by decide))
  ·exact Ht (λx hx=>h x (bI _ hx)) l hl
def QZ{ar:Nat}(ha:ae H0 ar=some (.list (rows.map a0)))(gE:∀r∈rows,∀c∈r,c<16)(h9:∀r∈rows,r.length<900)(hz:rows.length<1000)(e:jr rows=some R):
  ∃H' mv vs,RC P (d+2) (.glob 12) [.ref ar] H0 mv H'/\aP H' mv=some vs/\gJ H' vs R/\aJ H0.length H0 H':=by
 unfold jr at e;cases hc:fE rows (jI 0 rows) [] with
 |none=>rw[hc] at e;cases e
 |some q=>rw[hc] at e;refine bo (Xd (d:=d+1) (ar:=ar) (am:=H0.length) (λr hr=>jb (h9 r hr) (by decide)) ⟨aQ _,(bE ha)⟩ rows.length 0 (ms:=[]) (H:=H0++[.list []]) (r:=none) (dW _) (bU ha) cL (by show 0+_<_;rw[dW];exact hz) (aJ.app _ (aQ _))) λH1 r1 q1 q2 dE=>?_;rw[j7] at q2;have q2:ae H1 H0.length=some (.list ((jI 0 rows).map a0)):=q2;refine ak (GU (d:=d) (fW dE (aQ _) (ej ha)) (ej q2) Hu gE hc) λH2 r2 eN=>?_;refine yn (Xa (d:=d) (ej ha) gE 100 (r:=r1) e (fW eN (aQ _) (ej q2)) Hu (Ht h9) (by rw[Tn];exact hz) ((aJ.mk (aH dE.len eN.len) (λx hx=>(eN.low x (cA hx dE.len)).trans (dE.low x hx))):aJ H0.length H0 H2)) λH' sD pg r' r3 b1 b2 b3=>?_;exact⟨H',sD,pg,eG (fd:=u0) (fl:=.ret sD) (ρ1:=[some (.ref ar),none,none,none,none,none,none]) rfl rfl ⟨_,ay (bB (de (bb:=true) aF rfl) (λO=>rfl) rfl rfl) (ay (gP (af rfl) (pE (bU ha)) q1) (ay (bB (bp (bg rfl) rfl (aG rfl (af rfl) (aG rfl (af rfl) aF)) r2) (λO=>rfl) rfl rfl) (ay (mQ r3) (cV (gj (af rfl) λO=>rfl) nofun))))⟩ rfl,b1,b2,b3⟩
end
end
section
def tM{α:Type}{l m:List α}{n:Nat}{y:α}(h:n<l.length):ai (l++m) y n=ai l y n++m:=by
 induction l generalizing n with
 |nil=>cases h
 |cons a r ih=>cases n with
  |zero=>rfl
  |succ n=>exact congrArg (a::·) (ih (tH h))
theorem XC{α:Type}:∀{l m:List α},l.length<=m.length->(∀a,a<l.length->ae m a=ae l a)->∃r,m=l++r:=by
 intro l
 induction l with
 |nil=>exact λ{m} O O=>⟨m,rfl⟩
 |cons x l ih=>
  intro m h e;cases m with
  |nil=>exact absurd h (Nat.not_succ_le_zero _)
  |cons y m=>
  obtain rfl:=sj (e 0 (mE _));refine ue (ih (m:=m) (Nat.le_of_succ_le_succ h) λa ha=>e (a+1) (Nat.succ_lt_succ ha)) λr q=>⟨r,congrArg (y::·) q⟩
def TX{H H':Hp}(h:aJ H.length H H'):∃Y,H'=H++Y:=XC h.len h.low
noncomputable def qB(u v:AV):AV:=.tup [u,v]
section
variable {H0:Hp}{a b:AV}{l m:List AV}
variable {H:Hp}{n i:Nat}
def EG(Z:Zp H n a b i):n+3<H.length:=bE Z.r
def MY{Y:Hp}{j:Nat}(Z:Zp H n a b j):j6 (H++Y) n a b i=j6 H n a b i++Y:=by have:=EG Z;unfold j6;rw[tM (Nat.lt_of_succ_lt this),tM (by rw[bW];exact this)]
def Na{Y:Hp}{j:Nat}(Z:Zp H n a b j):gy (H++Y) n (n+1)=gy H n (n+1)++Y:=by have:=EG Z;unfold gy;rw[tM (cN (hV n 3) this),tM (by rw[bW];exact cN (ib (by decide:1<=3) n) this),tM (by rw[bW,bW];exact cN (ib (by decide:2<=3) n) this),tM (by rw[bW,bW,bW];exact this)]
def MX:(j6 H n a b i).length=H.length:=by unfold j6;rw[bW,bW]
def EK{k:Nat}:(gy H n k).length=H.length:=by unfold gy;rw[bW,bW,bW,bW]
def EH(ha:aP H0 a=some l)(hb:aP H0 b=some m){tl:C}{kk:Nat}{p:Pos}(lw:aJ H0.length H0 H)(Z:Zp H H0.length a b i)(h:ae l i=none\/ae m i=none)(Y:Hp):(ba.zip H0.length).nx (.tup tl kk p) (H++Y)=some (none,gy H H0.length (H0.length+1)++Y):=by
 rw[tL (Z.app Y) (oA (fW lw (aQ _) ha) Y) (oA (fW lw (aQ _) hb) Y),Na Z];rcases h with h|h
 ·rw[h]
 ·rw[h];cases ae l i<;>rfl
def JM(ha:aP H0 a=some l)(hb:aP H0 b=some m){tl:C}{kk:Nat}{p:Pos}:∀(k i:Nat) {H:Hp},i+k=l.length->aJ H0.length H0 H->Zp H H0.length a b i ->
  ∃Hz,kM (λK=>aJ H0.length H0 K) (.tup tl kk p) H (.zip H0.length) (List.zipWith qB (l.drop i) (m.drop i)) Hz/\aJ H0.length H0 Hz:=by
 intro k
 induction k with
 |zero=>intro i H hk lw Z;have hk:l.length<=i:=bL hk.symm;have h1:ae l i=none:=oy hk;rw[kR hk];exact⟨_,⟨λY=>EH ha hb lw Z (.inl h1) Y,EK⟩,lw.trans (zl (aQ _))⟩
 |succ k ih=>
  intro i H hk lw Z;refine ue (gA (l:=l) (n:=i) (by exact me ‹_›)) λu h1=>?_;cases h2:ae m i with
  |none=>
   have hn:m.length<=i:=Nat.le_of_not_lt λq=>ue (gA q) λx hx=>by rw[h2] at hx;exact aT hx
   rw[kR hn,List.zipWith_nil_right];exact⟨_,⟨λY=>EH ha hb lw Z (.inr h2) Y,EK⟩,lw.trans (zl (aQ _))⟩
  |some v=>have dE:=lw.trans (Ck (H:=H) (a:=a) (b:=b) (i:=i+1) (aQ _));refine ak (ih (i+1) (by exact ja ‹_›) dE Z.next) λHz F lz=>?_;rw[lO h1,lO h2];refine⟨Hz,⟨.zip H0.length,j6 H H0.length a b (i+1),λY=>?_,dE,MX,F⟩,lz⟩;rw[tL (Z.app Y) (oA (fW lw (aQ _) ha) Y) (oA (fW lw (aQ _) hb) Y),h1,h2,MY Z];rfl
end
def dF(line:List Nat):List Nat:=(List.range' 0 line.length).filter λk=>match ae line k with|some m=>Nat.beq 0 m|none=>false
def eJ(row line:List Nat):List Ky:=List.zipWith (λa b=>(row.take b).drop a) (dF line) ((dF line).drop 1)
section
variable {d:Nat}{H:Hp}{row line:List Nat}{lv:AV}
abbrev qJ:C:=fc (aW uZ.body 0)
abbrev sh:C:=fc (aW uZ.body 1)
abbrev si(row:List Nat)(lv:AV)(h a b:Option AV):aD:=[some (a0 row),some lv,h,none,a,b]
def QS{v:AV}{l:List AV}(h:aP H v=some l)(hz:l.length<=az):RC P d (.glob 10) [v] H (.int (l.length:Nat)) H:=by
 rcases uu h with e|⟨n,e,hn⟩
 ·rw[e];exact yN hz
 ·rw[e];exact wB hn hz
def RX(hl:aP H lv=some (aU line))(hz:line.length<1000):
  ∃Y,RM P d (eV qJ) (cO qJ) (eO qJ) (gC qJ) (si row lv none none none) H (.ref H.length) (si row lv none none none) (H++.list (aU (dF line))::Y):=by
 have zz:(1000:Nat)<=az:=by decide
 have hv:=QS (d:=d) hl (by rw[oK];exact aH (bG hz) zz);rw[oK] at hv;refine ue (yI (d:=d) (H:=H) (Hz:=H) (I:=Is H) (tg:=cO qJ) (elt:=eV qJ) (it:=eO qJ) (ifs:=gC qJ) (t:=λv=>match v with|.int i=>(match ae line i.toNat with|some m=>Nat.beq 0 m|none=>false)|_=>false) (f:=λv=>v) (λO O O=>rfl) (U:=si row lv none none none) (H0:=H) (e:=λo=>[some (a0 row),some lv,none,o,none,none])
  (bp (bg rfl) rfl (aG rfl (bp (bg rfl) rfl (aG rfl (af rfl) aF) hv) aF) (BG (aH (bG hz) zz))) (v9 0 line.length) (ri _) rfl (λO O O O=>rfl) (λx hx K i O Y=>⟨[],?_⟩) (λx hx O K i O Y=>⟨[],?_⟩) (by unfold ng;rw[aC,List.length_range'];exact cA hz zz)) λY r=>⟨Y,?_⟩
 ·cases i;rw[cE];unfold ng at hx;refine ak (bj.mp hx) λk hk e=>?_;subst e;have hk:k<line.length:=by have:=(List.mem_range'_1.mp hk).2;rwa[dW] at this
  refine ue (gA hk) λm hm=>?_;show RQ P d _ _ _ (match ae line k with|some m=>Nat.beq 0 m|none=>false) _ _;rw[hm];exact qH (bC (dD (af rfl) (af rfl) (yt (oA hl Y) (zB hm))) aY rfl)
 ·rw[cE];exact af rfl
 ·have r:=r.1;have e:((ng 0 (line.length-0)).filter (λv=>match v with|.int i=>(match ae line i.toNat with|some m=>Nat.beq 0 m|none=>false)|_=>false)).map (λv=>v)=aU (dF line):=by unfold ng dF aU;rw[List.map_id',List.filter_map];rfl
  rw[e] at r;exact r
def QL(gE:∀c∈row,c<16)(hr:row.length<1000)(hl:aP H lv=some (aU line))(hz:line.length<1000):
  ∃Y m,RC P (d+2) (.glob 13) [a0 row,lv] H (.ref m) (H++Y)/\ae (H++Y) m=some (.list ((eJ row line).map .str))/\H.length<=m:=by
 have zz:(1000:Nat)<=az:=by decide
 refine ue (RX (d:=d+1) (row:=row) hl hz) λY1 r1=>?_;have n1:ae (H++.list (aU (dF line))::Y1) H.length=some (.list (aU (dF line))):=cL;have lh:(dF line).length<=line.length:=by unfold dF;exact aH (List.length_filter_le _ _) (bL List.length_range')
 have dE:aJ H.length H (H++.list (aU (dF line))::Y1):=aJ.app _ (aQ _);have hm:∀k∈dF line,k<=az:=λk hk=>by unfold dF at hk;have:=(List.mem_range'_1.mp (List.mem_filter.mp hk).1).2;exact aH (bG (by rwa[dW] at this)) (aH (bG hz) zz)
 generalize H++.list (aU (dF line))::Y1=H1 at *;have ha:=ej n1;have hb:aP H1 (.lst ((aU (dF line)).drop 1))=some ((aU (dF line)).drop 1):=rfl;have rz:=BF (d:=d+1) ha hb;have Z:=AX (H:=H1) (a:=.ref H.length) (b:=.lst ((aU (dF line)).drop 1));have eN:=aJ.app (lo:=H1.length) (H:=H1) [.zip (H1.length+1),.gw,.lit (.ref H.length) 0,.lit (.lst ((aU (dF line)).drop 1)) 0] (aQ _);generalize eH:H1++[.zip (H1.length+1),.gw,.lit (.ref H.length) 0,.lit (.lst ((aU (dF line)).drop 1)) 0]=H2 at *;refine ak (JM ha hb (tl:=(match cO sh with|.tup l _ _=>l|_=>.nil)) (kk:=(match cO sh with|.tup _ k _=>k|_=>0)) (p:=(match cO sh with|.tup _ _ p=>p|_=>⟨0,0,0,0⟩)) (aU (dF line)).length 0 (dW _) eN Z) λHz F lz=>?_;rw[j7,j7] at F;have em:List.zipWith qB (aU (dF line)) ((aU (dF line)).drop 1)=(List.zipWith (λa b:Nat=>(a,b)) (dF line) ((dF line).drop 1)).map λq=>qB (.int (q.1:Nat)) (.int (q.2:Nat)):=by unfold aU;rw[<- List.map_drop,List.zipWith_map,List.map_zipWith]
 rw[em] at F;have mem:∀q∈List.zipWith (λa b:Nat=>(a,b)) (dF line) ((dF line).drop 1),q.1<=az/\q.2<=az:=λq hq=>by have:=List.of_mem_zip (show(q.1,q.2)∈(dF line).zip ((dF line).drop 1) from hq);exact⟨hm _ this.1,hm _ (List.mem_of_mem_drop this.2)⟩
 have sl:∀(K:Hp),mP (.ref H.length) (.int 1) .none H1=some (.lst ((aU (dF line)).drop 1)):=λO=>by show((aP H1 (.ref H.length)).bind λl=>(aK (Nat.ble 1 az) (some (some (1:Int)))).bind λa=>(some none).map λb=>AV.lst (dq a b l))=_;rw[ha];rfl
 have Pa:∀(K:Hp) (a b:Nat),a<=az->b<=az->mP (a0 row) (.int (a:Nat)) (.int (b:Nat)) K=some (a0 ((row.take b).drop a)):=λK a b ha hb=>by show((some (aU row)).bind λl=>(aK (Nat.ble a az) (some (some (a:Int)))).bind λa=>(aK (Nat.ble b az) (some (some (b:Int)))).map λb=>AV.lst (dq a b l))=_;rw[dU.mpr ha,dU.mpr hb];show some (AV.lst (((aU row).take b).drop a))=_;unfold a0 aU;rw[List.map_drop,List.map_take]
 refine ue (yI (d:=d+1) (tg:=cO sh) (elt:=eV sh) (it:=eO sh) (ifs:=gC sh) (t:=λO=>true) (f:=λv=>match v with|.tup l=>(match l with|[.int a,.int b]=>.str ((row.take b.toNat).drop a.toNat)|_=>.none)|_=>.none) (λO O O=>rfl) (U:=si row lv (some (.ref H.length)) none none) (H0:=H1)
  (e:=λo=>match o with|some (.tup l)=>(match l with|[a,b]=>si row lv (some (.ref H.length)) (some a) (some b)|_=>si row lv (some (.ref H.length)) none none)|_=>si row lv (some (.ref H.length)) none none)
  (bp (bg rfl) rfl (aG rfl (af rfl) (aG rfl (lA (af rfl) (jG aY λO=>rfl) oq (sl H1)) aF)) rz) (yw Z) F rfl (λx hx o K=>?_) (λx hx K i O Y=>⟨[],by rw[cE];exact se⟩) (λx hx O K i O Y=>?_) ?_) λY r=>?_
 ·refine ak (bj.mp hx) λq hq e=>?_;subst e;cases o with
  |none=>rfl
  |some o=>cases o with
   |tup l=>cases l with
    |nil=>rfl
    |cons a l=>cases l with
     |nil=>rfl
     |cons b l=>cases l<;>rfl
   |_=>rfl
 ·refine ak (bj.mp hx) λq hq e=>?_;subst e;have mq:=mem q hq;refine ue (GR (d:=d) (H:=K++Y) (row:=(row.take q.2).drop q.1) (λc hc=>gE c (List.mem_of_mem_take (List.mem_of_mem_drop hc))) (cN (by rw[qo,List.length_take];exact aH (Nat.sub_le ..) (Nat.min_le_right ..)) (cA hr zz))) λY2 r=>?_;refine⟨Y2,?_⟩;rw[<- dA];exact bp (bg rfl) rfl (aG rfl (lA (af rfl) (jG (af rfl) λO=>rfl) (jG (af rfl) λO=>rfl) (Pa _ _ _ mq.1 mq.2)) aF) r
 ·rw[aC,List.length_zipWith];exact cN (Nat.min_le_left ..) (cN lh (cA hz zz))
 ·rw[xD] at r;have e2:((List.zipWith (λa b:Nat=>(a,b)) (dF line) ((dF line).drop 1)).map λq=>qB (.int (q.1:Nat)) (.int (q.2:Nat))).map (λv=>match v with|.tup l=>(match l with|[.int a,.int b]=>AV.str ((row.take b.toNat).drop a.toNat)|_=>.none)|_=>.none)=(eJ row line).map .str:=by unfold eJ;rw[cm,List.map_zipWith,List.map_zipWith];rfl
  rw[e2] at r;have lo1:H.length<=H1.length:=dE.len;have low:aJ H.length H (Hz++.list ((eJ row line).map .str)::Y):=by refine dE.trans (aJ.trans (aJ.mk lz.len (λx hx=>lz.low x (cA hx lo1))) (aJ.app _ ?_));exact aH lo1 lz.len
  refine ue (TX low) λYf ef=>?_;refine⟨Yf,H2.length,?_,?_,?_⟩
  ·rw[<- ef];exact eG (fd:=uZ) (fl:=.ret (.ref H2.length)) (ρ1:=[some (a0 row),some lv,none,none,none,none]) rfl rfl ⟨_,ay (r9 r1 rfl rfl) (cV (gj (mT r.1) λO=>rfl) nofun)⟩ rfl
  ·rw[<- ef,<- r.2];exact cL
  ·exact aH lo1 eN.len
end
end
section
def Xj:∀a b:Nat,((a:Nat):Int).fmod (b:Nat)=((a%b:Nat):Int):=by
 intro n0
 induction n0 with
 |zero=>intro b;rw[Nat.zero_mod];rfl
 |succ n0 ih=>intro _;exact rfl
section
variable {d:Nat}{H:Hp}
variable {a b:Nat}
def DJ(h0:iU (b:Nat) 0=false)(hs:fT (b:Nat)=true):i6 .FloorDiv (.int (a:Nat)) (.int (b:Nat)) H=some (.int ((a/b:Nat):Int)):=by show(aK (!iU (b:Nat) 0&&fT (b:Nat)) (some ((a:Int).fdiv (b:Nat)))).map AV.int=_;rw[h0,hs,JN];rfl
def y8(h0:iU (b:Nat) 0=false):i6 .Mod (.int (a:Nat)) (.int (b:Nat)) H=some (.int ((a%b:Nat):Int)):=by show(aK (!iU (b:Nat) 0) (some ((a:Int).fmod (b:Nat)))).map AV.int=_;rw[h0,Xj];rfl
variable {k:Nat}
def RJ(hk:k<=1000000)(hb:Nat.blt b (2^64)=true):i6 .Pow (.int (b:Nat)) (.int (k:Nat)) H=some (.int ((b^k:Nat):Int)):=by show(aK (Nat.ble k 1000000&&Nat.blt b (2^64)) (some (((b:Nat):Int)^k))).map AV.int=_;rw[dU.mpr hk,hb,Int.natCast_pow];rfl
def abg(i:Int):Av .abs (.int i) H=some (.int (i.natAbs:Nat),H):=by
 cases i with
 |ofNat n=>rfl
 |negSucc n=>rfl
def BJ(i:Int):RC P d (.glob 15) [.int i] H (.int (i.natAbs:Nat)) H:=fF (b:=.abs) rfl (abg i)
def Vg{n:Nat}(h:0<n):iU (n:Nat) 0=false:=by
 cases n with
 |zero=>cases h
 |succ n=>rfl
def RI(hb:b<=16)(hk:k<=40):fT ((b^k:Nat):Int)=true:=by refine bf.mpr (cN (show b^k<=16^40 from ?_) (by decide));exact aH (Nat.pow_le_pow_left hb k) (Nat.pow_le_pow_right (by decide) hk)
def Pc{l:List AV}(hk:k<=az):mP (.lst l) .none (.int (k:Nat)) H=some (.lst (l.take k)):=by show(((some none).bind λa=>(aK (Nat.ble k az) (some (some (k:Int)))).map λb=>AV.lst (dq a b l)))=_;rw[dU.mpr hk];rfl
def Gb{l:List AV}(hk:k<=az):mP (.lst l) (.int (k:Nat)) .none H=some (.lst (l.drop k)):=by show((aK (Nat.ble k az) (some (some (k:Int)))).bind λa=>(some none).map λb=>AV.lst (dq a b l))=_;rw[dU.mpr hk];rfl
noncomputable def pc(h w n:Nat):List Nat:=match n with
 |0=>[h]
 |_=>[h,w]
def dB(h w:Nat)(g:Nat->Nat)(i n:Nat):List Nat:=((List.range' i n).map λk=>pc h w (g k)).flatten
abbrev t9(h w:Nat):AV:=.lst [a0 [h],a0 [h,w]]
def RY{h w n:Nat}(hn:n<2):jo ((n:Nat):Int) [a0 [h],a0 [h,w]]=some (a0 (pc h w n)):=by
 rcases n with _|_|n
 ·rfl
 ·rfl
 ·exact absurd hn (hJ.mpr (Nat.le_add_left 2 n))
def G0(h w n:Nat):(pc h w n).length<=2:=by
 cases n
 ·exact jx 1
 ·exact aQ 2
def Qe(h w:Nat)(g:Nat->Nat):∀(n i:Nat),(dB h w g i n).length<=2*n:=by
 intro n
 induction n with
 |zero=>intro i;exact aQ 0
 |succ n ih=>intro i;show(pc h w (g i)++dB h w g (i+1) n).length<=_;rw[bu];exact aH (Nat.add_le_add (G0 h w (g i)) (ih (i+1))) (bL (mD 2 (2*n)))
def oo(rs:List (List Nat)):AO:=.list (rs.map a0)
abbrev Bw:S:=aW f1.body 5
abbrev Gz:S:=aW (bk Bw) 1
noncomputable abbrev wx(S D F h:AV)(pv:AV)(a:Nat)(x r k:Option AV):aD:=[some S,some D,some F,some h,some pv,some (.ref a),x,r,k]
noncomputable abbrev dI(xi:Int)(k:Nat):Nat:=xi.natAbs/3/2^k%2
def Qh{S D F hv:AV}{h w:Nat}{xi:Int}:∀(n i:Nat) {row:List Nat} {k:Option AV},i+n<=40->row.length+2*n<=1000 ->
  ∃k',RF P d (iM Gz) (.fix (ng i n)) (bk Gz) (wx S D F hv (t9 h w) a (some (.int xi)) (some (a0 row)) k) H .next (wx S D F hv (t9 h w) a (some (.int xi)) (some (a0 (row++dB h w (dI xi) i n))) k') H:=by
 intro n
 induction n with
 |zero=>
  intro i row k hi hl;exact⟨k,by
  show RF P d _ (.fix []) _ _ _ _ (wx S D F hv (t9 h w) a _ (some (a0 (row++[]))) k) _;rw[cE];exact jj rfl⟩
 |succ n ih=>
  intro i row k hi hl;have l1:=G0 h w (dI xi i);have I3:i<=40:=aH (hV ..) hi;refine ue (ih (i+1) (row:=row++pc h w (dI xi i)) (k:=some (.int (i:Nat))) (aH (bL (Nat.add_right_comm i 1 n)) hi) (by rw[bu];exact aH (nW (ib l1 _) _) (aH (bL (by rw[mj,mD 2];rfl)) hl))) λk' r=>?_;have e:row++pc h w (dI xi i)++dB h w (dI xi) (i+1) n=row++dB h w (dI xi) i (n+1):=dA ..;rw[e] at r;have ad:=Ec (H:=H) (l:=aU row) (m:=aU (pc h w (dI xi i))) (by rw[oK,oK];exact aH (aH (ib l1 _) (aH (ib (Nat.le_add_left 2 (2*n)) _) hl)) (by decide));have em:aU row++aU (pc h w (dI xi i))=aU (row++pc h w (dI xi i)):=by unfold aU;rw[bR]
  rw[em] at ad;refine⟨k',gz (f:=.next) rfl rfl (ay (bB (cU (af rfl) (dD (af rfl) (cU (cU (cU (bp (bg rfl) rfl (aG rfl (af rfl) aF) (BJ xi)) aY (DJ (b:=3) rfl rfl)) (cU aY (af rfl) (RJ (b:=2) (aH I3 (by decide)) rfl)) (DJ (Vg (Nat.pow_pos (by decide))) (RI (by decide) I3))) aY (y8 (b:=2) rfl)) (RY (Nat.mod_lt _ (by decide)))) ad) (λO=>rfl) rfl rfl) aV) rfl r⟩
def Qg{S D F hv:AV}{h w:Nat}:∀(xs:List Int) {rs:List (List Nat)} {H:Hp} {x r k:Option AV},ae H a=some (oo rs)->rs.length+xs.length<1000 ->
  ∃x' r' k',RF P d (iM Bw) (.fix (xs.map .int)) (bk Bw) (wx S D F hv (t9 h w) a x r k) H .next (wx S D F hv (t9 h w) a x' r' k') (ai H (oo (rs++xs.map λxi=>dB h w (dI xi) 0 (1+xi.natAbs%3))) a):=by
 intro xs
 induction xs with
 |nil=>
  intro rs H x r k h2 _;exact⟨x,r,k,by
  show RF P d _ _ _ _ _ _ _ (ai H (oo (rs++[])) a);rw[cE,pn h2];exact jj rfl⟩
 |cons xi xs ih=>
  intro rs H x r k h2 hz;rw[jB] at hz;have l3:1+xi.natAbs%3<=4:=ib (bG (Nat.mod_lt _ (by decide))) 1;refine ue (Qh (d:=d) (H:=H) (S:=S) (D:=D) (F:=F) (hv:=hv) (h:=h) (w:=w) (a:=a) (xi:=xi) (1+xi.natAbs%3) 0 (row:=[]) (k:=k) (aH (bL (dW _)) (aH l3 (by decide))) (aH (bL (dW _)) (aH (Nat.mul_le_mul_left 2 l3) (by decide)))) λk1 r1=>?_;rw[List.nil_append] at r1;have ap:=rB (v:=a0 (dB h w (dI xi) 0 (1+xi.natAbs%3))) h2 (by rw[aC];exact cA (j4 hz) (by decide));have em:AO.list (rs.map a0++[a0 (dB h w (dI xi) 0 (1+xi.natAbs%3))])=oo (rs++[dB h w (dI xi) 0 (1+xi.natAbs%3)]):=by unfold oo;rw[bR];rfl
  rw[em] at ap;refine eB (ih (rs:=rs++[dB h w (dI xi) 0 (1+xi.natAbs%3)]) (x:=some (.int xi)) (r:=some (a0 (dB h w (dI xi) 0 (1+xi.natAbs%3)))) (k:=k1) (cF (bE h2)) (by rw[bu];show rs.length+1+_<_;exact j5 ‹_›)) λx' r' k' r2=>?_;rw[mJ,dA] at r2;exact⟨x',r',k',gz (f:=.next) rfl rfl (ay (bB (de (bb:=false) aF rfl) (λO=>rfl) rfl rfl) (ay (gP (bp (bg rfl) rfl (aG rfl (cU aY (cU (bp (bg rfl) rfl (aG rfl (af rfl) aF) (BJ xi)) aY (y8 (b:=3) rfl)) (nC (k:=((1+xi.natAbs%3:Nat):Int)) rfl)) aF) (BG (aH l3 (by decide)))) (v9 0 _) r1) (ay (fL (fu (mk:=.list) (af rfl) (ky h2) rfl rfl (aG rfl (af rfl) aF) ap)) aV))) rfl r2⟩
def W3:∀l:List Int,∃a b c e,l.take 4++[0,1,4,14].drop (l.take 4).length=[a,b,c,e]
 |[]=>⟨_,_,_,_,rfl⟩
 |[a]=>⟨_,_,_,_,rfl⟩
 |[a,b]=>⟨_,_,_,_,rfl⟩
 |[a,b,c]=>⟨_,_,_,_,rfl⟩
 |a::b::c::e::l=>⟨_,_,_,_,rfl⟩
def QG(s:List Int):∃H' h w x y z,RC P (d+1) (.glob 1) [.lst (s.map .int)] H (.ref H.length) H'/\aJ H.length H H'/\ae H' H.length=some (oo ([x,y,z].map λxi=>dB h w (dI xi) 0 (1+xi.natAbs%3)))/\1<=h/\h<16/\w<16:=by
 have z:(1000:Nat)<=az:=by decide
 refine pq (W3 s) λa b c e h4=>?_;have lt:(s.take 4).length<=4:=by rw[List.length_take];exact Nat.min_le_left _ _
 have l4:(s.take 4).length<=az:=aH lt (by decide);have s0:∀H:Hp,mP (.lst (s.map .int)) .none (.int 4) H=some (.lst ((s.take 4).map .int)):=λH=>by rw[List.map_take];exact Pc (k:=4) (by decide)
 have dr:RE P d true (fc (aW f1.body 0)) [some (.lst (s.map .int)),none,none,none,none,none,none,none,none] H (.lst [.int a,.int b,.int c,.int e]) [some (.lst (s.map .int)),none,none,none,none,none,none,none,none] H:=by have ln:=yN (d:=d) (H:=H) (l:=(s.take 4).map .int) (by rw[aC];exact l4);rw[aC] at ln;refine cU (lA (af rfl) oq (jG aY λO=>rfl) (s0 _)) (lA (de (bb:=false) (aG rfl aY (aG rfl aY (aG rfl aY (aG rfl aY aF)))) rfl) (jG (bp (bg rfl) rfl (aG rfl (lA (af rfl) oq (jG aY λO=>rfl) (s0 _)) aF) ln) λO=>rfl) oq (Gb l4)) ?_;have:=Ec (H:=H) (l:=(s.take 4).map .int) (m:=([0,1,4,14].drop (s.take 4).length).map .int) (by rw[aC,aC,qo];show _+(4-_)<=_;exact aH (bL (Nat.add_sub_of_le lt)) (by decide));rw[<- bR,h4] at this;rw[List.map_drop] at this;exact this
 have V3:∀H:Hp,i6 .Add (.int 1) (.int ((a.natAbs%15:Nat):Int)) H=some (.int ((1+a.natAbs%15:Nat):Int)):=λH=>nC rfl;have zR:1+a.natAbs%15<16:=by exact Nat.add_lt_add_left (Nat.mod_lt a.natAbs (show 0<15 by decide)) 1
 have Wg:a.natAbs/15%16<16:=Nat.mod_lt _ (by decide);have Ro:RE P d true (fc (aW f1.body 3)) [some (.lst (s.map .int)),some (.lst [.int a,.int b,.int c,.int e]),some (.int (a.natAbs:Nat)),some (.int ((1+a.natAbs%15:Nat):Int)),none,none,none,none,none] H (t9 (1+a.natAbs%15) (a.natAbs/15%16)) [some (.lst (s.map .int)),some (.lst [.int a,.int b,.int c,.int e]),some (.int (a.natAbs:Nat)),some (.int ((1+a.natAbs%15:Nat):Int)),none,none,none,none,none] H:=de (bb:=false) (aG rfl (de (bb:=false) (aG rfl (af rfl) aF) rfl) (aG rfl (de (bb:=false) (aG rfl (af rfl) (aG rfl (cU (cU (af rfl) aY (DJ (b:=15) rfl rfl)) aY (y8 (b:=16) rfl)) aF)) rfl) aF)) rfl
 have hh:1<=1+a.natAbs%15:=hV _ _;generalize 1+a.natAbs%15=h at *;generalize a.natAbs/15%16=w at *;refine eB (Qg (d:=d) (a:=H.length) (S:=.lst (s.map .int)) (D:=.lst [.int a,.int b,.int c,.int e]) (F:=.int (a.natAbs:Nat)) (hv:=.int (h:Nat)) (h:=h) (w:=w) [b,c,e] (rs:=[]) (H:=H++[oo []]) (x:=none) (r:=none) (k:=none) cL (show 0+3<1000 by decide)) λx' r' k' r1=>?_;rw[rW,List.nil_append] at r1;exact⟨_,h,w,b,c,e,eG (fd:=f1) (fl:=.ret (.ref H.length)) (ρ1:=[some (.lst (s.map .int)),none,none,none,none,none,none,none,none]) rfl rfl ⟨_,ay (bB dr (λO=>rfl) rfl rfl)
  (ay (bB (bp (bg rfl) rfl (aG rfl (dD (af rfl) aY rfl) aF) (BJ a)) (λO=>rfl) rfl rfl)
  (ay (bB (cU aY (cU (af rfl) aY (y8 (b:=15) rfl)) (V3 _)) (λO=>rfl) rfl rfl)
  (ay (bB Ro (λO=>rfl) rfl rfl)
  (ay (bB (de (bb:=true) aF rfl) (λO=>rfl) rfl rfl)
  (ay (gP (lA (af rfl) (jG aY λO=>rfl) oq (Gb (k:=1) (by decide))) rfl r1)
  (cV (gj (af rfl) λO=>rfl) nofun))))))⟩ rfl,aJ.app _ (aQ _),cL,hh,zR,Wg⟩
end
end
section
variable {H:Hp}
def Qu{P:bO}{d:Nat}{q:Bool}{a b:C}{p:Pos}{U ρ1 ρ2:aD}{H1 H2:Hp}{x v:AV}(h1:RE P d q a U H x ρ1 H1)(h:jg x H1=some true)(h2:RE P d q b ρ1 H1 v ρ2 H2):RE P d q (.gX true (.cons a (.cons b .nil)) p) U H v ρ2 H2:=.step (.bind h1 (.bind (.rd h) h2))
def P1{P:bO}{d:Nat}{q t:Bool}{a b:C}{p:Pos}{U ρ1 ρ2:aD}{H1 H2:Hp}(h1:RT P d q a U H false ρ1 H1)(h2:RT P d q b ρ1 H1 t ρ2 H2):RT P d q (.gX false (.cons a (.cons b .nil)) p) U H t ρ2 H2:=by refine .step (.bind h1 (.bind h2 ?_));cases t<;>exact .ret
def aJ.next{H1 H2:Hp}(a:aJ H.length H H1)(b:aJ H1.length H1 H2):aJ H.length H H2:=a.trans (aJ.mk b.len (λx hx=>b.low x (cA hx a.len)))
def aJ.at{H':Hp}{a:Nat}{o:AO}(k:aJ H.length H H')(h:ae H a=some o):ae H' a=some o:=(k.low a (bE h)).trans h
def uv(H Y:Hp):aJ H.length H (H++Y):=aJ.app _ (aQ _)
def J2:∀l:List Ky,kC (l.map .str) (l.map .str)=some true:=by
 intro l
 induction l with
 |nil=>exact rfl
 |cons k l ih=>show(some (au k k)).bind (λb=>match b with|true=>kC (l.map .str) (l.map .str)|false=>some false)=_;rw[iZ];exact ih
def XT:∀l:List (List Ky),kC (l.map dh) (l.map dh)=some true:=by
 intro l
 induction l with
 |nil=>exact rfl
 |cons k l ih=>show(kC (k.map .str) (k.map .str)).bind (λb=>match b with|true=>kC (l.map dh) (l.map dh)|false=>some false)=_;rw[J2];exact ih
def Sl:∀l:List (List Ky),fU (l.map dh) 2=true:=by
 intro l
 induction l with
 |nil=>exact rfl
 |cons k l ih=>show(match fU (k.map .str) 1 with|true=>fU (l.map dh) 2|false=>false)=_;rw[yV];exact ih
noncomputable def jW(H:Hp):List AV->List (List Ky)->Prop
 |[],ls=>ls=[]
 |v::vs,ls=>∃l r,ls=l::r/\aP H v=some (l.map .str)/\jW H vs r
section
variable {d a b:Nat}{H:Hp}
theorem jW.Yy:∀{vs:List AV} {ls:List (List Ky)},jW H vs ls->vs.map (d3 H 2)=ls.map dh:=by
 intro vs
 induction vs with
 |nil=>intro ls h;rw[show ls=[] from h];rfl
 |cons v vs ih=>intro ls h;refine bo h λl r e1 e2 e3=>?_;rw[e1,bQ,bQ,ih e3,Ag e2];rfl
variable {l:List Ky}
def J0{v w:AV}(ha:aP H v=some (l.map .str))(hb:aP H w=some (l.map .str)):jP v w H=some true:=by unfold jP;rw[Ag ha,Ag hb];show aK (fU (l.map .str) 2&&fU (l.map .str) 2) (kC (l.map .str) (l.map .str))=_;rw[yV,J2];rfl
def Hr{v w:AV}(ha:aP H v=some (l.map .str))(hb:aP H w=some (l.map .str)):gF .NotEq v w H=some false:=by show(jP v w H).map (!·)=_;rw[J0 ha hb];rfl
def SX{v w:AV}{vs ws:List AV}{ls:List (List Ky)}(ha:aP H v=some vs)(h1:jW H vs ls)(hb:aP H w=some ws)(h2:jW H ws ls):gF .NotEq v w H=some false:=by
 show(jP v w H).map (!·)=_;have e:∀{v:AV} {vs:List AV},aP H v=some vs->jW H vs ls->d3 H 3 v=.lst (ls.map dh):=λ{v vs} ha h1=>by show(match aP H v with|some l=>AV.lst (l.map (d3 H 2))|none=>v)=_;rw[ha,<- h1.Yy]
 unfold jP;rw[e ha h1,e hb h2];show(aK (fU (ls.map dh) 2&&fU (ls.map dh) 2) (kC (ls.map dh) (ls.map dh))).map (!·)=_;rw[Sl,XT];rfl
def Fp:∀l:List Ky,jF (l.map .str)=some l:=by
 intro l
 induction l with
 |nil=>exact rfl
 |cons k l ih=>show(jF (l.map .str)).map (k::·)=_;rw[ih];rfl
def F7(l:List Ky):iO (l.map .str)=some ((eZ cg l).map .str):=by
 unfold iO;cases l with
 |nil=>rfl
 |cons k l=>show(jF ((k::l).map .str)).map (λts=>(eZ cg ts).map AV.str)=_;rw[Fp];rfl
def QA(hl:l.length<64):RC P d (.glob 14) [.lst (l.map .str)] H (.lst ((eZ cg l).map .str)) H:=fF (b:=.sorted) rfl (by show aK (Nat.blt (l.map AV.str).length 64) ((iO (l.map .str)).map λr=>(AV.lst r,H))=_;rw[F7,aC,bf.mpr hl];rfl)
def QB(hl:l.length<64):RC P d (.glob 14) [.lL l] H (.lst ((eZ cg l).map .str)) H:=fF (b:=.sorted) rfl (by show aK (Nat.blt (l.map AV.str).length 64) ((iO (l.map .str)).map λr=>(AV.lst r,H))=_;rw[F7,aC,bf.mpr hl];rfl)
def QF{n:Nat}(h:ae H n=some (.list (l.map .str)))(hl:l.length<64):RC P d (.glob 30) [.ref n] H (.lL (gi l)) H:=fF (b:=.set) rfl (by show((aP H (.ref n)).bind λl=>aK (Nat.blt l.length 64) ((jF l).map λts=>(AV.lL (gi ts),H)))=_;rw[ej h];show aK (Nat.blt (l.map AV.str).length 64) ((jF (l.map .str)).map λts=>(AV.lL (gi ts),H))=_;rw[Fp,aC,bf.mpr hl];rfl)
noncomputable def ym:AV->AV:=λv=>match v with|.lst l=>.str (l.map λx=>match x with|.int i=>i.toNat|_=>0)|v=>v
def A8(r:List Nat):ym (a0 r)=.str r:=by show AV.str ((aU r).map _)=_;unfold aU;rw[cm];exact congrArg AV.str (List.map_id r)
def Fe(rs:List (List Nat)):AO.list ((rs.map a0).map ym)=aS rs:=by unfold aS;rw[cm];exact congrArg AO.list (jC λr O=>A8 r)
def nH(r:List Nat):Prop:=(∀c∈r,c<16)/\(∃c t,r=c::t/\1<=c)/\(r.length<=40)
section
variable {b1}(x:nH b1)
def nH.mk:=jn (nH b1) rfl
def nH.lt:=x.1
def nH.hd:=x.2.1
def nH.len:=x.2.2
end
abbrev sI(n:Nat):S:=aW f0.body n
abbrev uB:C:=fc (sI 1)
abbrev zv:C:=match iL (sI 2) with|.cmp _ _ b _=>b|_=>.nil
noncomputable abbrev gR(S:AV)(r w k c s t u b:Option AV):aD:=[some S,r,w,k,c,s,t,u,b,none,none,none,none,none,none,none,none]
variable {rs:List (List Nat)}
def UC{S:AV}(ok:∀r∈rs,nH r)(hl:rs.length<az)(h:ae H a=some (oo rs)):
  ∃Y,RM P (d+1) (eV uB) (cO uB) (eO uB) .nil (gR S (some (.ref a)) none none none none none none none) H (.ref H.length) (gR S (some (.ref a)) none none none none none none none) (H++aS rs::Y):=by
 have z:(1000:Nat)<=az:=by decide
 refine ue (tY (d:=d+1) (H:=H) (tg:=cO uB) (elt:=eV uB) (it:=eO uB) (e:=λo=>[some S,some (.ref a),none,none,none,none,none,none,none,o,none,none,none,none,none,none,none]) (f:=ym) (λO O O=>rfl) (U:=gR S (some (.ref a)) none none none none none none none) (H0:=H) (af rfl) (pE h) (xE h) rfl (λO O O O=>rfl)
  (λx hx Y=>by refine ak (bj.mp hx) λr hr aa=>?_;subst aa;have o:=ok r hr;have wW:=o.len;rw[A8];refine ue (Qx (d:=d) (H:=H++Y) o.lt (cN wW (by decide))) λY' t=>?_;refine⟨Y',?_⟩;rw[<- dA];exact bp (bg rfl) rfl (aG rfl (bp (bg rfl) rfl (aG rfl (t6 (bp (bg rfl) rfl (aG rfl (af rfl) aF) (QO o.lt wW)) rfl) aF) (QW o.lt wW λc r e=>by refine dJ o.hd λc' t' e' h'=>?_;rw[e'] at e;cases e;exact h')) aF) t) (by rw[aC];exact hl)) λY r=>?_
 rw[Fe] at r;exact⟨Y,r⟩
def UD{S:AV}{w:Option AV}(ok:∀r∈rs,nH r)(hl:rs.length<az)(h:ae H a=some (oo rs)):
  ∃Y,RE P (d+1) true zv (gR S (some (.ref a)) w none none none none none none) H (.ref H.length) (gR S (some (.ref a)) w none none none none none none) (H++aS rs::Y):=by
 refine ue (tY (d:=d+1) (H:=H) (tg:=cO zv) (elt:=eV zv) (it:=eO zv) (e:=λo=>[some S,some (.ref a),w,none,none,none,none,none,none,none,o,none,none,none,none,none,none]) (f:=ym) (λO O O=>rfl) (U:=gR S (some (.ref a)) w none none none none none none) (H0:=H) (af rfl) (pE h) (xE h) rfl (λO O O O=>rfl)
  (λx hx Y=>by refine ak (bj.mp hx) λr hr aa=>?_;subst aa;have o:=ok r hr;have wW:=o.len;rw[A8];refine ue (GR (d:=d) (H:=H++Y) o.lt (cN wW (by decide))) λY' t=>?_;refine⟨Y',?_⟩;rw[<- dA];exact bp (bg rfl) rfl (aG rfl (af rfl) aF) t) (by rw[aC];exact hl)) λY r=>?_
 rw[Fe] at r;exact⟨Y,mT r⟩
end
end
section
theorem JK:∀{a b:List Nat},aU a=aU b->a=b:=by
 intro a
 induction a with
 |nil=>
  intro t_ h;cases t_ with
  |nil=>exact rfl
  |cons _ _=>cases h
 |cons x a ih=>
  intro t_ h;cases t_ with
  |nil=>cases h
  |cons y b=>
   obtain⟨h1,h2⟩:=nR h;have h1:(x:Int)=y:=by injection h1
   rw[Int.ofNat_inj.mp h1,ih h2]
def Qc{a b:List Nat}(h:a0 a=a0 b):a=b:=JK (by injection h)
theorem Tu{α β γ:Type}{f:α->β->γ}{x:γ}:∀{l:List α} {m:List β},x∈List.zipWith f l m->∃a∈l,∃b∈m,x=f a b:=by
 intro l
 induction l with
 |nil=>exact λh=>absurd h qp
 |cons a l ih=>
  intro m h;cases m with
  |nil=>exact absurd h qp
  |cons b m=>
  rcases bl.mp h with rfl|h
  ·exact⟨a,bz,b,bz,rfl⟩
  ·obtain⟨a',ha,b',hb,e⟩:=ih h;exact⟨a',bI _ ha,b',bI _ hb,e⟩
def LL(n:Nat)(H:Hp)(x v:AV)(K:Hp):Prop:=∃row line lv m,x=qB (a0 row) lv/\aP H lv=some (aU line)/\v=.ref m/\n<m/\ae K m=some (.list ((eJ row line).map .str))
theorem Yo{n:Nat}{H K:Hp}:∀{rows:List (List Nat)} {vs ws:List AV} {ms:List (List Nat)},gJ H vs ms->vC (LL n H) (List.zipWith qB (rows.map a0) vs) ws K->jW K ws (List.zipWith eJ rows ms):=by
 intro rows
 induction rows with
 |nil=>intro vs ws ms h r;have r:ws=[]:=r;subst r;rfl
 |cons row rows ih=>
  intro t_ ws ms h r;cases t_ with
  |nil=>have r:ws=[]:=r;have h:ms=[]:=h;subst r;subst h;rfl
  |cons v vs=>
   refine bo h λl t e1 e2 e3=>?_;obtain⟨w,Np,q1,⟨abH,abK,lv,m,a1,a2,a3,a4,a5⟩,q3⟩:=r;injection a1 with a1
   obtain⟨b1,b2⟩:=nR a1;obtain⟨b2,_⟩:=nR b2;subst b2;have:=Qc b1;subst this;rw[e2] at a2;have:=JK (sj a2);subst this;rw[e1,q1,a3];exact⟨_,_,rfl,ej a5,ih e3 q3⟩
section
variable {d a:Nat}{H H0:Hp}
abbrev oB:C:=fc (sI 5)
noncomputable abbrev DI(S:AV)(r w k c s t:Option AV)(x y:Option AV):aD:=[some S,r,w,k,c,s,t,none,none,none,none,x,y,none,none,none,none]
def UI{S:AV}{w k c s t:Option AV}{rows ms:List (List Nat)}(h:ae H0 a=some (oo rows))(hf:jr rows=some ms)(gE:∀r∈rows,∀c∈r,c<16)(h9:∀r∈rows,r.length<900)(hz:rows.length<1000)(hm:∀l∈ms,l.length<1000):
  ∃H' m ws,RM P (d+2) (eV oB) (cO oB) (eO oB) (gC oB) (gR S (some (.ref a)) w k c s t none none) H0 (.ref m) (gR S (some (.ref a)) w k c s t none none) H'/\ae H' m=some (.list ws)/\jW H' ws (List.zipWith eJ rows ms)/\aJ H0.length H0 H':=by
 obtain⟨H1,mv,vs,rf,hv,hk,dE⟩:=QZ (d:=d) h gE h9 hz hf;have ha:=fW dE (aQ _) (ej h);have rz:=BF (d:=d+2) ha hv;have Z:=AX (H:=H1) (a:=.ref a) (b:=mv);have eN:=uv H1 [.zip (H1.length+1),.gw,.lit (.ref a) 0,.lit mv 0];have l2:H1.length<(H1++[AO.zip (H1.length+1),AO.gw,AO.lit (.ref a) 0,AO.lit mv 0]).length:=by rw[bu];exact Nat.lt_add_of_pos_right (by decide:0<4)
 generalize H1++[.zip (H1.length+1),.gw,.lit (.ref a) 0,.lit mv 0]=H2 at *;refine ak (JM ha hv (tl:=(match cO oB with|.tup l _ _=>l|_=>.nil)) (kk:=(match cO oB with|.tup _ k _=>k|_=>0)) (p:=(match cO oB with|.tup _ _ p=>p|_=>⟨0,0,0,0⟩)) (rows.map a0).length 0 (dW _) eN Z) λHz F lz=>?_;rw[j7,j7] at F;have mem:∀x∈List.zipWith qB (rows.map a0) vs,∃row lv line,row∈rows/\x=qB (a0 row) lv/\line∈ms/\aP H1 lv=some (aU line):=λx hx=>by obtain⟨u,hu,lv,hl,e⟩:=Tu hx;refine ak (bj.mp hu) λrow hr e1=>?_;subst e1;obtain⟨line,h1,h2⟩:=hk.mem.1 lv hl;exact⟨row,lv,line,hr,e,h1,h2⟩
 refine cb (Bx (d:=d+2) (H:=H2) (Hz:=Hz) (I:=λK=>aJ H1.length H1 K) (t:=λO=>true) (ifs:=.nil) (R:=LL H2.length H1) (tg:=cO oB) (elt:=eV oB) (it:=eO oB) (U:=gR S (some (.ref a)) w k c s t none none) (H0:=H0)
  (e:=λo=>match o with|some (.tup l)=>(match l with|[x,y]=>DI S (some (.ref a)) w k c s t (some x) (some y)|_=>DI S (some (.ref a)) w k c s t none none)|_=>DI S (some (.ref a)) w k c s t none none)
  (λO O O=>rfl) (λx v K K' h1 h2=>?_) (bp (bg rfl) rfl (aG rfl (af rfl) (aG rfl (bp (bg rfl) rfl (aG rfl (af rfl) aF) rf) aF)) rz) (yw Z) F rfl (λx hx o K=>?_) (λO O K i O Y=>⟨[],by rw[cE];exact se⟩) (λx hx O K i hK o Y=>?_) ?_) λY ws q=>?_
 ·obtain⟨row,line,lv,m,a1,a2,a3,a4,a5⟩:=h1;exact⟨row,line,lv,m,a1,a2,a3,a4,h2 m _ a4 a5⟩
 ·obtain⟨row,lv,line,_,e,_,_⟩:=mem x hx;subst e;cases o with
  |none=>rfl
  |some o=>cases o with
   |tup l=>cases l with
    |nil=>rfl
    |cons a l=>cases l with
     |nil=>rfl
     |cons b l=>cases l<;>rfl
   |_=>rfl
 ·obtain⟨row,lv,line,hr,e,hl,IZ⟩:=mem x hx;subst e;refine bo (QL (d:=d) (H:=K++o::Y) (row:=row) (lv:=lv) (line:=line) (gE row hr) (jb (h9 row hr) (by decide)) (oA (fW i (aQ _) IZ) _) (hm line hl)) λY2 m r1 r2 r3=>?_;have e2:K++o::(Y++Y2)=K++o::Y++Y2:=by rw[dA];rfl
  refine⟨.ref m,Y2,?_,row,line,lv,m,rfl,IZ,rfl,?_,?_⟩
  ·rw[e2];exact bp (bg rfl) rfl (aG rfl (af rfl) (aG rfl (af rfl) aF)) r1
  ·rw[bu,hK] at r3;exact cA (Nat.lt_add_of_pos_right (mE _)) r3
  ·rw[e2];exact r2
 ·rw[List.length_zipWith,aC];exact cN (Nat.min_le_left ..) (cA hz (by decide))
 ·rw[xD] at q;refine⟨_,H2.length,ws,q.1,by rw[<- q.2.2];exact cL,Yo hk q.2.1,?_⟩;exact(dE.next lz).trans (aJ.app _ (aH dE.len lz.len))
end
end
section
section
variable {d a:Nat}{H:Hp}
abbrev uA:C:=qh (qh (fc (sI 6)))
abbrev Ju:C:=match eV uA with|.gen t _ _=>t|_=>.nil
abbrev WN:C:=match eV uA with|.gen _ _ e=>e|_=>.nil
noncomputable abbrev Dl(S:AV)(r w k c s t u:Option AV)(x y:Option AV):aD:=[some S,r,w,k,c,s,t,u,none,none,none,none,none,x,y,none,none]
def OS{v:AV}{l:List AV}{s2:ba}(h:aP H v=some l)(hs:dX v H=some s2)(Y:Hp):dX v (H++Y)=some s2:=by
 rcases uu h with e|⟨n,e,hn⟩
 ·rw[e] at hs⊢;exact hs
 ·rw[e] at hs⊢;rw[pE hn] at hs;rw[pE (bU hn)];exact hs
variable {r w k c t u:Option AV}
def UH{S:AV}{s:Option AV}:∀(ws:List AV) {ls:List (List Ky)} {src:ba} {acc:List AV} {Y:Hp} {x y:Option AV},kM (Is H) (cO uA) H src ws H->jW H ws ls->acc.length+ls.flatten.length<az ->
  ∃x' y' Y',RK P d (cO uA) src (gC uA) (eV uA) H.length (Dl S r w k c s t u x y) (H++.list acc::Y) (Dl S r w k c s t u x' y') (H++.list (acc++ls.flatten.map .str)::(Y++Y')):=by
 intro ws
 induction ws with
 |nil=>
  intro ls src acc Y x y F L hz;exact⟨x,y,[],by
  rw[show ls=[] from L];show RK P d _ _ _ _ _ _ _ _ (H++.list (acc++[])::(Y++[]));rw[cE,cE];exact Bz (F.1 _)⟩
 |cons v ws ih=>
  intro ls src acc Y x y F L hz;refine ka F λsrc' H1 hn i l1 F'=>?_;clear F;cases i;refine bo L λl r1 e1 e2 e3=>?_;subst e1;rw[List.flatten_cons,bu] at hz;refine ak (we (tg:=Ju) e2) λs2 nj F2=>?_;refine eB (GF (d:=d) (H:=H) (Hz:=H) (I:=Is H) (tg:=Ju) (ifs:=.nil) (elt:=WN) (e:=λo=>Dl S r w k c s t u (some v) o) (t:=λO=>true) (R:=λx v O=>v=x) (λO O O=>rfl) (λO O O O h O=>h) (l.map .str) (acc:=acc) (Y:=Y) (o:=y) F2 rfl (λO O O O=>rfl) (λO O K i O Y=>⟨[],by rw[cE];exact se⟩) (λz hz O K i O b Y=>⟨z,[],by rw[cE];exact af rfl,rfl⟩) (by rw[aC];exact cN (ib (hV ..) _) hz)) λo' Y1 vs q=>?_;have ev:vs=(l.map AV.str):=by have:=GJ (f:=λv=>v) q.2.1;rw[xD,List.map_id'] at this;exact this
  subst ev;refine eB (ih (acc:=acc++l.map .str) (Y:=Y++Y1) (x:=some v) (y:=o') F' e3 (by rw[bu,aC,mj];exact hz)) λx' y' Y2 r2=>?_;refine⟨x',y',Y1++Y2,wz (hn _) rfl se ⟨_,_,Qk (af rfl) (src:=s2) ?_ q.1,?_⟩⟩
  ·exact OS e2 nj _
  ·rw[List.flatten_cons,bR,<- dA,<- dA];exact r2
def UJ{S:AV}{s:Option AV}{ws:List AV}{ls:List (List Ky)}(h:ae H a=some (.list ws))(L:jW H ws ls)(h1:ls.flatten.length<64)(h2:(gi ls.flatten).length<64):
  ∃Y,RE P d true (fc (sI 6)) (gR S r w k c s t (some (.ref a)) none) H (.lst ((eZ cg (gi ls.flatten)).map .str)) (gR S r w k c s t (some (.ref a)) none) (H++Y):=by
 refine eB (UH (d:=d) (S:=S) (r:=r) (w:=w) (k:=k) (c:=c) (s:=s) (t:=t) (u:=some (.ref a)) ws (acc:=[]) (Y:=[]) (x:=none) (y:=none) (xE h) L (cN (bL (dW _)) (jb h1 (by decide)))) λx' y' Y' q=>?_;refine⟨.list (ls.flatten.map .str)::Y',?_⟩;exact bp (bg rfl) rfl (aG rfl (bp (bg rfl) rfl (aG rfl (mT (By (af rfl) (pE h) q)) aF) (QF (l:=ls.flatten) cL h1)) aF) (QB h2)
noncomputable abbrev KY(c:C):C:=match c with|.gX _ (.cons _ (.cons b _)) _=>b|_=>.nil
abbrev wV:C:=Cp (KY (iL (sI 7)))
noncomputable def iY:List (Option (List Ky))->List (List Ky)->Bool
 |[],ls=>ls.isEmpty
 |x::xs,ls=>match ls with
  |[]=>false
  |l::ls=>match x with
   |none=>false
   |some k=>eqLs k l&&iY xs ls
where
 eqLs:List Ky->List Ky->Bool
 |[],m=>m.isEmpty
 |a::l,m=>match m with
  |[]=>false
  |b::m=>au a b&&eqLs l m
theorem DA:∀{l m:List Ky},iY.eqLs l m=true->l=m:=by
 intro l
 induction l with
 |nil=>
  intro t_ h;cases t_ with
  |nil=>exact rfl
  |cons _ _=>cases h
 |cons a l ih=>
  intro t_ h;cases t_ with
  |nil=>cases h
  |cons b m=>exact us h λh1 h2=>by rw[oM h1,ih h2]
theorem O5{S:Sp}:∀{ws:List Ky} {ls:List (List Ky)},iY (ws.map λw=>di w S) ls=true->jW H (ws.map λw=>(bT w (cS S)).getD .none) ls:=by
 intro ws
 induction ws with
 |nil=>
  intro t_ h;cases t_ with
  |nil=>exact rfl
  |cons _ _=>cases h
 |cons w ws ih=>
  intro t_ h;cases t_ with
  |nil=>cases h
  |cons l ls=>
   have h:(match di w S with|none=>false|some k=>iY.eqLs k l&&iY (ws.map λw=>di w S) ls)=true:=h;cases e:di w S with
   |none=>rw[e] at h;cases h
   |some k=>rw[e] at h;refine us h λh1 h2=>?_;have:=DA h1;subst this;exact⟨k,ls,rfl,by show aP H ((bT w (cS S)).getD .none)=_;rw[zp,e];rfl,ih h2⟩
def UG{S:AV}{b:Option AV}{a4:Nat}{ws:List Ky}{jU:Sp}(h1:ae H a=some (aS ws))(h2:ae H a4=some (.dict jU.length (cS jU)))(hz:ws.length<az):
  ∃Y,RE P d true wV (gR S r (some (.ref a)) k c (some (.ref a4)) t u b) H (.ref H.length) (gR S r (some (.ref a)) k c (some (.ref a4)) t u b) (H++.list (ws.map λw=>(bT w (cS jU)).getD .none)::Y):=by
 refine ue (sf (d:=d) (H:=H) (tg:=cO wV) (ifs:=gC wV) (elt:=eV wV) (it:=eO wV) (e:=λo=>[some S,r,some (.ref a),k,c,some (.ref a4),t,u,b,none,none,none,none,none,none,o,none]) (t:=λO=>true) (g:=λw=>(bT w (cS jU)).getD .none) (λO O O=>rfl) (U:=gR S r (some (.ref a)) k c (some (.ref a4)) t u b) (af rfl) (pE h1) (xE h1) rfl (λO O O O=>rfl) (λw hw Y=>⟨[],by rw[cE];exact se⟩) (λw hw O Y=>⟨[],?_⟩) hz) λY q=>?_
 ·rw[cE];exact fu (mk:=.dict) (af rfl) (sJ (bU h2)) rfl rfl (aG rfl (af rfl) aF) (Dm (bU h2))
 ·rw[List.filter_eq_self.mpr λO O=>rfl] at q;exact⟨Y,mT q⟩
abbrev UK:C:=match sI 8 with|.ret e _=>e|_=>.nil
abbrev uz:C:=Cp (KY UK)
def sk(S:Sp)(w:Ky):Bool:=Nat.blt w.length 1000&&match di w S with|some l=>au l.flatten w|none=>false
def UY{l:List Ky}(hz:l.flatten.length<=az):jK .str 5 (.str []) [dh l] H=some (.str l.flatten,H):=by show((pX (l.map .str)).bind λx=>aK (Nat.ble x.length az) (some (AV.str x,H)))=_;rw[Ie];show aK (Nat.ble l.flatten.length az) _=_;rw[dU.mpr hz];rfl
def UE{S:AV}{b:Option AV}{a4:Nat}{jU:Sp}(h2:ae H a4=some (.dict jU.length (cS jU)))(hz:jU.length<az)(hj:∀p∈jU,sk jU p.1=true):
  ∃Y,RE P d true uz (gR S r w k c (some (.ref a4)) t u b) H (.ref H.length) (gR S r w k c (some (.ref a4)) t u b) (H++.list []::Y):=by
 have F:=Xs (tg:=cO uz) h2 (cS jU).length 0 (dW _);rw[j7] at F;have es:(cS jU).map (λp=>AV.str p.1)=(jU.map (·.1)).map .str:=by unfold cS;rw[cm,cm];rfl
 rw[es] at F;refine ue (sf (d:=d) (H:=H) (tg:=cO uz) (ifs:=gC uz) (elt:=eV uz) (it:=eO uz) (e:=λo=>[some S,r,w,k,c,some (.ref a4),t,u,b,none,none,none,none,none,none,none,o]) (t:=λO=>false) (g:=λw=>.str w) (λO O O=>rfl) (U:=gR S r w k c (some (.ref a4)) t u b) (af rfl) (FY h2) F rfl (λO O O O=>rfl) (λw hw Y=>⟨[],?_⟩) (λw hw q Y=>by cases q) (by rw[aC];exact hz)) λY q=>?_
 ·rw[cE];refine ak (bj.mp hw) λp hp e=>?_;subst e;refine us (hj p hp) λz1 h=>?_;cases e:di p.1 jU with
  |none=>rw[e] at h;cases h
  |some l=>
   rw[e] at h;have h:l.flatten=p.1:=oM h;have ne:gF .NotEq (.str l.flatten) (.str p.1) (H++Y)=some false:=by show some (!au l.flatten p.1)=_;rw[h,iZ];rfl
   exact qH (bC (fu (mk:=.str) aY rfl rfl rfl (aG rfl (dD (af rfl) (af rfl) (vW (bU h2) (by rw[zp,e];rfl):jh (.ref a4) (.str p.1) (H++Y)=some (dh l))) aF) (UY (by rw[h];exact aH (bG (bf.mp z1)) (by decide)))) (af rfl) ne)
 ·rw[List.filter_eq_nil_iff.mpr λO O=>kO] at q;exact⟨Y,mT q⟩
end
end
section
def pR(ws K:List Ky)(S:Sp)(Oo:List Ky)(ms:List (List Nat)):Bool:=
 (ms.all λl=>Nat.blt l.length 1000)&&(Nat.blt K.length 64&&(Nat.blt (List.zipWith eJ ws ms).flatten.length 64&&(Nat.blt (gi (List.zipWith eJ ws ms).flatten).length 64 &&
 (iY.eqLs (eZ cg K) (eZ cg (gi (List.zipWith eJ ws ms).flatten))&&(iY (ws.map λw=>di w S) (List.zipWith eJ ws ms)&&(iY.eqLs (S.map (·.1)) Oo&&(Nat.blt S.length 1000&&S.all λp=>sk S p.1)))))))
def mZ(ws:List Ky):Bool:=match rn ws with
 |none=>false
 |some R=>match lu R.1 R.2 with
  |none=>false
  |some S=>match km R.1 R.2 with
   |none=>false
   |some Oo=>match jr ws with
    |none=>false
    |some ms=>pR ws R.1 S Oo ms
def Lw(ws:List Ky)(R:List Ky×List bA)(S:Sp)(Oo:List Ky)(ms:List (List Nat)):Prop:=(rn ws=some R)/\(lu R.1 R.2=some S)/\(km R.1 R.2=some Oo)/\(jr ws=some ms)/\(∀l∈ms,l.length<1000)/\(R.1.length<64)/\((List.zipWith eJ ws ms).flatten.length<64)/\((gi (List.zipWith eJ ws ms).flatten).length<64)/\(eZ cg R.1=eZ cg (gi (List.zipWith eJ ws ms).flatten))/\(iY (ws.map λw=>di w S) (List.zipWith eJ ws ms)=true)/\(S.map (·.1)=Oo)/\(S.length<1000)/\(∀p∈S,sk S p.1=true)
section
variable {b1 b2 b3 b4 b5}(x:Lw b1 b2 b3 b4 b5)
def Lw.mk:=λm1 m2 m3 m4 m5 m6 m7 m8 m9 kj ki mX pV=>(⟨m1,m2,m3,m4,m5,m6,m7,m8,m9,kj,ki,mX,pV⟩:Lw b1 b2 b3 b4 b5)
def Lw.eu:=x.1
def Lw.sp:=x.2.1
def Lw.lo:=x.2.2.1
def Lw.fo:=x.2.2.2.1
def Lw.ml:=x.2.2.2.2.1
def Lw.kl:=x.2.2.2.2.2.1
def Lw.dl:=x.2.2.2.2.2.2.1
def Lw.sl:=x.2.2.2.2.2.2.2.1
def Lw.eq:=x.2.2.2.2.2.2.2.2.1
def Lw.Yp:=x.2.2.2.2.2.2.2.2.2.1
def Lw.told:=x.2.2.2.2.2.2.2.2.2.2.1
def Lw.len:=x.2.2.2.2.2.2.2.2.2.2.2.1
def Lw.join:=x.2.2.2.2.2.2.2.2.2.2.2.2
end
def TK{ws:List Ky}(h:mZ ws=true):∃R S Oo ms,Lw ws R S Oo ms:=by
 unfold mZ at h;cases h1:rn ws with
 |none=>rw[h1] at h;cases h
 |some R=>
  rw[h1] at h;have h:(match lu R.1 R.2 with|none=>false|some S=>match km R.1 R.2 with|none=>false|some Oo=>match jr ws with|none=>false|some ms=>pR ws R.1 S Oo ms)=true:=h;cases h2:lu R.1 R.2 with
  |none=>rw[h2] at h;cases h
  |some S=>
   rw[h2] at h;have h:(match km R.1 R.2 with|none=>false|some Oo=>match jr ws with|none=>false|some ms=>pR ws R.1 S Oo ms)=true:=h;cases h3:km R.1 R.2 with
   |none=>rw[h3] at h;cases h
   |some Oo=>
    rw[h3] at h;have h:(match jr ws with|none=>false|some ms=>pR ws R.1 S Oo ms)=true:=h;cases h4:jr ws with
    |none=>rw[h4] at h;cases h
    |some ms=>rw[h4] at h;refine NK h λk1 k2 k3 k4 k5 k6 k7 k8 k9=>?_;exact⟨R,S,Oo,ms,Lw.mk h1 h2 h3 h4 (λl hl=>bf.mp (fB.mp k1 l hl)) (bf.mp k2) (bf.mp k3) (bf.mp k4) (DA k5) k6 (DA k7) (bf.mp k8) (λp hp=>fB.mp k9 p hp)⟩
def RV{h w n:Nat}(h1:h<16)(h2:w<16):∀c∈pc h w n,c<16:=by
 cases n with
 |zero=>intro c hc;rw[fR.mp hc];exact h1
 |succ n=>intro c hc;rcases bl.mp hc with rfl|hc;exact h1;rw[fR.mp hc];exact h2
def Qb{h w:Nat}{xi:Int}(h0:1<=h)(h1:h<16)(h2:w<16):nH (dB h w (dI xi) 0 (1+xi.natAbs%3))/\(dB h w (dI xi) 0 (1+xi.natAbs%3)).length<900:=by
 have ln:=Qe h w (dI xi) (1+xi.natAbs%3) 0;have ln:=aH ln (Nat.mul_le_mul_left 2 (ib (bG (Nat.mod_lt _ (by decide):xi.natAbs%3<3)) 1));refine⟨(nH.mk (λc hc=>?_) ?_ (aH ln (by decide))),cN ln (by decide)⟩
 ·unfold dB at hc;refine ak (List.mem_flatten.mp hc) λl hl hc=>?_;refine ak (bj.mp hl) λk O e=>?_;subst e;exact RV h1 h2 c hc
 ·rw[mD];show ∃c t,pc h w (dI xi 0)++dB h w (dI xi) 1 (xi.natAbs%3)=c::t/\1<=c;cases dI xi 0 with
  |zero=>exact⟨h,_,rfl,h0⟩
  |succ n=>exact⟨h,_,rfl,h0⟩
theorem jW.low{H H':Hp}(lw:aJ H.length H H'):∀{vs:List AV} {ls:List (List Ky)},jW H vs ls->jW H' vs ls:=by
 intro vs
 induction vs with
 |nil=>intro ls h;exact h
 |cons v vs ih=>intro ls h;exact bo h λl r e1 e2 e3=>⟨l,r,e1,fW lw (aQ _) e2,ih e3⟩
section
variable {d:Nat}{H:Hp}
def QT{s:List Int}(hB:∀h w x y z,1<=h->h<16->w<16->mZ ([x,y,z].map λxi=>dB h w (dI xi) 0 (1+xi.natAbs%3))=true):∃H',RC P (d+6) (.glob 0) [.lst (s.map .int)] H (.bool true) H':=by
 obtain⟨K1,h,w,x,y,z,c1,w1,e1,h0,h1,h2⟩:=QG (d:=d+4) (H:=H) s;have ok:∀r∈([x,y,z].map λxi=>dB h w (dI xi) 0 (1+xi.natAbs%3)),nH r/\r.length<900:=λr hr=>ak (bj.mp hr) λxi O e=>by subst e;exact Qb h0 h1 h2
 have ll:([x,y,z].map λxi=>dB h w (dI xi) 0 (1+xi.natAbs%3)).length=3:=rfl;obtain⟨R,S,Oo,ms,L⟩:=TK (hB h w x y z h0 h1 h2);generalize ([x,y,z].map λxi=>dB h w (dI xi) 0 (1+xi.natAbs%3))=rs at *;have lz:rs.length<az:=by rw[ll];decide
 refine ue (UC (d:=d+4) (S:=.lst (s.map .int)) (λr hr=>(ok r hr).1) lz e1) λY2 c2=>?_;have e2:=(uv K1 (aS rs::Y2)).at e1;have f2:ae (K1++aS rs::Y2) K1.length=some (aS rs):=cL;generalize K1++aS rs::Y2=K2 at *;refine ue (UD (d:=d+4) (S:=.lst (s.map .int)) (w:=some (.ref K1.length)) (λr hr=>(ok r hr).1) lz e2) λY3 c3=>?_;have e3:=(uv K2 (aS rs::Y3)).at e2;have f3:=(uv K2 (aS rs::Y3)).at f2;have t3:=Hr (l:=rs) (ej f3) (ej (cL:ae (K2++aS rs::Y3) K2.length=some (aS rs)));generalize K2++aS rs::Y3=K3 at *;refine ka (Q6 (d:=d+1) f3 L.eu (by rw[ll];decide) (λr hr=>aH (bG (ok r hr).2) (by decide))) λK4 ac c4 w4 a4 O=>?_;refine kZ (Qz (dd:=d) a4 L.sp) λK5 b4 b5 c5 w5 s5 t5=>?_;have ES:=w4.next w5;refine kZ (UI (d:=d+3) (S:=.lst (s.map .int)) (w:=some (.ref K1.length)) (k:=some (.lst (R.1.map .str))) (c:=some (.ref ac)) (s:=some (.ref b4)) (t:=some (.ref b5)) (ES.at e3) L.fo (λr hr=>(ok r hr).1.lt) (λr hr=>(ok r hr).2) (by rw[ll];decide) L.ml) λK6 m us c6 m6 L6 w6=>?_;refine ue (UJ (d:=d+5) (S:=.lst (s.map .int)) (r:=some (.ref H.length)) (w:=some (.ref K1.length)) (k:=some (.lst (R.1.map .str))) (c:=some (.ref ac)) (s:=some (.ref b4)) (t:=some (.ref b5)) m6 L6 L.dl L.sl) λY7 c7=>?_;have w7:=uv K6 Y7;have yg:=w6.next w7;have f7:=(ES.next yg).at f3;have s7:=yg.at s5;have t7:=yg.at t5;have a7:=(w5.next yg).at a4;have m7:=w7.at m6;have L7:=L6.low w7;generalize K6++Y7=K7 at *;refine ue (UG (d:=d+5) (S:=.lst (s.map .int)) (r:=some (.ref H.length)) (k:=some (.lst (R.1.map .str))) (c:=some (.ref ac)) (t:=some (.ref b5)) (u:=some (.ref m)) (b:=some (.lst ((eZ cg (gi (List.zipWith eJ rs ms).flatten)).map .str))) f7 s7 lz) λY8 c8=>?_;have n8:ae (K7++.list (rs.map λw=>(bT w (cS S)).getD .none)::Y8) K7.length=some (.list (rs.map λw=>(bT w (cS S)).getD .none)):=cL;have w8:=uv K7 (.list (rs.map λw=>(bT w (cS S)).getD .none)::Y8);generalize K7++.list (rs.map λw=>(bT w (cS S)).getD .none)::Y8=K8 at *;have S6:=SX (ej n8) (O5 (H:=K8) L.Yp) (ej (w8.at m7)) (L7.low w8);refine bo (QR (d:=d+3) (w8.at a7) L.lo) λK9 ao c9 w9 o9=>?_;have ER:=w8.next w9;have eqT:xK .Eq (.ref b5) (.ref ao) K9=some (.bool true):=by show(jP (.ref b5) (.ref ao) K9).map AV.bool=_;rw[J0 (ej (ER.at t7)) (ej (by rw[L.told];exact o9))];rfl
 refine ue (UE (d:=d+5) (S:=.lst (s.map .int)) (r:=some (.ref H.length)) (w:=some (.ref K1.length)) (k:=some (.lst (R.1.map .str))) (c:=some (.ref ac)) (t:=some (.ref b5)) (u:=some (.ref m)) (b:=some (.lst ((eZ cg (gi (List.zipWith eJ rs ms).flatten)).map .str))) (ER.at s7) (cA L.len (by decide:(1000:Nat)<=az)) L.join) λAB D0=>?_;have XU:xK .Eq (.ref K9.length) (.lst []) (K9++.list []::AB)=some (.bool true):=by show(jP (.ref K9.length) (.lst []) (K9++.list []::AB)).map AV.bool=_;have Te:ae (K9++AO.list []::AB) K9.length=some (.list (([]:List Ky).map .str)):=cL;rw[Dz (l:=[]) (ej Te)];rfl
 have so:=QA (d:=d+5) (H:=K7) L.kl;rw[L.eq] at so;have e7:gF .NotEq (.lst ((eZ cg (gi (List.zipWith eJ rs ms).flatten)).map .str)) (.lst ((eZ cg (gi (List.zipWith eJ rs ms).flatten)).map .str)) K7=some false:=Hr (l:=eZ cg (gi (List.zipWith eJ rs ms).flatten)) rfl rfl;refine⟨K9++.list []::AB,eG (fd:=f0) (fl:=.ret (.bool true)) (ρ1:=[some (.lst (s.map .int)),none,none,none,none,none,none,none,none,none,none,none,none,none,none,none,none]) rfl rfl ⟨gR (.lst (s.map .int)) (some (.ref H.length)) (some (.ref K1.length)) (some (.lst (R.1.map .str))) (some (.ref ac)) (some (.ref b4)) (some (.ref b5)) (some (.ref m)) (some (.lst ((eZ cg (gi (List.zipWith eJ rs ms).flatten)).map .str))),?_⟩ rfl⟩;exact ay (bB (bp (bg rfl) rfl (aG rfl (af rfl) aF) c1) (λO=>rfl) rfl rfl)
  (ay (r9 c2 rfl rfl)
  (ay (cn (t:=false) (bC (af rfl) c3 t3) aV)
  (ay (wt (bp (bg rfl) rfl (aG rfl (af rfl) aF) c4) (λO=>rfl) rfl)
  (ay (wt (bp (bg rfl) rfl (aG rfl (af rfl) (aG rfl (af rfl) aF)) c5) (λO=>rfl) rfl)
  (ay (r9 c6 rfl rfl)
  (ay (bB c7 (λO=>rfl) rfl rfl)
  (ay (cn (t:=false) (P1 (bC (bp (bg rfl) rfl (aG rfl (af rfl) aF) so) (af rfl) e7) (bC c8 (af rfl) S6)) aV)
  (cV (gj (Qu (BE (af rfl) (bp (bg rfl) rfl (aG rfl (af rfl) (aG rfl (af rfl) aF)) c9) eqT) rfl (BE D0 (de (bb:=false) aF rfl) XU)) λO=>rfl) nofun))))))))
end
end
section
def Up(J:Nat->Nat):Prop:=∀a b,a<b->J a<J b
section
variable {J:Nat->Nat}
def Up.inj(h:Up J){a b:Nat}(e:J a=J b):a=b:=by
 rcases Nat.lt_trichotomy a b with q|q|q
 ·exact absurd e (dz (h _ _ q))
 ·exact q
 ·exact absurd e (ei (h _ _ q))
def Up.beq(h:Up J)(a b:Nat):Nat.beq (J a) (J b)=Nat.beq a b:=by
 cases e:Nat.beq a b with
 |true=>rw[ck e,jy]
 |false=>
  cases e2:Nat.beq (J a) (J b) with
  |false=>rfl
  |true=>rw[h.inj (ck e2),jy] at e;cases e
def Up.blt(h:Up J)(a b:Nat):Nat.blt (J a) (J b)=Nat.blt a b:=by
 cases e:Nat.blt a b with
 |true=>exact bf.mpr (h _ _ (bf.mp e))
 |false=>
  cases e2:Nat.blt (J a) (J b) with
  |false=>rfl
  |true=>
   have h2:=bf.mp e2;rcases Nat.lt_trichotomy a b with q|q|q
   ·rw[bf.mpr q] at e;cases e
   ·rw[q] at h2;exact absurd h2 (jz _)
   ·exact absurd (jb h2 (h _ _ q)) (jz _)
theorem Up.i3(h:Up J):∀a b:Ky,Mine.au (a.map J) (b.map J)=Mine.au a b
 |[],[]=>rfl
 |[],_::_=>rfl
 |_::_,[]=>rfl
 |x::a,y::b=>by
  show(match Nat.beq (J x) (J y) with|true=>Mine.au (a.map J) (b.map J)|false=>false)=match Nat.beq x y with|true=>Mine.au a b|false=>false
  rw[h.beq,h.i3 a b]
theorem Up.Cj(h:Up J):∀a b:Ky,Mine.cg (a.map J) (b.map J)=Mine.cg a b
 |[],[]=>rfl
 |[],_::_=>rfl
 |_::_,[]=>rfl
 |x::a,y::b=>by
  show(match Nat.beq (J x) (J y) with|true=>Mine.cg (a.map J) (b.map J)|false=>Nat.blt (J x) (J y))=match Nat.beq x y with|true=>Mine.cg a b|false=>Nat.blt x y
  rw[h.beq,h.blt,h.Cj a b]
end
section
variable {α β γ:Type}{f:α->β}
variable {p:β->Bool}{q:α->Bool}
def fm(h:∀a,p (f a)=q a)(l:List α):(l.map f).filter p=(l.filter q).map f:=by rw[List.filter_map,show p∘f=q from funext h]
def aa0(h:∀a,p (f a)=q a)(l:List α):(l.map f).any p=l.any q:=by rw[List.any_map,show p∘f=q from funext h]
def tv(h:∀a,p (f a)=q a)(l:List α):(l.map f).all p=l.all q:=by rw[List.all_map,show p∘f=q from funext h]
def ze{δ:Type}{g:β->γ}{g':α->δ}{k:δ->γ}(h:∀a,g (f a)=k (g' a))(l:List α):(l.map f).map g=(l.map g').map k:=by rw[cm,cm];exact jC λa O=>h a
def rh{σ τ:Type}{F:τ->β->τ}{G:σ->α->σ}{g:σ->τ}(h:∀s a,F (g s) (f a)=g (G s a)):∀(l:List α) (s:σ),(l.map f).foldl F (g s)=g (l.foldl G s):=by
 intro l
 induction l with
 |nil=>intro s;exact rfl
 |cons a l ih=>intro s;show(l.map f).foldl F (F (g s) (f a))=g (l.foldl G (G s a));rw[h,ih]
end
section
variable {J:Nat->Nat}
noncomputable def mi(J:Nat->Nat)(x:aN):aN:=(x.1,x.2.map J)
noncomputable def mc(J:Nat->Nat)(c:bA):bA:=(c.1.map J,c.2.1.map J,c.2.2.map J)
noncomputable def ma(J:Nat->Nat)(t:Ad):Ad:=(t.1.map J,t.2.1,t.2.2.map (List.map J))
noncomputable def mq(J:Nat->Nat)(p:Ky×List Ky):Ky×List Ky:=(p.1.map J,p.2.map (List.map J))
def Up.Ci(h:Up J)(a b:aN):Mine.dY (mi J a) (mi J b)=Mine.dY a b:=by show(match e8 a.1 b.1 with|true=>(match Mine.au (a.2.map J) (b.2.map J) with|true=>false|false=>Mine.cg (a.2.map J) (b.2.map J))|false=>fV a.1 b.1)=_;rw[h.i3,h.Cj];rfl
theorem Up.Gn(h:Up J)(x:aN):∀(n:Nat) (l:List aN) (p:Nat),Mine.gO (mi J x) n (l.map (mi J)) p=(Mine.gO x n l p).map (mi J):=by
 intro n
 induction n with
 |zero=>exact λl p=>kW _
 |succ n ih=>
  intro l p;cases p with
  |zero=>exact kW _
  |succ p=>
  show(match ae (l.map (mi J)) (p/2) with|none=>ai (l.map (mi J)) (mi J x) (p+1)|some y=>match Mine.dY (mi J x) y with|true=>Mine.gO (mi J x) n (ai (l.map (mi J)) y (p+1)) (p/2)|false=>ai (l.map (mi J)) (mi J x) (p+1))=
   (match ae l (p/2) with|none=>ai l x (p+1)|some y=>match Mine.dY x y with|true=>Mine.gO x n (ai l y (p+1)) (p/2)|false=>ai l x (p+1)).map (mi J)
  rw[ir];cases ae l (p/2) with
  |none=>exact kW _
  |some y=>show(match Mine.dY (mi J x) (mi J y) with|true=>Mine.gO (mi J x) n (ai (l.map (mi J)) (mi J y) (p+1)) (p/2)|false=>ai (l.map (mi J)) (mi J x) (p+1))=(match Mine.dY x y with|true=>Mine.gO x n (ai l y (p+1)) (p/2)|false=>ai l x (p+1)).map (mi J);rw[h.Ci,kW,kW,ih];cases Mine.dY x y<;>rfl
def Up.zH(h:Up J)(x:aN)(l:List aN):Mine.fN (mi J x) (l.map (mi J))=(Mine.fN x l).map (mi J):=by unfold Mine.fN;rw[aC,<- h.Gn,bR];rfl
def Up.Zw(h:Up J)(l:List aN)(c:Nat):Mine.gb (l.map (mi J)) c=Mine.gb l c:=by
 unfold Mine.gb;rw[aC,ir,ir];cases Nat.blt (c+1) l.length with
 |false=>rfl
 |true=>
  cases ae l c with
  |none=>rfl
  |some a=>
   cases ae l (c+1) with
   |none=>rfl
   |some b=>show(match Mine.dY (mi J a) (mi J b) with|true=>c|false=>c+1)=_;rw[h.Ci];try rfl
def Up.sup(h:Up J):∀(n:Nat) (l:List aN) (p:Nat),Mine.gh n (l.map (mi J)) p=((Mine.gh n l p).1.map (mi J),(Mine.gh n l p).2):=by
 intro n
 induction n with
 |zero=>intro l p;exact rfl
 |succ n ih=>
  intro l p;show(match Nat.blt (2*p+1) (l.map (mi J)).length with|false=>(l.map (mi J),p)|true=>match ae (l.map (mi J)) (Mine.gb (l.map (mi J)) (2*p+1)) with|some y=>Mine.gh n (ai (l.map (mi J)) y p) (Mine.gb (l.map (mi J)) (2*p+1))|none=>(l.map (mi J),p))=(λq:List aN×Nat=>(q.1.map (mi J),q.2)) (match Nat.blt (2*p+1) l.length with|false=>(l,p)|true=>match ae l (Mine.gb l (2*p+1)) with|some y=>Mine.gh n (ai l y p) (Mine.gb l (2*p+1))|none=>(l,p));rw[aC,h.Zw,ir];cases Nat.blt (2*p+1) l.length with
  |false=>rfl
  |true=>
   cases ae l (Mine.gb l (2*p+1)) with
   |none=>rfl
   |some y=>show Mine.gh n (ai (l.map (mi J)) (mi J y) p) (Mine.gb l (2*p+1))=_;rw[kW,ih]
def Up.Pj(h:Up J)(x:aN)(l:List aN):Mine.qF (mi J x) (l.map (mi J))=(Mine.qF x l).map (mi J):=by unfold Mine.qF;rw[aC,h.sup];show Mine.gO (mi J x) _ (ai ((Mine.gh l.length l 0).1.map (mi J)) (mi J x) _) _=_;rw[kW,h.Gn]
def mh(J:Nat->Nat)(q:aN×List aN):aN×List aN:=(mi J q.1,q.2.map (mi J))
def Up.VO(h:Up J)(l:List aN)(x:aN):Mine.fi (l.map (mi J)) (mi J x)=mh J (Mine.fi l x):=by
 cases l with
 |nil=>rfl
 |cons y r=>show(mi J y,Mine.qF (mi J x) (ai ((y::r).map (mi J)) (mi J x) 0))=(mi J y,(Mine.qF x (ai (y::r) x 0)).map (mi J));rw[kW,h.Pj]
theorem HX{α β:Type}(f:α->β):∀(x:α) (r:List α),bK (f x) (r.map f)=((bK x r).1.map f,f (bK x r).2)
 |x,[]=>rfl
 |x,y::r=>by show(f x::(bK (f y) (r.map f)).1,(bK (f y) (r.map f)).2)=_;rw[HX f y r];rfl
def Up.IU(h:Up J)(l:List aN):Mine.jN (l.map (mi J))=(Mine.jN l).map (mh J):=by
 cases l with
 |nil=>rfl
 |cons x r=>show some (Mine.fi (bK (mi J x) (r.map (mi J))).1 (bK (mi J x) (r.map (mi J))).2)=some (mh J (Mine.fi (bK x r).1 (bK x r).2));rw[HX,h.VO]
def Up.zd(h:Up J)(k:Ky):∀l:List Ky,Mine.bw (k.map J) (l.map (List.map J))=Mine.bw k l:=by
 intro l
 induction l with
 |nil=>exact rfl
 |cons x l ih=>show(match Mine.au (x.map J) (k.map J) with|true=>true|false=>Mine.bw (k.map J) (l.map (List.map J)))=_;rw[h.i3,ih];rfl
noncomputable def B8(J:Nat->Nat)(p:Ky×Ky):Ky×Ky:=(p.1.map J,p.2.map J)
def Up.DK(h:Up J)(w:Ky):∀C:List bA,Mine.eP (w.map J) (C.map (mc J))=(Mine.eP w C).map (B8 J):=by
 intro C
 induction C with
 |nil=>exact rfl
 |cons c C ih=>show(match Mine.au (c.1.map J) (w.map J) with|true=>some (B8 J c.2)|false=>Mine.eP (w.map J) (C.map (mc J)))=(match Mine.au c.1 w with|true=>some c.2|false=>Mine.eP w C).map (B8 J);rw[h.i3,ih];cases Mine.au c.1 w<;>rfl
def Ct(w:Ky):gS (w.map J)=mi J (gS w):=by unfold gS mi;rw[aC]
def BX(w:Ky):bh (w.map J)=mi J (bh w):=by unfold bh mi;rw[aC]
def Up.RD(h:Up J)(w:Ky)(l:List aN)(o:Ky):Mine.iR (w.map J) (l.map (mi J)) (o.map J)=(Mine.iR w l o).map (mi J):=by unfold Mine.iR;rw[aC,<- List.map_take,h.i3,Ct,h.zH];cases Mine.au (o.take w.length) w<;>rfl
def Up.RG(h:Up J)(l:List aN)(w:Ky):Mine.jk (l.map (mi J)) (w.map J)=(Mine.jk l w).map (mi J):=by unfold Mine.jk;rw[Ct,h.zH]
def Up.Rz(h:Up J)(l:List aN)(w:Ky):Mine.gk (l.map (mi J)) (w.map J)=(Mine.gk l w).map (mi J):=by unfold Mine.gk;rw[BX,h.zH]
def mR(J:Nat->Nat)(R:List Ky×List bA):List Ky×List bA:=(R.1.map (List.map J),R.2.map (mc J))
def Up.XR(h:Up J)(w:Ky)(l:List aN)(K:List Ky)(C:List bA):Mine.gp (w.map J) (l.map (mi J)) (K.map (List.map J)) (C.map (mc J))=((Mine.gp w l K C).1.map (mi J),(Mine.gp w l K C).2.1.map (List.map J),(Mine.gp w l K C).2.2.map (mc J)):=by
 unfold Mine.gp;rw[h.DK,Option.isSome_map,h.zd];cases (Mine.eP w C).isSome||Mine.bw w K with
 |true=>rfl
 |false=>
  have e1:(K.map (List.map J)).filter (λo=>Mine.au ((w.map J).take o.length) o)=(K.filter λo=>Mine.au (w.take o.length) o).map (List.map J):=fm (λo=>by rw[aC,<- List.map_take,h.i3]) K;have e2:(K.map (List.map J)).filter (λo=>!Mine.au (o.take (w.map J).length) (w.map J))=(K.filter λo=>!Mine.au (o.take w.length) w).map (List.map J):=fm (λo=>by rw[aC,<- List.map_take,h.i3]) K;have e3:(K.map (List.map J)).foldl (Mine.iR (w.map J)) (l.map (mi J))=(K.foldl (Mine.iR w) l).map (mi J):=rh (g:=List.map (mi J)) (λs a=>h.RD w s a) K l;rw[e1,e2,e3];cases K.filter λo=>Mine.au (w.take o.length) o with
  |nil=>show((K.foldl (Mine.iR w) l).map (mi J),(K.filter λo=>!Mine.au (o.take w.length) w).map (List.map J)++[w.map J],C.map (mc J))=_;rw[show[w.map J]=[w].map (List.map J) from rfl,<- bR]
  |cons b B=>show(Mine.fN (gS ((w.map J).drop (b.map J).length)) (l.map (mi J)),K.map (List.map J),C.map (mc J)++[(w.map J,b.map J,(w.map J).drop (b.map J).length)])=_;rw[aC,<- List.map_drop,Ct,h.zH];show((Mine.fN (gS (w.drop b.length)) l).map (mi J),K.map (List.map J),C.map (mc J)++[(w,b,w.drop b.length)].map (mc J))=_;rw[<- bR]
def Up.Sk(x:aN)(g l:List aN)(K:List Ky)(C:List bA):Mine.jl (mi J x) (g.map (mi J)) (l.map (mi J)) (K.map (List.map J)) (C.map (mc J))=Mine.jl x g l K C:=by unfold Mine.jl;rw[aC,aC,aC,aC];show(e8 x.1 ((x.2.map J).length:Nat)&&(Nat.blt (x.2.map J).length 1000&&_))=_;rw[aC]
def JY(n:Nat)(l:List aN)(K:List Ky)(C:List bA):eu (n+1) l K C=match jN l with
  |none=>some (K,C)
  |some q=>match jl q.1 l q.2 K C with
   |false=>none
   |true=>eu n (gp q.1.2 q.2 K C).1 (gp q.1.2 q.2 K C).2.1 (gp q.1.2 q.2 K C).2.2:=by
 show(match jN l with
  |none=>some (K,C)
  |some q=>match jl q.1 l q.2 K C with
   |false=>none
   |true=>match(eP q.1.2 C).isSome||bw q.1.2 K with
    |true=>eu n q.2 K C
    |false=>match K.filter λ(o:Ky)=>au (q.1.2.take o.length) o with
     |b::_=>eu n (fN (gS (q.1.2.drop b.length)) q.2) K (C++[(q.1.2,b,q.1.2.drop b.length)])
     |[]=>eu n (K.foldl (Mine.iR q.1.2) q.2) ((K.filter λ(o:Ky)=>!au (o.take q.1.2.length) q.1.2)++[q.1.2]) C)=_
 cases jN l with
 |none=>rfl
 |some q=>
  show(match jl q.1 l q.2 K C with|false=>none|true=>_)=match jl q.1 l q.2 K C with|false=>none|true=>_
  cases jl q.1 l q.2 K C with
  |false=>rfl
  |true=>
   unfold Mine.gp;show(match(eP q.1.2 C).isSome||bw q.1.2 K with|true=>_|false=>_)=_;cases (eP q.1.2 C).isSome||bw q.1.2 K with
   |true=>rfl
   |false=>show(match K.filter λo=>au (q.1.2.take o.length) o with|b::_=>_|[]=>_)=_;cases K.filter λo=>au (q.1.2.take o.length) o<;>rfl
def Up.eu(h:Up J):∀(n:Nat) (l:List aN) (K:List Ky) (C:List bA),Mine.eu n (l.map (mi J)) (K.map (List.map J)) (C.map (mc J))=(Mine.eu n l K C).map (mR J):=by
 intro n
 induction n with
 |zero=>intro l K C;exact rfl
 |succ n ih=>
  intro l K C;rw[JY,JY,h.IU];cases Mine.jN l with
  |none=>rfl
  |some q=>
   show(match Mine.jl (mi J q.1) (l.map (mi J)) (q.2.map (mi J)) (K.map (List.map J)) (C.map (mc J)) with|false=>none|true=>Mine.eu n (Mine.gp (q.1.2.map J) (q.2.map (mi J)) (K.map (List.map J)) (C.map (mc J))).1 (Mine.gp (q.1.2.map J) (q.2.map (mi J)) (K.map (List.map J)) (C.map (mc J))).2.1 (Mine.gp (q.1.2.map J) (q.2.map (mi J)) (K.map (List.map J)) (C.map (mc J))).2.2)=
    Option.map (mR J) (match Mine.jl q.1 l q.2 K C with|false=>none|true=>Mine.eu n (Mine.gp q.1.2 q.2 K C).1 (Mine.gp q.1.2 q.2 K C).2.1 (Mine.gp q.1.2 q.2 K C).2.2)
   rw[Up.Sk,h.XR];cases Mine.jl q.1 l q.2 K C with
   |false=>rfl
   |true=>exact ih _ _ _
def Up.euclid(h:Up J)(ws:List Ky):Mine.rn (ws.map (List.map J))=(Mine.rn ws).map (mR J):=by unfold Mine.rn;rw[show(ws.map (List.map J)).foldl Mine.jk []=(ws.foldl Mine.jk []).map (mi J) from rh (g:=List.map (mi J)) (λs a=>h.RG s a) ws []];exact h.eu 100 _ [] []
end
end
section
section
variable {J:Nat->Nat}
def Up.xp(h:Up J)(k:Ky)(g:List Ad):Mine.gn (k.map J) (g.map (ma J))=Mine.gn k g:=aa0 (λt=>h.i3 t.1 k) g
def Up.LA(h:Up J)(g:List Ad)(k:Ky):Mine.gI (g.map (ma J)) (k.map J)=(Mine.gI g k).map (ma J):=by
 unfold Mine.gI;rw[h.xp];cases Mine.gn k g with
 |true=>rfl
 |false=>show g.map (ma J)++[ma J (k,0,[])]=_;rw[bR];rfl
def Up.AA(h:Up J)(g:List Ad)(k:Ky)(f:Int->Int):Mine.gu (g.map (ma J)) (k.map J) f=(Mine.gu g k f).map (ma J):=ze (λt=>by show(match Mine.au (t.1.map J) (k.map J) with|true=>(t.1.map J,f t.2.1,t.2.2.map (List.map J))|false=>ma J t)=ma J (match Mine.au t.1 k with|true=>(t.1,f t.2.1,t.2.2)|false=>t);rw[h.i3];cases Mine.au t.1 k<;>rfl) g
def Up.aSu(h:Up J)(g:List Ad)(k x:Ky):Mine.nD (g.map (ma J)) (k.map J) (x.map J)=(Mine.nD g k x).map (ma J):=ze (λt=>by
 show(match Mine.au (t.1.map J) (k.map J) with|true=>(t.1.map J,t.2.1,t.2.2.map (List.map J)++[x.map J])|false=>ma J t)=ma J (match Mine.au t.1 k with|true=>(t.1,t.2.1,t.2.2++[x])|false=>t);rw[h.i3];cases Mine.au t.1 k with
 |false=>rfl
 |true=>show _=(t.1.map J,t.2.1,(t.2.2++[x]).map (List.map J));rw[bR];rfl) g
def Up.LB(h:Up J)(g:List Ad)(k:Ky)(ps:List Ky):Mine.vw (g.map (ma J)) (k.map J) (ps.map (List.map J))=(Mine.vw g k ps).map (ma J):=by unfold Mine.vw;rw[aC,h.LA,h.AA];exact rh (g:=List.map (ma J)) (λs p=>by rw[h.LA,h.aSu]) ps _
def Up.WL(h:Up J)(K:List Ky)(C:List bA):Mine.oH (K.map (List.map J)) (C.map (mc J))=(Mine.oH K C).map (ma J):=by unfold Mine.oH;rw[show(K.map (List.map J)).foldl sV []=(K.foldl sV []).map (ma J) from rh (g:=List.map (ma J)) (λs k=>h.LB s k []) K []];exact rh (g:=List.map (ma J)) (λs c=>h.LB s c.1 [c.2.1,c.2.2]) C _
def abo(g:List Ad):vt (g.map (ma J))=(vt g).map (List.map J):=by unfold vt;rw[fm (f:=ma J) (p:=λt:Ad=>e8 t.2.1 0) (q:=λt:Ad=>e8 t.2.1 0) (λO=>rfl)];rw[cm,cm];rfl
def Up.R6(h:Up J)(g:List Ad)(l:List Ky):Mine.fh (g.map (ma J)) (l.map (List.map J))=(Mine.fh g l).map (ma J):=rh (g:=List.map (ma J)) (λs k=>h.AA s k _) l g
def Up.find(h:Up J)(g:List Ad)(k:Ky):(g.map (ma J)).find? (λt=>Mine.au t.1 (k.map J))=(g.find? λt=>Mine.au t.1 k).map (ma J):=by rw[List.find?_map];exact congrArg (λp=>Option.map (ma J) (g.find? p)) (funext λt=>h.i3 t.1 k)
def Up.abq(h:Up J)(g:List Ad)(k:Ky):Mine.lS (g.map (ma J)) (k.map J)=Mine.lS g k:=by unfold Mine.lS;rw[h.find];cases g.find? λt=>Mine.au t.1 k<;>rfl
def Up.abm(h:Up J)(g:List Ad)(k:Ky):Mine.vq (g.map (ma J)) (k.map J)=(Mine.vq g k).map (List.map J):=by unfold Mine.vq;rw[h.find];cases g.find? λt=>Mine.au t.1 k<;>rfl
def mg(J:Nat->Nat)(q:List Ad×List Ky):List Ad×List Ky:=(q.1.map (ma J),q.2.map (List.map J))
def Up.abt(h:Up J)(q:List Ad×List Ky)(y:Ky):Mine.rD (mg J q) (y.map J)=mg J (Mine.rD q y):=by
 unfold Mine.rD;show(Mine.gu (q.1.map (ma J)) (y.map J) (λO=>Mine.lS (q.1.map (ma J)) (y.map J)-1),match e8 (Mine.lS (q.1.map (ma J)) (y.map J)-1) 0 with|true=>q.2.map (List.map J)++[y.map J]|false=>q.2.map (List.map J))=((Mine.gu q.1 y λO=>Mine.lS q.1 y-1).map (ma J),(match e8 (Mine.lS q.1 y-1) 0 with|true=>q.2++[y]|false=>q.2).map (List.map J));rw[h.abq,h.AA];cases e8 (Mine.lS q.1 y-1) 0 with
 |true=>show(_,q.2.map (List.map J)++[y].map (List.map J))=_;rw[<- bR]
 |false=>rfl
def Up.aDn(h:Up J)(g:List Ad)(x:Ky):Mine.gZ (g.map (ma J)) (x.map J)=mg J (Mine.gZ g x):=by unfold Mine.gZ;rw[h.abm,h.AA];exact rh (g:=mg J) (λs y=>h.abt s y) _ (_,[])
def Up.uniq(h:Up J):∀l:List Ky,Mine.tO (l.map (List.map J))=Mine.tO l:=by
 intro l
 induction l with
 |nil=>exact rfl
 |cons k l ih=>show(!Mine.bw (k.map J) (l.map (List.map J))&&Mine.tO (l.map (List.map J)))=_;rw[h.zd,ih];rfl
def Up.Sj(h:Up J)(K:List Ky)(C:List bA)(g:List Ad):Mine.ud (K.map (List.map J)) (C.map (mc J)) (g.map (ma J))=Mine.ud K C g:=by unfold Mine.ud;rw[aC,aC,aC,show(C.map (mc J)).map (·.1)=(C.map (·.1)).map (List.map J) from by rw[cm,cm];rfl,h.uniq];rw[tv (f:=ma J) (q:=λt:Ad=>t.2.2.all λy=>Mine.gn y g&&Nat.blt (1000-y.length) (1000-t.1.length)) (λt=>tv (f:=List.map J) (λy=>by rw[h.xp,aC];show(_&&Nat.blt _ (1000-(t.1.map J).length))=_;rw[aC]) t.2.2)]
def Up.Sf(h:Up J)(g:List Ad)(x:Ky):Mine.wF (g.map (ma J)) (x.map J)=Mine.wF g x:=by
 unfold Mine.wF;rw[h.xp,tv (f:=ma J) (λt=>?_)];show(match Mine.au (t.1.map J) (x.map J) with|true=>e8 t.2.1 (-1)&&((t.2.2.map (List.map J)).all (λy=>Mine.gn y (g.map (ma J)))&&Nat.blt (t.2.2.map (List.map J)).length 1000)|false=>true)=_;rw[h.i3,aC,tv (f:=List.map J) (λy=>h.xp y g)]
 try rfl
def Up.wR(h:Up J)(k:Ky):∀S:Sp,Mine.di (k.map J) (S.map (mq J))=(Mine.di k S).map (List.map (List.map J)):=by
 intro S
 induction S with
 |nil=>exact rfl
 |cons p S ih=>show(match Mine.au (p.1.map J) (k.map J) with|true=>some (p.2.map (List.map J))|false=>Mine.di (k.map J) (S.map (mq J)))=(match Mine.au p.1 k with|true=>some p.2|false=>Mine.di k S).map (List.map (List.map J));rw[h.i3,ih];cases Mine.au p.1 k<;>rfl
def Jw(o:Option (List Ky)):(o.map (List.map (List.map J))).getD []=(o.getD []).map (List.map J):=by cases o<;>rfl
def Up.F3(h:Up J)(C:List bA)(S:Sp)(x:Ky):Mine.fe (C.map (mc J)) (S.map (mq J)) (x.map J)=(Mine.fe C S x).map (List.map J):=by
 unfold Mine.fe;rw[h.DK];cases Mine.eP x C with
 |none=>rfl
 |some p=>
  have e:S.map (mq J)++[(x.map J,[x.map J])]=(S++[(x,[x])]).map (mq J):=by rw[bR];rfl
  show(Mine.di (p.1.map J) (S.map (mq J)++[(x.map J,[x.map J])])).getD []++(Mine.di (p.2.map J) (S.map (mq J)++[(x.map J,[x.map J])])).getD []=((Mine.di p.1 (S++[(x,[x])])).getD []++(Mine.di p.2 (S++[(x,[x])])).getD []).map (List.map J);rw[e,h.wR,h.wR,Jw,Jw,bR]
def Up.Sg(h:Up J)(g:List Ad)(r:List Ky)(l:List aN)(S:Sp):Mine.qK (g.map (ma J)) (r.map (List.map J)) (l.map (mi J)) (S.map (mq J))=Mine.qK g r l S:=by unfold Mine.qK;rw[aC,aC,aC,tv (f:=List.map J) (λk=>by rw[h.xp,aC])]
def Up.Sb(h:Up J)(g:List Ad)(C:List bA)(S:Sp)(x:Ky):Mine.mV (g.map (ma J)) (C.map (mc J)) (S.map (mq J)) (x.map J)=Mine.mV g C S x:=by unfold Mine.mV;rw[h.Sf,h.wR,Option.isNone_map,h.F3,aC]
def Up.sp(h:Up J):∀(n:Nat) (C:List bA) (g:List Ad) (r:List Ky) (o:Nat) (l:List aN) (S:Sp),Mine.sp n (C.map (mc J)) (g.map (ma J)) (r.map (List.map J)) o (l.map (mi J)) (S.map (mq J))=(Mine.sp n C g r o l S).map (List.map (mq J)):=by
 intro n
 induction n with
 |zero=>intro C g r o l S;exact rfl
 |succ n ih=>
  intro C g r o l S;rw[Bk,Bk,List.isEmpty_map,h.Sg,show(r.map (List.map J)).foldl Mine.gk (l.map (mi J))=(r.foldl Mine.gk l).map (mi J) from rh (g:=List.map (mi J)) (λs a=>h.Rz s a) r l,h.IU,h.R6,aC];cases Nat.blt 0 o||!r.isEmpty with
  |false=>rfl
  |true=>
   cases Mine.qK g r l S with
   |false=>rfl
   |true=>
    cases Mine.jN (r.foldl Mine.gk l) with
    |none=>rfl
    |some q=>
     show(match Mine.mV ((Mine.fh g r).map (ma J)) (C.map (mc J)) (S.map (mq J)) (q.1.2.map J) with|false=>none|true=>Mine.sp n (C.map (mc J)) (Mine.gZ ((Mine.fh g r).map (ma J)) (q.1.2.map J)).1 (Mine.gZ ((Mine.fh g r).map (ma J)) (q.1.2.map J)).2 (o+r.length-1) (q.2.map (mi J)) (S.map (mq J)++[(q.1.2.map J,Mine.fe (C.map (mc J)) (S.map (mq J)) (q.1.2.map J))]))=
      Option.map (List.map (mq J)) (match Mine.mV (Mine.fh g r) C S q.1.2 with|false=>none|true=>Mine.sp n C (Mine.gZ (Mine.fh g r) q.1.2).1 (Mine.gZ (Mine.fh g r) q.1.2).2 (o+r.length-1) q.2 (S++[(q.1.2,Mine.fe C S q.1.2)]))
     have e:S.map (mq J)++[(q.1.2.map J,(Mine.fe C S q.1.2).map (List.map J))]=(S++[(q.1.2,Mine.fe C S q.1.2)]).map (mq J):=by rw[bR];rfl
     rw[h.Sb,h.aDn,h.F3];rw[e];cases Mine.mV (Mine.fh g r) C S q.1.2 with
     |false=>rfl
     |true=>exact ih C _ _ _ _ _
def Up.spelled(h:Up J)(K:List Ky)(C:List bA):Mine.lu (K.map (List.map J)) (C.map (mc J))=(Mine.lu K C).map (List.map (mq J)):=by
 unfold Mine.lu;rw[h.WL,h.Sj,abo];cases Mine.ud K C (Mine.oH K C) with
 |false=>rfl
 |true=>exact h.sp 100 C _ _ _ [] []
end
end
section
section
variable {J:Nat->Nat}
def Up.parts(h:Up J)(C:List bA)(w:Ky):Mine.mU (C.map (mc J)) (w.map J)=(Mine.mU C w).map (List.map J):=by unfold Mine.mU;rw[h.DK];cases Mine.eP w C<;>rfl
def Up.WW(h:Up J)(C:List bA)(Oo:List Ky)(w:Ky):Mine.kB (C.map (mc J)) (Oo.map (List.map J)) (w.map J)=Mine.kB C Oo w:=by unfold Mine.kB;rw[h.parts,fm (f:=List.map J) (q:=λp=>!Mine.bw p Oo) (λp=>by rw[h.zd]),List.isEmpty_map]
def Up.Tq(h:Up J):∀(l:List aN) (b:aN),Mine.dM (l.map (mi J)) (mi J b)=mi J (Mine.dM l b):=by
 intro l
 induction l with
 |nil=>intro b;exact rfl
 |cons x l ih=>intro b;show(match Mine.dY (mi J x) (mi J b) with|true=>Mine.dM (l.map (mi J)) (mi J x)|false=>Mine.dM (l.map (mi J)) (mi J b))=mi J (match Mine.dY x b with|true=>Mine.dM l x|false=>Mine.dM l b);rw[h.Ci,ih x,ih b];cases Mine.dY x b<;>rfl
theorem Up.lg(h:Up J):∀(n:Nat) (C:List bA) (L Oo:List Ky),Mine.lg n (C.map (mc J)) (L.map (List.map J)) (Oo.map (List.map J))=(Mine.lg n C L Oo).map (List.map (List.map J)):=by
 intro n
 induction n with
 |zero=>exact λC L Oo=>rfl
 |succ n ih=>
  intro C L Oo;cases L with
  |nil=>rfl
  |cons y L=>
  have e1:=fm (f:=List.map J) (p:=Mine.kB (C.map (mc J)) (Oo.map (List.map J))) (q:=Mine.kB C Oo) (λw=>h.WW C Oo w) (y::L);show(match((y::L).map (List.map J)).filter (Mine.kB (C.map (mc J)) (Oo.map (List.map J))) with|[]=>none|x::r=>Mine.lg n (C.map (mc J)) (((y::L).map (List.map J)).filter λw=>!Mine.au w (Mine.dM (r.map bh) (bh x)).2) (Oo.map (List.map J)++[(Mine.dM (r.map bh) (bh x)).2]))=
   Option.map (List.map (List.map J)) (match(y::L).filter (Mine.kB C Oo) with|[]=>none|x::r=>Mine.lg n C ((y::L).filter λw=>!Mine.au w (Mine.dM (r.map bh) (bh x)).2) (Oo++[(Mine.dM (r.map bh) (bh x)).2]))
  rw[e1];cases (y::L).filter (Mine.kB C Oo) with
  |nil=>rfl
  |cons x r=>
   have em:Mine.dM ((r.map (List.map J)).map bh) (bh (x.map J))=mi J (Mine.dM (r.map bh) (bh x)):=by rw[BX,ze (f:=List.map J) (g:=bh) (g':=bh) (k:=mi J) BX,h.Tq]
   show Mine.lg n (C.map (mc J)) (((y::L).map (List.map J)).filter λw=>!Mine.au w (Mine.dM ((r.map (List.map J)).map bh) (bh (x.map J))).2) (Oo.map (List.map J)++[(Mine.dM ((r.map (List.map J)).map bh) (bh (x.map J))).2])=_;rw[em];have e3:Oo.map (List.map J)++[(mi J (Mine.dM (r.map bh) (bh x))).2]=(Oo++[(Mine.dM (r.map bh) (bh x)).2]).map (List.map J):=by rw[bR];rfl
   rw[e3];refine Eq.trans (congrArg (λl=>Mine.lg n (C.map (mc J)) l _) (fm (f:=List.map J) (p:=λw=>!Mine.au w ((Mine.dM (r.map bh) (bh x)).2.map J)) (q:=λw=>!Mine.au w (Mine.dM (r.map bh) (bh x)).2) (λw=>by rw[h.i3]) (y::L))) ?_;exact ih C _ _
def Up.longest(h:Up J)(K:List Ky)(C:List bA):Mine.km (K.map (List.map J)) (C.map (mc J))=(Mine.km K C).map (List.map (List.map J)):=by
 unfold Mine.km;have e:K.map (List.map J)++(C.map (mc J)).map (·.1)=(K++C.map (·.1)).map (List.map J):=by rw[bR,cm,cm];rfl
 rw[aC,aC,e,tv (f:=List.map J) (q:=λw=>Nat.blt w.length 1000) (λw=>by rw[aC])];cases Nat.blt (K.length+C.length) 500&&(K++C.map (·.1)).all λw=>Nat.blt w.length 1000 with
 |true=>exact h.lg 100 C _ []
 |false=>rfl
noncomputable def mw(J:Nat->Nat)(p:Nat×Nat×Nat):Nat×Nat×Nat:=(p.1,J p.2.1,p.2.2)
def Up.T8(h:Up J)(m c:Nat):∀A:jv,Mine.jL m (J c) (A.map (mw J))=Mine.jL m c A:=by
 intro A
 induction A with
 |nil=>exact rfl
 |cons p A ih=>show(match Nat.beq p.1 m&&Nat.beq (J p.2.1) (J c) with|true=>some p.2.2|false=>Mine.jL m (J c) (A.map (mw J)))=_;rw[h.beq,ih];rfl
def mv(J:Nat->Nat)(q:jv×Option (Nat×Nat)):jv×Option (Nat×Nat):=(q.1.map (mw J),q.2)
theorem Up.Y5(h:Up J):∀(row line:List Nat) (A:jv),Mine.gW (row.map J) line (A.map (mw J))=(Mine.gW row line A).map (mv J):=by
 intro row
 induction row with
 |nil=>exact λline A=>rfl
 |cons c row ih=>
  intro line A;cases line with
  |nil=>rfl
  |cons m line=>
  cases line with
  |nil=>rfl
  |cons m' line=>
  show(match Nat.ble m 1000000 with
   |false=>none
   |true=>match Mine.jL m (J c) (A.map (mw J)) with
    |none=>Mine.gW (row.map J) (m'::line) (A.map (mw J)++[(m,J c,m')])
    |some v=>match Nat.beq m' v with
     |true=>Mine.gW (row.map J) (m'::line) (A.map (mw J))
     |false=>some (A.map (mw J),some (ow v m')))=
   Option.map (mv J) (match Nat.ble m 1000000 with
   |false=>none
   |true=>match Mine.jL m c A with
    |none=>Mine.gW row (m'::line) (A++[(m,c,m')])
    |some v=>match Nat.beq m' v with
     |true=>Mine.gW row (m'::line) A
     |false=>some (A,some (ow v m')))
  rw[h.T8,ih (m'::line) A,show A.map (mw J)++[(m,J c,m')]=(A++[(m,c,m')]).map (mw J) by rw[bR];rfl,ih (m'::line) (A++[(m,c,m')])];cases Nat.ble m 1000000 with
  |false=>rfl
  |true=>
   cases Mine.jL m c A with
   |none=>rfl
   |some v=>show(match Nat.beq m' v with|true=>_|false=>_)=Option.map (mv J) (match Nat.beq m' v with|true=>_|false=>_);cases Nat.beq m' v<;>rfl
theorem Up.Ku(h:Up J):∀(rows marks:List (List Nat)) (A:jv),Mine.fE (rows.map (List.map J)) marks (A.map (mw J))=Mine.fE rows marks A:=by
 intro rows
 induction rows with
 |nil=>exact λmarks A=>rfl
 |cons row rows ih=>
  intro marks A;cases marks with
  |nil=>rfl
  |cons line marks=>
  show(match Nat.blt ((A.map (mw J)).length+(row.map J).length) 1000 with
   |false=>none
   |true=>match Mine.gW (row.map J) line (A.map (mw J)) with
    |none=>none
    |some q=>match q.2 with
     |none=>Mine.fE (rows.map (List.map J)) marks q.1
     |some p=>some (some p))=
   match Nat.blt (A.length+row.length) 1000 with
   |false=>none
   |true=>match Mine.gW row line A with
    |none=>none
    |some q=>match q.2 with
     |none=>Mine.fE rows marks q.1
     |some p=>some (some p)
  rw[aC,aC,h.Y5];cases Nat.blt (A.length+row.length) 1000 with
  |false=>rfl
  |true=>
   cases Mine.gW row line A with
   |none=>rfl
   |some q=>show(match q.2 with|none=>Mine.fE (rows.map (List.map J)) marks (q.1.map (mw J))|some p=>some (some p))=_;rw[ih marks q.1]
def Tj:∀(rows:List (List Nat)) (i:Nat),jI i (rows.map (List.map J))=jI i rows:=by
 intro rs
 induction rs with
 |nil=>intro i;exact rfl
 |cons r rs ih=>intro i;show pU i (r.map J).length::jI (i+1) (rs.map (List.map J))=_;rw[aC,ih];rfl
theorem Up.fd(h:Up J):∀(n:Nat) (rows marks:List (List Nat)) (q:Option (Nat×Nat)),Mine.fd n (rows.map (List.map J)) marks q=Mine.fd n rows marks q
 |0,rows,marks,q=>rfl
 |n+1,rows,marks,none=>rfl
 |n+1,rows,marks,some p=>by
  show(match Mine.fE (rows.map (List.map J)) (marks.map λl:List Nat=>l.map (eE p)) [] with|none=>none|some q=>Mine.fd n (rows.map (List.map J)) (marks.map λl:List Nat=>l.map (eE p)) q)=match Mine.fE rows (marks.map λl:List Nat=>l.map (eE p)) [] with|none=>none|some q=>Mine.fd n rows (marks.map λl:List Nat=>l.map (eE p)) q
  rw[show Mine.fE (rows.map (List.map J)) (marks.map λl:List Nat=>l.map (eE p)) []=Mine.fE rows (marks.map λl:List Nat=>l.map (eE p)) [] from h.Ku rows _ []];cases Mine.fE rows (marks.map λl:List Nat=>l.map (eE p)) [] with
  |none=>rfl
  |some q=>exact h.fd n rows _ q
def Up.fold(h:Up J)(rows:List (List Nat)):Mine.jr (rows.map (List.map J))=Mine.jr rows:=by
 unfold Mine.jr;rw[Tj,show Mine.fE (rows.map (List.map J)) (jI 0 rows) []=Mine.fE rows (jI 0 rows) [] from h.Ku rows _ []];cases Mine.fE rows (jI 0 rows) [] with
 |none=>rfl
 |some q=>exact h.fd 100 rows _ q
def RP(row line:List Nat):eJ (row.map J) line=(eJ row line).map (List.map J):=by unfold eJ;rw[List.map_zipWith];exact congrArg (λf=>List.zipWith f (dF line) ((dF line).drop 1)) (funext λa=>funext λb=>by rw[<- List.map_take,<- List.map_drop])
theorem M3:∀(ws ms:List (List Nat)),List.zipWith eJ (ws.map (List.map J)) ms=(List.zipWith eJ ws ms).map (List.map (List.map J)):=by
 intro ws
 induction ws with
 |nil=>intro ms;exact rfl
 |cons w ws ih=>
  intro t_;cases t_ with
  |nil=>exact rfl
  |cons m ms=>show eJ (w.map J) m::List.zipWith eJ (ws.map (List.map J)) ms=_;rw[RP,ih ms];rfl
def Up.Vp(h:Up J)(x:Ky):∀l:List Ky,Mine.oE Mine.cg (x.map J) (l.map (List.map J))=(Mine.oE Mine.cg x l).map (List.map J):=by
 intro l
 induction l with
 |nil=>exact rfl
 |cons y l ih=>show(match Mine.cg (y.map J) (x.map J) with|true=>y.map J::Mine.oE Mine.cg (x.map J) (l.map (List.map J))|false=>x.map J::y.map J::l.map (List.map J))=(match Mine.cg y x with|true=>y::Mine.oE Mine.cg x l|false=>x::y::l).map (List.map J);rw[h.Cj,ih];cases Mine.cg y x<;>rfl
def Up.FW(h:Up J):∀l:List Ky,Mine.eZ Mine.cg (l.map (List.map J))=(Mine.eZ Mine.cg l).map (List.map J):=by
 intro l
 induction l with
 |nil=>exact rfl
 |cons x l ih=>show Mine.oE Mine.cg (x.map J) (Mine.eZ Mine.cg (l.map (List.map J)))=_;rw[ih,h.Vp];rfl
noncomputable def wj(l a:List Ky):List Ky:=List.rec (motive:=λO=>List Ky->List Ky) (λa=>a) (λx O ih a=>ih (match Mine.bw x a with|true=>a|false=>a++[x])) l a
def Up.PE(h:Up J):∀l a:List Ky,Mine.wj (l.map (List.map J)) (a.map (List.map J))=(Mine.wj l a).map (List.map J):=by
 intro l
 induction l with
 |nil=>intro a;exact rfl
 |cons x l ih=>
  intro a;show Mine.wj (l.map (List.map J)) (match Mine.bw (x.map J) (a.map (List.map J)) with|true=>a.map (List.map J)|false=>a.map (List.map J)++[x.map J])=(Mine.wj l (match Mine.bw x a with|true=>a|false=>a++[x])).map (List.map J);rw[h.zd,<- ih];cases Mine.bw x a with
  |true=>rfl
  |false=>show _=Mine.wj _ ((a++[x]).map (List.map J));rw[bR];rfl
def Up.PC(h:Up J)(l:List Ky):Mine.gi (l.map (List.map J))=(Mine.gi l).map (List.map J):=h.PE l []
theorem Up.eqLs(h:Up J):∀l m:List Ky,iY.eqLs (l.map (List.map J)) (m.map (List.map J))=iY.eqLs l m
 |[],[]=>rfl
 |[],_::_=>rfl
 |_::_,[]=>rfl
 |a::l,b::m=>by show(Mine.au (a.map J) (b.map J)&&iY.eqLs (l.map (List.map J)) (m.map (List.map J)))=_;rw[h.i3,h.eqLs l m];rfl
theorem Up.J3(h:Up J):∀(l:List (Option (List Ky))) (m:List (List Ky)),Mine.iY (l.map (Option.map (List.map (List.map J)))) (m.map (List.map (List.map J)))=Mine.iY l m
 |[],[]=>rfl
 |[],_::_=>rfl
 |_::_,[]=>rfl
 |none::l,b::m=>rfl
 |some k::l,b::m=>by show(iY.eqLs (k.map (List.map J)) (b.map (List.map J))&&Mine.iY (l.map _) (m.map _))=_;rw[h.eqLs,h.J3 l m];rfl
def Up.Si(h:Up J)(S:Sp)(w:Ky):Mine.sk (S.map (mq J)) (w.map J)=Mine.sk S w:=by
 unfold Mine.sk;rw[aC,h.wR];cases Mine.di w S with
 |none=>rfl
 |some l=>show(_&&Mine.au (l.map (List.map J)).flatten (w.map J))=_;rw[<- List.map_flatten,h.i3]
def Up.Sh(h:Up J)(ws K:List Ky)(S:Sp)(Oo:List Ky)(ms:List (List Nat)):Mine.pR (ws.map (List.map J)) (K.map (List.map J)) (S.map (mq J)) (Oo.map (List.map J)) ms=Mine.pR ws K S Oo ms:=by unfold Mine.pR;rw[M3,<- List.map_flatten,h.PC,h.FW,h.FW,h.eqLs,aC,aC,aC,aC];rw[show(ws.map (List.map J)).map (λw=>Mine.di w (S.map (mq J)))=(ws.map λw=>Mine.di w S).map (Option.map (List.map (List.map J))) from ze (λw=>h.wR w S) ws,h.J3];rw[show(S.map (mq J)).map (·.1)=(S.map (·.1)).map (List.map J) by rw[cm,cm];rfl,h.eqLs];rw[tv (f:=mq J) (q:=λp:Ky×List Ky=>Mine.sk S p.1) (λp=>h.Si S p.1)]
def Up.UA(h:Up J)(ws:List Ky):Mine.mZ (ws.map (List.map J))=Mine.mZ ws:=by
 unfold Mine.mZ;rw[h.euclid,h.fold];cases Mine.rn ws with
 |none=>rfl
 |some R=>
  show(match Mine.lu (R.1.map (List.map J)) (R.2.map (mc J)) with|none=>false|some S=>match Mine.km (R.1.map (List.map J)) (R.2.map (mc J)) with|none=>false|some Oo=>match Mine.jr ws with|none=>false|some ms=>Mine.pR (ws.map (List.map J)) (R.1.map (List.map J)) S Oo ms)=
   match Mine.lu R.1 R.2 with|none=>false|some S=>match Mine.km R.1 R.2 with|none=>false|some Oo=>match Mine.jr ws with|none=>false|some ms=>Mine.pR ws R.1 S Oo ms
  rw[h.spelled,h.longest];cases Mine.lu R.1 R.2 with
  |none=>rfl
  |some S=>
   cases Mine.km R.1 R.2 with
   |none=>rfl
   |some Oo=>
    cases Mine.jr ws with
    |none=>rfl
    |some ms=>exact h.Sh ws R.1 S Oo ms
end
end
end
section
open PySem.W PyProof.Rows
noncomputable def wn(v u:Nat):Nat->List Ky
 |0=>[[]]
 |n+1=>(wn v u n).map ([v]++·)++(wn v u n).map ([v,u]++·)
def wl(v u:Nat):List Ky:=wn v u 1++wn v u 2++wn v u 3
def dH(W:List Ky)(a:Ky):Bool:=W.all λb=>W.all λc=>mZ [a,b,c]
noncomputable def w6:List Ky:=[[0],[0,0],[0,0,0],[0,0,0,0],[0,0,0,0,0],[0,0,0,0,0,0]]
def aaK:dH (wl 0 1) [0]=true:=by kernel_rfl
def aaJ:dH (wl 0 1) [0,1]=true:=by kernel_rfl
def aaE:dH (wl 0 1) [0,0]=true:=by kernel_rfl
def aaD:dH (wl 0 1) [0,0,1]=true:=by kernel_rfl
def aaC:dH (wl 0 1) [0,1,0]=true:=by kernel_rfl
def aaB:dH (wl 0 1) [0,1,0,1]=true:=by kernel_rfl
def aaA:dH (wl 0 1) [0,0,0]=true:=by kernel_rfl
def aaz:dH (wl 0 1) [0,0,0,1]=true:=by kernel_rfl
def aay:dH (wl 0 1) [0,0,1,0]=true:=by kernel_rfl
def aax:dH (wl 0 1) [0,0,1,0,1]=true:=by kernel_rfl
def aaI:dH (wl 0 1) [0,1,0,0]=true:=by kernel_rfl
def aaH:dH (wl 0 1) [0,1,0,0,1]=true:=by kernel_rfl
def aaG:dH (wl 0 1) [0,1,0,1,0]=true:=by kernel_rfl
def aaF:dH (wl 0 1) [0,1,0,1,0,1]=true:=by kernel_rfl
def Nt:wl 0 1=[[0],[0,1],[0,0],[0,0,1],[0,1,0],[0,1,0,1],[0,0,0],[0,0,0,1],[0,0,1,0],[0,0,1,0,1],[0,1,0,0],[0,1,0,0,1],[0,1,0,1,0],[0,1,0,1,0,1]]:=rfl
def aa5:∀a∈wl 0 1,dH (wl 0 1) a=true:=λa h=>by
 rw[Nt] at h;simp only[bl,qp,or_false] at h;rcases h with rfl|rfl|rfl|rfl|rfl|rfl|rfl|rfl|rfl|rfl|rfl|rfl|rfl|rfl
 ·exact aaK
 ·exact aaJ
 ·exact aaE
 ·exact aaD
 ·exact aaC
 ·exact aaB
 ·exact aaA
 ·exact aaz
 ·exact aay
 ·exact aax
 ·exact aaI
 ·exact aaH
 ·exact aaG
 ·exact aaF
def aaw:dH (wl 1 0) [1]=true:=by kernel_rfl
def aav:dH (wl 1 0) [1,0]=true:=by kernel_rfl
def aaq:dH (wl 1 0) [1,1]=true:=by kernel_rfl
def aap:dH (wl 1 0) [1,1,0]=true:=by kernel_rfl
def aao:dH (wl 1 0) [1,0,1]=true:=by kernel_rfl
def aan:dH (wl 1 0) [1,0,1,0]=true:=by kernel_rfl
def aam:dH (wl 1 0) [1,1,1]=true:=by kernel_rfl
def aal:dH (wl 1 0) [1,1,1,0]=true:=by kernel_rfl
def aak:dH (wl 1 0) [1,1,0,1]=true:=by kernel_rfl
def aaj:dH (wl 1 0) [1,1,0,1,0]=true:=by kernel_rfl
def aau:dH (wl 1 0) [1,0,1,1]=true:=by kernel_rfl
def aat:dH (wl 1 0) [1,0,1,1,0]=true:=by kernel_rfl
def aas:dH (wl 1 0) [1,0,1,0,1]=true:=by kernel_rfl
def aar:dH (wl 1 0) [1,0,1,0,1,0]=true:=by kernel_rfl
def Nr:wl 1 0=[[1],[1,0],[1,1],[1,1,0],[1,0,1],[1,0,1,0],[1,1,1],[1,1,1,0],[1,1,0,1],[1,1,0,1,0],[1,0,1,1],[1,0,1,1,0],[1,0,1,0,1],[1,0,1,0,1,0]]:=rfl
def aa4:∀a∈wl 1 0,dH (wl 1 0) a=true:=λa h=>by
 rw[Nr] at h;simp only[bl,qp,or_false] at h;rcases h with rfl|rfl|rfl|rfl|rfl|rfl|rfl|rfl|rfl|rfl|rfl|rfl|rfl|rfl
 ·exact aaw
 ·exact aav
 ·exact aaq
 ·exact aap
 ·exact aao
 ·exact aan
 ·exact aam
 ·exact aal
 ·exact aak
 ·exact aaj
 ·exact aau
 ·exact aat
 ·exact aas
 ·exact aar
def aa3:w6.all (dH w6)=true:=by kernel_rfl
def CG:∀a∈wl 0 0,a∈w6:=by decide +kernel
end
section
def Qd(J:Nat->Nat)(v u:Nat)(g:Nat->Nat):∀n i:Nat,dB (J v) (J u) g i n=(dB v u g i n).map J:=by
 intro n
 induction n with
 |zero=>intro i;exact rfl
 |succ n ih=>intro i;show pc (J v) (J u) (g i)++dB (J v) (J u) g (i+1) n=(pc v u (g i)++dB v u g (i+1) n).map J;rw[ih,bR];cases g i<;>rfl
def Bv(v u:Nat)(g:Nat->Nat):∀n i:Nat,dB v u g i n∈wn v u n:=by
 intro n
 induction n with
 |zero=>intro i;exact bz
 |succ n ih=>
  intro i;show pc v u (g i)++dB v u g (i+1) n∈(wn v u n).map ([v]++·)++(wn v u n).map ([v,u]++·);have:=ih (i+1);cases g i with
  |zero=>exact o8 _ (bj.mpr ⟨_,this,rfl⟩)
  |succ k=>exact rL _ (bj.mpr ⟨_,this,rfl⟩)
def pJ(v u:Nat)(x:Int):dB v u (dI x) 0 (1+x.natAbs%3)∈wl v u:=by
 have h:=Nat.mod_lt x.natAbs (show 0<3 by decide);unfold wl;generalize x.natAbs%3=n at *;rcases n with _|_|_|n
 ·exact o8 _ (o8 _ (Bv ..))
 ·exact o8 _ (rL _ (Bv ..))
 ·exact rL _ (Bv ..)
 ·exact absurd h (hJ.mpr (Nat.le_add_left 3 n))
def D5{W:List Ky}(h:∀a∈W,dH W a=true){a b c:Ky}(ha:a∈W)(hb:b∈W)(hc:c∈W):mZ [a,b,c]=true:=fB.mp (fB.mp (h a ha) b hb) c hc
noncomputable def uq(a b n:Nat):Nat:=match n with
 |0=>a
 |n+1=>b+n
def TR{a b:Nat}(h:a<b):Up (uq a b)
 |0,n+1,_=>cA h (hV ..)
 |m+1,n+1,q=>Nat.add_lt_add_left (tH q) b
def Uy(h w:Nat)(x y z:Int):mZ ([x,y,z].map λxi=>dB h w (dI xi) 0 (1+xi.natAbs%3))=true:=by
 have go:∀{a b:Nat} (v u:Nat),a<b->uq a b v=h->uq a b u=w->mZ ([x,y,z].map λxi=>dB v u (dI xi) 0 (1+xi.natAbs%3))=true->mZ ([x,y,z].map λxi=>dB h w (dI xi) 0 (1+xi.natAbs%3))=true:=λ{a b} v u fD e1 e2 k=>by
  rw[<- e1,<- e2];have e:([x,y,z].map λxi=>dB (uq a b v) (uq a b u) (dI xi) 0 (1+xi.natAbs%3))=([x,y,z].map λxi=>dB v u (dI xi) 0 (1+xi.natAbs%3)).map (List.map (uq a b)):=by rw[cm];exact jC λxi O=>Qd _ v u _ _ 0
  rw[e,(TR fD).UA];exact k
 rcases Nat.lt_trichotomy h w with q|q|q
 ·exact go 0 1 q rfl rfl (D5 aa5 (pJ ..) (pJ ..) (pJ ..))
 ·exact go 0 0 (Nat.lt_succ_self h) rfl q (D5 (fB.mp aa3) (CG _ (pJ ..)) (CG _ (pJ ..)) (CG _ (pJ ..)))
 ·exact go 1 0 q rfl rfl (D5 aa4 (pJ ..) (pJ ..) (pJ ..))
def Ux{d:Nat}{H:Hp}{s:List Int}:∃H',RC P (d+6) (.glob 0) [.lst (s.map .int)] H (.bool true) H':=QT λh w x y z O O O=>Uy h w x y z
end
section
open PySem.W PyProof.Rows
abbrev tX:=PySem.Challenge.rw_ny0272_02
def tb:Tb:=⟨P,gl,nm,[("TopologicalSorter","__init__"),("TopologicalSorter","_get_nodeinfo"),("TopologicalSorter","add"),("TopologicalSorter","prepare"),("TopologicalSorter","get_ready"),("TopologicalSorter","is_active"),("TopologicalSorter","done"),("TopologicalSorter","_find_cycle"),("_NodeInfo","__init__")],List.range 260,pw⟩
noncomputable def wd:World:=⟨λO O=>0,{strHash:=λO=>0,shareClass:=λO=>0,mergeTok:=id,idOf:=λO=>0,idOfShared:=λO O=>0,followText:=λO=>false,idOfImm:=λO=>0}⟩
def KO(h:Heap):Cf:=pT tb wd h
def wm(h:Heap):Bool×Bool×List (Nat×FuncBody):=((h.get? (h.objs.size-1)).isSome,xM (KO h) (tb.xu h),D4 (KO h))
noncomputable def qy:Bool×Bool×List (Nat×FuncBody):=(true,true,KZ.map λp=>(p.1,.stmts p.2))
def ZM:((qd P.gt 0).map λp=>(p.1,FuncBody.stmts (cT p.2.body)))=KZ.map λp=>(p.1,.stmts p.2):=by kernel_rfl
variable {h:Heap}
def aaX(e:wm h=qy)(w:World):nO (pT tb w h):=by refine ua (Prod.mk.inj e) λO e=>?_;refine ua (Prod.mk.inj e) λe1 e2=>?_;exact aok tb (w':=wd) e1 (e2.trans ZM.symm)
def Tz(e:wm h=qy):h.isNs mainGlobals=true:=by refine ua (Prod.mk.inj e) λO e=>?_;have h:=(Prod.mk.inj e).1;refine NP h λh O O O O O O=>?_;exact(nB h).2
def UB(e:wm h=qy):∃a o,h.get? a=some o/\a+1=h.objs.size:=by refine ue (rO.mp (Prod.mk.inj e).1) λo ho=>?_;exact⟨_,o,ho,Nat.sub_add_cancel (cN (kU _) (cZ ho))⟩
noncomputable def Cs:List Nat:=[0,2,3,4,5,7,8,9,10,11,13,15,16,17,18,19,20,21,22,23,24,25]
def qv:Program:=view pw Cs
noncomputable def ux:List Str:=[Str.ofString "_NodeInfo"]
def xt(s:Shared):Bool:=xlAt qv [] s&&recOk (RowW.records (OpenRow.toRowW (OpenLaw.row tX))) s
noncomputable def tf(run:(String->Option Builtin)->Program->World->Nat->Option Value->Nat->Shared->Thread->Option Shared)(tb:String->Option Builtin)(p:Program)(w:World)(N:Nat)(s₀:Shared):Option Shared:=
 match s₀.heap.isNs mainGlobals&&s₀.gens.size==0 with
 |true=>(run tb p w s₀.heap.objs.size (s₀.heap.nsMap mainGlobals "__annotations__") N s₀ (topStub p)).bind λs₁=>match staticsOk (importedModules p.main.body) s₀.heap s₁.heap&&namesBound p s₁.heap&&gensDone s₁&&laidKept s₀.heap s₁.heap with
   |true=>some s₁
   |false=>none
 |false=>none
def Og:topFrom=tf topRun:=rfl
def yf(s:Shared):Bool×Bool×List (Nat×FuncBody):=wm s.heap
def Ur(w:World)(os:OsState):(tf PySem.W.Fast.tw14082659384304107361 PySem.W.Fast.tw14364793385576792824 pw w 3346 ⟨boot_heap w.params,Array.mk [],boot_drawn,boot_toks,os⟩).map (λs=>(PySem.W.Fast.tw4187177175401517315 qv ux (importedModules pw.main.body) xt true s,yf s))=some (openGood qv ux,qy):=by kernel_rfl
def Uq(w:World)(os:OsState):(topFrom treeTable pw w 3346 ⟨boot_heap w.params,Array.mk [],boot_drawn,boot_toks,os⟩).map (λs=>(openSeen qv ux (importedModules pw.main.body) xt true s,yf s))=some (openGood qv ux,qy):=by rw[Og,PySem.W.Fast.te14082659384304107361,PySem.W.Fast.te14364793385576792824,PySem.W.Fast.te4187177175401517315];exact Ur w os
def ZJ:opening pw=plainProg pw.main.scope.names:=by kernel_rfl
def ZH(s:Shared):fenceModules? pw s=some s:=by kernel_rfl
def Uo{p q:Program}{loose:List Str}{Xt:Shared->Bool}{α:Type}{Yf:Shared->α}{a:α}{N:Nat}(e:opening p=plainProg p.main.scope.names)(hN:Nat.ble 600 N=true)(f:∀s,fenceModules? p s=some s)
  (h:∀(w:World) (os:OsState),(topFrom treeTable p w N ⟨boot_heap w.params,Array.mk [],boot_drawn,boot_toks,os⟩).map (λs=>(openSeen q loose (importedModules p.main.body) Xt true s,Yf s))=some (openGood q loose,a)):
  LeftO p q loose Xt Yf (λO=>a) N:=by
 intro w;obtain⟨⟨h',gs,d,k,os⟩,e,e'⟩:=qt.mp (boot_open e hN f w);simp only[Prod.mk.injEq] at e';obtain⟨rfl,rfl,rfl,rfl⟩:=e';unfold openEnds;rw[e];exact h w os
def left:LeftO pw qv ux xt yf (λO=>qy) 3346:=Uo ZJ (by rfl) ZH Uq
def Br:OpenLaw.wellSaid tX=true:=by kernel_rfl
def Kf:(defOf qv tX.row.name).isSome=true:=by kernel_rfl
def dk:DefRec×List (Str×Expr):=(defOf qv tX.row.name).get Kf
section
variable {V:Cf}{J:Ph}{s:Shared}{H:Hp}{d:Nat}{E:Ev}
noncomputable def Cy(r:du Fl):Bool:=match r with
 |.ok f _ _=>(match f with
  |.ret v=>(match v with
   |.bool b=>b
   |_=>false)
  |_=>false)
 |_=>false
def Ve{r:du Fl}(h:Cy r=true):∃U H,r=.ok (.ret (.bool true)) U H:=by
 cases r with
 |ok f U H=>
  cases f with
  |ret v=>
   cases v with
   |bool b=>exact⟨U,H,by rw[show b=true from h]⟩
   |_=>exact cR h
  |_=>exact cR h
 |_=>exact cR h
def Od(ok:AG V)(Sd:lU V E)(R:aR V [] H s.heap)(hd:d<=20){k:Nat}{fd:FD}{vf:Value}{vs:List Value}{xs:List AV}{ρ':aD}(hk:V.P.gt[k]?=some (.fn fd))(hg:V.gv k=some vf)(hv:aO V [] s.heap vs xs)(hb:nz fd xs=some ρ')
  (hr:Cy (d0 (E.s d true) (ss fd.body) ρ' H)=true) {Q Ex:Value->Shared->Prop} (h:∀φ' H' s',Nx [] [] φ' s s'->aR V φ' H' s'.heap->Q (.bool true) s'):wpAny (model V.prog V.w) callerA (call vf vs) Q Ex s:=by
 obtain⟨ρ3,H3,hr⟩:=Ve hr;obtain⟨a,o,cC,as,va,kd,df,f⟩:=ok.fns k fd hk;rw[f.gv] at hg;cases hg;have sc:=JE f.sc;have wb:=f.wf;have FL:fH V [] [] s.heap:=(fH.mk trivial (λL hL=>(nomatch hL)) (λL hL=>(nomatch hL)));have hA:callerA.frames=some []:=rfl;have rm:=λcenv=>Gy (cenv:=cenv) (d:=d) (A:=callerA) (kG.mk (Nj hd) (Ni hd));have par:kH cC fd as va kd df:=(kH.mk f.ps sc.nodup f.npar f.EY);have bn:=λ{M:Model} {A:Around} {Q:List (Str×Value)->Shared->Prop} {Ex:Value->Shared->Prop} h=>Lb (M:=M) (A:=A) (Q:=Q) (Ex:=Ex) R par f.dflt hv hb h;generalize qI as va=ps at *;refine Ao (codeAny_call_function (rm default).2 (R.keep _ _ f.get) f.data sc.co sc.gen f.body (f.code.keeps R.keep) (bn λs1 A3 Yq j b=>?_));rw[f.Kt,f.ra,f.rA];refine wpAny_newFunctionEnv_cells sc.kind (λx hx=>?_) λcenv he s2 x=>⟨ok.lim.keeps λc o e=>x.toInCall.keep c o (b.grow.keep c o (R.keep c o e)),codeAny_func ?_⟩
 ·rcases sc.ps x.1 (List.of_mem_zip (show(x.1,x.2)∈ps.zip A3 from hx)).1 with h|h
  ·exact .inl h
  ·exact .inr ⟨h,DY _ _ _ _ (.inl (jc h))⟩
 have R1:=R.grow b.grow;obtain⟨er,qb⟩:=JD (k:=j) (A:=callerA.deeper cenv) R1 sc b.all b.len he x;have eL:cenv.locals=s1.heap.objs.size:=by rw[he];rfl
 have eF:cenv.frame=some cenv.locals:=by rw[he];rfl
 have eK:cenv.scope=cC.scope:=by rw[he];rfl
 have gr:=b.grow.trans qb;have fresh:∀c∈(xC cC.scope cenv (rg cC.scope.names ps) (callerA.deeper cenv)).X,¬ bM s.heap c:=λc hc ho=>by
  have le:s1.heap.objs.size<=c:=by
   rcases bl.mp hc with rfl|hc
   ·exact bL eL.symm
   ·obtain⟨p,hp,e⟩:=qr.mp hc;have:=x.above p.1 c (jc e);rw[eL] at this;exact bG this
  exact gB le (b.grow.live _ ho)
 have FL2:fH V [] [] s2.heap:=(fH.mk trivial (λL hL=>(nomatch hL)) (λL hL=>(nomatch hL)));have BM:aq V d true (xC cC.scope cenv (rg cC.scope.names ps) (callerA.deeper cenv)) [] ρ' H s2:=(aq.mk (R1.grow qb) (b.rho▸er) ((rm cenv).1) (λO=>rfl) (FL2.deeper hA (by rw[eK,sc.kind];simp) eF x.toInCall.ns (Heap.get?_none_of_le (er.rT _ er.kq)) (er.qw _ er.kq)))
 have T:=qf Sd.tovA (l:=fd.body) BM wb;rw[hr] at T;refine cH (T nofun) (λf s3 hh=>?_) λe s3 h=>h.not nofun;obtain⟨b',ρ4,H4,φ3,e,a,hR⟩:=hh;cases e;obtain⟨w,rfl,r⟩:=hR;cases r;exact h φ3 _ s3 (a.nx.drop gr fresh) a.rel
end
variable {R:WRecords}{cl:Str->Option Addr}{ord:List DictEntry->List DictEntry}
def Uv{P:Params}:∀(is:List Int) {s:Shared} {q:List Value×Shared},layAllW R cl P ord (ofPys (is.map PyData.int)) s=some q->q.2.heap=s.heap/\IntsAre q.1 is:=by
 intro is
 induction is with
 |nil=>intro s q h;cases h;exact⟨rfl,.nil⟩
 |cons i is ih=>intro s q h;obtain⟨a,q',h1,h2,rfl⟩:=layAllW_cons h;cases h1;obtain⟨h3,h4⟩:=ih h2;exact⟨h3,.cons i _ h4⟩
def Uu{P:Params}{is:List Int}{s s₁:Shared}{vs:List Value}(h:layAllW R cl P ord [ofPy (.list (is.map PyData.int))] s=some (vs,s₁)):
  ∃items,vs=[.ref s.heap.objs.size]/\s₁.heap=s.heap.push {cls:=.type "list",data:=.seq (List.toArray items)}/\IntsAre items is:=by
 obtain⟨a,q,h1,h2,e⟩:=layAllW_cons h;obtain⟨q',h3,rfl⟩:=layW_list h1;obtain⟨h4,h5⟩:=Uv is h3;cases h2;cases e;exact⟨q'.1,by rw[h4],by rw[h4],h5⟩
def Vf{U:aD}{H':Hp}{r:du Fl}(h:sX U r=.ok (.bool true) U H'):Cy r=true:=by
 cases r with
 |ok f ρ' H2=>cases f with
  |ret v=>have h:du.ok v U H2=.ok (.bool true) U H':=h;cases h;rfl
  |_=>cases h
 |_=>cases h
def ZK(is:List Int):tX.row.claim.post [ofPy (PyData.list (List.map PyData.int is))] (.bool true) [ofPy (PyData.list (List.map PyData.int is))]=true:=by kernel_rfl
def Uz{w:World}{s₀ s₁:Shared}{is:List Int}{l:Addr}{fa:Addr}{mg:Str->Option Value}{as:List Addr}(y:wm s₀.heap=qy)(L:Laid R w s₀ s₁ [ofPy (.list (is.map PyData.int))] [.ref l] as)(hl:is.length<=63)
  (hn:s₁.heap.Ns mainGlobals mg) (xl:mg "law"=some (.ref fa)) (hg:s₁.gens=#[]) {Q Ex:Value->Shared->Prop} (h:∀s',OldK s₁.heap s'.heap->s'.os=s₁.os->AllBare s'.gens->Q (.bool true) s'):
  wpAny (model pw w) callerA (call (.ref fa) [.ref l]) Q Ex s₁:=by
 obtain⟨ord,_,CW⟩:=L.laid;obtain⟨items,e1,e2,hI⟩:=Uu CW;cases e1;have ok:=aaX y w;have R0:aR (pT tb w s₀.heap) [] [] s₁.heap:=(aR.mk L.keeps (λp hp=>(nomatch hp)) (λp hp=>(nomatch hp)) pf rfl (UB y) (λn o e=>nomatch e))
 have m0:mg=s₀.heap.nsMap mainGlobals:=hn.eq_nsMap.trans ((Heap.Ns.of_isNs (Tz y)).keeps L.keeps).eq_nsMap.symm;have C0:(pT tb w s₀.heap).gv 0=some (.ref fa):=by rw[m0] at xl;show sU s₀.heap "law"=_;unfold sU;rw[xl]
 obtain⟨H',rc⟩:=Ux (d:=14) (H:=[]) (s:=is);obtain⟨N,hN⟩:=rc.run [];refine Od (k:=0) (fd:=f0) (xs:=[.lst (is.map .int)]) (ρ':=[some (.lst (is.map .int)),none,none,none,none,none,none,none,none,none,none,none,none,none,none,none,none]) ok.toAG (O8 ok N) R0 (d:=19) (by decide) rfl C0 (.cons (.lst (n:=0) (Sq.mk (by rw[e2];exact cw _ rfl) nofun (EV hI) (by rw[aC];exact aH hl (by decide):(is.map AV.int).length<=az))) .nil) rfl (Vf (hN (N+1) (jx N):sX [] (d0 ((ev P N).s 19 true) (ss f0.body) [some (.lst (is.map .int)),none,none,none,none,none,none,none,none,none,none,none,none,none,none,none,none] [])=.ok (.bool true) [] H')) λφ' H' s' nx R'=>h s' (.of_keep λb o e=>?_) nx.os (.of_eq (nx.gens.trans hg));have e':=e;rw[e2] at e';rcases Heap.get?_push_cases e' with⟨_,rfl⟩|k
 ·rcases nx.ext.keep b _ e nofun nofun with k|⟨⟨es,n,k⟩,_⟩
  ·exact k
  ·cases k
 ·exact R'.keep b o k
set_option tactic.hygienic true in
theorem Oe:tX.Holds:=by
 refine holds_law Br λBr=>?_;refine holds_openX (q:=qv) (loose:=ux) (Xt:=xt) (XP:=XL qv []) (Yf:=yf) (Ya:=λO=>qy) (N:=3346) (d:=dk.1) (kwd:=dk.2) left (λs e=>xl_of s (Bool.and_eq_true_iff.mp e).1) XL.keeps (Option.some_get Kf).symm (by kernel_rfl) (by kernel_rfl) (λs e=>recFacts_of (Bool.and_eq_true_iff.mp e).2) (by kernel_rfl) Br (by kernel_rfl) ⟨rfl,rfl,rfl,rfl,rfl,by decide +kernel⟩ ?hw ?hc
 case hw=>w_witness2
 intro w s₀ s₁ mg mb G y fa o pm cd doc dV kV ho hd Jb hD xl hg args vals as L VN CW VL VF VV;have hn:=L;have hN:s₁.heap.Ns mainGlobals mg:=by refine Ground.open G ?_;intro T B D TE TW;exact T.g
 have zI:dk.1.name=("law":Str):=by kernel_rfl
 rw[zI] at xl;refine Ground.open G ?_;intro T B D TE TW
 wrow_args VN CW VL VF VV
 rename_i is _ _ _ _ _ _ _ _ _ _ _ _ _ _ _ _ hlen _;refine Uz y L (by omega:is.length<=63) hN xl hg λs' hK ho hb=>?_;exact⟨.inl ⟨.bool true,.bool true,[],rfl,λO=>rfl,.bool true,ZK is,λO=>⟨pf,nofun⟩⟩,hK,ho,hb⟩
end
end
end Mine
theorem PySem.Challenge.cw_ny0272_02_holds : PySem.Challenge.rw_ny0272_02.Holds := by
 exact Mine.Oe
