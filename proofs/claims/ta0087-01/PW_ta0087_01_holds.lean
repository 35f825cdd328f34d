import PyProof.Rows.All
import Wide.All
import OpenK.AllK
import Wide.FinOn
import PyProof.StrLaws
import PyProof.TableCode
import PySem.Challenge.RW_ta0087_01
set_option maxRecDepth 100000
set_option linter.all false
set_option genSizeOf false
set_option Elab.async false
set_option tactic.hygienic false
set_option bootstrap.genMatcherCode false
set_option genInjectivity false
set_option genCtorIdx false
namespace Mine.Internal
abbrev Nt:=@Nat.le_trans
abbrev Wb:=@PySem.wpAny_bind
abbrev Wm:=@PySem.wpAny_mono
abbrev Wp:=@PySem.wpAny_pure
abbrev Nr:=@Nat.le_refl
abbrev Hp:=@PySem.Heap.get?_push_of_some
abbrev Nl:=@Nat.lt_of_lt_of_le
abbrev Nm:=@Nat.lt_of_le_of_lt
abbrev Ne0:=@Nat.le_of_eq
abbrev Na:=@Nat.add_le_add
section
open PySem
set_option genInjectivity false
set_option genCtorIdx false
set_option genInjectivity true
set_option genCtorIdx true
inductive PV where
 |none
 |bool (b:Bool)
 |int (i:Int)
 |str (l:List Nat)
 |tuple (l:List PV)
 |list (l:List PV)
 |dict (l:List (Int×PV))
 |obj (l:List (Nat×PV))
 |fn (f:Nat)
 |cell (n:Nat)
set_option genCtorIdx false
inductive Sto where
 |list (l:List PV)
 |dict (l:List (Int×PV))
 |obj (l:List (Nat×PV))
set_option genInjectivity false
set_option genCtorIdx false
inductive PE where
 |cnone|cbool (b:Bool)|cint (i:Int)|cstr (l:List Nat)
 |var (x:Nat)|fn (x:Nat)|gint (i:Int)
 |boolop (isAnd:Bool) (es:List PE)
 |bin (op:Operator) (a b:PE)
 |neg (a:PE)|not (a:PE)
 |ite (c a b:PE)
 |list (es:List PE)|tuple (es:List PE)|dict (ks vs:List PE)
 |cmp (a:PE) (ops:List CmpOp) (es:List PE)
 |sub (a i:PE)|slice (a:PE) (lo hi st:Option PE)
 |attr (a:PE) (n:Nat)|cattr (n:Nat)
 |call (f:Nat) (args:List PE)
 |vcall (x:Nat) (args:List PE)
 |len (a:PE)|max1 (a:PE)|max2 (a b:PE)|sum (a:PE)|tup (a:PE)
 |range (a:Option PE) (b:PE)|enum (a:PE)|zip (a b:PE)
 |meth (a:PE) (n:Nat) (args:List PE)
 |comp (elt:PE) (tgts:List (Bool×List Nat)) (iters:List PE) (ifs:List (List PE)) (keep:List Nat)
 |dcomp (k v:PE) (tgts:List (Bool×List Nat)) (iters:List PE) (ifs:List (List PE)) (keep:List Nat)
 |exIn (a:PE)|exGet (a:PE)
 |repl (a:PE) (p q:List Nat)
 |newList|newDict|pop (x:Nat)|freshAdd (a b:PE)
inductive PS where
 |assign (x:Nat) (e:PE)
 |assigns (xs:List Nat) (e:PE)
 |unpack (xs:List Nat) (e:PE)
 |tupAssign (xs:List Nat) (es:List PE)
 |setSub (x:Nat) (i e:PE)
 |setSub2 (x:Nat) (k1 k2:PE) (e:PE)
 |setAttr (x:Nat) (n:Nat) (e:PE)
 |append (x:Nat) (e:PE)
 |appendAt (x:Nat) (i e:PE)
 |popX (x:Nat)
 |ite (c:PE) (a b:List PS)
 |forS (tup:Bool) (xs:List Nat) (src:PE) (body:List PS)
 |whileS (c:PE) (body:List PS)
 |ret (e:PE)
 |brk
 |sortS (x:Nat) (a:PE) (p:Nat) (body:PE) (keep:List Nat)
 |tryS (body:List PS)
 |unesc (x y p:Nat) (a:List Nat) (sep:Nat) (b:List Nat)
noncomputable def yN:List String:=["self","ws","S","T","count","b","n","nt","ch","trailing","tabsize","il","i","other","a","ts","x","text",
 "script","cells","rows","cell","own","place","base","row","run","lead","size","column","sign","leads","names","guys","runs","sizes","columns",
 "table","closed","told","both","apart","behind","said","t","one","guy","members","ties","parts","near","part","way","inner","loose","tight",
 "line","kind","spelled","spared","page","symbols","end","k","strength","meant","values","signs","symbol","right","left","last","pages","pairs",
 "crooked","four","within","due","name","hand","c","d",
 "raw","norm","is_simple",
 "Whitespace","__init__","longest_run_of_spaces","indent_level","equal","not_equal_witness","less","not_less_witness",
 "ISTERMINAL","ISNONTERMINAL","ISEOF","_escape_cdata","_escape_attrib","_escape_attrib_html","_escape_cdata_c14n","_escape_attrib_c14n",
 "_law_leads","_law_column","_law_said","_law_parts","_law_line","_law_page","_law_cut","_law_told","law",
 "split","join","replace","index"]
noncomputable def nms:List Str:=yN.map Str.ofString
noncomputable def nm(i:Nat):Str:=nms.getD i Str.empty
noncomputable def idOf(x:Str):Option Nat:=nms.findIdx? (·==x)
noncomputable def gH(sc' sc:Scope):Scope:=
 {sc' with names:=sc'.names.map λ(n,k)=>if k==.free&&sc.kind==.function&&sc.names.lookup n==some .cell then(n,.cell)else(n,k)}
noncomputable def aW(sc:Scope)(x:Str):Bool:=sc.names.lookup x==some .local||sc.names.lookup x==some .cell
noncomputable def gJ(sc' sc:Scope):Bool:=
 sc'.kind==.function&&sc'.names.all (λx=>sc'.names.lookup x.1==some x.2)&&sc'.names.all (λx=>x.2 != .free||(sc.names.lookup x.1==some .cell||sc.names.lookup x.1==some .free))&&!sc'.isGenerator&&!sc'.isCoroutine
noncomputable def ow:List (Str×Int):=[("NT_OFFSET",256),("ENDMARKER",0)]
noncomputable def cj:List Str:=["raw","norm","is_simple","n","nt"]
noncomputable def jD:List Str:=["longest_run_of_spaces","indent_level","equal","not_equal_witness","less","not_less_witness"]
noncomputable def hZ:List Str:=["_escape_cdata","_escape_attrib","_escape_attrib_html","_escape_cdata_c14n","_escape_attrib_c14n"]
noncomputable def noC(e:Expr):Bool:=e.ctorIdx != 16
noncomputable def i4{α:Type}:List α->Option α
 |[]=>none
 |a::r=>if r.isEmpty then some a else none
noncomputable def o9{α:Type}:List α->Option (α×α)
 |[]=>none
 |a::r=>(i4 r).map λb=>(a,b)
noncomputable def dJ(i:Nat):Bool:=decide (87<=i)&&decide (i<=92)
inductive Vw where
 |name (x:Str)
 |call (f:Expr) (as:List Expr) (ks:List Keyword) (pos:Pos)
 |attr (o:Expr) (n:Str) (p:Pos)
 |tup (es:List Expr)
 |sub (v i:Expr)
 |bin (l:Expr) (op:Operator) (r:Expr)
 |str (s:Str)
 |lst (es:List Expr)
 |dct (ks:List (Option Expr)) (vs:List Expr)
 |lam (as:Arguments) (b:Expr) (sc:Scope) (p:Pos)
 |other
noncomputable def c5:Expr->Vw
 |.Name x _=>.name x
 |.Call f as ks pos=>.call f as ks pos
 |.Attribute o n p=>.attr o n p
 |.Tuple es _ _=>.tup es
 |.Subscript v i _=>.sub v i
 |.BinOp l op r _=>.bin l op r
 |.Constant c _ _=>match c with|.str s=>.str s|_=>.other
 |.List es _=>.lst es
 |.Dict ks vs _=>.dct ks vs
 |.Lambda as b sc p=>.lam as b sc p
 |_=>.other
noncomputable def eZ(e:Expr):Option Str:=match c5 e with|.name x=>some x|_=>none
structure w5 where
 f:Expr
 as:List Expr
 ks:List Keyword
 pos:Pos
noncomputable def gB(e:Expr):Option w5:=match c5 e with|.call f as ks pos=>some ⟨f,as,ks,pos⟩|_=>none
noncomputable def j9(e:Expr):Option (List Expr):=match c5 e with|.tup es=>some es|_=>none
noncomputable def nmI(e:Expr):Option Nat:=(eZ e).bind idOf
noncomputable def dQ(e:Expr):Option (Bool×List Nat):=match j9 e with
 |some es=>(es.mapM nmI).map λxs=>(true,xs)
 |none=>(nmI e).map λi=>(false,[i])
noncomputable def iI(e:Expr):Bool:=match gB e with
 |some c=>eZ c.f==some ("enumerate":Str)
 |none=>false
noncomputable def isG(sc:Scope)(x:Str):Bool:=sc.names.lookup x==some .globalImplicit
noncomputable def isV(sc:Scope)(x:Str):Bool:=sc.names.lookup x==some .local||sc.names.lookup x==some .cell||sc.names.lookup x==some .free
noncomputable def bO(sc:Scope)(e:Expr):Option Nat:=(eZ e).bind λx=>if isV sc x then idOf x else none
noncomputable def mM(sc:Scope)(n:Str)(e:Expr):Bool:=match eZ e with
 |some x=>isG sc x&&x==n
 |none=>false
noncomputable def qB:Const->Option PE
 |.none=>some .cnone
 |.bool b=>some (.cbool b)
 |.int i=>some (.cint i)
 |.str s=>some (.cstr s.cps.toList)
 |_=>none
noncomputable def dh(e:Expr):Option Str:=match c5 e with|.str s=>some s|_=>none
noncomputable def kJ(sc:Scope)(x:Str):Option PE:=
 if isV sc x then(idOf x).map .var else if isG sc x then(match ow.lookup x with
  |some i=>some (.gint i)
  |none=>if hZ.contains x then(idOf x).map .fn else none)else none
noncomputable def mK(sc:Scope)(ops:List CmpOp)(cs:List Expr):Bool:=match i4 cs with
 |some c=>ops==[.In]&&mM sc "EXACT_TOKEN_TYPES" c
 |none=>false
noncomputable def u6(T:Expr->Option PE)(sc:Scope)(l:Expr)(ops:List CmpOp)(cs:List Expr):Option PE:=
 if mK sc ops cs then(T l).map .exIn else(T l).bind λa=>(cs.mapM T).map λb=>.cmp a ops b
noncomputable def trO(T:Expr->Option PE):Option Expr->Option (Option PE)
 |none=>some none
 |some e=>(T e).map some
noncomputable def xm(T:Expr->Option PE)(v:PE):Expr->Option PE
 |.Slice lo hi st _=>(trO T lo).bind λa=>(trO T hi).bind λb=>(trO T st).map λc=>.slice v a b c
 |i=>(T i).map (.sub v)
noncomputable def j1(T:Expr->Option PE)(sc:Scope)(v i:Expr):Option PE:=
 if mM sc "EXACT_TOKEN_TYPES" v then(T i).map .exGet else(T v).bind λpv=>xm T pv i
noncomputable def p4(T:Expr->Option PE)(sc:Scope)(v:Expr)(n:Str):Option PE:=
 if mM sc "Whitespace" v then(idOf n).map .cattr else if cj.contains n&&noC v then(T v).bind λpv=>(idOf n).map (.attr pv)else none
noncomputable def one(c:PE->PE)(l:List PE):Option PE:=(i4 l).map c
noncomputable def two(c:PE->PE->PE)(l:List PE):Option PE:=(o9 l).map λp=>c p.1 p.2
noncomputable def jV:List (Str×(List PE->Option PE)):=
 [("len",one .len),("sum",one .sum),("tuple",one .tup),("max",λas=>(one .max1 as).or (two .max2 as))]
noncomputable def m6(sc:Scope)(x:Str)(as:List PE):Option PE:=
 if isG sc x then(match jV.lookup x with
  |some g=>g as
  |none=>if jD.contains x then none else(idOf x).map λf=>.call f as)
 else if isV sc x then(idOf x).map λf=>.vcall f as else none
noncomputable def zd(o:PE)(l:List Expr):Option PE:=(o9 l).bind λab=>(dh ab.1).bind λp=>(dh ab.2).map λq=>.repl o p.cps.toList q.cps.toList
noncomputable def i9(T:Expr->Option PE)(o:Expr)(n:Str)(apos:Pos)(args:List Expr)(pos:Pos):Option PE:=
 if apos.endLine==pos.line&&decide (args.length<=5)&&noC o then(T o).bind λo'=>
  if n==("replace":Str)then zd o' args else(args.mapM T).bind λas=>(idOf n).map λi=>.meth o' i as
 else none
noncomputable def pV(T:Expr->Option PE)(sc:Scope)(f:Expr)(args:List Expr)(pos:Pos):Option PE:=match c5 f with
 |.name x=>(args.mapM T).bind (m6 sc x)
 |.attr o n apos=>i9 T o n apos args pos
 |_=>none
noncomputable def xY(T:Expr->Option PE)(f:Str)(args:List Expr):Option PE:=
 (args.mapM T).bind λas=>if f==("enumerate":Str)then one .enum as else(one (.range none) as).or (two (λa b=>.range (some a) b) as)
noncomputable def to(sc:Scope)(e:Expr):Option (Str×List Expr):=(gB e).bind λc=>(eZ c.f).bind λx=>
 if isG sc x&&c.ks.isEmpty&&(x==("enumerate":Str)||x==("range":Str))then some (x,c.as)else none
noncomputable def PE.ix(e:PE):Nat:=PE.casesOn e 0 (λ_=>0) (λ_=>0) (λ_=>0) (λ_=>0) (λ_=>0) (λ_=>0) (λ_ _=>0) (λ_ _ _=>0) (λ_=>0) (λ_=>0) (λ_ _ _=>0) (λ_=>0) (λ_=>0) (λ_ _=>0) (λ_ _ _=>0) (λ_ _=>0) (λ_ _ _ _=>0) (λ_ _=>0) (λ_=>0) (λ_ _=>0) (λ_ _=>0) (λ_=>0) (λ_=>0) (λ_ _=>0) (λ_=>0) (λ_=>0) (λ_ _=>1) (λ_=>1) (λ_ _=>0) (λ_ _ _=>0) (λ_ _ _ _ _=>0) (λ_ _ _ _ _ _=>0) (λ_=>0) (λ_=>0) (λ_ _ _=>0) 2 2 (λ_=>2) (λ_ _=>2)
noncomputable def pS(e:PE):Bool:=e.ix==1
noncomputable def trI(T:Expr->Option PE)(sc:Scope)(e:Expr):Option PE:=match to sc e with
 |some (x,args)=>xY T x args
 |none=>(T e).bind λpe=>if pS pe then none else some pe
noncomputable def fh(sc':Scope):List Nat:=(sc'.names.filter (·.2==.free)).filterMap λn=>idOf n.1
noncomputable def eT(T:Scope->Expr->Option PE)(raw inner:Scope):Scope->List Comprehension->Option (List (Bool×List Nat)×List PE×List (List PE))
 |_,[]=>some ([],[],[])
 |sc,g::gs=>(dQ g.target).bind λtx=>
  if g.is_async==0&&(tx.2.all λx=>aW raw (nm x))&&(tx.1||!iI g.iter)then
   (eT T raw inner inner gs).bind λr=>(trI (T sc) sc g.iter).bind λi=>(g.ifs.mapM (T inner)).map λf=>(tx::r.1,i::r.2.1,f::r.2.2)
  else none
noncomputable def A1(op:UnaryOp)(a:Option PE):Option PE:=match op with
 |.USub=>a.map .neg
 |.Not=>a.map .not
 |_=>none
noncomputable def yF(T:Expr->Option PE)(ks:List (Option Expr))(vs:List Expr):Option PE:=
 if ks.isEmpty then none else(ks.mapM λ(o:Option Expr)=>o.bind T).bind λa=>(vs.mapM T).map λb=>.dict a b
noncomputable def tr:Nat->Scope->Expr->Option PE
 |0,_,_=>none
 |k+1,sc,e=>match e with
  |.Constant c _ _=>qB c
  |.Name x _=>kJ sc x
  |.BoolOp op vs _=>(vs.mapM (tr k sc)).map (.boolop (op==.And))
  |.BinOp l op r _=>(tr k sc l).bind λa=>(tr k sc r).map λb=>.bin op a b
  |.UnaryOp op x _=>A1 op (tr k sc x)
  |.IfExp c a b _=>(tr k sc c).bind λc=>(tr k sc a).bind λa=>(tr k sc b).map λb=>.ite c a b
  |.List es _=>if es.length<=1000 then(es.mapM (tr k sc)).map .list else none
  |.Tuple es _ _=>if es.length<=1000 then(es.mapM (tr k sc)).map .tuple else none
  |.Dict ks vs _=>yF (tr k sc) ks vs
  |.Compare l ops cs _=>u6 (tr k sc) sc l ops cs
  |.Subscript v i _=>j1 (tr k sc) sc v i
  |.Attribute v n _=>p4 (tr k sc) sc v n
  |.Call f args ks pos=>if ks.isEmpty then pV (tr k sc) sc f args pos else none
  |.ListComp elt gens sc' _=>if gJ sc' sc then(eT (tr k) sc' (gH sc' sc) sc gens).bind λr=>(tr k (gH sc' sc) elt).map λe=>.comp e r.1 r.2.1 r.2.2 (fh sc')else none
  |.DictComp kk vv gens sc' _=>if gJ sc' sc then(eT (tr k) sc' (gH sc' sc) sc gens).bind λr=>(tr k (gH sc' sc) kk).bind λa=>(tr k (gH sc' sc) vv).map λb=>.dcomp a b r.1 r.2.1 r.2.2 (fh sc')else none
  |_=>none
noncomputable def isR(e:PE):Bool:=e.ix==2
noncomputable def trP(sc:Scope)(e:Expr):Option PE:=(tr 60 sc e).bind λpe=>if isR pe then none else some pe
structure xb where
 o:Expr
 n:Str
 apos:Pos
 args:List Expr
 pos:Pos
noncomputable def kN(e:Expr):Option xb:=(gB e).bind λc=>if c.ks.isEmpty then(match c5 c.f with|.attr o n apos=>some ⟨o,n,apos,c.as,c.pos⟩|_=>none)else none
noncomputable def qz(sc:Scope)(e:Expr):Option Nat:=(kN e).bind λm=>
 if m.n==("pop":Str)&&m.args.isEmpty&&m.apos.endLine==m.pos.line then bO sc m.o else none
noncomputable def qS(e:Expr):Bool:=match c5 e with|.lst es=>es.isEmpty|_=>false
noncomputable def m3(e:Expr):Bool:=match c5 e with|.dct ks vs=>ks.isEmpty&&vs.isEmpty|_=>false
noncomputable def trR(sc:Scope)(e:Expr):Option PE:=
 if qS e then some .newList else if m3 e then some .newDict else match qz sc e with
  |some x=>some (.pop x)
  |none=>trP sc e
noncomputable def lq(e:Expr):Option (Expr×Expr):=match c5 e with|.bin l op r=>if op==.Add then some (l,r)else none|_=>none
noncomputable def vE(own:Bool)(sc:Scope)(e:Expr):Option PE:=match(if own then lq e else none)with
 |some (l,r)=>(tr 60 sc l).bind λa=>(tr 60 sc r).map λb=>.freshAdd a b
 |none=>trR sc e
noncomputable def lw(e:Expr):Option (Expr×Expr):=match c5 e with|.sub v i=>some (v,i)|_=>none
noncomputable def u7(l:List Expr):Option ((Expr×Expr)×(Expr×Expr)):=(o9 l).bind λab=>(lw ab.1).bind λp=>(lw ab.2).map λq=>(p,q)
structure tI where
 p:Str
 ap:Pos
 body:Expr
 sc:Scope
 pos:Pos
noncomputable def uU(as:Arguments):Option (Str×Pos):=if as.posonlyargs.isEmpty&&as.vararg.isNone&&as.kwonlyargs.isEmpty&&as.kw_defaults.isEmpty&&as.kwarg.isNone&&as.defaults.isEmpty then
 (i4 as.args).bind λa=>if a.annotation.isNone then some (a.arg,a.pos)else none else none
noncomputable def uZ(e:Expr):Option tI:=match c5 e with|.lam as body sc pos=>(uU as).map λp=>⟨p.1,p.2,body,sc,pos⟩|_=>none
noncomputable def ke:Pos:=⟨249,34,249,111⟩
noncomputable def eS(p:Str):List (Str×NameKind)->Bool
 |[]=>false
 |q::r=>q.1==p&&q.2==.cell&&r.all λq=>q.2 != .cell
noncomputable def fI(sc:Scope)(e:Expr):Option (Expr×tI):=(gB e).bind λc=>if mM sc "sorted" c.f then(i4 c.as).bind λa=>(i4 c.ks).bind λkw=>if kw.arg==some ("key":Str)then(uZ kw.value).map λl=>(a,l)else none
 else none
noncomputable def pB(sc:Scope)(x:Nat)(a:Expr)(l:tI):Option PS:=
 if gJ l.sc sc&&eS l.p l.sc.names&&decide (l.pos=ke)&&l.p==("part":Str)then(tr 60 sc a).bind λpa=>(idOf l.p).bind λp=>(tr 60 l.sc l.body).map λb=>.sortS x pa p b (fh l.sc)else none
noncomputable def sP(sc:Scope)(ts:List Expr)(v:Expr):Option PS:=match j9 v with
 |some vs=>if vs.all (foldedForSure 8)||!vs.all (constantsAlone 8)then(ts.mapM (bO sc)).bind λxs=>(vs.mapM (trR sc)).map (.tupAssign xs)else none
 |none=>match u7 ts with
  |some (a,b)=>(bO sc a.1).bind λx=>(bO sc b.1).bind λy=>if x==y then(tr 60 sc a.2).bind λi=>(tr 60 sc b.2).bind λj=>(tr 60 sc v).map (.setSub2 x i j)else none
  |none=>(ts.mapM (bO sc)).bind λxs=>(tr 60 sc v).map (.unpack xs)
noncomputable def mW(sc:Scope)(t v:Expr):Option PS:=match c5 t with
 |.name x=>if isV sc x then(idOf x).bind λi=>(match fI sc v with
  |some (a,l)=>pB sc i a l
  |none=>(vE (x==("count":Str)) sc v).map (.assign i))else none
 |.tup ts=>sP sc ts v
 |.attr o n _=>(bO sc o).bind λx=>if cj.contains n then(idOf n).bind λi=>(tr 60 sc v).map (.setAttr x i)else none
 |.sub o i=>(bO sc o).bind λx=>(tr 60 sc i).bind λpi=>(tr 60 sc v).map (.setSub x pi)
 |_=>none
noncomputable def zm(sc:Scope)(ts:List Expr)(v:Expr):Option PS:=match ts with
 |[]=>none
 |[t]=>mW sc t v
 |_::_::_=>(ts.mapM (bO sc)).bind λxs=>(tr 60 sc v).map (.assigns xs)
noncomputable def xK(sc:Scope)(e:Expr):Option PS:=(kN e).bind λm=>if m.apos.endLine==m.pos.line then
 (if m.n==("pop":Str)&&m.args.isEmpty then(bO sc m.o).map .popX
  else if m.n==("append":Str)then(i4 m.args).bind λa=>(match lw m.o with
   |some q=>(bO sc q.1).bind λx=>(tr 60 sc q.2).bind λi=>(tr 60 sc a).map (.appendAt x i)
   |none=>(bO sc m.o).bind λx=>(trR sc a).map (.append x))else none)else none
structure lg where
 x:Nat
 y:Nat
 p:Nat
 a:List Nat
 sep:Nat
 b:List Nat
noncomputable def u2:Stmt->Option (Expr×Expr)
 |.Assign ts v _=>(i4 ts).map λt=>(t,v)
 |_=>none
noncomputable def nD(sc:Scope)(x y:Nat)(b:List Stmt):Option Nat:=(i4 b).bind λst=>(u2 st).bind λtv=>(bO sc tv.1).bind λp=>(kN tv.2).bind λm=>if m.n==("replace":Str)&&bO sc m.o==some p&&m.apos.endLine==m.pos.line then
 (o9 m.args).bind λey=>if bO sc ey.2==some y then(lq ey.1).bind λq=>(lq q.1).bind λr=>if dh r.1==some ("&":Str)&&bO sc r.2==some x&&dh q.2==some (";":Str)then some p else none else none
 else none
noncomputable def uh(sc:Scope)(t i:Expr)(b:List Stmt):Option lg:=(j9 t).bind λts=>(o9 ts).bind λtt=>(bO sc tt.1).bind λx=>(bO sc tt.2).bind λy=>(gB i).bind λc=>if mM sc "zip" c.f&&c.ks.isEmpty then
 (o9 c.as).bind λsb=>(dh sb.2).bind λbs=>(kN sb.1).bind λm=>if m.n==("split":Str)&&m.apos.endLine==m.pos.line then(dh m.o).bind λa=>(i4 m.args).bind λsp=>(dh sp).bind λsp=>
  if sp.cps.size==1 then(nD sc x y b).map λp=>⟨x,y,p,a.cps.toList,sp.cps.getD 0 0,bs.cps.toList⟩else none else none
 else none
noncomputable def qA(sc:Scope)(u:lg):Bool:=u.x != u.p&&u.y != u.p&&u.x != u.y&&decide (u.a.length<=1000)&&u.b.all (λc=>decide (c<128))&&sc.names.lookup (nm u.y)==some .local
noncomputable def hH(sc:Scope)(t i:Expr)(b:List Stmt):Option lg:=(uh sc t i b).bind λu=>if qA sc u then some u else none
mutual
noncomputable def trS:Nat->Scope->Stmt->Option PS
 |0,_,_=>none
 |k+1,sc,s=>match s with
  |.Assign ts v _=>zm sc ts v
  |.Expr e _=>xK sc e
  |.If c a b _=>(tr 60 sc c).bind λc=>(kg k sc a).bind λa=>(kg k sc b).map λb=>.ite c a b
  |.For t i b e _=>if e.isEmpty then(match hH sc t i b with
   |some u=>some (.unesc u.x u.y u.p u.a u.sep u.b)
   |none=>(dQ t).bind λtx=>if(tx.1||!iI i)&&(tx.2.all λx=>isV sc (nm x))then(trI (tr 60 sc) sc i).bind λi=>(kg k sc b).map λb=>.forS tx.1 tx.2 i b else none)else none
  |.While c b e _=>if e.isEmpty then(tr 60 sc c).bind λc=>(kg k sc b).map λb=>.whileS c b else none
  |.Return o _=>o.bind λe=>(tr 60 sc e).map .ret
  |.Break _=>some .brk
  |.Try b hs e f _=>if !hs.isEmpty&&e.isEmpty&&f.isEmpty then(kg k sc b).map .tryS else none
  |_=>none
noncomputable def kg:Nat->Scope->List Stmt->Option (List PS)
 |0,_,_=>none
 |_+1,_,[]=>some []
 |k+1,sc,s::r=>(trS k sc s).bind λa=>(kg k sc r).map λb=>a::b
end
structure FnD where
 f:Nat
 params:List Nat
 body:List PS
noncomputable def truthy:PV->Option Bool
 |.bool b=>some b
 |_=>none
noncomputable def dI:Sto->PV
 |.list l=>.list l
 |.dict l=>.dict l
 |.obj l=>.obj l
noncomputable def res(σ:List Sto):PV->Option PV
 |.cell n=>(σ[n]?).map dI
 |d=>some d
noncomputable def items:PV->Option (List PV)
 |.list l=>some l
 |.tuple l=>some l
 |.str l=>some (l.map λc=>.str [c])
 |_=>none
noncomputable def flat:PV->Bool
 |.int _=>true
 |.str l=>l.all λc=>decide (c<1114112)
 |_=>false
noncomputable def ai:Nat->PV->Bool
 |0,d=>flat d
 |n+1,d=>match d with
  |.tuple l=>l.all (ai n)
  |.list l=>l.all (ai n)
  |d=>flat d
mutual
noncomputable def eqB(d e:PV):Bool:=match d with
 |.int a=>(match e with|.int b=>decide (a=b)|_=>false)
 |.str a=>(match e with|.str b=>decide (a=b)|_=>false)
 |.tuple a=>(match e with|.tuple b=>jF a b|_=>false)
 |.list a=>(match e with|.list b=>jF a b|_=>false)
 |_=>false
noncomputable def jF(ds es:List PV):Bool:=match ds with
 |[]=>es.isEmpty
 |a::as=>(match es with|[]=>false|b::bs=>eqB a b&&jF as bs)
end
noncomputable def aN:PV->Option Int
 |.int i=>some i
 |_=>none
noncomputable def bZ:PV->Option (List Nat)
 |.str i=>some i
 |_=>none
noncomputable def cC:PV->Option (List PV)
 |.list i=>some i
 |_=>none
noncomputable def eP:PV->Option (List (Int×PV))
 |.dict i=>some i
 |_=>none
noncomputable def lD:PV->Option (List (Nat×PV))
 |.obj i=>some i
 |_=>none
noncomputable def iw:PV->Option (List PV)
 |.tuple i=>some i
 |_=>none
noncomputable def xV:PV->Option Nat
 |.fn i=>some i
 |_=>none
noncomputable def aZ:PV->Option Nat
 |.cell i=>some i
 |_=>none
noncomputable def asC(d:PV):Option Nat:=(bZ d).bind λl=>match l with
 |[c]=>some c
 |_=>none
noncomputable def ik(d:PV):Option (List Int):=(cC d).bind λl=>l.mapM aN
noncomputable def oY(d:PV):Option (PV×PV):=(iw d).bind λl=>match l with
 |[a,b]=>some (a,b)
 |_=>none
noncomputable def eqD(a b:List (Int×PV)):Option Bool:=
 if a.all (λp=>ai 8 p.2)&&b.all (λp=>ai 8 p.2)then
  some (a.length==b.length&&a.all λp=>match b.lookup p.1 with|some d=>eqB p.2 d|none=>false)
 else none
noncomputable def eqP(a b:PV):Option Bool:=match eP a with
 |some l=>(eP b).bind (eqD l)
 |none=>if ai 9 a&&ai 9 b then some (eqB a b)else none
noncomputable def cw(p x:List Nat):Bool:=p.isPrefixOf x||match x with|[]=>false|_::r=>cw p r
noncomputable def bg(p x:List Nat):Option Nat:=if p.isPrefixOf x then some 0 else match x with
 |[]=>none
 |_::r=>(bg p r).map (·+ 1)
noncomputable def a8(p q:List Nat):Nat->List Nat->List Nat
 |_,[]=>[]
 |0,c::r=>if p.isPrefixOf (c::r)then q++a8 p q (p.length - 1) r else c::a8 p q 0 r
 |k+1,_::r=>a8 p q k r
noncomputable def aB(c:Nat):List Nat->List (List Nat)
 |[]=>[[]]
 |x::r=>if x=c then[]::aB c r else match aB c r with
  |w::ws=>(x::w)::ws
  |[]=>[[x]]
noncomputable def fX(a:PV)(l:List PV):Option Bool:=if ai 8 a&&l.all (ai 8)then some (l.any λy=>eqB y a)else none
noncomputable def inP(a:PV)(b:PV):Option Bool:=match b with
 |.str x=>(bZ a).map λp=>cw p x
 |.dict l=>(aN a).map λk=>(l.lookup k).isSome
 |.tuple l=>fX a l
 |.list l=>fX a l
 |_=>none
noncomputable def tX(f:Int->Int->Bool)(a b:PV):Option Bool:=(aN a).bind λi=>(aN b).map (f i)
noncomputable def yV(op:CmpOp)(a b:PV):Option Bool:=match op with
 |.Eq=>eqP a b
 |.NotEq=>if(eP a).isNone then(eqP a b).map (!·)else none
 |.Lt=>tX (λi j=>decide (i<j)) a b
 |.LtE=>tX (λi j=>decide (i<=j)) a b
 |.Gt=>tX (λi j=>decide (j<i)) a b
 |.GtE=>tX (λi j=>decide (j<=i)) a b
 |.Is=>(truthy a).bind λx=>(truthy b).map λy=>x==y
 |.IsNot=>(truthy a).bind λx=>(truthy b).map λy=>x != y
 |.In=>inP a b
 |.NotIn=>(inP a b).map (!·)
noncomputable def repL(n:Nat)(l:List α):List α:=(List.replicate n l).flatten
noncomputable def ag:Nat:=100000
noncomputable def wL(f:Int->Int->Option Int)(a b:PV):Option PV:=(aN a).bind λi=>(aN b).bind λj=>(f i j).map .int
noncomputable def zB(a b:PV):Option PV:=match a with
 |.int i=>(aN b).map λj=>.int (i+j)
 |.str x=>(bZ b).bind λy=>if x.length+y.length<=ag then some (.str (x++y))else none
 |.list x=>(cC b).bind λy=>if x.length+y.length<=ag then some (.list (x++y))else none
 |_=>none
noncomputable def z6(a b:PV):Option PV:=(aN b).bind λn=>match a with
 |.int i=>if i.natAbs<100000000/\n.natAbs<100000000 then some (.int (i*n))else none
 |.list l=>if n.natAbs<=1000/\l.length<=10 then some (.list (repL n.toNat l))else none
 |.str l=>if n.natAbs<=1000/\l.length<=10 then some (.str (repL n.toNat l))else none
 |_=>none
noncomputable def tC(op:Operator)(a b:PV):Option PV:=match op with
 |.Add=>zB a b
 |.Sub=>wL (λi j=>some (i - j)) a b
 |.Mult=>z6 a b
 |.Mod=>wL (λi j=>if 0<j/\j<10000 then some (i % j)else none) a b
 |.FloorDiv=>wL (λi j=>if 0<j/\j<10000/\i.natAbs<1000000000 then some (i / j)else none) a b
 |_=>none
noncomputable def idx(len:Nat)(i:Int):Option Nat:=
 if 1000000<=i.natAbs then none else if 0<=i then(if i.toNat<len then some i.toNat else none)else if -(len:Int)<=i then some (i+len).toNat else none
noncomputable def k4(l:List PV)(i:PV):Option PV:=(aN i).bind λi=>(idx l.length i).bind λj=>l[j]?
noncomputable def gq(a i:PV):Option PV:=match a with
 |.list l=>k4 l i
 |.tuple l=>k4 l i
 |.str l=>(aN i).bind λi=>(idx l.length i).bind λj=>(l[j]?).map λc=>.str [c]
 |.dict l=>(aN i).bind λk=>l.lookup k
 |_=>none
noncomputable def slL(l:List α)(lo hi st:Option Int):Option (List α):=
 if st=some 0 then none else some ((Builtin.Str.strSliceIndices lo hi (st.getD 1) l.length).filterMap (l[·]?))
noncomputable def qy(l:List Nat)(p:List Nat):Option PV:=
 if p.length=l.length then some (.str l)else if(p.filterMap (l[·]?)).length<=ag then some (.str (p.filterMap (l[·]?)))else none
noncomputable def slP(a:PV)(lo hi st:Option Int):Option PV:=match a with
 |.list l=>if l.length<=ag then(slL l lo hi st).map .list else none
 |.str l=>if st=none then qy l (Builtin.Str.strSliceIndices lo hi 1 l.length)else none
 |_=>none
noncomputable def k7:List Int->Option Int
 |[]=>none
 |a::r=>some (r.foldl (λm x=>if x>m then x else m) a)
noncomputable def bq(sep:List Nat):List (List Nat)->List Nat
 |[]=>[]
 |[x]=>x
 |x::r=>x++sep++bq sep r
noncomputable def yz(l:List α):Option PV:=if l.length<=ag then some (.int l.length)else none
noncomputable def sZ:PV->Option PV|.list l=>yz l|.tuple l=>yz l|.str l=>yz l|_=>none
noncomputable def wO(l:List Int):Option PV:=if l.length<=1000/\l.all (λi=>decide (i.natAbs<1000000000))=true then some (.int l.sum)else none
noncomputable def qM(x:List Nat)(n:Nat)(args:List PV):Option PV:=match args with
 |[a]=>if n=(110:Nat)then(asC a).bind λc=>if x.length<=ag then some (.list ((aB c x).map .str))else none
  else if n=(113:Nat)then(asC a).bind λc=>(bg [c] x).map λ(k:Nat)=>.int k
  else if n=(4:Nat)then(asC a).map λc=>.int (x.filter (·= c)).length
  else if n=(111:Nat)then(cC a).bind λl=>(l.mapM bZ).bind λws=>if x.length<=10/\l.length<=1000/\(ws.map List.length).sum<=ag then some (.str (bq x ws))else none
  else none
 |[a,b]=>if n=(113:Nat)then(asC a).bind λc=>(aN b).bind λk=>if 0<=k/\k.toNat<=x.length then(bg [c] (x.drop k.toNat)).map λ(j:Nat)=>.int (j+k.toNat)else none else none
 |_=>none
noncomputable def j7(l:List PV)(n:Nat)(args:List PV):Option PV:=match args with
 |[a]=>if n=(4:Nat)then(aN a).bind λc=>(l.mapM aN).map λvs=>.int (vs.filter (·= c)).length
  else if n=(113:Nat)then(bZ a).bind λc=>if l.length<=ag then(l.mapM bZ).bind λvs=>(vs.findIdx? (·= c)).map λ(k:Nat)=>.int k else none
  else none
 |_=>none
noncomputable def xo(a:PV)(n:Nat)(args:List PV):Option PV:=match a with
 |.str x=>qM x n args
 |.list l=>j7 l n args
 |_=>none
noncomputable def kc(p q x:List Nat):Option (List Nat):=if p≠[]/\p≠q/\x.length<=1000/\q.length<=10 then some (a8 p q 0 x)else none
noncomputable def nL(k:Int)(d:PV):List (Int×PV)->List (Int×PV)
 |[]=>[(k,d)]
 |(j,e)::r=>if k<j then(k,d)::(j,e)::r else(j,e)::nL k d r
noncomputable def f5:List (Int×PV)->List (Int×PV):=λl=>l.foldl (λacc p=>nL p.1 p.2 acc) []
noncomputable def nQ:List (String×Int):=[("!",54),("!=",28),("%",24),("%=",40),("&",19),("&=",41),("(",7),(")",8),("*",16),("**",35),("**=",46),("*=",38),("+",14),("+=",36),(",",12),("-",15),("-=",37),("->",51),(".",23),("...",52),("/",17),("//",47),("//=",48),("/=",39),(":",11),(":=",53),(";",13),("<",20),("<<",33),("<<=",44),("<=",29),("=",22),("==",27),(">",21),(">=",30),(">>",34),(">>=",45),("@",49),("@=",50),("[",9),("]",10),("^",32),("^=",43),("{",25),("|",18),("|=",42),("}",26),("~",31)]
noncomputable def exT:List (List Nat×Int):=nQ.map λp=>(p.1.toList.map Char.toNat,p.2)
noncomputable abbrev ar:=List (Nat×PV)
noncomputable def b8(ρ:ar)(x:Nat):Option PV:=ρ.lookup x
noncomputable def aj(ks:List Nat)(ρ:ar):ar:=ρ.filter λp=>ks.contains p.1
noncomputable def a6(tup:Bool)(xs:List Nat)(d:PV)(ρ:ar):Option ar:=
 if tup then(iw d).bind λl=>if l.length=xs.length then some ((xs.zip l).reverse++ρ)else none
 else xs.head?.bind λx=>if xs.tail=[]then some ((x,d)::ρ)else none
noncomputable def cA(f:PE->Option PV)(isAnd:Bool):List PE->Option PV
 |[]=>none
 |e::r=>if r.isEmpty then f e else(f e).bind λd=>(truthy d).bind λb=>if b=isAnd then cA f isAnd r else some d
noncomputable def cU(σ:List Sto)(op:CmpOp)(l r:PV):Option Bool:=(res σ l).bind λx=>(res σ r).bind λy=>yV op x y
noncomputable def nM(f:PE->Option PV)(σ:List Sto):PV->List CmpOp->List PE->Option PV
 |_,[],_=>none
 |l,op::ops,es=>es.head?.bind λe=>(f e).bind λr=>(cU σ op l r).bind λb=>
  if ops=[]then(if es.tail=[]then some (.bool b)else none)else if es.tail=[]then none else if b then nM f σ r ops es.tail else some (.bool false)
noncomputable def eG(f:PE->Option PV):List PE->Option Bool
 |[]=>some true
 |e::r=>(f e).bind λd=>(truthy d).bind λb=>if b then eG f r else some false
noncomputable def iW(f:PE->ar->Option PV)(rest:ar->Option (List PV))(tp:Bool)(xs:List Nat)(ifs:List PE)(ρ:ar)(d:PV):Option (List PV):=
 if(xs.all λx=>(ρ.lookup x).isNone)=true then
  (a6 tp xs d ρ).bind λρ'=>(eG (λe=>f e ρ') ifs).bind λb=>if b=true then rest ρ' else some []
 else none
noncomputable def dq(f:PE->ar->Option PV)(src:PE->ar->Option (List PV))(emit:ar->Option PV):
 List (Bool×List Nat)->List (List PE)->List PE->ar->Option (List PV)->Option (List PV)
 |[],_,_,ρ,_=>(emit ρ).map λd=>[d]
 |t::ts,fs,is,ρ,o=>fs.head?.bind λifs=>o.bind λl=>(l.mapM (iW f (λρ'=>dq f src emit ts fs.tail is.tail ρ' (is.head?.bind λi=>src i ρ')) t.1 t.2 ifs ρ)).map List.flatten
noncomputable def rs(σ:List Sto)(o:Option PV):Option PV:=o.bind (res σ)
noncomputable def evO(E:PE->Option PV):Option PE->Option (Option Int)
 |none=>some none
 |some e=>(E e).bind λd=>(aN d).map some
noncomputable def j8(F:Nat->List PV->Option PV)(σ:List Sto)(d:PV)(n:Nat)(as:List PV):Option PV:=match lD d with
 |some l=>if(l.lookup n).isNone/\dJ n=true then F n (d::as)else none
 |none=>(res σ d).bind λd=>xo d n as
noncomputable def rng(a n:Int):List PV:=(List.range n.toNat).map λ(i:Nat)=>PV.int (a+i)
noncomputable def vO(E:PE->Option PV)(a:Option PE)(b:PE):Option (List PV):=match a with
 |none=>(E b).bind λy=>(aN y).bind λj=>if j.natAbs<1000000 then some ((List.range j.toNat).map λ(i:Nat)=>PV.int i)else none
 |some a=>(E a).bind λx=>(aN x).bind λi=>(E b).bind λy=>(aN y).bind λj=>if i.natAbs<1000000/\j.natAbs<1000000 then some (rng i (j - i))else none
noncomputable def uL(l:List PV):List PV:=l.mapIdx λi d=>.tuple [.int i,d]
noncomputable def qd(o:Option PV):Option (List PV):=o.bind λd=>((cC d).or (iw d)).map uL
noncomputable def kvP(d:PV):Option (Int×PV):=(oY d).bind λp=>(aN p.1).map λi=>(i,p.2)
mutual
noncomputable def ev(F:Nat->List PV->Option PV)(σ:List Sto):Nat->PE->ar->Option PV
 |0,_,_=>none
 |k+1,e,ρ=>match e with
  |.cnone=>some .none
  |.cbool b=>some (.bool b)
  |.cint i=>some (.int i)
  |.cstr l=>some (.str l)
  |.var x=>b8 ρ x
  |.fn x=>some (.fn x)
  |.gint i=>some (.int i)
  |.boolop a es=>cA (λe=>ev F σ k e ρ) a es
  |.bin op a b=>(rs σ (ev F σ k a ρ)).bind λx=>(rs σ (ev F σ k b ρ)).bind λy=>tC op x y
  |.neg a=>(ev F σ k a ρ).bind λd=>(aN d).map λi=>.int (-i)
  |.not a=>(ev F σ k a ρ).bind λd=>(truthy d).map λb=>.bool !b
  |.ite c a b=>(ev F σ k c ρ).bind λd=>(truthy d).bind λt=>if t then ev F σ k a ρ else ev F σ k b ρ
  |.list es=>(es.mapM λe=>ev F σ k e ρ).map .list
  |.tuple es=>(es.mapM λe=>ev F σ k e ρ).map .tuple
  |.dict ks vs=>(ks.mapM λe=>(ev F σ k e ρ).bind aN).bind λa=>(vs.mapM λe=>ev F σ k e ρ).bind λb=>
   if a.Nodup/\a.length=b.length/\a.length<=15 then some (.dict (a.zip b))else none
  |.cmp a ops es=>(ev F σ k a ρ).bind λd=>nM (λe=>ev F σ k e ρ) σ d ops es
  |.sub a i=>(rs σ (ev F σ k a ρ)).bind λd=>(ev F σ k i ρ).bind λj=>gq d j
  |.slice a lo hi st=>(rs σ (ev F σ k a ρ)).bind λv=>(evO (λe=>ev F σ k e ρ) lo).bind λl=>(evO (λe=>ev F σ k e ρ) hi).bind λh=>(evO (λe=>ev F σ k e ρ) st).bind λs=>slP v l h s
  |.attr a n=>(rs σ (ev F σ k a ρ)).bind λd=>(lD d).bind λl=>l.lookup n
  |.cattr n=>if n=(2:Nat)then some (.str [32])else if n=(3:Nat)then some (.str [9])else none
  |.call f args=>(args.mapM λe=>ev F σ k e ρ).bind λas=>F f as
  |.vcall x args=>(b8 ρ x).bind λd=>(xV d).bind λf=>(args.mapM λe=>ev F σ k e ρ).bind λas=>F f as
  |.len a=>(rs σ (ev F σ k a ρ)).bind sZ
  |.max1 a=>(rs σ (ev F σ k a ρ)).bind λd=>(ik d).bind λl=>(k7 l).map .int
  |.max2 a b=>(ev F σ k a ρ).bind λx=>(aN x).bind λi=>(ev F σ k b ρ).bind λy=>(aN y).map λj=>.int (if j>i then j else i)
  |.sum a=>(rs σ (ev F σ k a ρ)).bind λd=>(ik d).bind wO
  |.tup a=>(rs σ (ev F σ k a ρ)).bind λd=>(cC d).bind λl=>if l.length<=ag then some (.tuple l)else none
  |.meth a n args=>(ev F σ k a ρ).bind λd=>(args.mapM λe=>ev F σ k e ρ).bind λas=>j8 F σ d n as
  |.comp elt tgts iters ifs keep=>iters.head?.bind λit=>(dq (λe ρ=>ev F σ k e ρ) (λe ρ=>aQ F σ true k e ρ) (λρ=>ev F σ k elt ρ) tgts ifs iters.tail (aj keep ρ) (aQ F σ true k it ρ)).bind λl=>
   if l.length<=ag then some (.list l)else none
  |.dcomp kk vv tgts iters ifs keep=>iters.head?.bind λit=>(dq (λe ρ=>ev F σ k e ρ) (λe ρ=>aQ F σ true k e ρ) (λρ=>(ev F σ k kk ρ).bind λa=>(ev F σ k vv ρ).map λb=>.tuple [a,b]) tgts ifs iters.tail (aj keep ρ) (aQ F σ true k it ρ)).bind λl=>
   (l.mapM kvP).bind λps=>if(ps.map (·.1)).Nodup/\ps.length<=ag then some (.dict ps)else none
  |.repl a p q=>if(F 998 []).isNone then(ev F σ k a ρ).bind λd=>(bZ d).bind λx=>(kc p q x).map .str else none
  |.exIn a=>(ev F σ k a ρ).bind λd=>(bZ d).map λl=>.bool (exT.lookup l).isSome
  |.exGet a=>(ev F σ k a ρ).bind λd=>(bZ d).bind λl=>(exT.lookup l).map .int
  |.range _ _=>none
  |.enum _=>none
  |.zip _ _=>none
  |.newList=>none
  |.newDict=>none
  |.pop _=>none
  |.freshAdd _ _=>none
noncomputable def aQ(F:Nat->List PV->Option PV)(σ:List Sto)(al:Bool):Nat->PE->ar->Option (List PV)
 |0,_,_=>none
 |k+1,e,ρ=>match e with
  |.range a b=>vO (λe=>ev F σ k e ρ) a b
  |.enum a=>qd (ev F σ k a ρ)
  |e=>(ev F σ k e ρ).bind λd=>if al||(aZ d).isNone then(res σ d).bind items else none
end
inductive Fl where
 |next|brk|ret (d:PV)
structure PS' where
 ρ:ar
 σ:List Sto
noncomputable def gL:Sto->Option (List PV)
 |.list l=>some l
 |_=>none
noncomputable def qN:Sto->Option (List (Int×PV))
 |.dict l=>some l
 |_=>none
noncomputable def vd:Sto->Option (List (Nat×PV))
 |.obj l=>some l
 |_=>none
noncomputable def aV(s:PS')(x:Nat):Option Nat:=(b8 s.ρ x).bind aZ
noncomputable def PS'.set(s:PS')(n:Nat)(x:Sto):PS':={s with σ:=s.σ.set n x}
noncomputable def PS'.add(s:PS')(x:Sto):PS':={s with σ:=s.σ++[x]}
noncomputable def PS'.bind(s:PS')(x:Nat)(d:PV):PS':={s with ρ:=(x,d)::s.ρ}
noncomputable def dG(s:PS')(x:Nat):Option (PV×PS'):=(aV s x).bind λn=>(s.σ[n]?).bind λt=>(gL t).bind λl=>l.getLast?.bind λd=>
 if l.length<=ag then some (d,s.set n (.list l.dropLast))else none
noncomputable def evR(F:Nat->List PV->Option PV)(k:Nat)(s:PS')(e:PE):Option (PV×PS'):=match e with
 |.newList=>some (.cell s.σ.length,s.add (.list []))
 |.newDict=>some (.cell s.σ.length,s.add (.dict []))
 |.pop x=>dG s x
 |.freshAdd a b=>(rs s.σ (ev F s.σ k a s.ρ)).bind λx=>(cC x).bind λla=>(rs s.σ (ev F s.σ k b s.ρ)).bind λy=>(cC y).bind λlb=>
  if la.length+lb.length<=ag then some (.cell s.σ.length,s.add (.list (la++lb)))else none
 |e=>(ev F s.σ k e s.ρ).map λd=>(d,s)
noncomputable def pE(F:Nat->List PV->Option PV)(k:Nat):PS'->List PE->Option (List PV×PS')
 |s,[]=>some ([],s)
 |s,e::r=>(evR F k s e).bind λq=>(pE F k q.2 r).map λt=>(q.1::t.1,t.2)
noncomputable def b9(l:List (Int×PV))(k:Int)(d:PV):List (Int×PV):=
 if(l.lookup k).isSome then l.map λp=>if p.1=k then(k,d)else p else l++[(k,d)]
noncomputable def norm:ar->ar
 |[]=>[]
 |p::r=>p::(norm r).filter λq=>q.1 != p.1
noncomputable def PS'.norm(s:PS'):PS':={s with ρ:=Internal.norm s.ρ}
noncomputable def qg(go:PS'->Option (Fl×PS'))(r:Fl×PS'):Option (Fl×PS'):=match r.1 with
 |.next=>go r.2
 |.brk=>some (.next,r.2)
 |.ret d=>some (.ret d,r.2)
noncomputable def cQ(body:PS'->Option (Fl×PS'))(tup:Bool)(xs:List Nat):List PV->PS'->Option (Fl×PS')
 |[],s=>some (.next,s)
 |d::r,s=>(a6 tup xs d s.ρ).bind λρ=>(body {s with ρ:=norm ρ}).bind (qg (cQ body tup xs r))
noncomputable def bS(c:PS'->Option Bool)(body:PS'->Option (Fl×PS')):Nat->PS'->Option (Fl×PS')
 |0,_=>none
 |k+1,s=>(c s).bind λt=>if t then(body s.norm).bind (qg (bS c body k))else some (.next,s)
noncomputable def nx(s:PS'):Option (Fl×PS'):=some (.next,s)
noncomputable def q0(s:PS')(n:Nat)(d:PV):Option (Fl×PS'):=(s.σ[n]?).bind λt=>(gL t).bind λl=>if l.length<=ag then nx (s.set n (.list (l++[d])))else none
noncomputable def yB(F:Nat->List PV->Option PV)(lam:Bool)(k:Nat)(x:Nat)(a:PE)(p:Nat)(body:PE)(keep:List Nat)(s:PS'):Option (Fl×PS'):=
 (rs s.σ (ev F s.σ k a s.ρ)).bind λd=>(cC d).bind λl=>(l.mapM λd=>(ev (λ_ _=>none) s.σ k body ((p,d)::aj keep s.ρ)).bind aN).bind λks=>
  if l.length<=5/\ks.Nodup/\lam=true then nx (s.bind x (.list ((f5 (ks.zip l)).map (·.2))))else none
noncomputable def wW(x y p:Nat)(a:List Nat)(c:Nat)(b:List Nat)(s:PS'):Option (Fl×PS'):=
 (b8 s.ρ p).bind λd=>(bZ d).bind λt=>(((aB c a).zip b).foldlM (λt q=>kc ([38]++q.1++[59]) [q.2] t) t).bind λt=>
  (((aB c a).zip b).getLast?).bind λq=>nx {s with ρ:=(y,.str [q.2])::(x,.str q.1)::(p,.str t)::s.ρ}
mutual
noncomputable def exS(F:Nat->List PV->Option PV)(lam:Bool):Nat->PS->PS'->Option (Fl×PS')
 |0,_,_=>none
 |k+1,st,s=>match st with
  |.assign x e=>(evR F k s e).bind λr=>nx (r.2.bind x r.1)
  |.assigns xs e=>(ev F s.σ k e s.ρ).bind λd=>nx {s with ρ:=(xs.map λx=>(x,d)).reverse++s.ρ}
  |.unpack xs e=>(ev F s.σ k e s.ρ).bind λd=>(a6 true xs d s.ρ).bind λρ=>nx {s with ρ:=ρ}
  |.tupAssign xs es=>(pE F k s es).bind λr=>if xs.length=r.1.length/\xs.Nodup/\xs.length<=10 then nx {r.2 with ρ:=(xs.zip r.1).reverse++r.2.ρ}else none
  |.setSub x i e=>(ev F s.σ k e s.ρ).bind λd=>(aV s x).bind λn=>(ev F s.σ k i s.ρ).bind λj=>(aN j).bind λi=>(s.σ[n]?).bind λt=>(gL t).bind λl=>(idx l.length i).bind λj=>
   if l.length<=ag/\0<=i then nx (s.set n (.list (l.set j d)))else none
  |.setSub2 x k1 k2 e=>(ev F s.σ k e s.ρ).bind λd=>(oY d).bind λq=>(aV s x).bind λn=>(ev F s.σ k k1 s.ρ).bind λj=>(aN j).bind λa=>(s.σ[n]?).bind λt=>(qN t).bind λl=>
   (ev F (s.σ.set n (.dict (b9 l a q.1))) k k2 s.ρ).bind λj=>(aN j).bind λb=>if l.length<=ag then nx (s.set n (.dict (b9 (b9 l a q.1) b q.2)))else none
  |.setAttr x n e=>(ev F s.σ k e s.ρ).bind λd=>(aV s x).bind λc=>(s.σ[c]?).bind λt=>(vd t).bind λl=>
   if l.length<=100/\(l.lookup n).isNone then nx (s.set c (.obj (l++[(n,d)])))else none
  |.append x e=>(evR F k s e).bind λr=>(aV r.2 x).bind λn=>q0 r.2 n r.1
  |.appendAt x i e=>(aV s x).bind λn=>(s.σ[n]?).bind λt=>(gL t).bind λl=>(ev F s.σ k i s.ρ).bind λj=>(gq (.list l) j).bind λq=>(aZ q).bind λm=>(ev F s.σ k e s.ρ).bind λd=>q0 s m d
  |.popX x=>(dG s x).bind λr=>nx r.2
  |.ite c a b=>(ev F s.σ k c s.ρ).bind λd=>(truthy d).bind λt=>if t then aU F lam k a s else aU F lam k b s
  |.forS tup xs src body=>(aQ F s.σ false k src s.ρ).bind λl=>if l.all (λd=>(a6 tup xs d []).isSome)=true then cQ (aU F lam k body) tup xs l s else none
  |.whileS c body=>bS (λs=>(ev F s.σ k c s.ρ).bind truthy) (aU F lam k body) 2000 s
  |.ret e=>(ev F s.σ k e s.ρ).map λd=>(.ret d,s)
  |.brk=>some (.brk,s)
  |.sortS x a p body keep=>yB F lam k x a p body keep s
  |.tryS body=>aU F lam k body s
  |.unesc x y p a c b=>wW x y p a c b s
noncomputable def aU(F:Nat->List PV->Option PV)(lam:Bool):Nat->List PS->PS'->Option (Fl×PS')
 |0,_,_=>none
 |k+1,l,s=>match l with
  |[]=>nx s
  |st::r=>(exS F lam k st s).bind λq=>match q.1 with
   |.next=>aU F lam k r q.2
   |.brk=>some (.brk,q.2)
   |.ret d=>some (.ret d,q.2)
end
noncomputable def freeze(σ:List Sto):Nat->PV->Option PV
 |0,_=>none
 |k+1,d=>(res σ d).bind λd=>match d with
  |.list l=>(l.mapM (freeze σ k)).map .list
  |.tuple l=>(l.mapM (freeze σ k)).map .tuple
  |.dict l=>(l.mapM λp=>(freeze σ k p.2).map λd=>(p.1,d)).map .dict
  |.obj l=>(l.mapM λp=>(freeze σ k p.2).map λd=>(p.1,d)).map .obj
  |d=>some d
noncomputable def aH:Nat->PV->Bool
 |0,d=>(aZ d).isNone&&(iw d).isNone&&(cC d).isNone&&(eP d).isNone&&(lD d).isNone
 |n+1,d=>match d with
  |.cell _=>false
  |.tuple l=>l.all (aH n)
  |.list l=>l.all (aH n)
  |.dict l=>l.all λp=>aH n p.2
  |.obj l=>l.all λp=>aH n p.2
  |_=>true
noncomputable def m7(d:PV):Option PV:=if aH 8 d then some d else none
noncomputable def xI(r:Fl×PS'):Option PV:=match r.1 with
 |.ret d=>(freeze r.2.σ 10 d).bind m7
 |.next=>some .none
 |.brk=>none
noncomputable def u4(r:Fl×PS'):Option PV:=match r.1 with
 |.next=>(freeze r.2.σ 10 (.cell 0)).bind m7
 |_=>none
noncomputable def cS(F:Nat->List PV->Option PV)(fd:FnD)(args:List PV):Option PV:=
 if fd.params.length=args.length/\args.all (aH 8)=true then
  (aU F (fd.f==(105:Nat)) 60 fd.body ⟨(fd.params.zip args).reverse,[]⟩).bind xI
 else none
noncomputable def mU(F:Nat->List PV->Option PV)(fd:FnD)(args:List PV):Option PV:=
 if fd.params.length=args.length+1/\args.all (aH 8)=true then
  (aU F (fd.f==(105:Nat)) 60 fd.body ⟨(fd.params.zip (.cell 0::args)).reverse,[.obj []]⟩).bind u4
 else none
noncomputable def cV:Nat:=(85:Nat)
noncomputable def bp(fns:List FnD):Nat->Nat->List PV->Option PV
 |0,_,_=>none
 |k+1,f,args=>
  if f=(85:Nat)then(fns.find? λd=>d.f=(86:Nat)).bind λfd=>mU (bp fns k) fd args
  else if f=(86:Nat)then none else(fns.find? λd=>d.f=f).bind λfd=>cS (bp fns k) fd args
theorem hid{P:Prop}(h:∀g:Prop,(P->g)->g):P:=h P id
theorem au{P Q:Prop}{g:Prop}(h:P/\Q)(k:P->Q->g):g:=k h.1 h.2
theorem bc{P Q R:Prop}{g:Prop}(h:P/\Q/\R)(k:P->Q->R->g):g:=k h.1 h.2.1 h.2.2
theorem nk{P Q R S:Prop}{g:Prop}(h:P/\Q/\R/\S)(k:P->Q->R->S->g):g:=k h.1 h.2.1 h.2.2.1 h.2.2.2
theorem oI{P Q R S T:Prop}{g:Prop}(h:P/\Q/\R/\S/\T)(k:P->Q->R->S->T->g):g:=k h.1 h.2.1 h.2.2.1 h.2.2.2.1 h.2.2.2.2
theorem Ag{P Q R S T U V:Prop}{g:Prop}(h:P/\Q/\R/\S/\T/\U/\V)(k:P->Q->R->S->T->U->V->g):g:=k h.1 h.2.1 h.2.2.1 h.2.2.2.1 h.2.2.2.2.1 h.2.2.2.2.2.1 h.2.2.2.2.2.2
theorem vY{P Q R S T U V W:Prop}{g:Prop}(h:P/\Q/\R/\S/\T/\U/\V/\W)(k:P->Q->R->S->T->U->V->W->g):g:=k h.1 h.2.1 h.2.2.1 h.2.2.2.1 h.2.2.2.2.1 h.2.2.2.2.2.1 h.2.2.2.2.2.2.1 h.2.2.2.2.2.2.2
theorem AP{P Q R S T U V W Y:Prop}{g:Prop}(h:P/\Q/\R/\S/\T/\U/\V/\W/\Y)(k:P->Q->R->S->T->U->V->W->Y->g):g:=k h.1 h.2.1 h.2.2.1 h.2.2.2.1 h.2.2.2.2.1 h.2.2.2.2.2.1 h.2.2.2.2.2.2.1 h.2.2.2.2.2.2.2.1 h.2.2.2.2.2.2.2.2
theorem ah{α:Type}{P:α->Prop}{g:Prop}(h:∃a,P a)(k:∀a,P a->g):g:=h.elim λa h=>k a h
theorem af{α:Type}{P Q:α->Prop}{g:Prop}(h:∃a,P a/\Q a)(k:∀a,P a->Q a->g):g:=h.elim λa h=>k a h.1 h.2
theorem bd{α:Type}{P Q R:α->Prop}{g:Prop}(h:∃a,P a/\Q a/\R a)(k:∀a,P a->Q a->R a->g):g:=h.elim λa h=>k a h.1 h.2.1 h.2.2
theorem AA{α:Type}{P Q R S:α->Prop}{g:Prop}(h:∃a,P a/\Q a/\R a/\S a)(k:∀a,P a->Q a->R a->S a->g):g:=h.elim λa h=>k a h.1 h.2.1 h.2.2.1 h.2.2.2
theorem zq{α:Type}{P Q R S T:α->Prop}{g:Prop}(h:∃a,P a/\Q a/\R a/\S a/\T a)(k:∀a,P a->Q a->R a->S a->T a->g):g:=h.elim λa h=>k a h.1 h.2.1 h.2.2.1 h.2.2.2.1 h.2.2.2.2
theorem AS{α:Type}{P Q R S T U:α->Prop}{g:Prop}(h:∃a,P a/\Q a/\R a/\S a/\T a/\U a)(k:∀a,P a->Q a->R a->S a->T a->U a->g):g:=h.elim λa h=>k a h.1 h.2.1 h.2.2.1 h.2.2.2.1 h.2.2.2.2.1 h.2.2.2.2.2
theorem bx{α β:Type}{P:α->β->Prop}{g:Prop}(h:∃a b,P a b)(k:∀a b,P a b->g):g:=h.elim λa h=>h.elim λb h=>k a b h
theorem cb{α β:Type}{P Q:α->β->Prop}{g:Prop}(h:∃a b,P a b/\Q a b)(k:∀a b,P a b->Q a b->g):g:=h.elim λa h=>h.elim λb h=>k a b h.1 h.2
theorem aO{α β:Type}{P Q R:α->β->Prop}{g:Prop}(h:∃a b,P a b/\Q a b/\R a b)(k:∀a b,P a b->Q a b->R a b->g):g:=h.elim λa h=>h.elim λb h=>k a b h.1 h.2.1 h.2.2
theorem nV{α β:Type}{P Q R S:α->β->Prop}{g:Prop}(h:∃a b,P a b/\Q a b/\R a b/\S a b)(k:∀a b,P a b->Q a b->R a b->S a b->g):g:=h.elim λa h=>h.elim λb h=>k a b h.1 h.2.1 h.2.2.1 h.2.2.2
theorem yI{α β:Type}{P Q R S T:α->β->Prop}{g:Prop}(h:∃a b,P a b/\Q a b/\R a b/\S a b/\T a b)(k:∀a b,P a b->Q a b->R a b->S a b->T a b->g):g:=h.elim λa h=>h.elim λb h=>k a b h.1 h.2.1 h.2.2.1 h.2.2.2.1 h.2.2.2.2
theorem AN{α β:Type}{P Q R S T U:α->β->Prop}{g:Prop}(h:∃a b,P a b/\Q a b/\R a b/\S a b/\T a b/\U a b)(k:∀a b,P a b->Q a b->R a b->S a b->T a b->U a b->g):g:=h.elim λa h=>h.elim λb h=>k a b h.1 h.2.1 h.2.2.1 h.2.2.2.1 h.2.2.2.2.1 h.2.2.2.2.2
theorem AF{α β:Type}{P Q R S T U V:α->β->Prop}{g:Prop}(h:∃a b,P a b/\Q a b/\R a b/\S a b/\T a b/\U a b/\V a b)(k:∀a b,P a b->Q a b->R a b->S a b->T a b->U a b->V a b->g):g:=h.elim λa h=>h.elim λb h=>k a b h.1 h.2.1 h.2.2.1 h.2.2.2.1 h.2.2.2.2.1 h.2.2.2.2.2.1 h.2.2.2.2.2.2
theorem AJ{α β γ:Type}{P:α->β->γ->Prop}{g:Prop}(h:∃a b c,P a b c)(k:∀a b c,P a b c->g):g:=h.elim λa h=>h.elim λb h=>h.elim λc h=>k a b c h
theorem qj{α β γ:Type}{P Q:α->β->γ->Prop}{g:Prop}(h:∃a b c,P a b c/\Q a b c)(k:∀a b c,P a b c->Q a b c->g):g:=h.elim λa h=>h.elim λb h=>h.elim λc h=>k a b c h.1 h.2
theorem Ak{α β γ:Type}{P Q R:α->β->γ->Prop}{g:Prop}(h:∃a b c,P a b c/\Q a b c/\R a b c)(k:∀a b c,P a b c->Q a b c->R a b c->g):g:=h.elim λa h=>h.elim λb h=>h.elim λc h=>k a b c h.1 h.2.1 h.2.2
theorem An{α β γ:Type}{P Q R S:α->β->γ->Prop}{g:Prop}(h:∃a b c,P a b c/\Q a b c/\R a b c/\S a b c)(k:∀a b c,P a b c->Q a b c->R a b c->S a b c->g):g:=h.elim λa h=>h.elim λb h=>h.elim λc h=>k a b c h.1 h.2.1 h.2.2.1 h.2.2.2
theorem zJ{α β γ:Type}{P Q R S T:α->β->γ->Prop}{g:Prop}(h:∃a b c,P a b c/\Q a b c/\R a b c/\S a b c/\T a b c)(k:∀a b c,P a b c->Q a b c->R a b c->S a b c->T a b c->g):g:=h.elim λa h=>h.elim λb h=>h.elim λc h=>k a b c h.1 h.2.1 h.2.2.1 h.2.2.2.1 h.2.2.2.2
theorem AT{α β γ δ:Type}{P:α->β->γ->δ->Prop}{g:Prop}(h:∃a b c d,P a b c d)(k:∀a b c d,P a b c d->g):g:=h.elim λa h=>h.elim λb h=>h.elim λc h=>h.elim λd h=>k a b c d h
theorem AI{α β γ δ:Type}{P Q:α->β->γ->δ->Prop}{g:Prop}(h:∃a b c d,P a b c d/\Q a b c d)(k:∀a b c d,P a b c d->Q a b c d->g):g:=h.elim λa h=>h.elim λb h=>h.elim λc h=>h.elim λd h=>k a b c d h.1 h.2
theorem z0{α β γ δ:Type}{P Q R:α->β->γ->δ->Prop}{g:Prop}(h:∃a b c d,P a b c d/\Q a b c d/\R a b c d)(k:∀a b c d,P a b c d->Q a b c d->R a b c d->g):g:=h.elim λa h=>h.elim λb h=>h.elim λc h=>h.elim λd h=>k a b c d h.1 h.2.1 h.2.2
theorem zh{α β γ δ:Type}{P Q R S:α->β->γ->δ->Prop}{g:Prop}(h:∃a b c d,P a b c d/\Q a b c d/\R a b c d/\S a b c d)(k:∀a b c d,P a b c d->Q a b c d->R a b c d->S a b c d->g):g:=h.elim λa h=>h.elim λb h=>h.elim λc h=>h.elim λd h=>k a b c d h.1 h.2.1 h.2.2.1 h.2.2.2
theorem o3{α β γ δ:Type}{P Q R S T U V W:α->β->γ->δ->Prop}{g:Prop}(h:∃a b c d,P a b c d/\Q a b c d/\R a b c d/\S a b c d/\T a b c d/\U a b c d/\V a b c d/\W a b c d)(k:∀a b c d,P a b c d->Q a b c d->R a b c d->S a b c d->T a b c d->U a b c d->V a b c d->W a b c d->g):g:=h.elim λa h=>h.elim λb h=>h.elim λc h=>h.elim λd h=>k a b c d h.1 h.2.1 h.2.2.1 h.2.2.2.1 h.2.2.2.2.1 h.2.2.2.2.2.1 h.2.2.2.2.2.2.1 h.2.2.2.2.2.2.2
section
variable{α β:Type}
theorem no{P:Prop}{a:α}(h:none=some a):P:=nomatch h
theorem nf{P:Prop}(h:false=true):P:=nomatch h
theorem si{a b:α}(h:some a=some b):a=b:=Option.some.inj h
theorem sp{a c:α}{b d:β}(h:some (a,b)=some (c,d)):a=c/\b=d:=by cases h;exact⟨rfl,rfl⟩
inductive Ob(o:Option α)(f:α->Option β)(b:β):Prop
 |mk (a:α) (h1:o=some a) (h2:f a=some b):Ob o f b
inductive Om(o:Option α)(f:α->β)(b:β):Prop
 |mk (a:α) (h1:o=some a) (h2:f a=b):Om o f b
inductive Mc(f:α->Option β)(x:α)(l:List α)(r:List β):Prop
 |mk (y:β) (ys:List β) (h1:f x=some y) (h2:l.mapM f=some ys) (e:r=y::ys):Mc f x l r
theorem ob{o:Option α}{f:α->Option β}{b:β}(h:o.bind f=some b):Ob o f b:=let⟨a,h1,h2⟩:=Option.bind_eq_some_iff.mp h;⟨a,h1,h2⟩
theorem om{o:Option α}{f:α->β}{b:β}(h:o.map f=some b):Om o f b:=let⟨a,h1,h2⟩:=Option.map_eq_some_iff.mp h;⟨a,h1,h2⟩
theorem oi{c:Prop}[Decidable c]{a:Option α}{b:α}(h:(if c then a else none)=some b):c/\a=some b:=by
 by_cases hc:c
 ·rw[if_pos hc]at h;exact⟨hc,h⟩
 ·rw[if_neg hc]at h;cases h
theorem oe{c:Prop}[Decidable c]{a:Option α}{b:α}(h:(if c then none else a)=some b):¬c/\a=some b:=by
 by_cases hc:c
 ·rw[if_pos hc]at h;cases h
 ·rw[if_neg hc]at h;exact⟨hc,h⟩
theorem oor{o p:Option α}{a:α}(h:o.or p=some a):o=some a\/p=some a:=by
 cases o with
 |none=>exact .inr h
 |some x=>exact .inl h
theorem mc{f:α->Option β}{x:α}{l:List α}{r:List β}(h:(x::l).mapM f=some r):Mc f x l r:=by
 rw[List.mapM_cons]at h;obtain⟨y,h1,h⟩:=ob h;obtain⟨ys,h2,h⟩:=ob h;exact⟨y,ys,h1,h2,(Option.some.inj h).symm⟩
theorem obk{o:Option α}{f:α->Option β}{b:β}{g:Prop}(h:o.bind f=some b)(k:∀a,f a=some b->o=some a->g):g:=let⟨a,p,q⟩:=ob h;k a q p
theorem omk{o:Option α}{f:α->β}{b:β}{g:Prop}(h:o.map f=some b)(k:∀a,f a=b->o=some a->g):g:=let⟨a,p,q⟩:=om h;k a q p
theorem mck{f:α->Option β}{x:α}{l:List α}{r:List β}{g:Prop}(h:(x::l).mapM f=some r)(k:∀y ys,f x=some y->l.mapM f=some ys->r=y::ys->g):g:=let⟨y,ys,p,q,e⟩:=mc h;k y ys p q e
theorem oik{c:Prop}[Decidable c]{a:Option α}{b:α}{g:Prop}(h:(if c then a else none)=some b)(k:a=some b->c->g):g:=k (oi h).2 (oi h).1
theorem mn{f:α->Option β}{r:List β}(h:([]:List α).mapM f=some r):r=[]:=(Option.some.inj h).symm
theorem aw{f:α->Option β}{x:α}{l:List α}{y:β}{r:List β}(h1:f x=some y)(h2:l.mapM f=some r):(x::l).mapM f=some (y::r):=by rw[List.mapM_cons,h1,h2];rfl
theorem be{f:α->Option β}:∀{l:List α} {r:List β},l.mapM f=some r->r.length=l.length:=by
 intro l;induction l with
 |nil=>intro r h;rw[mn h];rfl
 |cons x l j=>
  intro r h;obtain⟨y,ys,_,h2,rfl⟩:=mc h;exact congrArg (·+ 1) (j h2)
theorem iy{f:α->Option β}:∀{l:List α} {r:List β},l.mapM f=some r->∀(i:Nat) (x:α),l[i]?=some x->∃y,f x=some y/\r[i]?=some y:=by
 intro l;induction l with
 |nil=>intro r h i x e;cases e
 |cons a l g=>
  intro r h i x e;obtain⟨y,ys,m,j,rfl⟩:=mc h;cases i with
  |zero=>cases e;exact⟨y,m,rfl⟩
  |succ i=>exact g j i x e
theorem jN{f:α->Option β}{l:List α}{r:List β}(h:l.mapM f=some r):∀x∈l,∃y,f x=some y:=λx v=>by
 refine hid λu j=>?_;obtain⟨i,g⟩:=List.mem_iff_getElem?.mp v;obtain⟨y,m,_⟩:=iy h i x g;refine j ?_;clear j u;exact⟨y,m⟩
theorem ba{a b:Bool}(h:(a&&b)=true):a=true/\b=true:=(Bool.and_eq_true ..).mp h
theorem bak{a b:Bool}{g:Prop}(h:(a&&b)=true)(k:a=true->b=true->g):g:=k (ba h).1 (ba h).2
theorem bo{a b:Bool}(h:(a||b)=true):a=true\/b=true:=(Bool.or_eq_true ..).mp h
theorem bn{a:Bool}(h:(!a)=true):a=false:=(Bool.not_eq_true' a).mp h
end
theorem wa2{a b c:Bool}{g:Prop}(h:(a&&b&&c)=true)(k:a=true->b=true->c=true->g):g:=bak h λh h2=>bak h λh h1=>k h h1 h2
theorem wa3{a b c d:Bool}{g:Prop}(h:(a&&b&&c&&d)=true)(k:a=true->b=true->c=true->d=true->g):g:=bak h λh j=>bak h λh h2=>bak h λh h1=>k h h1 h2 j
theorem wa4{a b c d e:Bool}{g:Prop}(h:(a&&b&&c&&d&&e)=true)(k:a=true->b=true->c=true->d=true->e=true->g):g:=bak h λh j=>bak h λh m=>bak h λh h2=>bak h λh h1=>k h h1 h2 m j
theorem wa5{a b c d e x:Bool}{g:Prop}(h:(a&&b&&c&&d&&e&&x)=true)(k:a=true->b=true->c=true->d=true->e=true->x=true->g):g:=bak h λh u=>bak h λh j=>bak h λh m=>bak h λh h2=>bak h λh h1=>k h h1 h2 m j u
theorem wa6{a b c d e x y:Bool}{g:Prop}(h:(a&&b&&c&&d&&e&&x&&y)=true)(k:a=true->b=true->c=true->d=true->e=true->x=true->y=true->g):g:=bak h λh v=>bak h λh u=>bak h λh j=>bak h λh m=>bak h λh h2=>bak h λh h1=>k h h1 h2 m j u v
theorem wbb{α β ω:Type}{r:ω}{g:Prop}{j:Option α}{m:α->Option β}{f:α->β->Option ω}(h:((j).bind λa=>(m a).bind λb=>f a b)=some r)(k:∀a b,f a b=some r->j=some a->m a=some b->g):g:=obk h λa h h1=>obk h λb h h2=>k a b h h1 h2
theorem wbi{α ω:Type}{r:ω}{g:Prop}{m:Option α}{j:α->Prop}{d2:∀a,Decidable (j a)}{f:α->Option ω}(h:((m).bind λa=>@ite (Option ω) (j a) (d2 a) (f a) none)=some r)(k:∀a,f a=some r->m=some a->j a->g):g:=obk h λa h h1=>oik h λh h2=>k a h h1 h2
theorem wib{α ω:Type}{r:ω}{g:Prop}{j:Prop}{d1:Decidable (j)}{m:Option α}{f:α->Option ω}(h:(@ite (Option ω) (j) (d1) ((m).bind λa=>f a) none)=some r)(k:∀a,f a=some r->j->m=some a->g):g:=oik h λh h1=>obk h λa h h2=>k a h h1 h2
theorem wbm{α β ω:Type}{r:ω}{g:Prop}{j:Option α}{m:α->Option β}{f:α->β->ω}(h:((j).bind λa=>(m a).map λb=>f a b)=some r)(k:∀a b,f a b=r->j=some a->m a=some b->g):g:=obk h λa h h1=>omk h λb h h2=>k a b h h1 h2
theorem wim{α ω:Type}{r:ω}{g:Prop}{j:Prop}{d1:Decidable (j)}{m:Option α}{f:α->ω}(h:(@ite (Option ω) (j) (d1) ((m).map λa=>f a) none)=some r)(k:∀a,f a=r->j->m=some a->g):g:=oik h λh h1=>omk h λa h h2=>k a h h1 h2
theorem pJ{α β γ ω:Type}{r:ω}{g:Prop}{j:Option α}{m:α->Option β}{u:α->β->Option γ}{f:α->β->γ->Option ω}(h:((j).bind λa=>(m a).bind λb=>(u a b).bind λc=>f a b c)=some r)(k:∀a b c,f a b c=some r->j=some a->m a=some b->u a b=some c->g):g:=obk h λa h h1=>obk h λb h h2=>obk h λc h v=>k a b c h h1 h2 v
theorem zc{α β ω:Type}{r:ω}{g:Prop}{m:Option α}{u:α->Option β}{j:α->β->Prop}{y:∀a b,Decidable (j a b)}{f:α->β->Option ω}(h:((m).bind λa=>(u a).bind λb=>@ite (Option ω) (j a b) (y a b) (f a b) none)=some r)(k:∀a b,f a b=some r->m=some a->u a=some b->j a b->g):g:=obk h λa h h1=>obk h λb h h2=>oik h λh v=>k a b h h1 h2 v
theorem xP{α β ω:Type}{r:ω}{g:Prop}{m:Option α}{j:α->Prop}{d2:∀a,Decidable (j a)}{u:α->Option β}{f:α->β->Option ω}(h:((m).bind λa=>@ite (Option ω) (j a) (d2 a) ((u a).bind λb=>f a b) none)=some r)(k:∀a b,f a b=some r->m=some a->j a->u a=some b->g):g:=obk h λa h h1=>oik h λh h2=>obk h λb h v=>k a b h h1 h2 v
theorem AB{α β ω:Type}{r:ω}{g:Prop}{j:Prop}{d1:Decidable (j)}{m:Option α}{u:α->Option β}{f:α->β->Option ω}(h:(@ite (Option ω) (j) (d1) ((m).bind λa=>(u a).bind λb=>f a b) none)=some r)(k:∀a b,f a b=some r->j->m=some a->u a=some b->g):g:=oik h λh h1=>obk h λa h h2=>obk h λb h v=>k a b h h1 h2 v
theorem AO{α ω:Type}{r:ω}{g:Prop}{j:Prop}{d1:Decidable (j)}{u:Option α}{m:α->Prop}{y:∀a,Decidable (m a)}{f:α->Option ω}(h:(@ite (Option ω) (j) (d1) ((u).bind λa=>@ite (Option ω) (m a) (y a) (f a) none) none)=some r)(k:∀a,f a=some r->j->u=some a->m a->g):g:=oik h λh h1=>obk h λa h h2=>oik h λh v=>k a h h1 h2 v
theorem iZ{α β γ ω:Type}{r:ω}{g:Prop}{j:Option α}{m:α->Option β}{u:α->β->Option γ}{f:α->β->γ->ω}(h:((j).bind λa=>(m a).bind λb=>(u a b).map λc=>f a b c)=some r)(k:∀a b c,f a b c=r->j=some a->m a=some b->u a b=some c->g):g:=obk h λa h h1=>obk h λb h h2=>omk h λc h v=>k a b c h h1 h2 v
theorem ze{α β ω:Type}{r:ω}{g:Prop}{j:Prop}{d1:Decidable (j)}{m:Option α}{u:α->Option β}{f:α->β->ω}(h:(@ite (Option ω) (j) (d1) ((m).bind λa=>(u a).map λb=>f a b) none)=some r)(k:∀a b,f a b=r->j->m=some a->u a=some b->g):g:=oik h λh h1=>obk h λa h h2=>omk h λb h v=>k a b h h1 h2 v
theorem gU{α β γ δ ω:Type}{r:ω}{g:Prop}{m:Option α}{u:α->Option β}{v:α->β->Option γ}{j:α->β->γ->Option δ}{f:α->β->γ->δ->Option ω}(h:((m).bind λa=>(u a).bind λb=>(v a b).bind λc=>(j a b c).bind λd=>f a b c d)=some r)(k:∀a b c d,f a b c d=some r->m=some a->u a=some b->v a b=some c->j a b c=some d->g):g:=obk h λa h h1=>obk h λb h h2=>obk h λc h y=>obk h λd h z=>k a b c d h h1 h2 y z
theorem oT{α β γ ω:Type}{r:ω}{g:Prop}{m:Option α}{u:α->Option β}{v:α->β->Option γ}{j:α->β->γ->Prop}{z:∀a b c,Decidable (j a b c)}{f:α->β->γ->Option ω}(h:((m).bind λa=>(u a).bind λb=>(v a b).bind λc=>@ite (Option ω) (j a b c) (z a b c) (f a b c) none)=some r)(k:∀a b c,f a b c=some r->m=some a->u a=some b->v a b=some c->j a b c->g):g:=obk h λa h h1=>obk h λb h h2=>obk h λc h y=>oik h λh q=>k a b c h h1 h2 y q
theorem zU{α β γ ω:Type}{r:ω}{g:Prop}{u:Option α}{v:α->Option β}{j:α->β->Prop}{z:∀a b,Decidable (j a b)}{m:α->β->Option γ}{f:α->β->γ->Option ω}(h:((u).bind λa=>(v a).bind λb=>@ite (Option ω) (j a b) (z a b) ((m a b).bind λc=>f a b c) none)=some r)(k:∀a b c,f a b c=some r->u=some a->v a=some b->j a b->m a b=some c->g):g:=obk h λa h h1=>obk h λb h h2=>oik h λh y=>obk h λc h q=>k a b c h h1 h2 y q
theorem xz{α β ω:Type}{r:ω}{g:Prop}{m:Prop}{d1:Decidable (m)}{u:Option α}{v:α->Option β}{j:α->β->Prop}{z:∀a b,Decidable (j a b)}{f:α->β->Option ω}(h:(@ite (Option ω) (m) (d1) ((u).bind λa=>(v a).bind λb=>@ite (Option ω) (j a b) (z a b) (f a b) none) none)=some r)(k:∀a b,f a b=some r->m->u=some a->v a=some b->j a b->g):g:=oik h λh h1=>obk h λa h h2=>obk h λb h y=>oik h λh q=>k a b h h1 h2 y q
theorem zR{α β γ δ ω:Type}{r:ω}{g:Prop}{m:Option α}{u:α->Option β}{v:α->β->Option γ}{j:α->β->γ->Option δ}{f:α->β->γ->δ->ω}(h:((m).bind λa=>(u a).bind λb=>(v a b).bind λc=>(j a b c).map λd=>f a b c d)=some r)(k:∀a b c d,f a b c d=r->m=some a->u a=some b->v a b=some c->j a b c=some d->g):g:=obk h λa h h1=>obk h λb h h2=>obk h λc h y=>omk h λd h z=>k a b c d h h1 h2 y z
theorem zL{α β γ ω:Type}{r:ω}{g:Prop}{j:Prop}{d1:Decidable (j)}{u:Option α}{v:α->Option β}{m:α->β->Option γ}{f:α->β->γ->ω}(h:(@ite (Option ω) (j) (d1) ((u).bind λa=>(v a).bind λb=>(m a b).map λc=>f a b c) none)=some r)(k:∀a b c,f a b c=r->j->u=some a->v a=some b->m a b=some c->g):g:=oik h λh h1=>obk h λa h h2=>obk h λb h y=>omk h λc h z=>k a b c h h1 h2 y z
theorem aA{d:PV}{i:Int}(h:aN d=some i):d=.int i:=by cases d<;>first|exact no h|exact congrArg _ (Option.some.inj h)
theorem bE{d:PV}{i:List Nat}(h:bZ d=some i):d=.str i:=by cases d<;>first|exact no h|exact congrArg _ (Option.some.inj h)
theorem bN{d:PV}{i:List PV}(h:cC d=some i):d=.list i:=by cases d<;>first|exact no h|exact congrArg _ (Option.some.inj h)
theorem ki{d:PV}{i:List (Int×PV)}(h:eP d=some i):d=.dict i:=by cases d<;>first|exact no h|exact congrArg _ (Option.some.inj h)
theorem mC{d:PV}{i:List (Nat×PV)}(h:lD d=some i):d=.obj i:=by cases d<;>first|exact no h|exact congrArg _ (Option.some.inj h)
theorem gn{d:PV}{i:List PV}(h:iw d=some i):d=.tuple i:=by cases d<;>first|exact no h|exact congrArg _ (Option.some.inj h)
theorem ul{d:PV}{i:Nat}(h:xV d=some i):d=.fn i:=by cases d<;>first|exact no h|exact congrArg _ (Option.some.inj h)
theorem j3{d:PV}{i:Nat}(h:aZ d=some i):d=.cell i:=by cases d<;>first|exact no h|exact congrArg _ (Option.some.inj h)
theorem gC{d:PV}{i:Bool}(h:truthy d=some i):d=.bool i:=by cases d<;>first|exact no h|exact congrArg _ (Option.some.inj h)
theorem jC{d:PV}{c:Nat}(h:asC d=some c):d=.str [c]:=by
 obtain⟨l,hl,h⟩:=ob h;cases l with
 |nil=>cases h
 |cons x r=>cases r<;>cases h;exact bE hl
theorem jM{d:PV}{p:PV×PV}(h:oY d=some p):d=.tuple [p.1,p.2]:=by
 obtain⟨l,hl,h⟩:=ob h;match l,h with
 |[a,b],h=>cases h;exact gn hl
theorem kq{d:PV}{j:List Int}(h:ik d=some j):∃l,d=.list l/\l.mapM aN=some j:=by
 obtain⟨l,hl,h⟩:=ob h;exact⟨l,bN hl,h⟩
theorem cZ{d:Sto}{i:List PV}(h:gL d=some i):d=.list i:=by cases d<;>first|exact no h|exact congrArg _ (Option.some.inj h)
theorem oB{d:Sto}{i:List (Int×PV)}(h:qN d=some i):d=.dict i:=by cases d<;>first|exact no h|exact congrArg _ (Option.some.inj h)
theorem qb{d:Sto}{i:List (Nat×PV)}(h:vd d=some i):d=.obj i:=by cases d<;>first|exact no h|exact congrArg _ (Option.some.inj h)
theorem ej{xs:List Nat}{d:PV}{ρ ρ':ar}(h:a6 true xs d ρ=some ρ'):∃l,d=.tuple l/\l.length=xs.length/\ρ'=(xs.zip l).reverse++ρ:=by
 obtain⟨l,hl,h⟩:=ob h;obtain⟨h1,h2⟩:=oi h;exact⟨l,gn hl,h1,(Option.some.inj h2).symm⟩
theorem io{xs:List Nat}{d:PV}{ρ ρ':ar}(h:a6 false xs d ρ=some ρ'):∃x,xs=[x]/\ρ'=(x,d)::ρ:=by
 obtain⟨x,j,h⟩:=ob h;obtain⟨h1,h2⟩:=oi h;clear h;cases xs with
 |nil=>cases j
 |cons y r=>cases j;cases h1;exact⟨_,rfl,(Option.some.inj h2).symm⟩
theorem ny(y:Nat):∀(l:ar) (x:Nat),x≠y->(l.filter λq=>q.1 != y).lookup x=l.lookup x:=by
 intro l;induction l with
 |nil=>intro x _;rfl
 |cons q r g=>
  intro x j;obtain⟨z,d⟩:=q;by_cases hz:z=y
  ·subst hz;have m:(x==z)=false:=by simpa using j
   rw[List.filter_cons_of_neg (by simp),List.lookup,m];exact g x j
  ·rw[List.filter_cons_of_pos (by simpa using hz),List.lookup,List.lookup,g x j]
theorem ac:∀(l:ar) (x:Nat),(norm l).lookup x=l.lookup x:=by
 intro l;induction l with
 |nil=>intro x;rfl
 |cons p r j=>
  intro x;obtain⟨z,d⟩:=p;show List.lookup x ((z,d)::(norm r).filter λq=>q.1 != z)=_;rw[List.lookup,List.lookup];split
  ·rfl
  ·rename_i h;rw[ny z _ x (by simpa using h),j]
noncomputable def VI(e:Expr):Vw->Prop
 |.name x=>∃p,e=.Name x p
 |.call f as ks pos=>e=.Call f as ks pos
 |.attr o n p=>e=.Attribute o n p
 |.tup es=>∃n p,e=.Tuple es n p
 |.sub v i=>∃p,e=.Subscript v i p
 |.bin l op r=>∃p,e=.BinOp l op r p
 |.str s=>∃k p,e=.Constant (.str s) k p
 |.lst es=>∃p,e=.List es p
 |.dct ks vs=>∃p,e=.Dict ks vs p
 |.lam as b sc p=>e=.Lambda as b sc p
 |.other=>True
theorem bC(e:Expr):VI e (c5 e):=by
 cases e with
 |Name x p=>exact⟨p,rfl⟩
 |Call f as ks pos=>exact rfl
 |Attribute o n p=>exact rfl
 |Tuple j n p=>exact⟨n,p,rfl⟩
 |Subscript v i p=>exact⟨p,rfl⟩
 |BinOp l g r p=>exact⟨p,rfl⟩
 |Constant c k p=>cases c<;>first|exact trivial|exact⟨k,p,rfl⟩
 |List j p=>exact⟨p,rfl⟩
 |Dict ks vs p=>exact⟨p,rfl⟩
 |Lambda as b sc p=>exact rfl
 |_=>exact trivial
theorem eH{e:Expr}{x:Str}(h:eZ e=some x):∃p,e=.Name x p:=by
 have q:=bC e;unfold eZ at h;generalize c5 e=v at q h;cases v<;>first|exact no h|(rw[<- Option.some.inj h];exact q)
theorem er{e:Expr}{c:w5}(h:gB e=some c):e=.Call c.f c.as c.ks c.pos:=by
 have q:=bC e;unfold gB at h;generalize c5 e=v at q h;cases v<;>first|exact no h|(rw[<- Option.some.inj h];exact q)
theorem iC{e:Expr}{j:List Expr}(h:j9 e=some j):∃n p,e=.Tuple j n p:=by
 have q:=bC e;unfold j9 at h;generalize c5 e=v at q h;cases v<;>first|exact no h|(rw[<- Option.some.inj h];exact q)
theorem iM{e:Expr}{x:Expr×Expr}(h:lw e=some x):∃p,e=.Subscript x.1 x.2 p:=by
 have q:=bC e;unfold lw at h;generalize c5 e=v at q h;cases v<;>first|exact no h|(rw[<- Option.some.inj h];exact q)
theorem iz{e:Expr}{x:Expr×Expr}(h:lq e=some x):∃p,e=.BinOp x.1 .Add x.2 p:=by
 have q:=bC e;unfold lq at h;generalize c5 e=v at q h;cases v<;>first|exact no h|skip
 obtain⟨h1,h⟩:=oi h;rw[<- Option.some.inj h,<- eq_of_beq h1];exact q
theorem nb{e:Expr}{i:Nat}(h:nmI e=some i):∃x p,e=.Name x p/\idOf x=some i:=by
 obtain⟨x,j,h⟩:=ob h;obtain⟨p,rfl⟩:=eH j;exact⟨x,p,rfl,h⟩
theorem bG{sc:Scope}{e:Expr}{i:Nat}(h:bO sc e=some i):∃x p,e=.Name x p/\isV sc x=true/\idOf x=some i:=by
 obtain⟨x,j,h⟩:=ob h;obtain⟨p,rfl⟩:=eH j;obtain⟨h1,h2⟩:=oi h;exact⟨x,p,rfl,h1,h2⟩
theorem fx{sc:Scope}{n:Str}{e:Expr}(h:mM sc n e=true):∃p,e=.Name n p/\isG sc n=true:=by
 unfold mM at h;cases hx:eZ e with
 |none=>rw[hx]at h;cases h
 |some x=>
  rw[hx]at h;obtain⟨p,rfl⟩:=eH hx;obtain⟨h1,h2⟩:=ba h;clear h hx;cases eq_of_beq h2;exact⟨p,rfl,h1⟩
theorem bP{e:Expr}{s:Str}(h:dh e=some s):∃k p,e=.Constant (.str s) k p:=by
 have q:=bC e;unfold dh at h;generalize c5 e=v at q h;cases v<;>first|exact no h|(rw[<- Option.some.inj h];exact q)
theorem eF{e:Expr}{m:xb}(h:kN e=some m):e=.Call (.Attribute m.o m.n m.apos) m.args [] m.pos:=by
 refine hid λu j=>?_;obtain⟨c,hc,h⟩:=ob h;obtain⟨g,h⟩:=oi h;refine j ?_;clear j u;rw[er hc,List.isEmpty_iff.mp g];have q:=bC c.f;generalize c5 c.f=v at q h;cases v<;>cases h
 rw[show c.f=_ from q]
theorem lB{e:Expr}{tp:Bool}{xs:List Nat}(h:dQ e=some (tp,xs)):(tp=true/\∃j n p,e=.Tuple j n p/\j.mapM nmI=some xs)\/(tp=false/\∃i,xs=[i]/\nmI e=some i):=by
 unfold dQ at h;cases ht:j9 e with
 |some j=>
  refine hid λm g=>?_;rw[ht]at h;obtain⟨ys,h1,h⟩:=om h;cases h;obtain⟨n,p,rfl⟩:=iC ht;refine g ?_;clear g m;exact .inl ⟨rfl,j,n,p,rfl,h1⟩
 |none=>
  rw[ht]at h;obtain⟨i,h1,h⟩:=om h;cases h;exact .inr ⟨rfl,i,rfl,h1⟩
theorem b0{α:Type}{l:List α}{a:α}(h:i4 l=some a):l=[a]:=by
 cases l with
 |nil=>exact no h
 |cons b r=>
  obtain⟨h1,h2⟩:=oi h;rw[List.isEmpty_iff.mp h1,Option.some.inj h2]
theorem ek{α:Type}{l:List α}{p:α×α}(h:o9 l=some p):l=[p.1,p.2]:=by
 cases l with
 |nil=>exact no h
 |cons b r=>
  obtain⟨c,h1,h2⟩:=om h;rw[b0 h1,<- h2]
theorem qn{as:Arguments}{p:Str×Pos}(h:uU as=some p):as=⟨[],[⟨p.1,none,p.2⟩],none,[],[],none,[]⟩:=by
 refine hid λd j=>?_;obtain⟨h0,h⟩:=oi h;obtain⟨h0,z⟩:=ba h0;obtain⟨h0,r⟩:=ba h0;obtain⟨h0,e⟩:=ba h0;obtain⟨h0,v⟩:=ba h0;obtain⟨h1,h2⟩:=ba h0;obtain⟨a,c,h⟩:=ob h;obtain⟨t,h⟩:=oi h;obtain⟨l,m,q,a4,y,u,i⟩:=as;obtain⟨b,g,k⟩:=a;refine j ?_;clear j d;rw[show l=[]from List.isEmpty_iff.mp h1,show q=none from Option.isNone_iff_eq_none.mp h2,show a4=[]from List.isEmpty_iff.mp v,show y=[]from List.isEmpty_iff.mp e,show u=none from Option.isNone_iff_eq_none.mp r,show i=[]from List.isEmpty_iff.mp z,show m=_ from b0 c,show g=none from Option.isNone_iff_eq_none.mp t,<- Option.some.inj h]
theorem r8{e:Expr}{l:tI}(h:uZ e=some l):e=.Lambda ⟨[],[⟨l.p,none,l.ap⟩],none,[],[],none,[]⟩ l.body l.sc l.pos:=by
 have q:=bC e;unfold uZ at h;generalize c5 e=v at q h;cases v<;>first|(cases h;done)|skip
 obtain⟨p,j,h⟩:=om h;cases h;rw[q,qn j]
theorem m9{sc:Scope}{e a:Expr}{l:tI}(h:fI sc e=some (a,l)):∃p kp pos,e=.Call (.Name "sorted" p) [a] [⟨some "key",.Lambda ⟨[],[⟨l.p,none,l.ap⟩],none,[],[],none,[]⟩ l.body l.sc l.pos,kp⟩] pos/\isG sc "sorted"=true:=by
 refine hid λr m=>?_;obtain⟨c,hc,h⟩:=ob h;obtain⟨k,h⟩:=oi h;obtain⟨p,u,g⟩:=fx k;obtain⟨f,v,h⟩:=ob h;obtain⟨q,t,h⟩:=ob h;obtain⟨j,h⟩:=oi h;obtain⟨n,hl,z⟩:=om h;obtain⟨b,y⟩:=Prod.mk.inj z;obtain⟨i,d,kp⟩:=q;refine m ?_;clear m r;refine⟨p,kp,c.pos,?_,g⟩;rw[er hc,u,b0 v,b0 t,b,show i=_ from eq_of_beq j,show d=_ from r8 hl,y]
theorem ph{sc:Scope}{ops:List CmpOp}{cs:List Expr}(h:mK sc ops cs=true):∃np,ops=[.In]/\cs=[.Name "EXACT_TOKEN_TYPES" np]/\isG sc "EXACT_TOKEN_TYPES"=true:=by
 unfold mK at h;cases hc:i4 cs with
 |none=>rw[hc]at h;exact nf h
 |some c=>
  rw[hc]at h;obtain⟨h1,h2⟩:=ba h;obtain⟨p,e,j⟩:=fx h2;exact⟨p,eq_of_beq h1,by rw[b0 hc,e],j⟩
theorem fQ{c:PE->PE}{as:List PE}{j:PE}(h:one c as=some j):∃a,as=[a]/\j=c a:=by
 obtain⟨a,h1,h2⟩:=om h;exact⟨a,b0 h1,h2.symm⟩
theorem qG{c:PE->PE->PE}{as:List PE}{j:PE}(h:two c as=some j):∃a b,as=[a,b]/\j=c a b:=by
 obtain⟨a,h1,h2⟩:=om h;exact⟨a.1,a.2,ek h1,h2.symm⟩
theorem bL{T:Scope->Expr->Option PE}{raw inner sc:Scope}{g:Comprehension}{gs:List Comprehension}{r:List (Bool×List Nat)×List PE×List (List PE)}(h:eT T raw inner sc (g::gs)=some r):
 ∃j i f m,r=(j::m.1,i::m.2.1,f::m.2.2)/\dQ g.target=some j/\g.is_async=0/\(∀x∈j.2,aW raw (nm x)=true)/\(j.1=true\/iI g.iter=false)/\trI (T sc) sc g.iter=some i/\g.ifs.mapM (T inner)=some f/\eT T raw inner inner gs=some m:=by
 refine hid λt z=>?_;obtain⟨j,h1,h⟩:=ob h;obtain⟨hc,h⟩:=oi h;obtain⟨m,h2,h⟩:=ob h;obtain⟨i,q,h⟩:=ob h;obtain⟨f,d,h⟩:=om h;obtain⟨hc,y⟩:=ba hc;obtain⟨v,u⟩:=ba hc;refine z ?_;clear z t;exact⟨j,i,f,m,h.symm,h1,by simpa using v,List.all_eq_true.mp u,(bo y).imp id bn,q,d,h2⟩
theorem qL{T:Expr->Option PE}{sc:Scope}{e:Expr}{g:PE}(h:trI T sc e=some g):
 (∃x args pos p as,e=.Call (.Name x p) args [] pos/\isG sc x=true/\(x=("enumerate":Str)\/x=("range":Str))/\args.mapM T=some as/\(if x==("enumerate":Str)then one .enum as else(one (.range none) as).or (two (λa b=>.range (some a) b) as))=some g)\/(T e=some g/\pS g=false):=by
 unfold trI at h;cases j:to sc e with
 |none=>
  rw[j]at h;obtain⟨q,h1,h⟩:=ob h;obtain⟨h2,h⟩:=oe h;cases h;exact .inr ⟨h1,Bool.eq_false_iff.mpr h2⟩
 |some q=>
  obtain⟨x,args⟩:=q;rw[j]at h;obtain⟨as,v,t⟩:=ob h;clear h;obtain⟨c,hc,j⟩:=ob j;obtain⟨y,u,j⟩:=ob j;obtain⟨m,j⟩:=oi j;obtain⟨p,z⟩:=eH u;clear u;cases j;obtain⟨m,r⟩:=ba m;obtain⟨h1,h2⟩:=ba m;exact .inl ⟨_,c.as,c.pos,p,as,by rw[er hc,z,List.isEmpty_iff.mp h2],h1,(bo r).imp eq_of_beq eq_of_beq,v,t⟩
theorem arA{a b k m:Nat}(h:m<=k):a+m+k*b<=a+k*(b+1):=by rw[Nat.mul_add,Nat.add_assoc,Nat.mul_one,Nat.add_comm m];exact Nat.add_le_add_left (Nat.add_le_add_left h _) _
theorem Ap{a0:Int}{j:Nat}(h0:a0.natAbs<=1000/\j<=10):-9223372036854775808<=a0/\a0<9223372036854775808:=
 have h:a0<=1000:=Int.le_trans Int.le_natAbs (Int.ofNat_le.mpr h0.1);have k:-a0<=1000:=Int.le_trans Int.le_natAbs (Int.ofNat_le.mpr ((Int.natAbs_neg a0).symm▸h0.1));⟨Int.le_trans (by decide:(-9223372036854775808:Int) <= -1000) (Int.neg_le_of_neg_le k),Int.lt_of_le_of_lt h (by decide)⟩
theorem zO{a0:Int}{j:Nat}(h0:a0.natAbs<=1000/\j<=10):a0.toNat<=1000:=Int.toNat_le.mpr (Int.le_trans Int.le_natAbs (Int.ofNat_le.mpr h0.1))
theorem xQ{a0:Nat}(h0:6*a0<=1000):a0<=1000:=Nt (Nat.le_mul_of_pos_left _ (by decide)) h0
theorem Aw{a0:Nat}(h0:a0<5):97+a0<128:=Nl (Nat.add_lt_add_left h0 97) (by decide)
theorem As{a0:Nat}(h0:a0<=2):2+a0<=4:=Nat.add_le_add_left h0 2
theorem yg{a0:Nat}(h0:a0<=3):a0=0\/a0=1\/a0=2\/a0=3:=match a0,h0 with
 |0,_=>.inl rfl|1,_=>.inr (.inl rfl)|2,_=>.inr (.inr (.inl rfl))|3,_=>.inr (.inr (.inr rfl))
theorem zf{a0:Nat}(h0:a0<4):a0=0\/a0=1\/a0=2\/a0=3:=yg (Nat.le_of_lt_succ h0)
theorem zK{a0:Nat}(h0:¬a0=1)(h1:0<a0):2<=a0:=Nat.lt_of_le_of_ne h1 (Ne.symm h0)
theorem zt{a0:Nat}:(-1+(↑(a0+1):Int)).toNat=a0:=by
 rw[Int.add_comm];exact congrArg Int.toNat (Int.add_neg_cancel_right (↑a0) 1)
theorem w7{a0:Nat}:1<=2+a0:=Nt (by decide) (Nat.le_add_right 2 _)
theorem xt{a0:Nat}{j:Nat}(h0:a0+(j+1)<=1000):a0+1+j<=1000:=Nt (Ne0 (Nat.add_right_comm _ _ _)) h0
theorem xB{a0:Nat}{j:Nat}(h0:a0<=3)(h1:j<=3):(↑(max a0 j+1+1):Int).natAbs<1000000:=Nm (Nat.add_le_add_right (Nat.max_le.mpr ⟨h0,h1⟩) 2) (by decide)
theorem xG{a0:Nat}{j:Nat}(h0:a0<=j)(h1:¬a0<j):a0=j:=Nat.le_antisymm h0 (Nat.le_of_not_lt h1)
theorem xD{a0:Nat}{j:Nat}(h0:a0<=j):j+1 - (a0+1)<j+1 - a0:=Nat.sub_lt_sub_left (Nat.lt_succ_of_le h0) (Nat.lt_succ_self _)
theorem w3{a0:Nat}{j:Nat}{g:Nat}(h0:a0<=3)(h1:j<=3)(h2:g<max a0 j+1):1+g<=4:=Nt (Ne0 (Nat.add_comm _ _)) (Nt h2 (Nat.succ_le_succ (Nat.max_le.mpr ⟨h0,h1⟩)))
theorem xj{a0:Nat}{j:Nat}{g:Nat}(h0:a0<=6*j)(h1:g<=6):g+a0<=6*(j+1):=Nt (Ne0 (Nat.add_comm _ _)) (Na h0 h1)
theorem w9{a0:Nat}{j:Nat}{g:Nat}(h0:a0<=j)(h1:0<g):a0+1<=g+j:=Nt (Ne0 (Nat.add_comm _ _)) (Na h1 h0)
theorem xc{a0:Nat}{j:Nat}{g:Nat}(h0:a0<=j)(h1:j+(g+1)<=100):a0<=100:=Nt h0 (Nt (Nat.le_add_right _ _) h1)
theorem xe{a0:Nat}{j:Nat}{g:Nat}(h0:a0<=j)(h1:g<=j - a0):g<j+1 - a0:=Nat.lt_sub_of_add_lt (Nat.lt_succ_of_le (Nat.add_le_of_le_sub h0 h1))
theorem xC{a0:Nat}{g:Nat}{m:Nat}{j:Nat}(h0:a0<=1000)(h1:g=m)(h2:j=a0)(u:m=j):g<=16777216:=Nt (Ne0 (h1.trans (u.trans h2))) (Nt h0 (by decide))
theorem xF{a0:Nat}{g:Nat}{m:Nat}{j:Nat}(h0:a0<=g+1)(h1:m=a0)(h2:j<m):j<=g:=Nat.le_of_lt_succ (Nl h2 (Nt (Ne0 h1) h0))
theorem xy{a0:Nat}{j:Nat}{m:Nat}{g:Nat}(h0:a0<=j)(h1:m<=j)(h2:g<max a0 m+1):g<=j:=Nat.le_of_lt_succ (Nl h2 (Nat.succ_le_succ (Nat.max_le.mpr ⟨h0,h1⟩)))
noncomputable def b86:List PS:=[.setAttr 0 82 (.var 1),.tupAssign [2,3] [.cattr 2,.cattr 3],.assign 4 (.newList),.assigns [5,6,7] (.cint 0),.forS false [8] (.attr (.var 0) 82) [.ite (.cmp (.var 8) [.Eq] [.var 2]) [.assign 6 (.bin (.Add) (.var 6) (.cint 1)),.assign 5 (.bin (.Add) (.var 5) (.cint 1))] [.ite (.cmp (.var 8) [.Eq] [.var 3]) [.assign 6 (.bin (.Add) (.var 6) (.cint 1)),.assign 7 (.bin (.Add) (.var 7) (.cint 1)),.ite (.cmp (.var 5) [.GtE] [.len (.var 4)]) [.assign 4 (.freshAdd (.var 4) (.bin (.Mult) (.list [.cint 0]) (.bin (.Add) (.bin (.Sub) (.var 5) (.len (.var 4))) (.cint 1))))] [],.setSub 4 (.var 5) (.bin (.Add) (.sub (.var 4) (.var 5)) (.cint 1)),.assign 5 (.cint 0)] [.brk]]],.setAttr 0 6 (.var 6),.setAttr 0 7 (.var 7),.setAttr 0 83 (.tuple [.tup (.var 4),.var 5]),.setAttr 0 84 (.cmp (.len (.var 4)) [.LtE] [.cint 1])]
noncomputable def f86:FnD:=⟨86,[0,1],b86⟩
noncomputable def b87:List PS:=[.unpack [4,9] (.attr (.var 0) 83),.ret (.max2 (.bin (.Sub) (.len (.var 4)) (.cint 1)) (.var 9))]
noncomputable def f87:FnD:=⟨87,[0],b87⟩
noncomputable def b88:List PS:=[.unpack [4,9] (.attr (.var 0) 83),.assign 11 (.cint 0),.forS false [12] (.range (some (.var 10)) (.len (.var 4))) [.assign 11 (.bin (.Add) (.var 11) (.bin (.Mult) (.bin (.FloorDiv) (.var 12) (.var 10)) (.sub (.var 4) (.var 12))))],.ret (.bin (.Add) (.var 9) (.bin (.Mult) (.var 10) (.bin (.Add) (.var 11) (.attr (.var 0) 7))))]
noncomputable def f88:FnD:=⟨88,[0,10],b88⟩
noncomputable def b89:List PS:=[.ret (.cmp (.attr (.var 0) 83) [.Eq] [.attr (.var 13) 83])]
noncomputable def f89:FnD:=⟨89,[0,13],b89⟩
noncomputable def b90:List PS:=[.assign 6 (.bin (.Add) (.max2 (.meth (.var 0) 87 []) (.meth (.var 13) 87 [])) (.cint 1)),.assign 14 (.newList),.forS false [15] (.range (some (.cint 1)) (.bin (.Add) (.var 6) (.cint 1))) [.ite (.cmp (.meth (.var 0) 88 [.var 15]) [.NotEq] [.meth (.var 13) 88 [.var 15]]) [.append 14 (.tuple [.var 15,.meth (.var 0) 88 [.var 15],.meth (.var 13) 88 [.var 15]])] []],.ret (.var 14)]
noncomputable def f90:FnD:=⟨90,[0,13],b90⟩
noncomputable def b91:List PS:=[.ite (.cmp (.attr (.var 0) 6) [.GtE] [.attr (.var 13) 6]) [.ret (.cbool false)] [],.ite (.boolop true [.attr (.var 0) 84,.attr (.var 13) 84]) [.ret (.cmp (.attr (.var 0) 7) [.LtE] [.attr (.var 13) 7])] [],.assign 6 (.bin (.Add) (.max2 (.meth (.var 0) 87 []) (.meth (.var 13) 87 [])) (.cint 1)),.forS false [15] (.range (some (.cint 2)) (.bin (.Add) (.var 6) (.cint 1))) [.ite (.cmp (.meth (.var 0) 88 [.var 15]) [.GtE] [.meth (.var 13) 88 [.var 15]]) [.ret (.cbool false)] []],.ret (.cbool true)]
noncomputable def f91:FnD:=⟨91,[0,13],b91⟩
noncomputable def b92:List PS:=[.assign 6 (.bin (.Add) (.max2 (.meth (.var 0) 87 []) (.meth (.var 13) 87 [])) (.cint 1)),.assign 14 (.newList),.forS false [15] (.range (some (.cint 1)) (.bin (.Add) (.var 6) (.cint 1))) [.ite (.cmp (.meth (.var 0) 88 [.var 15]) [.GtE] [.meth (.var 13) 88 [.var 15]]) [.append 14 (.tuple [.var 15,.meth (.var 0) 88 [.var 15],.meth (.var 13) 88 [.var 15]])] []],.ret (.var 14)]
noncomputable def f92:FnD:=⟨92,[0,13],b92⟩
noncomputable def b93:List PS:=[.ret (.cmp (.var 16) [.Lt] [.gint 256])]
noncomputable def f93:FnD:=⟨93,[16],b93⟩
noncomputable def b94:List PS:=[.ret (.cmp (.var 16) [.GtE] [.gint 256])]
noncomputable def f94:FnD:=⟨94,[16],b94⟩
noncomputable def b95:List PS:=[.ret (.cmp (.var 16) [.Eq] [.gint 0])]
noncomputable def f95:FnD:=⟨95,[16],b95⟩
noncomputable def b96:List PS:=[.tryS [.ite (.cmp (.cstr [38]) [.In] [.var 17]) [.assign 17 (.repl (.var 17) [38] [38,97,109,112,59])] [],.ite (.cmp (.cstr [60]) [.In] [.var 17]) [.assign 17 (.repl (.var 17) [60] [38,108,116,59])] [],.ite (.cmp (.cstr [62]) [.In] [.var 17]) [.assign 17 (.repl (.var 17) [62] [38,103,116,59])] [],.ret (.var 17)]]
noncomputable def f96:FnD:=⟨96,[17],b96⟩
noncomputable def b97:List PS:=[.tryS [.ite (.cmp (.cstr [38]) [.In] [.var 17]) [.assign 17 (.repl (.var 17) [38] [38,97,109,112,59])] [],.ite (.cmp (.cstr [60]) [.In] [.var 17]) [.assign 17 (.repl (.var 17) [60] [38,108,116,59])] [],.ite (.cmp (.cstr [62]) [.In] [.var 17]) [.assign 17 (.repl (.var 17) [62] [38,103,116,59])] [],.ite (.cmp (.cstr [34]) [.In] [.var 17]) [.assign 17 (.repl (.var 17) [34] [38,113,117,111,116,59])] [],.ite (.cmp (.cstr [13]) [.In] [.var 17]) [.assign 17 (.repl (.var 17) [13] [38,35,49,51,59])] [],.ite (.cmp (.cstr [10]) [.In] [.var 17]) [.assign 17 (.repl (.var 17) [10] [38,35,49,48,59])] [],.ite (.cmp (.cstr [9]) [.In] [.var 17]) [.assign 17 (.repl (.var 17) [9] [38,35,48,57,59])] [],.ret (.var 17)]]
noncomputable def f97:FnD:=⟨97,[17],b97⟩
noncomputable def b98:List PS:=[.tryS [.ite (.cmp (.cstr [38]) [.In] [.var 17]) [.assign 17 (.repl (.var 17) [38] [38,97,109,112,59])] [],.ite (.cmp (.cstr [62]) [.In] [.var 17]) [.assign 17 (.repl (.var 17) [62] [38,103,116,59])] [],.ite (.cmp (.cstr [34]) [.In] [.var 17]) [.assign 17 (.repl (.var 17) [34] [38,113,117,111,116,59])] [],.ret (.var 17)]]
noncomputable def f98:FnD:=⟨98,[17],b98⟩
noncomputable def b99:List PS:=[.tryS [.ite (.cmp (.cstr [38]) [.In] [.var 17]) [.assign 17 (.repl (.var 17) [38] [38,97,109,112,59])] [],.ite (.cmp (.cstr [60]) [.In] [.var 17]) [.assign 17 (.repl (.var 17) [60] [38,108,116,59])] [],.ite (.cmp (.cstr [62]) [.In] [.var 17]) [.assign 17 (.repl (.var 17) [62] [38,103,116,59])] [],.ite (.cmp (.cstr [13]) [.In] [.var 17]) [.assign 17 (.repl (.var 17) [13] [38,35,120,68,59])] [],.ret (.var 17)]]
noncomputable def f99:FnD:=⟨99,[17],b99⟩
noncomputable def AR:List PS:=[.tryS [.ite (.cmp (.cstr [38]) [.In] [.var 17]) [.assign 17 (.repl (.var 17) [38] [38,97,109,112,59])] [],.ite (.cmp (.cstr [60]) [.In] [.var 17]) [.assign 17 (.repl (.var 17) [60] [38,108,116,59])] [],.ite (.cmp (.cstr [34]) [.In] [.var 17]) [.assign 17 (.repl (.var 17) [34] [38,113,117,111,116,59])] [],.ite (.cmp (.cstr [9]) [.In] [.var 17]) [.assign 17 (.repl (.var 17) [9] [38,35,120,57,59])] [],.ite (.cmp (.cstr [10]) [.In] [.var 17]) [.assign 17 (.repl (.var 17) [10] [38,35,120,65,59])] [],.ite (.cmp (.cstr [13]) [.In] [.var 17]) [.assign 17 (.repl (.var 17) [13] [38,35,120,68,59])] [],.ret (.var 17)]]
noncomputable def xL:FnD:=⟨100,[17],AR⟩
noncomputable def AU:List PS:=[.assign 19 (.comp (.bin (.Add) (.var 24) (.sum (.comp (.bin (.Mod) (.var 16) (.cint 5040)) [(false,[16])] [.slice (.var 18) (some (.var 23)) (some (.cint 60)) (some (.cint 6))] [[]] []))) [(true,[23,24])] [.enum (.tuple [.cint 5,.cint 576,.cint 96,.cint 83,.cint 103,.cint 16])] [[]] [18]),.assign 20 (.newList),.forS false [21] (.slice (.var 19) none (some (.cint 5)) none) [.assign 22 (.bin (.Add) (.slice (.list [.bin (.Mod) (.bin (.FloorDiv) (.var 21) (.cint 3)) (.cint 4),.bin (.Mod) (.bin (.FloorDiv) (.var 21) (.cint 12)) (.cint 4)]) none (some (.bin (.Mod) (.var 21) (.cint 3))) none) (.list [.bin (.Mod) (.bin (.FloorDiv) (.var 21) (.cint 48)) (.cint 4)])),.append 20 (.ite (.boolop true [.cmp (.bin (.Mod) (.bin (.FloorDiv) (.var 21) (.cint 192)) (.cint 4)) [.Eq] [.cint 3],.cmp (.var 20) [.NotEq] [.list []]]) (.bin (.Add) (.slice (.slice (.sub (.var 20) (.neg (.cint 1))) none (some (.neg (.cint 1))) none) none none (some (.neg (.cint 1)))) (.slice (.sub (.var 20) (.neg (.cint 1))) (some (.neg (.cint 1))) none none)) (.var 22))],.ret (.tuple [.comp (.meth (.cstr [9]) 111 [.comp (.bin (.Mult) (.cstr [32]) (.var 26)) [(false,[26])] [.var 25] [[]] []]) [(false,[25])] [.var 20] [[]] [],.sub (.var 19) (.cint 5)])]
noncomputable def xO:FnD:=⟨101,[18],AU⟩
noncomputable def AL:List PS:=[.assign 29 (.cint 0),.forS false [30] (.var 27) [.assign 29 (.ite (.cmp (.var 30) [.Eq] [.cstr [32]]) (.bin (.Add) (.var 29) (.cint 1)) (.bin (.Add) (.bin (.Sub) (.var 29) (.bin (.Mod) (.var 29) (.var 28))) (.var 28)))],.ret (.var 29)]
noncomputable def zn:FnD:=⟨102,[27,28],AL⟩
noncomputable def A0:List PS:=[.assign 34 (.comp (.comp (.len (.var 26)) [(false,[26])] [.meth (.var 27) 110 [.cstr [9]]] [[]] []) [(false,[27])] [.var 31] [[]] []),.assign 35 (.comp (.max1 (.var 25)) [(false,[25])] [.var 34] [[]] []),.assign 36 (.comp (.comp (.call 102 [.var 27,.var 28]) [(false,[28])] [.range (some (.cint 1)) (.bin (.Add) (.max1 (.var 35)) (.cint 2))] [[]] [27]) [(false,[27])] [.var 31] [[]] [35]),.assign 37 (.newList),.forS false [14] (.range none (.cint 5)) [.assign 38 (.tup (.comp (.meth (.slice (.sub (.var 34) (.var 14)) none (some (.neg (.cint 1))) none) 4 [.var 28]) [(false,[28])] [.range none (.bin (.Add) (.max1 (.bin (.Add) (.list [.neg (.cint 1)]) (.slice (.sub (.var 34) (.var 14)) none (some (.neg (.cint 1))) none))) (.cint 1))] [[]] [14,34])),.assign 39 (.comp (.tuple [.attr (.var 46) 6,.attr (.var 46) 7,.attr (.var 46) 83,.meth (.var 46) 87 []]) [(false,[46])] [.tuple [.sub (.var 33) (.var 14),.call 85 [.sub (.var 31) (.var 14)]]] [[]] []),.ite (.boolop false [.cmp (.var 39) [.NotEq] [.bin (.Mult) (.list [.tuple [.len (.sub (.var 31) (.var 14)),.bin (.Sub) (.len (.sub (.var 34) (.var 14))) (.cint 1),.tuple [.var 38,.sub (.sub (.var 34) (.var 14)) (.neg (.cint 1))],.sub (.var 35) (.var 14)]]) (.cint 2)],.cmp (.attr (.sub (.var 33) (.var 14)) 82) [.NotEq] [.sub (.var 32) (.var 14)],.cmp (.attr (.sub (.var 33) (.var 14)) 84) [.IsNot] [.cmp (.cstr [32,9]) [.NotIn] [.sub (.var 31) (.var 14)]]]) [.ret (.list [])] [],.append 37 (.newList),.forS false [5] (.range none (.cint 5)) [.assign 40 (.comp (.tuple [.bin (.Add) (.var 44) (.cint 1),.sub (.sub (.var 36) (.var 14)) (.var 44),.sub (.sub (.var 36) (.var 5)) (.var 44)]) [(false,[44])] [.range none (.bin (.Add) (.max2 (.sub (.var 35) (.var 14)) (.sub (.var 35) (.var 5))) (.cint 1))] [[]] [14,5,36]),.tupAssign [41,42] [.comp (.var 45) [(false,[45])] [.var 40] [[.cmp (.sub (.var 45) (.cint 1)) [.NotEq] [.sub (.var 45) (.cint 2)]]] [],.comp (.var 45) [(false,[45])] [.var 40] [[.cmp (.sub (.var 45) (.cint 1)) [.GtE] [.sub (.var 45) (.cint 2)]]] []],.assign 43 (.boolop true [.cmp (.meth (.sub (.var 33) (.var 14)) 91 [.sub (.var 33) (.var 5)]) [.Is] [.cmp (.var 42) [.Eq] [.list []]],.cmp (.meth (.sub (.var 33) (.var 14)) 89 [.sub (.var 33) (.var 5)]) [.Is] [.cmp (.var 41) [.Eq] [.list []]],.cmp (.meth (.sub (.var 33) (.var 14)) 92 [.sub (.var 33) (.var 5)]) [.Eq] [.var 42]]),.ite (.boolop false [.not (.var 43),.boolop true [.cmp (.var 5) [.Eq] [.bin (.Add) (.var 14) (.cint 1)],.cmp (.meth (.sub (.var 33) (.var 14)) 90 [.sub (.var 33) (.var 5)]) [.NotEq] [.var 41]]]) [.ret (.list [])] [],.appendAt 37 (.var 14) (.ite (.cmp (.var 41) [.Eq] [.list []]) (.cint 27) (.ite (.cmp (.var 42) [.Eq] [.list []]) (.cint 20) (.ite (.cmp (.comp (.var 45) [(false,[45])] [.var 40] [[.cmp (.sub (.var 45) (.cint 1)) [.LtE] [.sub (.var 45) (.cint 2)]]] []) [.Eq] [.list []]) (.cint 21) (.cint 18))))]],.ret (.var 37)]
noncomputable def za:FnD:=⟨103,[31,32,33],A0⟩
noncomputable def Az:List PS:=[.assign 49 (.newList),.forS false [45] (.var 47) [.assign 50 (.comp (.var 51) [(false,[51])] [.var 49] [[.cmp (.comp (.var 13) [(false,[13])] [.var 51] [[.cmp (.sub (.sub (.var 37) (.var 45)) (.var 13)) [.In] [.var 48]]] [45,37,48]) [.NotEq] [.list []]]] [45,37,48]),.assign 49 (.bin (.Add) (.comp (.var 51) [(false,[51])] [.var 49] [[.cmp (.var 51) [.NotIn] [.var 50]]] [50]) (.list [.bin (.Add) (.comp (.var 13) [(false,[51]),(false,[13])] [.var 50,.var 51] [[],[]] []) (.list [.var 45])]))],.ret (.var 49)]
noncomputable def yU:FnD:=⟨104,[47,37,48],Az⟩
noncomputable def AZ:List PS:=[.ite (.cmp (.len (.var 47)) [.Eq] [.cint 1]) [.ret (.bin (.Add) (.bin (.Add) (.cstr [34]) (.sub (.var 32) (.sub (.var 47) (.cint 0)))) (.cstr [34]))] [],.tupAssign [49,30] [.comp (.list [.var 45]) [(false,[45])] [.var 47] [[]] [],.sub (.cstr [124,38]) (.var 52)],.tupAssign [54,55] [.call 104 [.var 47,.var 37,.tuple [.cint 20,.cint 21,.cint 27]],.call 104 [.var 47,.var 37,.tuple [.cint 18,.cint 27]]],.ite (.cmp (.comp (.var 45) [(false,[45])] [.var 47] [[.cmp (.sub (.sub (.var 37) (.sub (.var 47) (.cint 0))) (.var 45)) [.NotEq] [.cint 27]]] [47,37]) [.Eq] [.list []]) [.assign 30 (.cstr [61,61])] [.ite (.cmp (.len (.var 54)) [.Gt] [.cint 1]) [.assign 49 (.var 54)] [.ite (.cmp (.len (.var 55)) [.Gt] [.cint 1]) [.assign 30 (.sub (.cstr [60,62]) (.var 52)),.sortS 49 (.var 55) 51 (.len (.comp (.var 45) [(false,[45])] [.var 47] [[.cmp (.sub (.sub (.var 37) (.var 45)) (.sub (.var 51) (.cint 0))) [.Eq] [.bin (.Add) (.cint 20) (.var 52)]]] [51,37,52])) [47,37,52]] []]],.assign 17 (.meth (.var 30) 111 [.comp (.call 105 [.var 51,.var 37,.var 32,.bin (.Sub) (.cint 1) (.var 52),.cbool true]) [(false,[51])] [.var 49] [[]] [32,37,52]]),.ret (.ite (.boolop true [.var 53,.cmp (.var 30) [.NotIn] [.cstr [124,38]]]) (.bin (.Add) (.bin (.Add) (.cstr [40]) (.var 17)) (.cstr [41])) (.var 17))]
noncomputable def zZ:FnD:=⟨105,[47,37,32,52,53],AZ⟩
noncomputable def AC:List PS:=[.assign 58 (.bin (.Add) (.list [.cstr [38,97,109,112,59],.cstr [38,108,116,59],.cstr [38,103,116,59],.cstr [38,113,117,111,116,59]]) (.ite (.cmp (.var 57) [.In] [.tuple [.cint 1,.cint 4]]) (.list [.cstr [38,35,120,68,59],.cstr [38,35,120,65,59],.cstr [38,35,120,57,59]]) (.list [.cstr [38,35,49,51,59],.cstr [38,35,49,48,59],.cstr [38,35,48,57,59]]))),.assign 59 (.sub (.tuple [.cstr [34,13,10,9],.cstr [34,10,9],.cstr [],.cstr [60,13,10,9],.cstr [62]]) (.var 57)),.ret (.meth (.cstr []) 111 [.comp (.ite (.boolop false [.cmp (.var 30) [.In] [.var 59],.cmp (.var 30) [.NotIn] [.cstr [38,60,62,34,13,10,9]]]) (.var 30) (.sub (.var 58) (.meth (.cstr [38,60,62,34,13,10,9]) 113 [.var 30]))) [(false,[30])] [.var 56] [[]] [59,58]])]
noncomputable def v0:FnD:=⟨106,[56,57],AC⟩
noncomputable def AW:List PS:=[.unesc 58 30 60 [108,116,32,103,116,32,113,117,111,116,32,35,49,51,32,35,120,68,32,35,49,48,32,35,120,65,32,35,48,57,32,35,120,57,32,97,109,112] 32 [60,62,34,13,13,10,10,9,9,38],.tupAssign [61,23] [.newList,.cint 0],.whileS (.boolop true [.cmp (.var 23) [.Lt] [.len (.var 60)],.cmp (.sub (.var 60) (.var 23)) [.NotIn] [.cstr [13,10]]]) [.ite (.cmp (.sub (.var 60) (.var 23)) [.Eq] [.cstr [34]]) [.assign 62 (.bin (.Add) (.meth (.var 60) 113 [.cstr [34],.bin (.Add) (.var 23) (.cint 1)]) (.cint 1)),.append 61 (.bin (.Add) (.cint 256) (.meth (.var 32) 113 [.slice (.var 60) (some (.bin (.Add) (.var 23) (.cint 1))) (some (.bin (.Sub) (.var 62) (.cint 1))) none]))] [.assign 62 (.bin (.Add) (.var 23) (.max1 (.comp (.var 63) [(false,[63])] [.tuple [.cint 1,.cint 2,.cint 3]] [[.exIn (.slice (.var 60) (some (.var 23)) (some (.bin (.Add) (.var 23) (.var 63))) none)]] [60,23]))),.append 61 (.exGet (.slice (.var 60) (some (.var 23)) (some (.var 62)) none))],.assign 23 (.var 62)],.ret (.bin (.Add) (.var 61) (.list [.cint 0]))]
noncomputable def wX:FnD:=⟨107,[60,32],AW⟩
noncomputable def AD:List PS:=[.assign 64 (.dict [.cint 18,.cint 19,.cint 20,.cint 21,.cint 27,.cint 8,.cint 0] [.cint 2,.cint 2,.cint 1,.cint 1,.cint 1,.cint 0,.cint 0]),.assign 65 (.dict [.cint 18,.cint 19,.cint 20,.cint 21,.cint 27] [.tuple [.cint 18,.cint 18],.tuple [.cint 18,.cint 18],.tuple [.cint 20,.cint 21],.tuple [.cint 21,.cint 20],.tuple [.cint 27,.cint 27]]),.tupAssign [66,67,39] [.newList,.newList,.newDict],.forS false [68] (.var 61) [.ite (.call 94 [.var 68]) [.append 66 (.list [.bin (.Sub) (.var 68) (.cint 256)])] [],.whileS (.boolop true [.cmp (.var 68) [.In] [.var 64],.cmp (.var 67) [.NotEq] [.list []],.cmp (.sub (.var 67) (.neg (.cint 1))) [.NotEq] [.cint 7],.cmp (.sub (.var 64) (.sub (.var 67) (.neg (.cint 1)))) [.GtE] [.sub (.var 64) (.var 68)]]) [.tupAssign [30,69,70] [.pop 67,.pop 66,.pop 66],.forS true [14,5] (.comp (.tuple [.var 14,.var 5]) [(false,[14]),(false,[5])] [.var 70,.var 69] [[],[]] [69]) [.setSub2 39 (.bin (.Add) (.bin (.Mult) (.cint 5) (.var 14)) (.var 5)) (.bin (.Add) (.bin (.Mult) (.cint 5) (.var 5)) (.var 14)) (.sub (.var 65) (.var 30))],.append 66 (.bin (.Add) (.var 70) (.var 69))],.ite (.cmp (.var 68) [.Eq] [.cint 8]) [.popX 67] [.ite (.boolop true [.call 93 [.var 68],.not (.call 95 [.var 68])]) [.append 67 (.var 68)] []]],.ret (.var 39)]
noncomputable def yw:FnD:=⟨108,[61],AD⟩
noncomputable def AM:List PS:=[.unpack [31,71] (.call 101 [.var 18]),.assign 32 (.comp (.bin (.Add) (.bin (.Add) (.var 27) (.sub (.cstr [97,98,99,100,101]) (.var 23))) (.cstr [32,9])) [(true,[23,27])] [.enum (.var 31)] [[]] []),.assign 37 (.call 103 [.var 31,.var 32,.comp (.call 85 [.var 78]) [(false,[78])] [.var 32] [[]] []]),.ite (.cmp (.var 37) [.Eq] [.list []]) [.ret (.cbool false)] [],.assign 56 (.bin (.Add) (.call 105 [.list [.cint 0,.cint 1,.cint 2,.cint 3,.cint 4],.var 37,.var 32,.bin (.Mod) (.var 71) (.cint 2),.cbool false]) (.sub (.tuple [.cstr [],.cstr [10],.cstr [13,10]]) (.bin (.Mod) (.bin (.FloorDiv) (.var 71) (.cint 2)) (.cint 3)))),.assign 72 (.comp (.vcall 79 [.var 56]) [(false,[79])] [.tuple [.fn 96,.fn 99,.fn 97,.fn 98,.fn 100]] [[]] [56]),.ite (.cmp (.var 72) [.NotEq] [.comp (.call 106 [.var 56,.var 57]) [(false,[57])] [.range none (.cint 5)] [[]] [56]]) [.ret (.cbool false)] [],.assign 61 (.call 107 [.sub (.var 72) (.bin (.Mod) (.bin (.FloorDiv) (.var 71) (.cint 6)) (.cint 5)),.var 32]),.ite (.boolop false [.cmp (.meth (.var 61) 4 [.cint 18]) [.NotEq] [.meth (.var 56) 4 [.cstr [124]]],.cmp (.comp (.var 63) [(false,[63])] [.bin (.Add) (.var 61) (.list [.cint 255,.neg (.cint 1)])] [[.boolop false [.cmp (.call 93 [.var 63]) [.IsNot] [.cmp (.var 63) [.Lt] [.cint 256]],.cmp (.call 94 [.var 63]) [.IsNot] [.cmp (.var 63) [.Gt] [.cint 255]],.cmp (.call 95 [.var 63]) [.IsNot] [.cmp (.var 63) [.Eq] [.cint 0]]]]] []) [.NotEq] [.list []]]) [.ret (.cbool false)] [],.assign 73 (.comp (.tuple [.var 14,.var 5]) [(false,[14]),(false,[5])] [.range none (.cint 5),.range none (.cint 5)] [[],[.cmp (.sub (.sub (.var 37) (.var 14)) (.var 5)) [.Eq] [.cint 20]]] [37]),.assign 74 (.comp (.tuple [.var 14,.var 5,.var 80,.var 81]) [(true,[14,80]),(true,[5,81])] [.var 73,.var 73] [[],[.boolop true [.cmp (.sub (.sub (.var 37) (.var 5)) (.var 80)) [.Eq] [.cint 20],.cmp (.sub (.sub (.var 37) (.var 14)) (.var 5)) [.Eq,.Eq,.Eq] [.sub (.sub (.var 37) (.var 14)) (.var 81),.sub (.sub (.var 37) (.var 80)) (.var 81),.cint 18]]]] [73,37]),.assign 75 (.sub (.bin (.Add) (.var 74) (.list [.tuple []])) (.cint 0)),.assign 76 (.comp (.var 63) [(false,[63])] [.range none (.cint 5)] [[.boolop false [.cmp (.var 63) [.In] [.var 75],.cmp (.comp (.var 45) [(false,[45])] [.var 75] [[.cmp (.sub (.sub (.var 37) (.var 63)) (.var 45)) [.NotEq] [.sub (.sub (.var 37) (.var 63)) (.sub (.var 75) (.cint 0))]]] [75,63,37]) [.NotEq] [.list []]]]] [75,37]),.assign 77 (.dcomp (.bin (.Add) (.bin (.Mult) (.cint 5) (.var 14)) (.var 5)) (.ite (.boolop true [.cmp (.var 14) [.In] [.var 76],.cmp (.var 5) [.In] [.var 76]]) (.cint 18) (.sub (.sub (.var 37) (.var 14)) (.var 5))) [(false,[14]),(false,[5])] [.range none (.cint 5),.range none (.cint 5)] [[],[.cmp (.var 14) [.NotEq] [.var 5]]] [37,76]),.ret (.cmp (.call 108 [.var 61]) [.Eq] [.var 77])]
noncomputable def vT:FnD:=⟨109,[18],AM⟩
noncomputable def fns:List FnD:=[f86,f87,f88,f89,f90,f91,f92,f93,f94,f95,f96,f97,f98,f99,xL,xO,zn,za,yU,zZ,v0,wX,yw,vT]
end
section
open PyProof.Rows PySem PySem.Builtin PySem.Calls PySem.W
structure Gx where
 h0:Heap
 P:Addr
 mg:Str->Option Value
 mb:Str->Option Value
 C:Addr
 K:Frag
 fnv:Nat->Option Addr
 tab:(Addr->Prop)->Heap->Prop
 z:Nat
noncomputable def du(vs:List Value)(n:Nat):Obj:={cls:=.type "list",data:=.seq vs.toArray n}
structure AOk(n:Nat)(A:Around):Prop where
 hd:A.handled=none
 dp:A.depth+10*n+20<990
 un:A.units+100*n+500<9900
noncomputable def dN(V:List Addr)(h:Heap):Heap:={h with objs:=h.objs.mapIdx λi o=>if i∈V then{o with data:=.freed}else o}
noncomputable def vN(q:Str)(P:Addr)(X:Addr->Prop)(h:Heap):Prop:=
 ∃ps,h.get? P=some (tabObj ps)/\TriplesOk ps.toList/\(codeAmong ke ps.toList=none\/∃c' o vs t,codeAmong ke ps.toList=some (.ref c')/\c'≠P/\¬X c'/\h.get? c'=some o/\o.data=.fields vs/\vs[1]?=some (.str q t))
structure sr where
 params:Arguments
 body:List Stmt
 scope:Scope
noncomputable def xE:Stmt->Option sr
 |.FunctionDef n as b _ _ _ sc _ _ _=>if n==("_raise_serialization_error":Str)then none else some ⟨as,b,sc⟩
 |_=>none
noncomputable def AX:Stmt->List sr
 |.ClassDef _ _ _ b _ _ _ _ _ _ _=>b.filterMap xE
 |s=>(xE s).toList
noncomputable def k9:List sr:=PySem.Challenge.pw_ta0087_01.main.body.flatMap AX
noncomputable def uB:List Addr:=[2,75,76,81,31,38,45,52,59,66,73]
noncomputable def aR(h:Heap):Frag:=uB.filterMap λa=>(h.get? a).map λo=>(a,o)
noncomputable def cr:List (Nat×Addr):=[(86,31),(87,38),(88,45),(89,52),(90,59),(91,66),(92,73),(93,90),(94,97),(95,104),(96,118),(97,125),(98,132),(99,139),(100,146),(101,151),(102,158),(103,163),(104,168),(105,173),(106,178),(107,183),(108,188),(109,193)]
noncomputable def rH(i:Nat):Option Addr:=((85,76)::cr.tail).lookup i
noncomputable def gX:Option Value->Option Int
 |some (.int i _)=>some i
 |_=>none
noncomputable def oa:Option Value->Option Str
 |some (.str s _)=>some s
 |_=>none
noncomputable def qF(h:Heap)(c:Value)(q:Str):Bool:=match c with
 |.ref a=>(match h.get? a with
  |some o=>(match o.data with|.fields vs=>oa vs[1]?==some q|_=>false)
  |none=>false)
 |_=>false
noncomputable def fnI(h:Heap)(a:Addr):Option sr:=match h.get? a with
 |some o=>(match o.data with|.func fn=>(match fn.body with|.stmts b=>some ⟨fn.params,b,fn.scope⟩|_=>none)|_=>none)
 |none=>none
noncomputable def fnB(h:Heap)(a:Addr):Bool:=match h.get? a with
 |some o=>(match o.data with|.func fn=>fn.closure.isEmpty&&fn.globals==mainGlobals&&fn.builtins==builtinsNs&&fn.defaults==.none&&qF h fn.code fn.qualname|_=>false)
 |none=>false
noncomputable def t5(h:Heap):Bool:=(match h.get? 173 with
 |some o=>(match o.data with|.func fn=>fn.code==.ref 172&&fn.qualname==("_law_line":Str)|_=>false)
 |none=>false)&&(match h.get? 172 with
 |some o=>o.cls==.type "code"&&(match o.data with|.fields vs=>vs[11]?==some (.ref 170)&&vs.getD 11 .none==.ref 170&&(oa (some (vs.getD 18 .none))).isSome&&(gX (some (vs.getD 7 .none))).isSome&&(match vs.getD 9 .none with|.bool _=>true|_=>false)&&(gX (some (vs.getD 10 .none))).isSome|_=>false)
 |none=>false)&&(match h.get? 170 with
 |some o=>o.cls==.none&&o.dict.isNone&&o.slots.isEmpty&&(match o.data with|.fields vs=>vs.isEmpty|_=>false)
 |none=>false)&&(match h.get? 4 with
 |some o=>o.cls==.type "module"&&o.dict==some builtinsNs&&(match o.data with|.plain=>true|_=>false)
 |none=>false)&&h.nsMap mainGlobals "__builtins__"==some (.ref 4)
noncomputable def lz(s:List Nat):Option CFound->Bool
 |some (.val (.str x _))=>x.cps.toList==s
 |_=>false
noncomputable def tP(K:Frag):Bool:=hasDictIn K 76&&cj.all (λn=>plainGet K 76 n&&findIn K (.ref 76) n==some none&&takerIn K 76 n==some none)&&(cr.drop 1).all (λp=>!dJ p.1||(plainGet K 76 (nm p.1)&&findIn K (.ref 76) (nm p.1)==some (some (.ref p.2))&&isFn K (.ref p.2)))&&
 readsIn K 76 (.type "type")&&lz [32] (findCls K (.ref 76) (.type "type") "S")&&lz [9] (findCls K (.ref 76) (.type "type") "T")&&keepIn K (.ref 76)&&makesIn K 76&&findIn K (.ref 76) "__init__"==some (some (.ref 31))&&typeIn K (.ref 31)==some (.type "function")&&
 findIn K (.ref 76) "__setattr__"==some (some (.builtin "object.__setattr__"))&&plainOver K 76
noncomputable def yE:List String:=["len","max","sum","sorted"]
noncomputable def yr:List String:=["tuple","range","enumerate","zip"]
noncomputable def xl(h:Heap):Bool:=h.isNs mainGlobals&&h.isNs builtinsNs&&h.noLimitOk&&(h.get? 1).isSome&&gX (h.nsMap mainGlobals "NT_OFFSET")==some 256&&gX (h.nsMap mainGlobals "ENDMARKER")==some 0&&
 ((85,76)::cr.tail).all (λp=>dJ p.1||h.nsMap mainGlobals (nm p.1)==some (.ref p.2))&&yE.all (λx=>(h.nsMap mainGlobals (Str.ofString x)).isNone&&h.nsMap builtinsNs (Str.ofString x)==some (.builtin x))&&
 yr.all (λx=>(h.nsMap mainGlobals (Str.ofString x)).isNone&&h.nsMap builtinsNs (Str.ofString x)==some (.type x))&&h.nsMap mainGlobals "EXACT_TOKEN_TYPES"==some (.ref 81)
noncomputable def exI(h:Heap):List (Int×Option Str×Option Int):=match h.get? 81 with
 |some o=>(match o.data with|.dict es _=>es.toList.map λe=>(e.hash,oa (some e.key),gX (some e.val))|_=>[])
 |none=>[]
noncomputable def exB(h:Heap):Bool:=match h.get? 81 with
 |some o=>o.cls==.type "dict"&&o.dict.isNone&&o.slots.isEmpty
 |none=>false
noncomputable def zN(h:Heap):Bool:=xl h&&t5 h&&tP (aR h)&&cr.all (λp=>fnB h p.2)&&exB h
noncomputable abbrev Obs:Type:=Bool×List (Option sr)×List (Int×Option Str×Option Int)
noncomputable def kA(h:Heap):Obs:=(zN h,cr.map λp=>fnI h p.2,exI h)
noncomputable def lf(w:World):Obs:=(true,k9.map some,nQ.map λp=>(PyData.keyHash w.params (Str.ofString p.1),some (Str.ofString p.1),some p.2))
noncomputable def Am:Str:=("_law_line":Str)++".<locals>."++("<lambda>":Str)
noncomputable def gx(h:Heap):Gx:={h0:=dN [170] h,P:=170,mg:=h.nsMap mainGlobals,mb:=h.nsMap builtinsNs,C:=76,K:=aR h,fnv:=rH,tab:=vN Am 170,z:=1}
noncomputable abbrev No:Value->Shared->Prop:=λ_ _=>False
structure Cx where
 prog:Program
 w:World
 h:Heap
noncomputable def PC(c:Cx):Prop:=kA c.h=lf c.w->∀(s₁:Shared) (l:Addr) (vs:List Value) (ns:List Int) (n:Nat) (A:Around),(∀b o,c.h.get? b=some o->s₁.heap.get? b=some o)->1<=s₁.toks->s₁.heap.get? l=some (du vs n)->IntsAre vs ns->l≠170->
 AOk 10 A->bp fns 8 109 [.list (ns.map .int)]=some (.bool true)->wpAny (model c.prog c.w) A (call (.ref 193) [.ref l]) (λv s'=>v=.bool true/\(∃h' tk,s'={s₁ with heap:=h',toks:=tk})/\OldK s₁.heap s'.heap) No s₁
theorem zI:Nonempty Cx:=⟨default,⟨λu u=>0,{strHash:=λu=>0,shareClass:=λu=>0,mergeTok:=id,idOf:=λu=>0,idOfShared:=λu u=>0,followText:=λu=>false,idOfImm:=λu=>0}⟩,default⟩
noncomputable def cx:Cx:=@Classical.epsilon Cx zI λc=>¬PC c
theorem zb(h:PC cx)(c:Cx):PC c:=Classical.byContradiction λn=>Classical.epsilon_spec (p:=λc=>¬PC c) ⟨c,n⟩ h
noncomputable def prog:Program:=cx.prog
noncomputable def w:World:=cx.w
noncomputable def hh:Heap:=cx.h
noncomputable def G:Gx:=gx hh
end
section
open PyProof.Rows PySem PySem.Calls PySem.W
noncomputable def kh(o:Obj):Bool:=match o.data with|.cls _=>false|.cell _=>false|_=>true
noncomputable def sg(vs:List Value)(n:Nat):Obj:={cls:=.type "tuple",data:=.seq vs.toArray n}
inductive aT{α β:Type}(R:α->β->Prop):List α->List β->Prop
 |nil:aT R [] []
 |cons {a:α} {b:β} {as:List α} {bs:List β} (h:R a b) (t:aT R as bs):aT R (a::as) (b::bs)
namespace aT
variable{α β:Type}{R R':α->β->Prop}{as as':List α}{bs bs':List β}
theorem inv(h:aT R as (b::bs)):∃a as',as=a::as'/\R a b/\aT R as' bs:=by
 cases h with|cons h t=>exact⟨_,_,rfl,h,t⟩
theorem inv0(h:aT R as []):as=[]:=by cases h;rfl
theorem inv1(h:aT R as [b]):∃a,as=[a]/\R a b:=by
 refine aO h.inv λa g j h' t=>?_;clear h;subst j;obtain rfl:=t.inv0;exact⟨a,rfl,h'⟩
theorem inv2(h:aT R as [b,c]):∃a m,as=[a,m]/\R a b/\R m c:=by
 refine aO h.inv λa u j q t=>?_;clear h;subst j;refine af t.inv1 λm g h'=>?_;subst g;exact⟨a,m,rfl,q,h'⟩
theorem mono(H:∀a b,R a b->R' a b)(h:aT R as bs):aT R' as bs:=by
 induction h with
 |nil=>exact .nil
 |cons h t j=>exact .cons (H _ _ h) j
theorem len(h:aT R as bs):as.length=bs.length:=by
 induction h with
 |nil=>rfl
 |cons h t j=>exact congrArg (·+ 1) j
theorem app(h:aT R as bs)(h':aT R as' bs'):aT R (as++as') (bs++bs'):=by
 induction h with
 |nil=>exact h'
 |cons h t j=>exact .cons h j
theorem snoc(h:aT R as bs)(r:R a b):aT R (as++[a]) (bs++[b]):=h.app (.cons r .nil)
theorem get(h:aT R as bs):∀{i:Nat} {b:β},bs[i]?=some b->∃a,as[i]?=some a/\R a b:=by
 induction h with
 |nil=>intro i b e;exact no e
 |cons h t j=>
  intro i b e;cases i with
  |zero=>(replace e:=si e;subst e);exact⟨_,rfl,h⟩
  |succ i=>exact j (i:=i) e
theorem getV(h:aT R as bs):∀{i:Nat} {a:α},as[i]?=some a->∃b,bs[i]?=some b/\R a b:=by
 induction h with
 |nil=>intro i b e;exact no e
 |cons h t j=>
  intro i b e;cases i with
  |zero=>(replace e:=si e;subst e);exact⟨_,rfl,h⟩
  |succ i=>exact j (i:=i) e
theorem idx(h:aT R as bs):∀(i:Nat) (a:α) (b:β),as[i]?=some a->bs[i]?=some b->R a b:=λi a b j g=>by
 refine af (h.get g) λc e r=>?_;rw[j]at e;(replace e:=si e;subst e);exact r
theorem of:∀{as:List α} {j:List β},as.length=j.length->(∀(i:Nat) (a:α) (b:β),as[i]?=some a->j[i]?=some b->R a b)->aT R as j:=by
 intro as;induction as with
 |nil=>intro j hl _;obtain rfl:=List.length_eq_zero_iff.mp hl.symm;exact .nil
 |cons a as g=>
  intro j hl h;cases j with
  |nil=>injection hl
  |cons b j=>exact .cons (h 0 a b rfl rfl) (g (Nat.succ.inj hl) λi=>h (i+1))
theorem take(h:aT R as bs)(n:Nat):aT R (as.take n) (bs.take n):=by
 induction h generalizing n with
 |nil=>rw[List.take_nil,List.take_nil];exact .nil
 |cons h t j=>
  cases n with
  |zero=>exact .nil
  |succ n=>exact .cons h (j n)
theorem reverse(h:aT R as bs):aT R as.reverse bs.reverse:=by
 induction h with
 |nil=>exact .nil
 |cons h t j=>rw[List.reverse_cons,List.reverse_cons];exact j.snoc h
theorem flatten_rep(h:aT R as bs)(n:Nat):aT R (repL n as) (repL n bs):=by
 induction n with
 |zero=>exact .nil
 |succ n j=>exact h.app j
theorem setAt(r:R a b)(h:aT R as bs)(n:Nat):aT R (as.set n a) (bs.set n b):=by
 induction h generalizing n with
 |nil=>exact .nil
 |cons h t j=>
  cases n with
  |zero=>exact .cons r t
  |succ n=>exact .cons h (j n)
end aT
inductive Rep(h:Heap)(X:Addr->Prop)(κ:List Addr):Value->PV->Prop
 |none:Rep h X κ .none .none
 |bool (b:Bool):Rep h X κ (.bool b) (.bool b)
 |int (i:Int) (t:Tok):Rep h X κ (.int i t) (.int i)
 |str (l:List Nat) (t:Tok):Rep h X κ (.str ⟨l.toArray⟩ t) (.str l)
 |tupleC {a:Addr} {vs:List Value} {n:Nat} {ds:List PV} (ha:h.get? a=some (sg vs n)) (hx:¬X a) (hl:vs.length=ds.length) (r:∀(i:Nat) v d,vs[i]?=some v->ds[i]?=some d->Rep h X κ v d):Rep h X κ (.ref a) (.tuple ds)
 |listC {a:Addr} {vs:List Value} {n:Nat} {ds:List PV} (ha:h.get? a=some (du vs n)) (hx:¬X a) (hl:vs.length=ds.length) (r:∀(i:Nat) v d,vs[i]?=some v->ds[i]?=some d->Rep h X κ v d):Rep h X κ (.ref a) (.list ds)
 |dictC {a:Addr} {o:Obj} {kvs:List (Int×Value)} {ds:List (Int×PV)} (ha:h.get? a=some o) (ho:o.IsDictOf (intKind prog w) kvs) (hs:(a==sysModules)=false) (hx:¬X a) (hl:kvs.length=ds.length) (hk:∀(i:Nat) p q,kvs[i]?=some p->ds[i]?=some q->p.1=q.1) (r:∀(i:Nat) p q,kvs[i]?=some p->ds[i]?=some q->Rep h X κ p.2 q.2):Rep h X κ (.ref a) (.dict ds)
 |objC {x dx:Addr} {ox:Obj} {es:List DictEntry} {n:Nat} {fs:List (Nat×PV)} (hd:ox.dict=some dx) (ha:h.get? x=some ox) (hc:ox.cls=.ref G.C) (hn:kh ox=true) (hdx:h.get? dx=some (dictOf es n)) (hx:¬X x) (hx':¬X dx) (hl:es.length=fs.length) (hk:∀(i:Nat) e f,es[i]?=some e->fs[i]?=some f->∃t,e.key=.str (nm f.1) t) (r:∀(i:Nat) e f,es[i]?=some e->fs[i]?=some f->Rep h X κ e.val f.2):Rep h X κ (.ref x) (.obj fs)
 |fn {f:Nat} {a:Addr} (hf:G.fnv f=some a):Rep h X κ (.ref a) (.fn f)
 |cell {n:Nat} {a:Addr} (hk:κ[n]?=some a):Rep h X κ (.ref a) (.cell n)
noncomputable abbrev aY(h:Heap)(X:Addr->Prop)(κ:List Addr):List Value->List PV->Prop:=aT (Rep h X κ)
noncomputable abbrev gy(h:Heap)(X:Addr->Prop)(κ:List Addr):List (Int×Value)->List (Int×PV)->Prop:=aT λp q=>p.1=q.1/\Rep h X κ p.2 q.2
noncomputable abbrev oF(h:Heap)(X:Addr->Prop)(κ:List Addr):List DictEntry->List (Nat×PV)->Prop:=aT λe f=>(∃t,e.key=.str (nm f.1) t)/\Rep h X κ e.val f.2
inductive zu(Y:Addr->Prop)(h:Heap)(X:Addr->Prop)(κ:List Addr)(v:Value)(ds:List PV):Prop
 |mk (a:Addr) (vs:List Value) (n:Nat) (e:v=.ref a) (ha:h.get? a=some (sg vs n)) (hy:¬Y a) (r:aY h X κ vs ds):zu Y h X κ v ds
inductive zF(Y:Addr->Prop)(h:Heap)(X:Addr->Prop)(κ:List Addr)(v:Value)(ds:List PV):Prop
 |mk (a:Addr) (vs:List Value) (n:Nat) (e:v=.ref a) (ha:h.get? a=some (du vs n)) (hy:¬Y a) (r:aY h X κ vs ds):zF Y h X κ v ds
inductive zj(Y:Addr->Prop)(h:Heap)(X:Addr->Prop)(κ:List Addr)(v:Value)(ds:List (Int×PV)):Prop
 |mk (a:Addr) (o:Obj) (kvs:List (Int×Value)) (e:v=.ref a) (ha:h.get? a=some o) (ho:o.IsDictOf (intKind prog w) kvs) (hs:(a==sysModules)=false) (hy:¬Y a) (r:gy h X κ kvs ds):zj Y h X κ v ds
inductive zC(Y:Addr->Prop)(h:Heap)(X:Addr->Prop)(κ:List Addr)(v:Value)(fs:List (Nat×PV)):Prop
 |mk (x dx:Addr) (ox:Obj) (es:List DictEntry) (n:Nat) (e:v=.ref x) (hd:ox.dict=some dx) (ha:h.get? x=some ox) (hc:ox.cls=.ref G.C) (hn:kh ox=true) (hdx:h.get? dx=some (dictOf es n)) (hy:¬Y x) (hy':¬Y dx) (r:oF h X κ es fs):zC Y h X κ v fs
noncomputable def Top(Y:Addr->Prop)(h:Heap)(X:Addr->Prop)(κ:List Addr)(v:Value):PV->Prop
 |.none=>v=.none
 |.bool b=>v=.bool b
 |.int i=>∃t,v=.int i t
 |.str l=>∃t,v=.str ⟨l.toArray⟩ t
 |.tuple ds=>zu Y h X κ v ds
 |.list ds=>zF Y h X κ v ds
 |.dict ds=>zj Y h X κ v ds
 |.obj fs=>zC Y h X κ v fs
 |.fn f=>∃a,v=.ref a/\G.fnv f=some a
 |.cell n=>∃a,v=.ref a/\κ[n]?=some a
section
variable{h h':Heap}{X X':Addr->Prop}{κ κ':List Addr}{v:Value}{d:PV}
theorem Rep.inv(r:Rep h X κ v d):Top X h X κ v d:=by
 cases r with
 |none=>exact rfl
 |bool b=>exact rfl
 |int i t=>exact⟨t,rfl⟩
 |str l t=>exact⟨t,rfl⟩
 |tupleC g j hl r=>exact⟨_,_,_,rfl,g,j,.of hl r⟩
 |listC g j hl r=>exact⟨_,_,_,rfl,g,j,.of hl r⟩
 |dictC g ho k j hl m r=>exact⟨_,_,_,rfl,g,ho,k,j,.of hl λi a b u y=>⟨m i a b u y,r i a b u y⟩⟩
 |objC hd g hc c q j z hl m r=>exact⟨_,_,_,_,_,rfl,hd,g,hc,c,q,j,z,.of hl λi a b u y=>⟨m i a b u y,r i a b u y⟩⟩
 |fn e=>exact⟨_,rfl,e⟩
 |cell m=>exact⟨_,rfl,m⟩
theorem Rep.tuple(g:h.get? a=some (sg vs n))(j:¬X a)(r:aY h X κ vs ds):Rep h X κ (.ref a) (.tuple ds):=.tupleC g j r.len r.idx
theorem Rep.list(g:h.get? a=some (du vs n))(j:¬X a)(r:aY h X κ vs ds):Rep h X κ (.ref a) (.list ds):=.listC g j r.len r.idx
theorem Rep.dict(y:h.get? a=some o)(ho:o.IsDictOf (intKind prog w) kvs)(m:(a==sysModules)=false)(u:¬X a)(r:gy h X κ kvs ds):Rep h X κ (.ref a) (.dict ds):=
 .dictC y ho m u r.len (λi a b j g=>(r.idx i a b j g).1) λi a b j g=>(r.idx i a b j g).2
theorem Rep.obj{j:Obj}(hd:j.dict=some dx)(t:h.get? x=some j)(hc:j.cls=.ref G.C)(z:kh j=true)(m:h.get? dx=some (dictOf es n))(q:¬X x)(g:¬X dx)(r:oF h X κ es fs):Rep h X κ (.ref x) (.obj fs):=
 .objC hd t hc z m q g r.len (λi a b u y=>(r.idx i a b u y).1) λi a b u y=>(r.idx i a b u y).2
theorem Rep.move(H:∀b o,¬X b->h.get? b=some o->h'.get? b=some o/\¬X' b)(hκ:∀(n:Nat) (a:Addr),κ[n]?=some a->κ'[n]?=some a)(r:Rep h X κ v d):Rep h' X' κ' v d:=by
 induction r with
 |none=>exact .none
 |bool b=>exact .bool b
 |int i t=>exact .int i t
 |str l t=>exact .str l t
 |tupleC g j hl r m=>exact .tupleC (H _ _ j g).1 (H _ _ j g).2 hl m
 |listC g j hl r m=>exact .listC (H _ _ j g).1 (H _ _ j g).2 hl m
 |dictC g ho c j hl z r m=>exact .dictC (H _ _ j g).1 ho c (H _ _ j g).2 hl z m
 |objC hd g hc e y j u hl z r m=>exact .objC hd (H _ _ j g).1 hc e (H _ _ u y).1 (H _ _ j g).2 (H _ _ u y).2 hl z m
 |fn q=>exact .fn q
 |cell z=>exact .cell (hκ _ _ z)
theorem aT.repMove(H:∀b o,¬X b->h.get? b=some o->h'.get? b=some o/\¬X' b)(hκ:∀(n:Nat) (a:Addr),κ[n]?=some a->κ'[n]?=some a)(r:aY h X κ vs ds):aY h' X' κ' vs ds:=r.mono λu u=>Rep.move H hκ
theorem aT.repMoveD(H:∀b o,¬X b->h.get? b=some o->h'.get? b=some o/\¬X' b)(hκ:∀(n:Nat) (a:Addr),κ[n]?=some a->κ'[n]?=some a)(r:gy h X κ vs ds):gy h' X' κ' vs ds:=r.mono λu u e=>⟨e.1,Rep.move H hκ e.2⟩
theorem aT.repMoveF(H:∀b o,¬X b->h.get? b=some o->h'.get? b=some o/\¬X' b)(hκ:∀(n:Nat) (a:Addr),κ[n]?=some a->κ'[n]?=some a)(r:oF h X κ vs ds):oF h' X' κ' vs ds:=r.mono λu u e=>⟨e.1,Rep.move H hκ e.2⟩
theorem Rep.keeps(H:∀b o,¬X b->h.get? b=some o->h'.get? b=some o)(r:Rep h X κ v d):Rep h' X κ v d:=r.move (λb o j e=>⟨H b o j e,j⟩) λu u e=>e
theorem aT.keeps(H:∀b o,¬X b->h.get? b=some o->h'.get? b=some o)(r:aY h X κ vs ds):aY h' X κ vs ds:=r.mono λu u=>Rep.keeps H
theorem aT.keepsD(H:∀b o,¬X b->h.get? b=some o->h'.get? b=some o)(r:gy h X κ vs ds):gy h' X κ vs ds:=r.mono λu u e=>⟨e.1,Rep.keeps H e.2⟩
theorem aT.keepsF(H:∀b o,¬X b->h.get? b=some o->h'.get? b=some o)(r:oF h X κ vs ds):oF h' X κ vs ds:=r.mono λu u e=>⟨e.1,Rep.keeps H e.2⟩
theorem Rep.handed(r:Rep h X κ v d):handedIn v=true:=by cases r<;>rfl
end
structure St(X:Addr->Prop)(h:Heap):Prop where
 base:∀b o,G.h0.get? b=some o->h.get? b=some o
 low:∀b o,G.h0.get? b=some o->¬X b
 ex:∀a,X a->∃o,h.get? a=some o
 xp:X G.P
 tab:G.tab X h
noncomputable def Gr(X:Addr->Prop)(s s':Shared):Prop:=∃h' tk,s'={s with heap:=h',toks:=tk}/\(∀b o,b≠G.P->s.heap.get? b=some o->h'.get? b=some o)/\G.tab X h'
class GxOk:Prop where
 tabMove:∀(h h':Heap) (X X':Addr->Prop),(∀b o,b≠G.P->¬X b->h.get? b=some o->h'.get? b=some o/\¬X' b)->(∀o,h.get? G.P=some o->h'.get? G.P=some o)->G.tab X h->G.tab X' h'
 sysm:∃o,G.h0.get? sysModules=some o
 tabEx:∀h X,G.tab X h->∃o,h.get? G.P=some o/\o.cls=.none
theorem St.gr{s s':Shared}[GxOk](S:St X s.heap)(g:Gr X s s'):St X s'.heap:=by
 refine aO g λh' tk j u m=>?_;clear g;subst j;have y:∀b o,G.h0.get? b=some o->b≠G.P:=λb o e z=>S.low b o e (z▸S.xp);refine⟨λb o e=>u b o (y b o e) (S.base b o e),S.low,λa q=>?_,S.xp,m⟩;by_cases e:a=G.P
 ·subst e;refine af (GxOk.tabEx _ _ m) λo e r=>?_;exact⟨o,e⟩
 ·refine ah (S.ex a q) λo ho=>?_;exact⟨o,u a o e ho⟩
theorem Gr.refl{s:Shared}(h:G.tab X s.heap):Gr X s s:=⟨s.heap,s.toks,rfl,λu u u e=>e,h⟩
theorem Gr.trans(a:Gr X s s')(b:Gr X s' s''):Gr X s s'':=by
 refine aO a λh' tk j t r=>?_;clear a r;subst j;refine aO b λm z g u y=>?_;subst g;exact⟨m,z,rfl,λb o q e=>u b o q (t b o q e),y⟩
theorem Gr.rep(g:Gr X s s')(q:X G.P)(r:Rep s.heap X κ v d):Rep s'.heap X κ v d:=by
 refine aO g λh' tk j y m=>?_;clear g m;subst j;exact r.keeps λb o z e=>y b o (λu=>z (u▸q)) e
theorem Gr.repL(g:Gr X s s')(q:X G.P)(r:aY s.heap X κ v d):aY s'.heap X κ v d:=by
 refine aO g λh' tk j y m=>?_;clear g m;subst j;exact r.keeps λb o z e=>y b o (λu=>z (u▸q)) e
theorem Gr.tok{s:Shared}(h:G.tab X s.heap)(tk:Nat):Gr X s {s with toks:=tk}:=⟨s.heap,tk,rfl,λu u u e=>e,h⟩
theorem Gr.push{s:Shared}[GxOk](h:G.tab X s.heap)(o:Obj)(tk:Nat):Gr X s {s with heap:=s.heap.push o,toks:=tk}:=
 ⟨_,tk,rfl,λu u u e=>Hp _ e,GxOk.tabMove _ _ X X (λu u u j e=>⟨Hp _ e,j⟩) (λu e=>Hp _ e) h⟩
theorem Gr.kept{s:Shared}[GxOk]{h':Heap}{tk:Nat}(h:G.tab X s.heap)(j:∀b o,s.heap.get? b=some o->h'.get? b=some o):Gr X s {s with heap:=h',toks:=tk}:=
 ⟨_,tk,rfl,λb o u e=>j b o e,GxOk.tabMove _ _ X X (λu u u g e=>⟨j _ _ e,g⟩) (λu e=>j _ _ e) h⟩
theorem St.fresh(S:St X h):¬X h.objs.size:=λj=>by
 refine ah (S.ex _ j) λo e=>?_;exact absurd (Heap.lt_size e) (Nat.lt_irrefl _)
theorem Rep.newList{s:Shared}(S:St X s.heap)(r:aY s.heap X κ vs ds)(tk:Nat):
 Rep ({s with heap:=s.heap.push (du vs 0),toks:=tk}:Shared).heap X κ (.ref s.heap.objs.size) (.list ds):=
 .list (n:=0) (Heap.get?_push_size _ rfl) S.fresh (r.keeps λu u u e=>Hp _ e)
theorem Rep.newTuple{s:Shared}(S:St X s.heap)(r:aY s.heap X κ vs ds)(tk:Nat):
 Rep ({s with heap:=s.heap.push (sg vs 0),toks:=tk}:Shared).heap X κ (.ref s.heap.objs.size) (.tuple ds):=
 .tuple (n:=0) (Heap.get?_push_size _ rfl) S.fresh (r.keeps λu u u e=>Hp _ e)
structure pI(h:Heap)(X:Addr->Prop)(κ:List Addr)(env:Env)(ρ:ar):Prop where
 kind:env.scope.kind=.function
 glob:env.globals=mainGlobals
 bui:env.builtins=builtinsNs
 loc:env.locals≠G.P
 cl:∀n,(env.kindOf n=some .cell\/env.kindOf n=some .free)->∃c,env.cells.lookup n=some c/\c≠G.P/\∃v,h.IsCell c v
 vars:∃m,h.Ns env.locals m/\∀x d,ρ.lookup x=some d->x<nms.length/\∃v,Rep h X κ v d/\
  ((env.kindOf (nm x)=some .local/\m (nm x)=some v)\/
   ((env.kindOf (nm x)=some .cell\/env.kindOf (nm x)=some .free)/\∃c,c≠G.P/\env.cells.lookup (nm x)=some c/\h.IsCell c (some v)))
theorem pI.gr{s s':Shared}(x:pI s.heap X κ env ρ)(L:X G.P)(g:Gr X s s'):pI s'.heap X κ env ρ:=by
 obtain⟨a,b,c,l,K,m,J,k⟩:=x;have t:=g;refine aO t λh' tk j y p=>?_;clear t p;subst j;refine⟨a,b,c,l,λn z=>let⟨c,h1,h2,v,o,f,i⟩:=K n z;⟨c,h1,h2,v,o,y c o h2 f,i⟩,m,J.at' λo e=>y _ o l e,λx d e=>?_⟩;obtain⟨u,v,r,hc⟩:=k x d e;refine⟨u,v,g.rep L r,hc.imp id λ⟨q,c,hc,hl,o,ho,hd⟩=>⟨q,c,hc,hl,o,y c o hc ho,hd⟩⟩
noncomputable abbrev Shw(h:Heap)(X:Addr->Prop)(κ:List Addr):Value->PV->Prop:=Top (λ_=>False) h X κ
section
variable{h:Heap}{X:Addr->Prop}{κ:List Addr}
theorem Shw.list(j:h.get? a=some (du vs n))(r:aY h X κ vs ds):Shw h X κ (.ref a) (.list ds):=⟨_,_,_,rfl,j,id,r⟩
theorem Shw.dict(j:h.get? a=some o)(ho:o.IsDictOf (intKind prog w) kvs)(g:(a==sysModules)=false)(r:gy h X κ kvs ds):Shw h X κ (.ref a) (.dict ds):=⟨_,_,_,rfl,j,ho,g,id,r⟩
theorem Shw.obj{j:Obj}(hd:j.dict=some dx)(u:h.get? x=some j)(hc:j.cls=.ref G.C)(m:kh j=true)(g:h.get? dx=some (dictOf es n))(r:oF h X κ es fs):Shw h X κ (.ref x) (.obj fs):=⟨_,_,_,_,_,rfl,hd,u,hc,m,g,id,id,r⟩
theorem Top.shw(t:Top Y h X κ v d):Shw h X κ v d:=by
 cases d with
 |tuple l=>obtain⟨_,_,_,e,j,_,r⟩:=t;exact⟨_,_,_,e,j,id,r⟩
 |list l=>obtain⟨_,_,_,e,j,_,r⟩:=t;exact⟨_,_,_,e,j,id,r⟩
 |dict l=>obtain⟨_,_,_,e,j,ho,u,_,r⟩:=t;exact⟨_,_,_,e,j,ho,u,id,r⟩
 |obj l=>obtain⟨_,_,_,_,_,e,h1,h2,g,y,m,_,_,r⟩:=t;exact⟨_,_,_,_,_,e,h1,h2,g,y,m,id,id,r⟩
 |_=>exact t
end
structure dL(h:Heap)(X:Addr->Prop)(κ:List Addr)(σ:List Sto):Prop where
 len:κ.length=σ.length
 at_:∀(n:Nat) (x:Sto) (a:Addr),σ[n]?=some x->κ[n]?=some a->Shw h X κ (.ref a) (dI x)
theorem kU(e:res σ (.cell n)=some d'):∃x,σ[n]?=some x/\d'=dI x:=by
 refine omk e λx e j=>?_;exact⟨x,j,e.symm⟩
theorem mP(e:res σ d=some d')(h:∀n,d≠.cell n):d'=d:=by
 cases d<;>first|exact(Option.some.inj e).symm|exact absurd rfl (h _)
theorem aC(S:dL h X κ σ)(r:Rep h X κ v d)(e:res σ d=some d'):Shw h X κ v d':=by
 by_cases hc:∃n,d=.cell n
 ·refine ah hc λn g=>?_;subst g;refine hid λy u=>?_;refine af (kU e) λx z j=>?_;subst j;refine af r.inv λa m q=>?_;subst m;refine u ?_;clear u y;exact S.at_ n x a z q
 ·rw[mP e λn h=>hc ⟨n,h⟩];exact r.inv.shw
theorem ci[GxOk](j:G.tab X h)(m:h.get? a=some o)(hc:o.cls≠.none):a≠G.P:=by
 rintro rfl
 refine af (GxOk.tabEx _ _ j) λu e g=>?_;rw[m]at e;(replace e:=si e;subst e);exact hc g
theorem Shw.moveG{h h':Heap}(H:∀b o,¬X b->h.get? b=some o->h'.get? b=some o/\¬X' b)(hκ:∀(n:Nat) (a:Addr),κ[n]?=some a->κ'[n]?=some a)
 (M:∀b,v=.ref b->∀o,h.get? b=some o->o.cls≠.none->h'.get? b=some o/\∀dx,o.dict=some dx->∀o2,h.get? dx=some o2->o2.cls≠.none->h'.get? dx=some o2) (r:Shw h X κ v d):Shw h' X' κ' v d:=by
 cases d with
 |tuple l=>obtain⟨_,_,_,rfl,j,m,r⟩:=r;exact⟨_,_,_,rfl,(M _ rfl _ j nofun).1,id,r.repMove H hκ⟩
 |list l=>obtain⟨_,_,_,rfl,j,m,r⟩:=r;exact⟨_,_,_,rfl,(M _ rfl _ j nofun).1,id,r.repMove H hκ⟩
 |dict l=>obtain⟨_,_,_,rfl,j,ho,t,m,r⟩:=r;exact⟨_,_,_,rfl,(M _ rfl _ j (by refine cb ho λk i x u=>?_;rw[x.1];nofun)).1,ho,t,id,r.repMoveD H hκ⟩
 |obj l=>obtain⟨_,_,_,_,_,rfl,hd,j,hc,z,g,f,y,r⟩:=r;have q:=M _ rfl _ j (by rw[hc];nofun);exact⟨_,_,_,_,_,rfl,hd,q.1,hc,z,q.2 _ hd _ g nofun,id,id,r.repMoveF H hκ⟩
 |cell n=>refine af r λa e c=>?_;exact⟨a,e,hκ _ _ c⟩
 |_=>exact r
theorem Shw.gr[GxOk]{s s':Shared}(q:G.tab X s.heap)(i:X G.P)(g:Gr X s s')(r:Shw s.heap X κ v d):Shw s'.heap X κ v d:=by
 refine aO g λh' tk j y z=>?_;clear g z;subst j;exact r.moveG (λb o t e=>⟨y b o (λc=>t (c▸i)) e,t⟩) (λu u e=>e) λb u o e hc=>⟨y _ _ (ci q e hc) e,λdx u k l m=>y _ _ (ci q l m) l⟩
theorem dL.gr[GxOk]{s s':Shared}(m:G.tab X s.heap)(j:X G.P)(g:Gr X s s')(S:dL s.heap X κ σ):dL s'.heap X κ σ:=
 ⟨S.len,λn x a h1 h2=>(S.at_ n x a h1 h2).gr m j g⟩
mutual
noncomputable def eY:PV->PyData
 |.int i=>.int i
 |.str l=>.str ⟨l.toArray⟩
 |.tuple l=>.tuple (cW l)
 |.list l=>.list (cW l)
 |_=>.none
noncomputable def cW:List PV->List PyData
 |[]=>[]
 |d::r=>eY d::cW r
end
theorem bK{l:List α}(h:l.all p=true):∀x∈l,p x=true:=List.all_eq_true.mp h
theorem bb(h:ai n d=true):(∃i,d=.int i)\/(∃l,d=.str l/\(l.all λc=>decide (c<1114112))=true)\/∃m l,n=m+1/\l.all (ai m)=true/\(d=.tuple l\/d=.list l):=by
 have j:flat d=true->(∃i,d=.int i)\/∃l,d=.str l/\(l.all λc=>decide (c<1114112))=true:=λh=>by
  cases d with
  |int i=>exact .inl ⟨i,rfl⟩
  |str l=>exact .inr ⟨l,rfl,h⟩
  |_=>exact nf h
 cases n with
 |zero=>exact(j h).imp id .inl
 |succ n=>
  cases d with
  |tuple l=>exact .inr (.inr ⟨n,l,rfl,h,.inl rfl⟩)
  |list l=>exact .inr (.inr ⟨n,l,rfl,h,.inr rfl⟩)
  |_=>exact(j h).imp id .inl
theorem lK:∀(n:Nat) (Y:Addr->Prop) (v:Value) (d:PV),Top Y h X κ v d->ai n d=true->∃as,Reads h v (eY d) as:=by
 intro n;induction n with
 |zero=>
  intro Y v d r j;rcases bb j with⟨i,rfl⟩|⟨l,rfl,_⟩|⟨m,l,e,_⟩
  ·obtain⟨t,rfl⟩:=r;exact⟨_,Reads.int i t⟩
  ·obtain⟨t,rfl⟩:=r;exact⟨_,Reads.str _ t⟩
  ·injection e
 |succ n z=>
  intro Y v d r j;have g:∀{vs:List Value} {ds:List PV},aY h X κ vs ds->(∀d∈ds,ai n d=true)->∃as,ReadsAll h vs (cW ds) as:=by
   intro vs ds r;induction r with
   |nil=>intro _;exact⟨_,ReadsAll.nil⟩
   |cons a b y=>
    intro j;obtain⟨as,q⟩:=z X _ _ a.inv (j _ (.head _));obtain⟨k,p⟩:=y λd c=>j d (.tail _ c);exact⟨_,ReadsAll.cons q p⟩
  rcases bb j with⟨i,rfl⟩|⟨l,rfl,_⟩|⟨m,l,e,hl,rfl|rfl⟩
  ·obtain⟨t,rfl⟩:=r;exact⟨_,Reads.int i t⟩
  ·obtain⟨t,rfl⟩:=r;exact⟨_,Reads.str _ t⟩
  ·cases e;obtain⟨a,vs,n,rfl,u,_,r⟩:=r;obtain⟨as,q⟩:=g r (bK hl);exact⟨as,Reads.tuple u rfl rfl (by rw[List.toList_toArray];exact q)⟩
  ·cases e;obtain⟨a,vs,n,rfl,u,_,r⟩:=r;obtain⟨as,q⟩:=g r (bK hl);exact⟨_,Reads.list u rfl rfl (by rw[List.toList_toArray];exact q)⟩
theorem lU(n:Nat)(r:Rep h X κ v d)(j:ai n d=true):∃as,Reads h v (eY d) as:=lK n X v d r.inv j
theorem ed(n:Nat)(s:Shw h X κ v d)(j:ai n d=true):∃as,Reads h v (eY d) as:=lK n _ v d s j
theorem ig:∀(n:Nat) (d:PV),ai n d=true->(eY d).canLay0=true/\(eY d).depth<=n:=by
 intro n;induction n with
 |zero=>
  intro d h;rcases bb h with⟨i,rfl⟩|⟨l,rfl,hc⟩|⟨m,l,e,_⟩
  ·exact⟨rfl,Nr _⟩
  ·exact⟨by rw[eY];simpa [PyData.canLay0,PyData.strOk]using hc,Nr _⟩
  ·injection e
 |succ n u=>
  intro d h;have j:∀ds:List PV,(∀d∈ds,ai n d=true)->PyData.canLayAll0 (cW ds)=true/\PyData.depthAll (cW ds)<=n:=by
   intro ds;induction ds with
   |nil=>intro _;exact⟨rfl,Nat.zero_le _⟩
   |cons d ds v=>
    intro h;have h1:=u d (h d (.head _));have h2:=v λe g=>h e (.tail _ g);exact⟨by simp only[cW,PyData.canLayAll0,h1.1,h2.1,Bool.and_self],Nat.max_le.mpr ⟨h1.2,h2.2⟩⟩
  rcases bb h with⟨i,rfl⟩|⟨l,rfl,hc⟩|⟨m,l,e,hl,rfl|rfl⟩
  ·exact⟨rfl,Nat.zero_le _⟩
  ·exact⟨by rw[eY];simpa [PyData.canLay0,PyData.strOk]using hc,Nat.zero_le _⟩
  ·cases e;have q:=j l (bK hl);exact⟨q.1,Nat.succ_le_succ q.2⟩
  ·cases e;have q:=j l (bK hl);exact⟨q.1,Nat.succ_le_succ q.2⟩
theorem jB(a b:List Nat):((⟨a.toArray⟩:Str)==⟨b.toArray⟩)=decide (a=b):=by
 by_cases e:a=b
 ·subst e;simp
 ·rw[decide_eq_false e];refine Bool.eq_false_iff.mpr λh=>e ?_;have:=eq_of_beq h;simpa using this
theorem iu:∀(n:Nat) (d e:PV) (k:Nat),ai n d=true->ai k e=true->PyData.eqv (eY d) (eY e)=eqB d e:=by
 intro n;induction n with
 |zero=>
  intro d e k h1 h2;rcases bb h1 with⟨i,rfl⟩|⟨l,rfl,_⟩|⟨m,l,q,_⟩
  ·rcases bb h2 with⟨j,rfl⟩|⟨l,rfl,_⟩|⟨m,l,q,hl,rfl|rfl⟩<;>first|rfl|(exact int_beq ..)
  ·rcases bb h2 with⟨j,rfl⟩|⟨l,rfl,_⟩|⟨m,l,q,hl,rfl|rfl⟩<;>first|rfl|(exact jB ..)
  ·injection q
 |succ n c=>
  intro d e k h1 h2;have v:∀(k:Nat) (ds g:List PV),(∀d∈ds,ai n d=true)->(∀d∈g,ai k d=true)->PyData.eqvAll (cW ds) (cW g)=jF ds g:=by
   intro k ds;induction ds with
   |nil=>intro g _ _;cases g<;>rfl
   |cons d ds r=>
    intro g h1 h2;cases g with
    |nil=>rfl
    |cons e g=>
     have b:=c d e k (h1 d (.head _)) (h2 e (.head _));have f:=r g (λx y=>h1 x (.tail _ y)) λx y=>h2 x (.tail _ y);show(PyData.eqv (eY d) (eY e)&&PyData.eqvAll (cW ds) (cW g))=(eqB d e&&jF ds g);rw[b,f]
  rcases bb h1 with⟨i,rfl⟩|⟨l,rfl,_⟩|⟨m,l,q,hl,hd⟩
  ·rcases bb h2 with⟨j,rfl⟩|⟨l,rfl,_⟩|⟨m,l,q,hl,rfl|rfl⟩<;>first|rfl|(exact int_beq ..)
  ·rcases bb h2 with⟨j,rfl⟩|⟨l,rfl,_⟩|⟨m,l,q,hl,rfl|rfl⟩<;>first|rfl|(exact jB ..)
  ·cases q;rcases bb h2 with⟨j,rfl⟩|⟨z,rfl,_⟩|⟨m,z,q,u,t⟩
   ·rcases hd with rfl|rfl<;>rfl
   ·rcases hd with rfl|rfl<;>rfl
   ·have q:=v m l z (bK hl) (bK u);rcases hd with rfl|rfl<;>rcases t with rfl|rfl<;>first|rfl|(exact q)
theorem AOk.cl(a:AOk n A):A.units+400<cLine:=by
 have:=a.un;exact Nm (Na (Nat.le_add_right _ _) (by decide)) this
section
variable{A:Around}{s:Shared}{X:Addr->Prop}{κ:List Addr}{n:Nat}
theorem jY(p:List Nat):∀x:List Nat,cw p x=true↔∃i,i+p.length<=x.length/\(x.drop i).take p.length=p
 |[]=>by
  delta cw;simp only[Bool.or_false,List.isPrefixOf_iff_prefix,List.prefix_nil,List.length_nil,List.drop_nil,List.take_nil];constructor
  ·rintro rfl;exact⟨0,by simp,rfl⟩
  ·rintro⟨i,_,h⟩;exact h.symm
 |c::r=>by
  have j:=jY p r;unfold cw;simp only[Bool.or_eq_true,List.isPrefixOf_iff_prefix];rw[j];constructor
  ·rintro(h|⟨i,h1,h2⟩)
   ·exact⟨0,by simpa using h.length_le,by simpa using List.prefix_iff_eq_take.mp h |>.symm⟩
   ·exact⟨i+1,by simp only[List.length_cons];exact Nt (Ne0 (Nat.add_right_comm _ _ _)) (Nat.succ_le_succ h1),by simpa using h2⟩
  ·rintro⟨i,h1,h2⟩
   cases i with
   |zero=>left;rw[List.prefix_iff_eq_take];simpa using h2.symm
   |succ i=>right;exact⟨i,by simp only[List.length_cons]at h1;lia,by simpa using h2⟩
theorem qf(x p:List Nat):(!(Builtin.Str.occurrences ⟨x.toArray⟩ ⟨p.toArray⟩ 0 (⟨x.toArray⟩:Str).length 1).isEmpty)=cw p x:=by
 rw[Bool.eq_iff_iff,StrLaws.found_iff,jY];refine exists_congr λi=>?_;rw[StrLaws.subAt_eq];simp[Str.length]
theorem fz(r:gy h X κ kvs ds)(k:Int):(valueAt kvs k=none/\ds.lookup k=none)\/∃v d,valueAt kvs k=some v/\ds.lookup k=some d/\Rep h X κ v d:=by
 induction r with
 |nil=>exact .inl ⟨rfl,rfl⟩
 |@cons p q as bs h t ih=>
  obtain⟨i,v⟩:=p;obtain⟨j,d⟩:=q;obtain⟨e,r⟩:=h;dsimp only at e r;subst e;by_cases e:i=k
  ·subst e;exact .inr ⟨v,d,by simp[valueAt],by simp[List.lookup],r⟩
  ·have u:valueAt ((i,v)::as) k=valueAt as k:=by simp[valueAt,e]
   have m:List.lookup k ((i,d)::bs)=bs.lookup k:=by
    have g:(k==i)=false:=by simpa using λx=>e x.symm
    rw[List.lookup,g]
   rw[u,m];exact ih
theorem n7{l:List (Int×PV)}(h:l.lookup k=some d):(k,d)∈l:=by
 induction l with
 |nil=>exact no h
 |cons p r j=>
  rw[List.lookup]at h;split at h
  ·rename_i e;(replace h:=si h;subst h)
   rw[eq_of_beq e];exact .head _
  ·exact .tail _ (j h)
theorem dw(j:k<=60)(h:ai k d=true):SeqAt.shaped (eY d)=true:=by
 have l:=ig k d h;unfold SeqAt.shaped;rw[l.1,Bool.true_and];exact decide_eq_true (Nt l.2 (Nt j (Nat.le_add_left _ _)))
theorem wM{A:Around}(K:A.in1.units+64<cLine)(o:gy s.heap X κ kb db)(x:db.all (λp=>ai 8 p.2)=true)
 (z:gy s.heap X κ ka da):da.all (λp=>ai 8 p.2)=true->
  ∃r,KeqHits A.in1 s kb ka r/\r=(da.all λp=>match db.lookup p.1 with|some d=>eqB p.2 d|none=>false):=by
 induction z with
 |nil=>exact λu=>⟨true,.nil,rfl⟩
 |@cons p q as i h t ih=>
  obtain⟨k,v⟩:=p;obtain⟨j,d⟩:=q;obtain⟨e,a⟩:=h;dsimp only at e a;subst e;intro c;rw[List.all_cons]at c;obtain⟨g,y⟩:=ba c;obtain⟨r,J,b⟩:=ih y;rcases fz o k with⟨h1,h2⟩|⟨L,d',h1,h2,f⟩
  ·exact⟨false,.miss h1,by simp[h2]⟩
  ·have m:ai 8 d'=true:=List.all_eq_true.mp x _ (n7 h2);obtain⟨as,z⟩:=lU 8 a g;obtain⟨i,l⟩:=lU 8 f m;refine⟨_,.hit h1 (keq_at z l (dw (by decide) g) (dw (by decide) m) K) J,?_⟩;rw[b,iu 8 d d' 8 g m];simp[h2]
theorem sE(l:List PV)(d:PV)(hl:∀x∈l,ai 8 x=true)(hd:ai 8 d=true):(cW l).any (λy=>PyData.eqv y (eY d))=l.any (λy=>eqB y d):=by
 induction l with
 |nil=>rfl
 |cons x r j=>
  simp only[cW,List.any_cons];rw[iu 8 x d 8 (hl x (.head _)) hd,j λy g=>hl y (.tail _ g)]
theorem wI(hl:∀x∈l,ai 8 x=true):PyData.canLayAll0 (cW l)=true/\PyData.depthAll (cW l)<=9:=by
 have q:=ig 9 (.list l) (by simpa [ai]using hl);rw[eY]at q;simp only[PyData.canLay0,PyData.depth]at q;have j:=q.2;exact⟨q.1,(Nat.le_of_lt j)⟩
noncomputable abbrev kE(A:Around)(s:Shared)(op:CmpOp)(u v:Value)(r:Bool):Prop:=∀{Q:Value->Shared->Prop},(∀tk,Q (.bool r) {s with toks:=tk})->wpAny (model prog w) A (compareOp op u v) Q (λ_ _=>False) s
theorem td(a:AOk k A)(J:Shw s.heap X κ u d)(sv:Shw s.heap X κ v e)(h:eqP d e=some r):
 kE A s .Eq u v r/\(eP d=none->kE A s .NotEq u v (!r)):=by
 have x:A.units+64<cLine:=by have:=a.cl;exact Nm (Nat.add_le_add_left (by decide) _) this
 unfold eqP at h;cases hd:eP d with
 |some L=>
  refine⟨λz=>?_,nofun⟩;rw[hd]at h;refine hid λb y=>?_;refine obk h λR h c=>?_;rw[ki hd]at J;rw[ki c]at sv;obtain⟨p,o,kp,rfl,M,ho,S,_,t⟩:=J;obtain⟨q,W,Y,rfl,c,f,i,_,m⟩:=sv;refine oik h λh l=>?_;refine bak l λg j=>?_;obtain⟨P,K,O⟩:=wM (A:=A) (s:=s) (by show A.units+1+64<cLine;have:=a.cl;exact Nm (Nat.add_le_add_left (by decide:65<=400) _) this) m j t g;refine y ?_;clear y b;refine keq_eq S i (Heap.dictOf_iff.mpr ⟨_,M,ho⟩) (Heap.dictOf_iff.mpr ⟨_,c,f⟩) (Nat.lt_of_add_right_lt x) (λw=>K) ?_;have T:(L.length==R.length&&P)=r:=(congrArg (_&&·) O).trans (Option.some.inj h);rw[t.len,m.len,T];exact z s.toks
 |none=>
  rw[hd]at h;refine hid λb y=>?_;refine oik h λh l=>?_;refine bak l λg j=>?_;refine ah (ed 9 J g) λas t=>?_;refine ah (ed 9 sv j) λU m=>?_;refine y ?_;clear y b;have q:=iu 9 d e 9 g j;rw[Option.some.inj h]at q;exact⟨λz=>eq_dataH t m (dw (by decide) g) (dw (by decide) j) x (by rw[q];exact z s.toks),
   λw w z=>ne_dataH t m (dw (by decide) g) (dw (by decide) j) x (by rw[q];exact z s.toks)⟩
theorem lP(a:AOk k A)(o:e=.tuple l\/e=.list l)(J:Shw s.heap X κ u d)(sv:Shw s.heap X κ v e)(h:fX d l=some r):
 kE A s .In u v r/\kE A s .NotIn u v (!r):=by
 refine hid λx b=>?_;refine oik h λh p=>?_;refine bak p λj m=>?_;have hl:=List.all_eq_true.mp m;refine ah (ed 8 J j) λas c=>?_;refine b ?_;clear b x;have y:=ig 8 _ j;have i:=wI hl;have t:A.units+1+min (PyData.depthAll (cW l)) (eY d).depth<cLine:=by
  have:=Nat.min_le_right (PyData.depthAll (cW l)) (eY d).depth;have:=y.2;have:=a.cl;lia
 have q:=sE l d hl j;rw[Option.some.inj h]at q;rcases o with rfl|rfl
 ·refine ah (ed 9 sv m) λf z=>?_;exact⟨λg=>SeqAt.in_tuple_reads z c i.1 y.1 t (by rw[q];exact g s.toks),λg=>SeqAt.notIn_tuple_reads z c i.1 y.1 t (by rw[q];exact g s.toks)⟩
 ·refine ah (ed 9 sv m) λf z=>?_;exact⟨λg=>SeqAt.in_list_reads z c i.1 y.1 t (by rw[q];exact g s.toks),λg=>SeqAt.notIn_list_reads z c i.1 y.1 t (by rw[q];exact g s.toks)⟩
theorem tE(a:AOk k A)(g:Shw s.heap X κ u d)(sv:Shw s.heap X κ v e)(h:inP d e=some r):
 kE A s .In u v r/\kE A s .NotIn u v (!r):=by
 cases e with
 |tuple l=>exact lP a (.inl rfl) g sv h
 |list l=>exact lP a (.inr rfl) g sv h
 |str x=>
  obtain⟨p,f,h⟩:=om h;rw[bE f]at g;obtain⟨t,rfl⟩:=g;obtain⟨L,rfl⟩:=sv;have q:=(qf x p).trans h;exact⟨λj=>P.in_str (by rw[q];exact j s.toks),λj=>P.notIn_str (by rw[q];exact j s.toks)⟩
 |dict l=>
  obtain⟨i,c,h⟩:=om h;rw[aA c]at g;obtain⟨t,rfl⟩:=g;obtain⟨b,o,kvs,rfl,K,ho,z,_,J⟩:=sv;have y:=(Heap.dictOf_iff.mpr ⟨_,K,ho⟩).mapOf;have m:(intKind prog w).is i (.int i t)=true:=by simp[intKind,Value.isInt]
  have e:(valueAt kvs i).isSome=r:=by
   rw[<- h];rcases fz J i with⟨h1,h2⟩|⟨M,d',h1,h2,_⟩<;>rw[h1,h2]<;>rfl
  exact⟨λj=>wpAny_in_of m z y (by rw[e];exact j _),λj=>wpAny_notIn_of m z y (by rw[e];exact j _)⟩
 |_=>exact no h
theorem g9(m:Shw s.heap X κ u d)(sv:Shw s.heap X κ v e)(h:tX f d e=some r)
 (H:∀i j t g,kE A s op (.int i t) (.int j g) (f i j)):kE A s op u v r:=by
 refine wbm h λi j h y z=>?_;rw[aA y]at m;rw[aA z]at sv;obtain⟨t,rfl⟩:=m;obtain⟨g,rfl⟩:=sv;exact h▸H i j t g
theorem oH{f:Bool->Bool->Bool}{g:CmpOp}{u v:Value}{d e:PV}{r:Bool}(m:Shw s.heap X κ u d)(sv:Shw s.heap X κ v e)(h:((truthy d).bind λx=>(truthy e).map λy=>f x y)=some r)
 (H:∀i j,kE A s g (.bool i) (.bool j) (f i j)):kE A s g u v r:=by
 refine wbm h λi j h q z=>?_;rw[gC q]at m;rw[gC z]at sv;rw[show u=_ from m,show v=_ from sv];exact h▸H i j
theorem wA(a:AOk k A)(m:Shw s.heap X κ u d)(sv:Shw s.heap X κ v e)(hc:yV op d e=some r):kE A s op u v r:=by
 cases op with
 |Eq=>exact(td a m sv hc).1
 |NotEq=>
  refine wim hc λq y h1 z=>?_;subst y;exact(td a m sv z).2 (Option.isNone_iff_eq_none.mp h1)
 |Lt=>exact g9 m sv hc λw w w w w g=>lt_int (g s.toks)
 |LtE=>exact g9 m sv hc λw w w w w g=>le_int (g s.toks)
 |Gt=>exact g9 m sv hc λw w w w w g=>gt_int (g s.toks)
 |GtE=>exact g9 m sv hc λw w w w w g=>ge_int (g s.toks)
 |Is=>exact oH m sv hc λi j w g=>wpAny_is_plain rfl (by cases i<;>cases j<;>exact g s.toks)
 |IsNot=>exact oH m sv hc λi j w g=>wpAny_isNot_plain rfl (by cases i<;>cases j<;>exact g s.toks)
 |In=>exact(tE a m sv hc).1
 |NotIn=>
  obtain⟨q,z,rfl⟩:=om hc;exact(tE a m sv z).2
theorem p5(a:AOk k A)(j:G.tab X s.heap)
 (g:Shw s.heap X κ u d) (sv:Shw s.heap X κ v e) (hc:yV op d e=some r) :
 wpAny (model prog w) A (compareOp op u v) (λv s'=>Gr X s s'/\v=.bool r) (λy y=>False) s:=
 wA a g sv hc λtk=>⟨Gr.tok j tk,rfl⟩
end
noncomputable abbrev Pt(X:Addr->Prop)(κ:List Addr)(s:Shared)(d:PV):Value->Shared->Prop:=
 λv s'=>Gr X s s'/\Rep s'.heap X κ v d
section
variable{A:Around}{s:Shared}{X:Addr->Prop}{κ:List Addr}{n:Nat}[GxOk]
omit [GxOk] in
theorem eX(n:Nat)(a:Array α):List.foldl (λj g=>j++g) #[] (List.replicate n a)=((List.replicate n a.toList).flatten).toArray:=by
 have:∀(l:List (Array α)) (acc:Array α),List.foldl (λj g=>j++g) acc l=(acc.toList++(l.map Array.toList).flatten).toArray:=by
  intro l;induction l with
  |nil=>intro acc;simp
  |cons x r m=>intro acc;simp[m]
 rw[this];simp
omit [GxOk] in
theorem wv(l:List Nat)(n:Int):Txt.mul ⟨l.toArray⟩ n=⟨(repL n.toNat l).toArray⟩:=by
 delta Txt.mul repL;split
 ·rename_i h;have:n.toNat=0:=by lia
  rw[this];rfl
 ·split
  ·rename_i h1 h;simp only[Bool.or_eq_true,beq_iff_eq]at h;rcases h with h|h
   ·clear h1;subst h;simp
   ·have:l=[]:=by simpa [Str.length]using h
    clear h1 h;subst this;simp
  ·rw[eX]
omit [GxOk] in
theorem gc(h:m<2 ^ n)(j:0<n):m.log2<n:=by
 by_cases e:m=0
 ·subst e;simpa using j
 ·exact(Nat.log2_lt e).mpr h
omit [GxOk] in
theorem pN{a:Int}(h:a.natAbs<100000000):Builtin.Int.intBits a<=64:=by
 unfold Builtin.Int.intBits;split
 ·exact Nat.zero_le _
 ·have:=gc (m:=a.natAbs) (n:=27) (by lia) (Nat.succ_pos _);exact Nt this (Nat.le_add_left _ _)
omit [GxOk] in
theorem lI{a b i j:Nat}(h1:a<=i)(h2:b<=j):a*b<=i*j:=Nat.mul_le_mul h1 h2
omit [GxOk] in
theorem uO(r:aY h X κ vs ds)(i:Int):aY h X κ (List.replicate (if vs.toArray.isEmpty=true then 0 else i.toNat) vs).flatten (repL i.toNat ds):=by
 split
 ·rename_i e;cases show vs=[] by simpa using e
  cases r;have:repL i.toNat ([]:List PV)=[]:=by unfold repL;simp
  rw[this];exact .nil
 ·exact r.flatten_rep _
noncomputable abbrev q9(A:Around)(X:Addr->Prop)(κ:List Addr)(s:Shared)(op:Operator)(u v:Value)(r:PV):Prop:=wpAny (model prog w) A (binaryOp op u v) (Pt X κ s r) No s
omit [GxOk] in
theorem kF(y:Shw s.heap X κ u d)(sv:Shw s.heap X κ v e)(h:wL f d e=some r)
 (H:∀i j k t g,f i j=some k->q9 A X κ s op (.int i t) (.int j g) (.int k)):q9 A X κ s op u v r:=by
 refine iZ h λi j k m z q l=>?_;subst m;rw[aA z]at y;rw[aA q]at sv;obtain⟨t,rfl⟩:=y;obtain⟨g,rfl⟩:=sv;exact H i j k t g l
omit [GxOk] in
theorem tJ(S:St X s.heap)(d:Shw s.heap X κ u (.list x))(sv:Shw s.heap X κ v (.list y))(h:x.length+y.length<=ag)
 (t:∀zs,aY s.heap X κ zs (x++y)->Q (.ref s.heap.objs.size) {s with heap:=s.heap.push (du zs 0)}):wpAny (model prog w) A (binaryOp .Add u v) Q No s:=by
 obtain⟨a,vs,n,rfl,g,_,q⟩:=d;obtain⟨b,j,m,rfl,r,_,z⟩:=sv;have e:vs.toArray++j.toArray=(vs++j).toArray:=by simp
 refine concat_meets ⟨_,g,rfl⟩ ⟨_,r,rfl⟩ noFill_list_add seq_list_add PySem.F.slot_list_add PySem.F.entry_list_add (PySem.F.args_list_add_2 _ _)
  (list_addW _ _ vs.toArray j.toArray n m none none #[] #[] (by have:=q.len;have:=z.len;simp only[List.size_toArray,sizeLine_eq];unfold ag at h;lia)) ⟨g,r,?_⟩
 rw[e];exact t _ (q.app z)
theorem v8(S:St X s.heap)(m:Shw s.heap X κ u d)(sv:Shw s.heap X κ v e)(h:zB d e=some r):q9 A X κ s .Add u v r:=by
 have z:=S.tab;cases d with
 |int i=>
  obtain⟨j,g,rfl⟩:=om h;rw[aA g]at sv;obtain⟨t,rfl⟩:=m;obtain⟨q,rfl⟩:=sv;exact add_int ⟨Gr.tok z _,.int _ _⟩
 |str x=>
  refine wbi h λy h g hl=>?_;(replace h:=si h;subst h)
  rw[bE g]at sv;obtain⟨t,rfl⟩:=m;obtain⟨q,rfl⟩:=sv;refine add_str (λq tk=>⟨Gr.tok z _,?_⟩) ?_
  ·have:(⟨x.toArray⟩:Str)++⟨y.toArray⟩=⟨(x++y).toArray⟩:=Str.ext' (by simp[Str.cps_append]);rw[this];exact .str _ _
  ·dsimp only[Str.length,List.size_toArray,sizeLine_eq];unfold ag at hl;exact Nt hl (Nat.le_add_left _ _)
 |list x=>
  refine wbi h λy h g hl=>?_;(replace h:=si h;subst h)
  rw[bN g]at sv;exact tJ S m sv hl λl r=>⟨Gr.push z _ _,.newList S r _⟩
 |_=>exact no h
theorem tl{i:Int}(S:St X s.heap)(y:Shw s.heap X κ u (.list x))(h:i.natAbs<=1000/\x.length<=10):q9 A X κ s .Mult u (.int i t) (.list (repL i.toNat x)):=by
 obtain⟨a,vs,n,rfl,j,_,m⟩:=y;have hl:=m.len;have g:vs.length*i.toNat<=10*1000:=lI (Nt (Ne0 hl) h.2) (zO h);have v:vs.toArray.size*i.toNat<=10*1000:=by simpa using g
 refine wpAny_binaryOp_repeat_ref (T:="list") (U:="int") (by decide) ⟨_,j,rfl⟩ (λs'=>typeIs_int s' _ t) noFill_list_mul F.fills_int_mul F.slot_int_rmul repeat_list F.slot_int_index.lookup
  (call_meets F.slot_int_rmul (typeIs_int s _ t) F.entry_int_rmul (F.args_int_rmul_2 _ _) (int___rmul___int_list _ t _ vs.toArray n)
   ⟨j,rfl,⟨_,j,rfl⟩,call_meets F.slot_list_mul ⟨_,j,rfl⟩ F.entry_list_mul (F.args_list_mul_2 _ _)
    (AutoListH.list___mul___list_int_3 _ vs.toArray n _ t (by simp[Builtin.List.listFitsIndex];exact Ap h) (by omega) (by simp[Builtin.List.listTooLong,sizeLine];exact Nt g (Nat.le_add_left _ _)))
    ⟨j,?_⟩⟩)
 rw[eX];exact⟨Gr.push S.tab _ _,.newList S (uO m i) _⟩
omit [GxOk] in
theorem wl{i:Int}(h:i.natAbs<=1000)(j:0<i):(9223372036854775:Int)<=(2 ^ 63 - 1) / i:=by
 refine(Int.le_ediv_iff_mul_le j).mpr ?_;have:(9223372036854775:Int)*i<=9223372036854775*1000:=Int.mul_le_mul_of_nonneg_left (Int.le_trans Int.le_natAbs (Int.ofNat_le.mpr h)) (by decide);lia
omit [GxOk] in
theorem tY{x:List Nat}{i:Int}(S:St X s.heap)(h:i.natAbs<=1000/\x.length<=10):q9 A X κ s .Mult (.str ⟨x.toArray⟩ g) (.int i t) (.str (repL i.toNat x)):=by
 refine SB.mul ?_ λg tk=>⟨Gr.tok S.tab _,?_⟩
 ·have j:x.length*i.toNat<=10*1000:=lI (by simp[h]) (zO h);refine⟨by simp;exact Ap h,λh1 h2=>?_,λh1 h2=>?_⟩
  ·simp only[Str.length,List.size_toArray];have:=wl h.1 (by omega);omega
  ·simp only[Str.length,List.size_toArray,Builtin.Str.tooLong,sizeLine_eq,decide_eq_false_iff_not];exact Nat.not_lt_of_le (Nt j (by decide))
 ·rw[wv];exact .str _ _
theorem wZ(S:St X s.heap)(j:Shw s.heap X κ u d)(sv:Shw s.heap X κ v e)(h:z6 d e=some r):q9 A X κ s .Mult u v r:=by
 obtain⟨n,g,h⟩:=ob h;rw[aA g]at sv;obtain⟨t,rfl⟩:=sv;cases d with
 |int i=>
  obtain⟨hl,h⟩:=oi h;(replace h:=si h;subst h)
  obtain⟨m,rfl⟩:=j;exact mul_int ⟨Gr.tok S.tab _,.int _ _⟩ (.of_left (pN hl.1))
 |list x=>obtain⟨hl,h⟩:=oi h;(replace h:=si h;subst h);exact tl S j hl
 |str x=>obtain⟨hl,h⟩:=oi h;(replace h:=si h;subst h);obtain⟨m,rfl⟩:=j;exact tY S hl
 |_=>exact no h
theorem y2(a:AOk k A)(S:St X s.heap)
 (g:Shw s.heap X κ u d) (sv:Shw s.heap X κ v e) (hc:tC op d e=some r) :
 wpAny (model prog w) A (binaryOp op u v) (Pt X κ s r) No s:=by
 cases op with
 |Add=>exact v8 S g sv hc
 |Sub=>exact kF g sv hc λi j k t m e=>by(replace e:=si e;subst e);exact sub_int ⟨Gr.tok S.tab _,.int _ _⟩
 |Mult=>exact wZ S g sv hc
 |Mod=>
  refine kF g sv hc λi j k t m e=>?_;refine oik e λe h=>?_;(replace e:=si e;subst e)
  refine mod_int' (Ne.symm (Int.ne_of_lt h.1)) ⟨Gr.tok S.tab _,?_⟩;rw[Int.fmod_eq_emod_of_nonneg _ (Int.le_of_lt h.1)];exact .int _ _
 |FloorDiv=>
  refine kF g sv hc λi j k t m e=>?_;refine oik e λe h=>?_;(replace e:=si e;subst e)
  refine floordiv_int (Ne.symm (Int.ne_of_lt h.1)) ⟨Gr.tok S.tab _,?_⟩ ?_
  ·rw[Int.fdiv_eq_ediv_of_nonneg _ (Int.le_of_lt h.1)];exact .int _ _
  ·refine .inl (PyProof.noPylong_of_log2 ?_);refine Nl (gc (n:=14) ?_ (Nat.succ_pos _)) (by decide);omega
 |_=>exact no hc
end
section
variable{A:Around}{s:Shared}{X:Addr->Prop}{κ:List Addr}{n:Nat}[GxOk]
omit [GxOk] in
theorem cz{h:Heap}(j:h.get? a=some (du vs n)):h.IsList a vs.toArray:=⟨_,j,rfl,n,rfl⟩
omit [GxOk] in
theorem nB{h:Heap}(j:h.get? a=some (sg vs n)):IsTup h a vs.toArray:=⟨_,j,rfl,n,rfl⟩
omit [GxOk] in
theorem qY(r:aY h X κ vs ds):∀{y:List Int},ds.mapM aN=some y->∃xs:List (Int×Tok),vs=xs.map (λp=>Value.int p.1 p.2)/\y=xs.map (·.1):=by
 induction r with
 |nil=>intro y e;obtain rfl:=mn e;exact⟨[],rfl,rfl⟩
 |@cons v d as bs r t ih=>
  intro y e;refine mck e λi l z q m=>?_;clear e;subst m;refine af (ih q) λxs u g=>?_;subst u;subst g;obtain rfl:=aA z;refine ah r.inv λt j=>?_;subst j;exact⟨(i,t)::xs,rfl,rfl⟩
omit [GxOk] in
theorem f8(xs:List (Int×Tok)):(xs.map (λp=>Value.int p.1 p.2)).toArray=intItems xs.toArray:=by simp[intItems]
omit [GxOk] in
theorem len_ok(S:St X s.heap)(sv:Shw s.heap X κ v d)
 (hc:sZ d=some r) :
 wpAny (model prog w) A (call (.builtin "len") [v]) (Pt X κ s r) No s:=by
 cases d with
 |str l=>
  obtain⟨h,e⟩:=oi hc;(replace e:=si e;subst e)
  obtain⟨t,rfl⟩:=sv;refine P.len_str (by simp only[Str.length,List.size_toArray];unfold ag at h;lia) ⟨Gr.tok S.tab _,?_⟩;dsimp only[Str.length,List.size_toArray];exact .int _ _
 |list l=>
  obtain⟨h,e⟩:=oi hc;(replace e:=si e;subst e)
  obtain⟨a,vs,n,rfl,j,_,g⟩:=sv;rw[<- g.len]at h ⊢;exact call_len_list (cz j) (by simp only[List.size_toArray];unfold ag at h;lia) ⟨Gr.tok S.tab _,.int _ _⟩
 |tuple l=>
  obtain⟨h,e⟩:=oi hc;(replace e:=si e;subst e)
  obtain⟨a,vs,n,rfl,j,_,g⟩:=sv;rw[<- g.len]at h ⊢;exact len_tuple (nB j) (by simp only[List.size_toArray];unfold ag at h;lia) ⟨Gr.tok S.tab _,.int _ _⟩
 |_=>exact no hc
theorem vq(hh:A.handled=none)(S:St X s.heap):
 wpAny (model prog w) A (call (.builtin "max") [.int a t,.int b u]) (Pt X κ s (.int (if b>a then b else a))) No s:=
 max_two_ints hh λh' tk j=>by
  refine⟨Gr.kept S.tab j,?_⟩;split<;>exact .int _ _
omit [GxOk] in
theorem l3:∀(r:List Int) (a:Int),let m:=r.foldl (λm x=>if x>m then x else m) a;(m=a\/m∈r)/\a<=m/\∀x∈r,x<=m
 |[],a=>⟨.inl rfl,Int.le_refl _,λu h=>nomatch h⟩
 |x::r,a=>by
  refine bc (l3 r (if x>a then x else a)) λh1 h2 g=>?_;simp only[List.foldl_cons];refine⟨?_,?_,λy j=>?_⟩
  ·rcases h1 with h1|h1
   ·rw[h1];split
    ·exact .inr (.head _)
    ·exact .inl rfl
   ·exact .inr (.tail _ h1)
  ·have e:a<=(if x>a then x else a):=by split<;>first|exact Int.le_refl _|exact Int.le_of_lt (by assumption)
   exact Int.le_trans e h2
  ·clear h1;rcases List.mem_cons.mp j with rfl|j
   ·have e:y<=(if y>a then y else a):=by split<;>first|exact Int.le_refl _|exact Int.le_of_lt (by assumption)|exact Int.not_lt.mp (by assumption)
    exact Int.le_trans e h2
   ·exact g y j
omit [GxOk] in
theorem vP(h:k7 l=some m)(h1:M∈l)(h2:∀a∈l,a<=M):M=m:=by
 cases l with
 |nil=>cases h1
 |cons a r=>
  simp only[k7,Option.some.injEq]at h;refine bc (l3 r a) λj v y=>?_;rw[h]at j v y;have g:m<=M:=by
   rcases j with j|j
   ·rw[j];exact h2 _ (.head _)
   ·exact h2 _ (.tail _ j)
  have u:M<=m:=by
   clear h2 h j g;rcases List.mem_cons.mp h1 with rfl|h1
   ·exact v
   ·exact y _ h1
  first|exact Int.le_antisymm g u|exact Int.le_antisymm u g|exact congrArg some (Int.le_antisymm g u)|lia
theorem vI(hh:A.handled=none)(S:St X s.heap)(sv:Shw s.heap X κ v (.list l))(d:l.mapM aN=some is)(b:k7 is=some m):
 wpAny (model prog w) A (call (.builtin "max") [v]) (Pt X κ s (.int m)) No s:=by
 obtain⟨a,vs,n,rfl,q,_,k⟩:=sv
 ·
  refine af (qY k d) λxs y z=>?_;clear d k;subst y;subst z;have hsz:0<xs.toArray.size:=by
   cases xs with
   |nil=>simp[k7]at b
   |cons x r=>simp
  refine max_intList hh (by have:=cz q;rw[f8]at this;exact this) hsz λv h' tk f o=>?_;refine ah (intItems_at f) λt g=>?_;subst g;refine au (argBest_gt (numAt xs.toArray) (xs.toArray.size - 1)) λh1 h2=>?_;have e:numAt xs.toArray (argBest (λi j=>decide (numAt xs.toArray i>numAt xs.toArray j)) (xs.toArray.size - 1))=m:=by
   refine vP b ?_ λa q=>?_
   ·rw[numAt_eq];exact getD_mem (by rw[List.length_map];simp only[List.size_toArray]at h1 hsz ⊢;exact Nat.lt_of_le_pred hsz h1)
   ·refine af (mem_getD q) λj c u=>?_;subst u;rw[List.length_map]at c;have:=h2 j (by simp only[List.size_toArray]at hsz ⊢;exact Nat.le_sub_one_of_lt c);rw[numAt_eq]at this;exact this
  rw[e];exact⟨Gr.kept S.tab o,.int _ _⟩
omit [GxOk] in
theorem n5(l:List Int)(h:∀i∈l,i.natAbs<1000000000):l.sum.natAbs<=l.length*1000000000:=by
 induction l with
 |nil=>simp
 |cons x r j=>
  have h1:=h x (.head _);have h2:=j λi g=>h i (.tail _ g);simp only[List.sum_cons,List.length_cons];exact Nt (Int.natAbs_add_le _ _) (by rw[Nat.add_one_mul,Nat.add_comm];exact Na h2 (Nat.le_of_lt h1))
theorem ym(hh:A.handled=none)(S:St X s.heap)(sv:Shw s.heap X κ v (.list l))(y:l.mapM aN=some is)(z:wO is=some r):
 wpAny (model prog w) A (call (.builtin "sum") [v]) (Pt X κ s r) No s:=by
 obtain⟨a,vs,n,rfl,q,_,d⟩:=sv
 ·
  refine af (qY d y) λxs u g=>?_;subst u;subst g;simp only[wO]at z;split at z<;>cases z
  rename_i h;simp only[List.all_eq_true,decide_eq_true_eq]at h;refine sum_intList hh (by have:=cz q;rw[f8]at this;exact this) (λj t=>?_) λh' tk o c=>?_
  ·have e:∀k:Nat,((xs.map (λp:Int×Tok=>p.1)).take k).sum.natAbs<=1000*1000000000:=λk=>by
    refine Nt (n5 _ λi y=>h.2 i (List.mem_of_mem_take y)) ?_;exact Nat.mul_le_mul_right _ (Nt (by rw[List.length_take];exact Nat.min_le_right _ _) h.1)
   have b:numAt xs.toArray j=(xs.map (·.1)).getD j 0:=by rw[numAt_eq]
   have m:j<(xs.map (·.1)).length:=by simpa using t
   have f:=h.2 _ (List.getElem_mem m);refine⟨?_,?_⟩
   ·rw[b];unfold InLong;rw[List.getD_eq_getElem?_getD,List.getElem?_eq_getElem m,Option.getD_some];omega
   ·rw[preSum_eq];have:=e (j+1);unfold InLong;simp only at this ⊢;omega
  ·refine⟨Gr.kept S.tab c,?_⟩;rw[preSum_eq,List.take_of_length_le (by simp)];exact .int _ _
theorem yA(S:St X s.heap)(sv:Shw s.heap X κ v (.list l))(hl:l.length<=ag):
 wpAny (model prog w) A (call (.type "tuple") [v]) (Pt X κ s (.tuple l)) No s:=by
 refine hid λy j=>?_;obtain⟨a,vs,n,rfl,q,_,u⟩:=sv;refine j ?_;clear j y
 ·
  refine call_tuple_list (cz q) (λh' z=>?_) (by have:=u.len;simp only[List.size_toArray,sizeLine_eq];unfold ag at hl;lia);have g:Gr X s {s with heap:=h'}:=Gr.kept S.tab z;have m:=S.gr g;refine⟨g.trans (Gr.push m.tab _ _),?_⟩;exact .newTuple (s:={s with heap:=h'}) m (g.repL S.xp u) s.toks
end
section
variable{A:Around}{s:Shared}{X:Addr->Prop}{κ:List Addr}{n:Nat}[GxOk]
set_option tactic.hygienic true in
omit [GxOk] in
theorem gE(j:Expr)(o i:Value):∃ops,subscripted j false o i=operate ops (getItem o i):=by
 cases j
 case Slice a b st p=>cases st<;>exact⟨_,rfl⟩
 all_goals exact⟨_,rfl⟩
omit [GxOk] in
theorem mR(h:idx len i=some j):seqIndex? i len=some j/\-(2 ^ 63)<=i/\i<2 ^ 63/\j<len/\((0<=i/\j=i.toNat)\/(i<0/\-(len:Int)<=i/\j=(i+len).toNat)):=by
 rw[idx]at h;split at h
 ·exact no h
 ·rename_i g;split at h
  ·rename_i h0;split at h
   ·rename_i h1;(replace h:=si h;subst h)
    exact⟨StrLaws.seqIndex_nonneg h0 (Int.lt_of_toNat_lt h1),by lia,by lia,h1,.inl ⟨h0,rfl⟩⟩
   ·exact no h
  ·rename_i h0;split at h
   ·rename_i h1;(replace h:=si h;subst h)
    exact⟨StrLaws.seqIndex_neg (Int.lt_of_not_ge h0) h1,by lia,by lia,by lia,.inr ⟨Int.lt_of_not_ge h0,h1,rfl⟩⟩
   ·exact no h
omit [GxOk] in
theorem fS{g j:Expr}{u i:Value}{T id:String}{Q:Value->Shared->Prop}(m:Shared.TypeIs s u T)(v:Slot T "__getitem__" id)
 (h:wpAny (model prog w) A (getItem u i) Q No s):wpAny (model prog w) A (subscriptTail g j u i) Q No s:=by
 refine ah (gE j u i) λops e=>?_;exact tail_any m v.lookup h e
omit [GxOk] in
theorem lF(h:k4 l e=some r):∃i j,e=.int i/\idx l.length i=some j/\l[j]?=some r:=by
 refine wbb h λi j h m g=>?_;exact⟨i,j,aA m,g,h⟩
omit [GxOk] in
theorem th(S:St X s.heap)(O:Shw s.heap X κ u d)(sv:Rep s.heap X κ v e)(hc:gq d e=some r):
 wpAny (model prog w) A (subscriptTail value slice u v) (Pt X κ s r) No s:=by
 have sv:=sv.inv;cases d with
 |list l=>
  refine aO (lF hc) λi j U f p=>?_;subst U;refine oI (mR f) λJ h M Z Y=>?_;refine ah sv λt R=>?_;subst R;obtain⟨a,vs,n,rfl,g,_,m⟩:=O;refine af (m.get p) λx y K=>?_;refine fS ⟨_,g,rfl⟩ slot_list_getitem ?_;have hl:=m.len;rcases Y with⟨h0,rfl⟩|⟨h0,I,rfl⟩
  ·exact wpAny_getItem_list (cz g) h0 M (by simpa using y) ⟨Gr.refl S.tab,K⟩
  ·exact wpAny_getItem_list_neg (cz g) h0 (by simp only[List.size_toArray];lia) h (by simp only[List.size_toArray,hl];simpa using y) ⟨Gr.refl S.tab,K⟩
 |tuple l=>
  refine aO (lF hc) λi j W f p=>?_;subst W;refine oI (mR f) λJ h M Z Y=>?_;refine ah sv λt P=>?_;subst P;obtain⟨a,vs,n,rfl,g,_,m⟩:=O;refine af (m.get p) λx y K=>?_;refine fS ⟨_,g,rfl⟩ slot_tuple_getitem ?_;exact getItem_tuple (nB g) h M (by simpa [m.len]using J) (by simpa using y) ⟨Gr.refl S.tab,K⟩
 |str l=>
  refine iZ hc λi j c z L f p=>?_;subst z;rw[aA L]at sv;refine oI (mR f) λJ h M Z Y=>?_;refine ah sv λt T=>?_;subst T;refine ah O λN b=>?_;subst b;refine fS rfl slot_str_getitem ?_;refine getItem_str (by simp;lia) (c:=c) ?_ ⟨Gr.tok S.tab _,?_⟩
  ·simp only[Str.length,List.size_toArray,J,Option.bind_some];simpa using p
  ·exact .str [c] _
 |dict l=>
  refine obk hc λk hc L=>?_;rw[aA L]at sv;refine ah sv λt q=>?_;clear sv L;subst q;obtain⟨a,o,kvs,rfl,g,ho,Q,_,m⟩:=O;have C:=(Heap.dictOf_iff.mpr ⟨_,g,ho⟩).mapOf;refine fS ⟨_,g,?_⟩ slot_dict_getitem ?_
  ·refine cb ho λH B y E=>?_;exact y.1
  ·rcases fz m k with⟨h1,h2⟩|⟨v',d',h1,h2,F⟩
   ·rw[h2]at hc;exact no hc
   ·rw[h2]at hc;(replace hc:=si hc;subst hc);exact wpAny_getItem_of (by simp[intKind,Value.isInt]) C h1 ⟨Gr.tok S.tab _,F⟩
 |_=>exact no hc
omit [GxOk] in
theorem fe(r:aY h X κ vs ds):∀js:List Nat,aY h X κ (js.filterMap (vs[·]?)) (js.filterMap (ds[·]?))
 |[]=>.nil
 |j::js=>by
  have m:=fe r js;cases hd:ds[j]? with
  |none=>
   have g:vs[j]?=none:=by rw[List.getElem?_eq_none_iff]at hd ⊢;rw[r.len];exact hd
   rw[List.filterMap_cons_none hd,List.filterMap_cons_none g];exact m
  |some d=>
   refine af (r.get hd) λv g u=>?_;rw[List.filterMap_cons_some hd,List.filterMap_cons_some g];exact .cons u m
omit [GxOk] in
theorem mT(vs:List Value)(j g st:Option Int):slicePick vs.toArray j g st=((Builtin.Str.strSliceIndices j g (st.getD 1) vs.length).filterMap (vs[·]?)).toArray:=by
 unfold slicePick;simp only[List.size_toArray,List.getElem?_toArray];rfl
omit [GxOk] in
theorem iB(o:Option (Int×Tok)):IsPart (partValue o) (o.map (·.1)):=by
 cases o with
 |none=>exact .none
 |some p=>exact .int _ _
theorem sj{j g:Expr}{u:Value}{r:PV}{l:List PV}{z y st:Option (Int×Tok)}{a:Addr}(S:St X s.heap)(c:Shw s.heap X κ u (.list l))(i:s.heap.get? a=some {cls:=.type "slice",data:=.fields #[partValue z,partValue y,partValue st]})
 (hc:slP (.list l) (z.map (·.1)) (y.map (·.1)) (st.map (·.1))=some r):wpAny (model prog w) A (subscriptTail j g u (.ref a)) (Pt X κ s r) No s:=by
 refine wim hc λq m hl v=>?_;clear hc;subst m;refine au (oe v) λt v=>?_;(replace v:=si v;subst v)
 obtain⟨b,vs,n,rfl,e,_,d⟩:=c;refine fS ⟨_,e,rfl⟩ slot_list_getitem ?_;refine wpAny_getItem_list_slice (cz e) ⟨_,i,rfl,rfl⟩ (iB z) (iB y) (iB st) (by simpa using t) ?_ (by have:=d.len;simp only[List.size_toArray,sizeLine_eq];unfold ag at hl;lia);rw[mT,<- d.len];have q:=fe d (Builtin.Str.strSliceIndices (z.map (·.1)) (y.map (·.1)) ((st.map (·.1)).getD 1) vs.length);exact⟨Gr.push S.tab _ _,.newList S q _⟩
theorem ug{m v:Expr}{u:Value}{d r:PV}{z y st:Option (Int×Tok)}{a:Addr}(S:St X s.heap)(c:Shw s.heap X κ u d)(i:s.heap.get? a=some {cls:=.type "slice",data:=.fields #[partValue z,partValue y,partValue st]})
 (hc:slP d (z.map (·.1)) (y.map (·.1)) (st.map (·.1))=some r) :
 wpAny (model prog w) A (subscriptTail m v u (.ref a)) (Pt X κ s r) No s:=by
 cases d with
 |list l=>exact sj S c i hc
 |str l=>
  replace hc:=oi hc;obtain⟨q,hc⟩:=hc;have b:st=none:=by cases st with|none=>rfl|some p=>injection q
  clear q;subst b;obtain⟨t,rfl⟩:=c;refine fS rfl slot_str_getitem ?_;refine wpAny_getItem_str_slice (l:=z) (u:=y) (st:=none) ⟨_,i,rfl,rfl⟩ rfl ?_;have e:slicePicked (⟨l.toArray⟩:Str) z y none=Builtin.Str.strSliceIndices (z.map (·.1)) (y.map (·.1)) 1 l.length:=by
   unfold slicePicked;simp[Str.length]
  unfold sliceMade;rw[e];generalize Builtin.Str.strSliceIndices (z.map (·.1)) (y.map (·.1)) 1 l.length=js at hc;unfold qy at hc;by_cases hw:js.length=l.length
  ·rw[if_pos (by simp[Str.length,hw])];rw[if_pos hw]at hc;(replace hc:=si hc;subst hc)
   exact⟨Gr.refl S.tab,.str _ _⟩
  ·rw[if_neg (by simp[Str.length,hw])];rw[if_neg hw]at hc;obtain⟨g,hc⟩:=oi hc;(replace hc:=si hc;subst hc)
   have:∀j:Nat,(⟨l.toArray⟩:Str).cps[j]?=l[j]?:=λj=>by simp
   simp only[this];refine⟨?_,Gr.tok S.tab _,.str _ _⟩;dsimp only[Str.length,List.size_toArray,sizeLine_eq];unfold ag at g;exact Nt g (Nat.le_add_left _ _)
 |_=>exact no hc
end
theorem bV(h:idOf x=some i):nm i=x/\i<nms.length:=by
 unfold idOf at h;rw[List.findIdx?_eq_some_iff_getElem]at h;obtain⟨j,h1,_⟩:=h;refine⟨?_,j⟩;unfold nm;rw[List.getD_eq_getElem?_getD,List.getElem?_eq_getElem j,Option.getD_some];exact eq_of_beq h1
theorem cL:∀x∈nms,(x==Str.ofString "__debug__")=false/\(x==Str.ofString "__classdict__")=false:=by
 have h:(nms.all λx=>!(x==Str.ofString "__debug__")&&!(x==Str.ofString "__classdict__"))=true:=by decide +kernel
 intro x j;have:=List.all_eq_true.mp h x j;simpa using this
theorem ft(h:i<nms.length):nm i∈nms:=by
 unfold nm;rw[List.getD_eq_getElem?_getD,List.getElem?_eq_getElem h,Option.getD_some];exact List.getElem_mem h
theorem qQ(h:i<nms.length):idOf (nm i)=some i:=by
 have:((List.range nms.length).all λi=>idOf (nm i)==some i)=true:=by decide +kernel
 have:=List.all_eq_true.mp this i (List.mem_range.mpr h);exact eq_of_beq this
theorem m8(g:i<nms.length)(m:j<nms.length)(h:nm i=nm j):i=j:=by
 have a:=qQ g;rw[h,qQ m]at a;exact(Option.some.inj a).symm
theorem lG(h:i<nms.length):dJ i=jD.contains (nm i):=by
 have:((List.range nms.length).all λi=>dJ i==jD.contains (nm i))=true:=by decide +kernel
 exact eq_of_beq (List.all_eq_true.mp this i (List.mem_range.mpr h))
class GlOk:Prop extends GxOk where
 gns:G.h0.Ns mainGlobals G.mg
 bns:G.h0.Ns builtinsNs G.mb
 gint:∀x i,ow.lookup x=some i->∃t,G.mg x=some (.int i t)
 gfn:∀i a,G.fnv i=some a->dJ i=false->G.mg (nm i)=some (.ref a)
 fnvLt:∀i a,G.fnv i=some a->i<nms.length
 gesc:∀i,hZ.contains (nm i)=true->∃a,G.fnv i=some a
 blt:∀x,(x=="len"||x=="max"||x=="sum"||x=="sorted")=true->G.mg (Str.ofString x)=none/\G.mb (Str.ofString x)=some (.builtin x)
 bty:∀x,(x=="tuple"||x=="range"||x=="enumerate"||x=="zip")=true->G.mg (Str.ofString x)=none/\G.mb (Str.ofString x)=some (.type x)
section
variable{A:Around}{s:Shared}{X:Addr->Prop}{κ:List Addr}{σ:List Sto}{env:Env}{ρ:ar}[GlOk]
omit [GlOk] in
theorem eA(S:St X s.heap)(R:pI s.heap X κ env ρ)(g:idOf x=some i)(hd:ρ.lookup i=some d):
 wpAny (model prog w) A (eval (.Name x pos) env) (Pt X κ s d) No s:=by
 refine au (bV g) λj hl=>?_;clear g;subst j;refine af R.vars λm z y=>?_;obtain⟨_,v,r,h|⟨h1,c,hc,h2,u⟩⟩:=y i d hd
 ·exact wpAny_Name (wpAny_loadName_local R.kind h.1 z h.2 ⟨Gr.refl S.tab,r⟩) (cL _ (ft hl)).1
 ·rcases h1 with h1|h1
  ·exact wpAny_Name (wpAny_loadName_cell R.kind h1 h2 u ⟨Gr.refl S.tab,r⟩) (cL _ (ft hl)).1
  ·exact wpAny_Name (wpAny_loadName_free R.kind h1 h2 u ⟨Gr.refl S.tab,r⟩ (cL _ (ft hl)).2) (cL _ (ft hl)).1
theorem ez(S:St X s.heap)(R:pI s.heap X κ env ρ)(j:isG env.scope x=true)(m:(x==Str.ofString "__debug__")=false)
 (u:G.mg x=some v) (h:Q v s):wpAny (model prog w) A (eval (.Name x pos) env) Q No s:=by
 refine wpAny_Name ?_ m;have g:env.kindOf x=some .globalImplicit:=by unfold isG at j;exact eq_of_beq j
 rw[loadName_read R.kind g];exact loadGlobal_global (mg:=G.mg) (by rw[R.glob];exact(GlOk.gns).keeps S.base) u h
theorem gh(S:St X s.heap)(R:pI s.heap X κ env ρ)(j:isG env.scope x=true)(y:(x==Str.ofString "__debug__")=false)
 (g:G.mg x=none) (u:G.mb x=some v) (h:Q v s):wpAny (model prog w) A (eval (.Name x pos) env) Q No s:=by
 refine wpAny_Name ?_ y;have m:env.kindOf x=some .globalImplicit:=by unfold isG at j;exact eq_of_beq j
 rw[loadName_read R.kind m];exact loadGlobal_builtin (mg:=G.mg) (mb:=G.mb) (by rw[R.glob];exact(GlOk.gns).keeps S.base) g (by rw[R.bui];exact(GlOk.bns).keeps S.base) u h
structure Al(s:Shared)(X:Addr->Prop)(κ:List Addr)(σ:List Sto)(env:Env)(ρ:ar):Prop where
 S:St X s.heap
 T:dL s.heap X κ σ
 R:pI s.heap X κ env ρ
 pos:G.z<=s.toks
theorem Al.gr(a:Al s X κ σ env ρ)(g:Gr X s s')(j:G.z<=s'.toks):Al s' X κ σ env ρ:=
 ⟨a.S.gr g,a.T.gr a.S.tab a.S.xp g,a.R.gr a.S.xp g,j⟩
omit [GlOk] in
theorem Al.rep(a:Al s X κ σ env ρ)(g:Gr X s s')(r:Rep s.heap X κ v d):Rep s'.heap X κ v d:=g.rep a.S.xp r
noncomputable def EvT(F:Nat->List PV->Option PV)(nc k:Nat):Prop:=
 ∀(σ:List Sto) kt sc e pe ρ d,tr kt sc e=some pe->ev F σ k pe ρ=some d->∀A env X κ s,AOk nc A->env.scope=sc->Al s X κ σ env ρ->
  wpAny (model prog w) A (eval e env) (Pt X κ s d) No s
omit [GlOk] in
theorem Pt.mono(g:Gr X s s')(p:Pt X κ s' d v s''):Pt X κ s d v s'':=⟨g.trans p.1,p.2⟩
theorem bR(g:EvT F nc k)(j:tr kt sc e=some pe)(hd:ev F σ k pe ρ=some d)
 (a:AOk nc A) (m:env.scope=sc) (al:Al s X κ σ env ρ)
 (h:∀v s',Gr X s s'->Al s' X κ σ env ρ->Rep s'.heap X κ v d->Q v s'):wpAny (model prog w) A (eval e env) Q No s:=
 Wm (wpAny_toks (g σ kt sc e pe ρ d j hd A env X κ s a m al)) (λv s' p=>h v s' p.2.1 (al.gr p.2.1 (Nt al.pos p.1)) p.2.2) λu u f=>f.2
omit [GlOk] in
theorem iF(r:Rep s.heap X κ v d)(j:Internal.truthy d=some b)(h:Q b s):wpAny (model prog w) A (PySem.truthy v) Q No s:=by
 have r:=r.inv;rw[gC j]at r;rw[show v=_ from r];exact wpAny_truthy_bool h
noncomputable def okE:Expr->Bool
 |.Starred ..=>false
 |.Slice ..=>false
 |.Set ..=>false
 |_=>true
omit [GlOk] in
theorem gv(h:tr kt sc e=some pe):okE e=true:=by
 cases kt with
 |zero=>exact no h
 |succ kt=>cases e<;>first|rfl|exact no h
omit [GlOk] in
theorem dC(h:okE e=true)(j:List Expr)(env:Env):starEach (e::j) env=(false,eval e env)::starEach j env:=by
 cases e<;>first|rfl|exact nf h
theorem et(b:EvT F nc k)(a:AOk nc A)(L:env.scope=sc)(pos:Pos):
 ∀(g:List Expr) (j:List PE) (ds:List PV) (s:Shared) (Q:List Value->Shared->Prop),g.mapM (tr kt sc)=some j->j.mapM (λe=>ev F σ k e ρ)=some ds->Al s X κ σ env ρ->
  (∀vs s',Gr X s s'->Al s' X κ σ env ρ->aY s'.heap X κ vs ds->Q vs s')->wpAny (model prog w) A (spliced (backTo pos (starEach g env))) Q No s:=by
 intro g;induction g with
 |nil=>
  intro j ds s Q h1 h2 al h;obtain rfl:=mn h1;obtain rfl:=mn h2;exact Wp (h [] s (Gr.refl al.S.tab) al .nil)
 |cons e g f=>
  intro j ds s Q h1 h2 al h;refine hid λK l=>?_;refine mck h1 λp ps c m q=>?_;clear h1;subst q;refine mck h2 λd y hd t u=>?_;subst u;refine l ?_;clear l K;rw[dC (gv c)];show wpAny _ _ (spliced ((false,eval e env)::backTo pos (starEach g env))) _ _ _;unfold spliced;refine Wb (bR b c hd a L al λv n o z M=>?_);rw[if_neg Bool.false_ne_true];refine Wb (Wp (Wb (wpAny_holding (f ps y n _ m t z λvs x i r J=>?_))));exact Wp (h (v::vs) x (o.trans i) r (.cons (i.rep al.S.xp M) J))
end
noncomputable def IsT(F:Nat->List PV->Option PV)(nc k:Nat):Prop:=
 ∀(σ:List Sto) kt sc e pe ρ d b,tr kt sc e=some pe->ev F σ k pe ρ=some d->Internal.truthy d=some b->∀A env X κ s,AOk nc A->env.scope=sc->Al s X κ σ env ρ->
  wpAny (model prog w) A (PySem.isTrue e env (eval e env)) (λr s'=>Gr X s s'/\r=b) No s
section
variable{A:Around}{s:Shared}{X:Addr->Prop}{κ:List Addr}{σ:List Sto}{env:Env}{ρ:ar}[GlOk]
 {F:Nat->List PV->Option PV} {nc k kt:Nat} {sc:Scope} {d:PV} {pos:Pos}
theorem ly(q:EvT F nc k)(a:AOk nc A)(t:env.scope=sc)(y:tr kt sc e=some p)(i:f=λe=>ev F σ k e ρ)(al:Al s X κ σ env ρ)(g:f p=some d1)(l:Internal.truthy d1=some b)
 (z:b=(op==.And)->∀m,Gr X s m->Al m X κ σ env ρ->wpAny (model prog w) A (boolOp pos op (evalEach (e2::es) env)) (Pt X κ s d) No m) (no:b≠(op==.And)->d1=d) :
 wpAny (model prog w) A (boolOp pos op (evalEach (e::e2::es) env)) (Pt X κ s d) No s:=by
 subst i;refine Wb (bR q y g a t al λv m r j c=>Wb (wpAny_standAt (Wb (wpAny_holding (iF c l ?_)))));have u:=λh=>z h m r j;clear q a t y al l z g j;cases op<;>cases b<;>first|exact u rfl|(obtain rfl:=no nofun;exact Wp ⟨r,c⟩)
theorem vf(q:EvT F nc k)(a:AOk nc A)(n:env.scope=sc)(c:BoolOp):
 ∀(vs:List Expr) (j:List PE) (d:PV) (s:Shared),vs.mapM (tr kt sc)=some j->cA (λe=>ev F σ k e ρ) (c==.And) j=some d->Al s X κ σ env ρ->
  wpAny (model prog w) A (boolOp pos c (evalEach vs env)) (Pt X κ s d) No s:=by
 intro vs;induction vs with
 |nil=>intro j d s h1 h2 al;obtain rfl:=mn h1;exact no h2
 |cons e x J=>
  intro j d s h1 h2 al;refine hid λi m=>?_;refine mck h1 λp ps t g l=>?_;clear h1;subst l;refine m ?_;clear m i;cases x with
  |nil=>obtain rfl:=mn g;exact q σ kt sc e p ρ d t h2 A env X κ s a n al
  |cons S x=>
   refine hid λi m=>?_;refine mck g λp2 M P O z=>?_;subst z;refine wbb (show(Option.bind _ _)=some d from h2) λd1 b h2 y o=>?_;refine m ?_;clear m i;by_cases hc:b=(c==.And)
   ·rw[if_pos hc]at h2;exact ly q a n t rfl al y o (λu K L r=>Wm (J _ d K g h2 r) (λv R p=>p.mono L) λu u f=>f) λh=>absurd hc h
   ·rw[if_neg hc]at h2;exact ly q a n t rfl al y o (λh=>absurd h hc) λu=>Option.some.inj h2
theorem zx(e:EvT F nc k)(a:AOk nc A)(b:env.scope=sc)(al:Al s X κ σ env ρ)(hl:tr kt sc l=some pl)(o:tr kt sc r=some pr)
 (hd:ev F σ (k+1) (.bin op pl pr) ρ=some d):wpAny (model prog w) A (eval (.BinOp l op r pos) env) (Pt X κ s d) No s:=by
 refine hid λM c=>?_;refine obk (show(Option.bind _ _)=some d from hd) λn hd j=>?_;refine obk j λR j t=>?_;refine obk hd λh J g=>?_;refine obk g λU g q=>?_;refine c ?_;clear c M;refine wpAny_BinOp (bR e hl t a b al λv O x z K=>bR e o q a b z λu P i m L=>?_);refine Wm (y2 a m.S (aC m.T (z.rep i K) j) (aC m.T L g) J) (λv W p=>p.mono (x.trans i)) λy y f=>f
theorem zQ(y:EvT F nc k)(a:AOk nc A)(q:env.scope=sc)(al:Al s X κ σ env ρ)(hl:tr kt sc l=some pl)
 (hd:ev F σ (k+1) (.neg pl) ρ=some d):wpAny (model prog w) A (eval (.UnaryOp .USub l pos) env) (Pt X κ s d) No s:=by
 obtain⟨e,m,r⟩:=ob (show(Option.bind _ _)=some d from hd);clear hd;obtain⟨i,u,rfl⟩:=om r;refine wpAny_UnaryOp (bR y hl m a q al λv c z g j=>?_);have j:=j.inv;rw[aA u]at j;obtain⟨t,rfl⟩:=j;exact neg_int ⟨z.trans (Gr.tok g.S.tab _),.int _ _⟩
theorem xZ(v:EvT F nc k)(a:AOk nc A)(z:env.scope=sc)(al:Al s X κ σ env ρ){j:List Expr}(hl:j.mapM (tr kt sc)=some pes)
 (hd:pes.mapM (λe=>ev F σ k e ρ)=some ds) (u:j.length<=1000):wpAny (model prog w) A (eval (.List j pos) env) (Pt X κ s (.list ds)) No s:=by
 refine wpAny_List_spliced (et v a z pos j pes ds s _ hl hd al λvs s' g m r=>?_);have q:=r.len;have t:pes.length=j.length:=be hl;have y:ds.length=pes.length:=be hd;refine⟨by rw[sizeLine_eq];exact xC u q t y,g.trans (Gr.push m.S.tab _ _),.newList m.S r _⟩
theorem wT(v:EvT F nc k)(a:AOk nc A)(z:env.scope=sc)(al:Al s X κ σ env ρ){j:List Expr}(hl:j.mapM (tr kt sc)=some pes)
 (hd:pes.mapM (λe=>ev F σ k e ρ)=some ds) (u:j.length<=1000):wpAny (model prog w) A (eval (.Tuple j n pos) env) (Pt X κ s (.tuple ds)) No s:=by
 refine wpAny_Tuple_spliced (et v a z pos j pes ds s _ hl hd al λvs s' g m r=>?_);have q:=r.len;have t:pes.length=j.length:=be hl;have y:ds.length=pes.length:=be hd;refine⟨by rw[sizeLine_eq];exact xC u q t y,g.trans (Gr.push m.S.tab _ _),.newTuple m.S r _⟩
theorem Ae(q:EvT F nc k)(z:IsT F nc k)(a:AOk nc A)(m:env.scope=sc)(al:Al s X κ σ env ρ)(hc:tr kt sc c=some pc)(J:tr kt sc x=some px)(n:tr kt sc y=some py)
 (hd:ev F σ (k+1) (.ite pc px py) ρ=some d):wpAny (model prog w) A (eval (.IfExp c x y pos) env) (Pt X κ s d) No s:=by
 refine wbb (show(Option.bind _ _)=some d from hd) λi b h j t=>?_;refine wpAny_IfExp (Wm (wpAny_toks (z σ kt sc c pc ρ i b hc j t A env X κ s a m al)) (λr l ⟨tk,g,e⟩=>?_) λu u f=>f.2);clear z hc hd j t;subst e;cases r with
 |true=>
  replace h:=(if_pos rfl).symm.trans h;rw[if_pos rfl];exact Wm (q σ kt sc x px ρ d J h A env X κ l a m (al.gr g (Nt al.pos tk))) (λv o p=>p.mono g) λu u f=>f
 |false=>
  replace h:=(if_neg Bool.false_ne_true).symm.trans h;rw[if_neg Bool.false_ne_true];exact Wm (q σ kt sc y py ρ d n h A env X κ l a m (al.gr g (Nt al.pos tk))) (λv o p=>p.mono g) λu u f=>f
theorem wH(z:IsT F nc k)(a:AOk nc A)(q:env.scope=sc)(al:Al s X κ σ env ρ)(hc:tr kt sc c=some pc)(J:tr kt sc x=some px)(n:tr kt sc y=some py)
 (hd:ev F σ (k+1) (.ite pc px py) ρ=some d) (j:Internal.truthy d=some b'):wpAny (model prog w) A (PySem.isTrue (.IfExp c x y pos) env whole) (λr s'=>Gr X s s'/\r=b') No s:=by
 refine wbb (show(Option.bind _ _)=some d from hd) λi b h g t=>?_;rw[arm_isTrue_IfExp];refine Wb (Wm (wpAny_toks (z σ kt sc c pc ρ i b hc g t A env X κ s a q al)) (λr l ⟨tk,m,e⟩=>?_) λu u f=>f.2);clear hc hd g t;subst e;cases r with
 |true=>
  replace h:=(if_pos rfl).symm.trans h;rw[if_pos rfl];exact Wm (z σ kt sc x px ρ d b' J h j A env X κ l a q (al.gr m (Nt al.pos tk))) (λv o p=>⟨m.trans p.1,p.2⟩) λu u f=>f
 |false=>
  replace h:=(if_neg Bool.false_ne_true).symm.trans h;rw[if_neg Bool.false_ne_true];exact Wm (z σ kt sc y py ρ d b' n h j A env X κ l a q (al.gr m (Nt al.pos tk))) (λv o p=>⟨m.trans p.1,p.2⟩) λu u f=>f
omit [GlOk] in
theorem Ax(y:IsT F nc k)(l:EvT F nc k)(a:AOk nc A)(q:env.scope=sc)(al:Al s X κ σ env ρ)(hc:tr kt sc c=some pc)
 (hd:ev F σ (k+1) (.not pc) ρ=some d) (j:Internal.truthy d=some b'):wpAny (model prog w) A (PySem.isTrue (.UnaryOp .Not c pos) env whole) (λr s'=>Gr X s s'/\r=b') No s:=by
 refine wbm (show(Option.bind _ _)=some d from hd) λv b m g t=>?_;subst m;(replace j:=si j;subst j)
 exact wpAny_isTrue_Not (Wm (y σ kt sc c pc ρ v b hc g t A env X κ s a q al) (λr i ⟨z,e⟩=>⟨z,by rw[e]⟩) λu u f=>f)
theorem yu(u:EvT F nc k)(a:AOk nc A)(z:env.scope=sc)(al:Al s X κ σ env ρ)(hl:tr kt sc l=some pl)
 (hd:ev F σ (k+1) (.not pl) ρ=some d):wpAny (model prog w) A (eval (.UnaryOp .Not l pos) env) (Pt X κ s d) No s:=by
 refine wbm (show(Option.bind _ _)=some d from hd) λt b j g q=>?_;clear hd;subst j;exact wpAny_UnaryOp (bR u hl g a z al λv e y m r=>not_of (iF r q ⟨y,.bool _⟩))
omit [GlOk] in
theorem sk(h:okE e=true):behindInMarks op e=false:=by
 cases e<;>first|rfl|exact nf h
omit [GlOk] in
theorem lX:∀(ops:List CmpOp) (g:List Expr),(∀e∈g,okE e=true)->∀j:List (Sem Value),markedEach ops g j=j:=by
 intro ops;induction ops with
 |nil=>intro g _ j;rfl
 |cons u ops y=>
  intro g h j;cases g with
  |nil=>cases ops<;>cases j<;>rfl
  |cons e g=>
   cases j with
   |nil=>cases ops<;>cases g<;>rfl
   |cons t j=>
    cases ops with
    |nil=>
     cases g with
     |nil=>
      cases j with
      |nil=>
       show[markedBehindIn u e t]=[t];unfold markedBehindIn;rw[sk (h e (.head _))]
      |cons z j=>rfl
     |cons q g=>rfl
    |cons m ops=>
     show t::markedEach (m::ops) g j=t::j;rw[y g (λe v=>h e (.tail _ v)) j]
omit [GlOk] in
theorem i6{j:List Expr}(h:j.mapM (tr kt sc)=some pes):∀e∈j,okE e=true:=λe g=>by
 refine ah (jN h e g) λp m=>?_;exact gv m
theorem ku(L:EvT F nc k)(a:AOk nc A)(P:env.scope=sc){m:Value}{o l:PV}{e:Expr}{p:PE}{n:CmpOp}{b:Bool}(K:tr kt sc e=some p)(t:ev F σ k p ρ=some l)(i:cU σ n o l=some b)(al:Al s X κ σ env ρ)(r:Rep s.heap X κ m o)
 {α:Type} {Q:α->Shared->Prop} {f:Value->Value->Sem α} (h:∀v g,Gr X s g->Al g X κ σ env ρ->Rep g.heap X κ v l->wpAny (model prog w) A (f v (.bool b)) Q No g) :
 wpAny (model prog w) A (do
  let rv <- holding [m] (eval e env);standAt pos
  let c <- holding [m,rv] (compareOp n m rv);f rv c) Q No s:=by
 refine wbb i λO M i y z=>?_;refine Wb (wpAny_holding (bR L K t a P al λv R x j J=>Wb (wpAny_standAt (Wb (wpAny_holding ?_)))));refine Wm (wpAny_toks (p5 a j.S.tab (aC j.T (al.rep x r) y) (aC j.T J z) i)) (λc g q=>?_) λu u f=>f.2;rw[q.2.2];exact h v g (x.trans q.2.1) (j.gr q.2.1 (Nt j.pos q.1)) (j.rep q.2.1 J)
theorem q7(U:EvT F nc k)(a:AOk nc A)(Z:env.scope=sc):
 ∀(ops:List CmpOp) (m:List Expr) (l:List PE) (z:Value) (Y d:PV) (s:Shared),m.mapM (tr kt sc)=some l->nM (λe=>ev F σ k e ρ) σ Y ops l=some d->Al s X κ σ env ρ->Rep s.heap X κ z Y->
  wpAny (model prog w) A (compareChain pos z ops (evalEach m env)) (Pt X κ s d) No s/\
  (∀b,Internal.truthy d=some b->wpAny (model prog w) A (testChain pos z ops (evalEach m env)) (λr s'=>Gr X s s'/\r=b) No s):=by
 intro ops;induction ops with
 |nil=>intro m l z Y d s h1 h2 al r;exact no h2
 |cons op ops Q=>
  intro m l z Y d s h1 h2 al r;cases m with
  |nil=>obtain rfl:=mn h1;exact no h2
  |cons e m=>
   refine hid λgG gF=>?_;refine mck h1 λp ps W t C=>?_;clear h1;subst C;replace h2:=(ob (show(Option.bind _ _)=some d from h2))
   obtain⟨_,x,h2⟩:=h2;(replace x:=si x;subst x)
   replace h2:=ob h2;obtain⟨dr,i,h2⟩:=h2;replace h2:=ob h2;obtain⟨b,n,h2⟩:=h2;refine gF ?_;clear gF gG;cases ops with
   |nil=>
    refine oik ((if_pos rfl).symm.trans h2) λh2 E=>?_;(replace h2:=si h2;subst h2)
    cases m with
    |cons R m=>refine mck t λjc ja jb jd L=>?_;subst L;injection E
    |nil=>
     refine⟨?_,λb' j=>?_⟩
     ·show wpAny _ _ (holding [z] (eval e env) >>= λy=>standAt pos >>= λu=>operate [z,y] (compareOp op z y)) _ _ _;refine wbb n λB H n o J=>?_;refine Wb (wpAny_holding (bR U W i a Z al λv s₁ O g N=>Wb (wpAny_standAt (wpAny_operating ?_))));exact Wm (p5 a g.S.tab (aC g.T (al.rep O r) o) (aC g.T N J) n) (λv h q=>⟨O.trans q.1,by rw[q.2];exact .bool _⟩) λu u f=>f
     ·(replace j:=si j;subst j)
      refine wbb n λB H n o J=>?_;refine Wb (wpAny_holding (bR U W i a Z al λv s₁ O g N=>Wb (wpAny_standAt (Wb (wpAny_operating ?_)))));exact Wm (p5 a g.S.tab (aC g.T (al.rep O r) o) (aC g.T N J) n) (λv h q=>wpAny_holding (by rw[q.2];exact wpAny_truthy_bool ⟨O.trans q.1,rfl⟩)) λu u f=>f
   |cons M ops=>
    refine au (oe ((if_neg nofun).symm.trans h2)) λE h2=>?_;cases m with
    |nil=>obtain rfl:=mn t;exact absurd rfl E
    |cons R m=>
     refine⟨?_,λb' j=>?_⟩
     ·refine ku U a Z W i n al r (f:=λy c=>do
       release [z,y] [c]
       if <- holding [c,y] (PySem.truthy c)then compareChain pos y (M::ops) (evalEach (R::m) env)else pure c) λv h P K I=>Wb (wpAny_release (Wb (wpAny_holding (wpAny_truthy_bool ?_))))
      cases b with
      |true=>exact Wm (Q (R::m) ps v dr d h t ((if_pos rfl).symm.trans h2) K I).1 (λv h p=>p.mono P) λu u f=>f
      |false=>obtain rfl:=si ((if_neg Bool.false_ne_true).symm.trans h2);exact Wp ⟨P,.bool _⟩
     ·refine ku U a Z W i n al r (f:=λy c=>do
       release [z,y] [c]
       if <- holding [c,y] (PySem.truthy c)then testChain pos y (M::ops) (evalEach (R::m) env)else pure false) λv h P K I=>Wb (wpAny_release (Wb (wpAny_holding (wpAny_truthy_bool ?_))))
      cases b with
      |true=>exact Wm ((Q (R::m) ps v dr d h t ((if_pos rfl).symm.trans h2) K I).2 b' j) (λv h p=>⟨P.trans p.1,p.2⟩) λu u f=>f
      |false=>obtain rfl:=si ((if_neg Bool.false_ne_true).symm.trans h2);(replace j:=si j;subst j);exact Wp ⟨P,rfl⟩
theorem Aq(q:EvT F nc k)(a:AOk nc A)(t:env.scope=sc)(al:Al s X κ σ env ρ){m:List Expr}(hl:tr kt sc l=some pl)(z:m.mapM (tr kt sc)=some pes)
 (hd:ev F σ (k+1) (.cmp pl ops pes) ρ=some d):wpAny (model prog w) A (eval (.Compare l ops m pos) env) (Pt X κ s d) No s/\
  (∀j b,Internal.truthy d=some b->wpAny (model prog w) A (PySem.isTrue (.Compare l ops m pos) env j) (λr s'=>Gr X s s'/\r=b) No s):=by
 refine obk (show(Option.bind _ _)=some d from hd) λn h y=>?_;refine⟨?_,λj b x=>?_⟩
 ·rw[arm_eval_Compare,lX ops m (i6 z)];refine Wb (bR q hl y a t al λv i e g c=>?_);exact Wm (q7 q a t ops m pes v n d i z h g c).1 (λv o p=>p.mono e) λu u f=>f
 ·rw[arm_isTrue_Compare,lX ops m (i6 z)];refine Wb (bR q hl y a t al λv i e g c=>?_);exact Wm ((q7 q a t ops m pes v n d i z h g c).2 b x) (λv o p=>⟨e.trans p.1,p.2⟩) λu u f=>f
omit [GlOk] in
theorem hO(b:Bool)(h:wpAny (model prog w) A (eval e env) (Pt X κ s d) No s)(g:Internal.truthy d=some b)
 (j:PySem.isTrue e env (eval e env)=do let v <- eval e env;standAt e.pos;holding [v] (PySem.truthy v)) :
 wpAny (model prog w) A (PySem.isTrue e env (eval e env)) (λr s'=>Gr X s s'/\r=b) No s:=by
 rw[j];exact Wb (Wm h (λv m p=>Wb (wpAny_standAt (wpAny_holding (iF p.2 g ⟨p.1,rfl⟩)))) λu u f=>f)
theorem rp(L:IsT F nc k)(a:AOk nc A)(O:env.scope=sc)(i:BoolOp):
 ∀(vs:List Expr) (j:List PE) (d:PV) (b:Bool) (s:Shared),vs.mapM (tr kt sc)=some j->cA (λe=>ev F σ k e ρ) (i==.And) j=some d->Internal.truthy d=some b->Al s X κ σ env ρ->
  wpAny (model prog w) A (allTrue i vs env) (λr s'=>Gr X s s'/\r=b) No s:=by
 intro vs;induction vs with
 |nil=>intro j d b s h1 h2 n al;obtain rfl:=mn h1;exact no h2
 |cons e M P=>
  intro j d b s h1 h2 n al;refine mck h1 λp ps K g t=>?_;clear h1;subst t;rw[arm_allTrue_cons];cases M with
  |nil=>
   obtain rfl:=mn g;refine Wb (Wm (L σ kt sc e p ρ d b K h2 n A env X κ s a O al) (λr x q=>?_) λu u f=>f);refine au q λl c=>?_;subst c;cases i<;>cases r<;>exact Wp ⟨l,rfl⟩
  |cons B M=>
   refine hid λZ J=>?_;refine mck g λp2 Y W T z=>?_;subst z;refine wbb (show(Option.bind _ _)=some d from h2) λd1 R h2 o m=>?_;refine J ?_;clear J Z;refine Wb (Wm (wpAny_toks (L σ kt sc e p ρ d1 R K o m A env X κ s a O al)) (λr x q=>?_) λu u f=>f.2);refine bc q λtk l y=>?_;subst y;have S:=λh=>Wm (P _ d b x g h n (al.gr l (Nt al.pos tk))) (λv U p=>(⟨l.trans p.1,p.2⟩:Gr X s U/\v=b)) λu u f=>f;have no:d1=d->r=b:=λe=>Option.some.inj (m.symm.trans (e▸n));cases i<;>cases r<;>first|exact S h2|((replace h2:=si h2;subst h2);obtain rfl:=no rfl;exact Wp ⟨l,rfl⟩)
end
section
variable{A:Around}{s:Shared}{X:Addr->Prop}{κ:List Addr}{σ:List Sto}{env:Env}{ρ:ar}[GlOk]
 {F:Nat->List PV->Option PV} {nc k kt:Nat} {sc:Scope} {d:PV} {pos:Pos}
theorem mX(b:EvT F nc k)(a:AOk nc A)(o:env.scope=sc)(al:Al s X κ σ env ρ){oe:Option Expr}{r:Option PE}{oi:Option Int}(h1:trO (tr kt sc) oe=some r)(h2:evO (λe=>ev F σ k e ρ) r=some oi){Q:Value->Shared->Prop}
 (h:∀(p:Option (Int×Tok)) s',Gr X s s'->Al s' X κ σ env ρ->p.map (·.1)=oi->Q (partValue p) s'):wpAny (model prog w) A (evalPart oe env) Q No s:=by
 cases oe with
 |none=>(replace h1:=si h1;subst h1);(replace h2:=si h2;subst h2);exact wpAny_evalPart_none (h none s (Gr.refl al.S.tab) al rfl)
 |some e=>
  refine hid λn q=>?_;refine omk h1 λp y c=>?_;clear h1;subst y;refine wbm h2 λJ i u m l=>?_;subst u;refine q ?_;clear q n;refine wpAny_evalPart_some (bR b c m a o al λv x f g j=>?_);have j:=j.inv;rw[aA l]at j;refine ah j λt z=>?_;subst z;exact h (some (i,t)) x f g rfl
theorem oL(t:EvT F nc k)(a:AOk nc A)(e:env.scope=sc)(al:Al s X κ σ env ρ){v i:Expr}{Y K:PE}(Q:tr kt sc v=some Y)(Z:xm (tr kt sc) Y i=some K)
 (hd:ev F σ (k+1) K ρ=some d):wpAny (model prog w) A (eval (.Subscript v i pos) env) (Pt X κ s d) No s:=by
 by_cases g:∃lo h st p,i=.Slice lo h st p
 ·refine AT g λlo h st p C=>?_;subst C;refine hid λI n=>?_;refine iZ (show(Option.bind _ _)=some K from Z) λjb je ja U h1 h2 h3=>?_;subst U;refine obk (show(Option.bind _ _)=some d from hd) λE hd j=>?_;refine obk j λdv j r=>?_;refine pJ hd λjd jc jf g e1 e2 e3=>?_;refine n ?_;clear n I;refine Subscript_ (bR t Q r a e al λu s₁ B m H=>wpAny_Slice (mX t a e m h1 e1 λp1 s₂ J z q1=>mX t a e z h2 e2 λp2 s₃ N c q2=>mX t a e c h3 e3 λp3 L g₄ q q3=>?_));clear h1 h2 h3 e1 e2 e3;subst q1 q2 q3;let o:Obj:={cls:=.type "slice",data:=.fields #[partValue p1,partValue p2,partValue p3]}
  have P:Gr X L {L with heap:=L.heap.push o}:=Gr.push q.S.tab o L.toks;have b:=q.gr P q.pos;have r₅:=P.rep q.S.xp (g₄.rep c.S.xp (N.rep z.S.xp (J.rep m.S.xp H)));exact Wm (ug b.S (aC b.T r₅ j) (Heap.get?_push_size _ rfl) g) (λv s₆ p=>p.mono (B.trans (J.trans (N.trans (g₄.trans P))))) λy y f=>f
 ·have O:(tr kt sc i).map (.sub Y)=some K:=by
   cases i<;>first|exact Z|exact absurd ⟨_,_,_,_,rfl⟩ g
  clear Z g;refine hid λI n=>?_;refine omk O λpi M R=>?_;subst M;refine obk (show(Option.bind _ _)=some d from hd) λE hd j=>?_;refine obk j λdv j r=>?_;refine obk hd λdi l W=>?_;refine n ?_;clear n I;refine Subscript_ (bR t Q r a e al λu s₁ B m H=>bR t R W a e m λx s₂ J z r₂=>?_);exact Wm (th z.S (aC z.T (m.rep J H) j) r₂ l) (λv s₃ p=>p.mono (B.trans J)) λy y f=>f
theorem cN(u:EvT F nc k)(a:AOk nc A)(m:env.scope=sc)(f:Value)(al:Al s X κ σ env ρ){j:List Expr}(hl:j.mapM (tr kt sc)=some pes)
 (hd:pes.mapM (λe=>ev F σ k e ρ)=some ds)
 (h:∀vs s',Gr X s s'->Al s' X κ σ env ρ->aY s'.heap X κ vs ds->Q ⟨vs,[]⟩ s'):wpAny (model prog w) A (evalArgs f true (backTo pos (starEach j env)) []) Q No s:=by
 cases j with
 |nil=>
  obtain rfl:=mn hl;obtain rfl:=mn hd;exact PySem.evalArgs_none (h [] s (Gr.refl al.S.tab) al .nil)
 |cons e j=>
  have g:=dC (i6 hl e (.head _)) j env;have q:=et u a m pos (e::j) pes ds s (λvs s'=>Q ⟨vs,[]⟩ s') hl hd al h;rw[g]at q ⊢;exact evalArgs_plain q
omit [GlOk] in
theorem eD(h:∀e∈j,okE e=true):((backTo pos (starEach j env)).any λx=>x.1)=false:=by
 induction j with
 |nil=>rfl
 |cons e j m=>
  rw[dC (h e (.head _))];exact m λe g=>h e (.tail _ g)
noncomputable def FOk(F:Nat->List PV->Option PV)(nc:Nat):Prop:=
 (F 998 []=none->1<=G.z)/\∀f args d,f<nms.length->F f args=some d->∃a,G.fnv f=some a/\∀A X κ s vs,AOk nc A->St X s.heap->G.z<=s.toks->aY s.heap X κ vs args->wpAny (model prog w) A (call (.ref a) vs) (Pt X κ s d) No s
class FnOk:Prop extends GlOk where
 fnObj:∀i a,G.fnv i=some a->i≠cV->∃o fd,G.h0.get? a=some o/\o.data=.func fd
 clsAt:∀a,G.fnv cV=some a->a=G.C
 clsCall:∀{A:Around} {s:Shared} {pos:Pos} {args:List (Bool×Sem Value)} {Q:Value->Shared->Prop},(∀b o,G.h0.get? b=some o->s.heap.get? b=some o)->(args.any λx=>x.1)=false->
  wpAny (model prog w) A (evalArgs (.ref G.C) true args []) (λas s₁=>(∀b o,G.h0.get? b=some o->s₁.heap.get? b=some o)/\wpAny (model prog w) A (call (.ref G.C) as.pos as.kw) Q No s₁) No s->
  wpAny (model prog w) A (callWith pos (.ref G.C) [] args []) Q No s
section
variable{A:Around}{s:Shared}{X:Addr->Prop}{κ:List Addr}{σ:List Sto}{env:Env}{ρ:ar}[FnOk]
 {F:Nat->List PV->Option PV} {nc k kt:Nat} {sc:Scope} {d:PV} {pos:Pos}
theorem lv(n:FOk F nc)(i:EvT F nc k)(a:AOk nc A)(b:env.scope=sc)(al:Al s X κ σ env ρ){f:Nat}{l:Addr}{c:List Expr}{z:List PE}{ds:List PV}(y:G.fnv f=some l)(hl:c.mapM (tr kt sc)=some z)
 (t:z.mapM (λe=>ev F σ k e ρ)=some ds) (hd:F f ds=some d):wpAny (model prog w) A (callWith pos (.ref l) [] (backTo pos (starEach c env)) []) (Pt X κ s d) No s:=by
 by_cases hw:f=cV
 ·subst hw;have:=FnOk.clsAt l y;subst this;refine FnOk.clsCall al.S.base (eD (i6 hl)) (cN i a b _ al hl t λvs s' g m r=>⟨m.S.base,?_⟩);refine af (n.2 _ ds d (GlOk.fnvLt _ _ y) hd) λx j h=>?_;rw[y]at j;(replace j:=si j;subst j);exact Wm (h A X κ s' vs a m.S m.pos r) (λv J p=>p.mono g) λu u f=>f
 ·refine cb (FnOk.fnObj f l y hw) λo fd ho q=>?_;refine callWith_function (o:=o) (fd:=fd) (cN i a b _ al hl t λvs s' g m r=>⟨⟨m.S.base _ _ ho,q⟩,?_⟩);refine af (n.2 _ ds d (GlOk.fnvLt _ _ y) hd) λx j h=>?_;rw[y]at j;(replace j:=si j;subst j);exact Wm (h A X κ s' vs a m.S m.pos r) (λv J p=>p.mono g) λu u f=>f
omit [FnOk] in
theorem pR(l:EvT F nc k)(a:AOk nc A)(n:env.scope=sc)(al:Al s X κ σ env ρ){id:String}{b:Pos}{e:List Expr}{pa:PE}{q:PV}(t:isG sc (Str.ofString id)=true)
 (hid:(id=="len"||id=="max"||id=="sum"||id=="sorted")=true) (c:(Str.ofString id==Str.ofString "__debug__")=false)
 (hl:e.mapM (tr kt sc)=some [pa]) (j:ev F σ k pa ρ=some q)
 (h:∀v s',Gr X s s'->Al s' X κ σ env ρ->Rep s'.heap X κ v q->wpAny (model prog w) A (call (.builtin id) [v]) (Pt X κ s' d) No s') :
 wpAny (model prog w) A (eval (.Call (.Name (Str.ofString id) b) e [] pos) env) (Pt X κ s d) No s:=by
 subst n;have z:=GlOk.blt id hid;refine wpAny_Call_NameR (gh al.S al.R t c z.1 z.2 (callWith_builtin (eD (i6 hl)) (cN l a rfl _ al hl (ds:=[q]) (aw j rfl) λvs s' g y r=>?_)));refine af r.inv1 λv m i=>?_;clear l a al hid c j t hl z r;subst m;exact Wm (h _ s' g y i) (λv o p=>p.mono g) λu u f=>f
omit [FnOk] in
theorem ye(e:EvT F nc k)(a:AOk nc A)(b:env.scope=sc)(al:Al s X κ σ env ρ){id:String}{i:Pos}{t:List Expr}{pa:PE}{z:PV}(q:isG sc (Str.ofString id)=true)
 (hid:(id=="tuple"||id=="range"||id=="enumerate"||id=="zip")=true) (l:(Str.ofString id==Str.ofString "__debug__")=false)
 (hl:t.mapM (tr kt sc)=some [pa]) (j:ev F σ k pa ρ=some z) {Q:Value->Shared->Prop}
 (h:∀v s',Gr X s s'->Al s' X κ σ env ρ->Rep s'.heap X κ v z->wpAny (model prog w) A (call (.type id) [v]) Q No s') :
 wpAny (model prog w) A (eval (.Call (.Name (Str.ofString id) i) t [] pos) env) Q No s:=by
 subst b;have y:=GlOk.bty id hid;refine wpAny_Call_NameR (gh al.S al.R q l y.1 y.2 (PySem.callWith_type (eD (i6 hl)) (cN e a rfl _ al hl (ds:=[z]) (aw j rfl) λvs s' g m r=>?_)));refine af r.inv1 λv u c=>?_;clear e a al hid l j q hl y r;subst u;exact h _ s' g m c
omit [FnOk] in
theorem x5(i:EvT F nc k)(a:AOk nc A)(p:env.scope=sc)(al:Al s X κ σ env ρ){id:String}{o:Pos}{c:List Expr}{pa b:PE}{t e:PV}(l:isG sc (Str.ofString id)=true)
 (hid:(id=="tuple"||id=="range"||id=="enumerate"||id=="zip")=true) (f:(Str.ofString id==Str.ofString "__debug__")=false)
 (hl:c.mapM (tr kt sc)=some [pa,b]) (m:ev F σ k pa ρ=some t) (j:ev F σ k b ρ=some e) {Q:Value->Shared->Prop}
 (h:∀u v s',Gr X s s'->Al s' X κ σ env ρ->Rep s'.heap X κ u t->Rep s'.heap X κ v e->wpAny (model prog w) A (call (.type id) [u,v]) Q No s') :
 wpAny (model prog w) A (eval (.Call (.Name (Str.ofString id) o) c [] pos) env) Q No s:=by
 subst p;have q:=GlOk.bty id hid;refine wpAny_Call_NameR (gh al.S al.R l f q.1 q.2 (PySem.callWith_type (eD (i6 hl)) (cN i a rfl _ al hl (ds:=[t,e]) (aw m (aw j rfl)) λvs s' g z r=>?_)));refine aO r.inv2 λu v y n r2=>?_;clear i a al hid f m j l hl q r;subst y;exact h _ _ s' g z n r2
omit [GlOk] [FnOk] in
theorem vZ(h:jV.lookup x=some g):(x=("len":Str)/\g=one .len)\/(x=("sum":Str)/\g=one .sum)\/(x=("tuple":Str)/\g=one .tup)\/(x=("max":Str)/\g=λas=>(one .max1 as).or (two .max2 as)):=by
 have key:∀l:List (Str×(List PE->Option PE)),l.lookup x=some g->(x,g)∈l:=by
  intro l;induction l with
  |nil=>intro h;exact no h
  |cons p r j=>
   intro h;rw[List.lookup]at h;split at h
   ·rename_i e;(replace h:=si h;subst h);rw[eq_of_beq e];exact .head _
   ·exact .tail _ (j h)
 simpa [jV]using key _ h
omit [FnOk] in
theorem zP(P:EvT F nc k)(a:AOk nc A)(H:env.scope=sc)(al:Al s X κ σ env ρ){x:Str}{np:Pos}{es:List Expr}{as:List PE}{pe:PE}{g:List PE->Option PE}(hl:es.mapM (tr kt sc)=some as)(Z:isG sc x=true)
 (hx:jV.lookup x=some g) (o:g as=some pe) (hd:ev F σ (k+1) pe ρ=some d):wpAny (model prog w) A (eval (.Call (.Name x np) es [] pos) env) (Pt X κ s d) No s:=by
 rcases vZ hx with⟨rfl,rfl⟩|⟨rfl,rfl⟩|⟨rfl,rfl⟩|⟨rfl,rfl⟩
 ·refine af (fQ o) λpa Q jf=>?_;subst Q;subst jf;refine hid λb e=>?_;refine obk (show(Option.bind _ _)=some d from hd) λL hd c=>?_;refine obk c λN c q=>?_;refine e ?_;clear e b;exact pR P a H al Z (by decide) (by decide +kernel) hl q λv s' g z r=>len_ok z.S (aC z.T r c) hd
 ·refine af (fQ o) λpa jc ja=>?_;subst jc;subst ja;refine hid λb e=>?_;refine obk (show(Option.bind _ _)=some d from hd) λL hd c=>?_;refine obk c λN c q=>?_;refine obk hd λis h n=>?_;refine af (kq n) λl K n=>?_;subst K;refine e ?_;clear e b;exact pR P a H al Z (by decide) (by decide +kernel) hl q λv s' g z r=>ym a.hd z.S (aC z.T r c) n h
 ·refine af (fQ o) λpa J B=>?_;subst J;subst B;refine hid λb e=>?_;refine obk (show(Option.bind _ _)=some d from hd) λL hd c=>?_;refine obk c λN c q=>?_;refine obk hd λl h n=>?_;obtain rfl:=bN n;refine oik h λh hsz=>?_;(replace h:=si h;subst h)
  refine e ?_;clear e b;exact ye P a H al Z (by decide) (by decide +kernel) hl q λv s' g z r=>Wm (yA z.S (aC z.T r c) hsz) (λv s₂ p=>p.mono g) λy y f=>f
 ·rcases oor o with o|o
  ·refine af (fQ o) λpa C Y=>?_;subst C;subst Y;refine hid λb e=>?_;refine obk (show(Option.bind _ _)=some d from hd) λL hd c=>?_;refine obk c λN c q=>?_;refine wbm hd λis m K n je=>?_;subst K;refine af (kq n) λl E jb=>?_;subst E;refine e ?_;clear e b;exact pR P a H al Z (by decide) (by decide +kernel) hl q λv s' g z r=>vI a.hd z.S (aC z.T r c) jb je
  ·refine cb (qG o) λpa pb O W=>?_;subst O;subst W;refine hid λb e=>?_;refine zR (show(Option.bind _ _)=some d from hd) λN i db j J q n jd hj=>?_;subst J;obtain rfl:=aA n;obtain rfl:=aA hj;refine e ?_;clear e b;subst H;have hb:=GlOk.blt "max" (by decide);refine wpAny_Call_NameR (gh al.S al.R Z (by decide +kernel) hb.1 hb.2 (callWith_builtin (eD (i6 hl)) (cN P a rfl _ al hl (aw q (aw jd rfl)) λvs s' g z r=>?_)));refine hid λb e=>?_;refine aO r.inv2 λu v I r1 r2=>?_;subst I;refine ah r1.inv λt U=>?_;subst U;refine ah r2.inv λt' M=>?_;subst M;refine e ?_;clear e b;exact Wm (vq a.hd z.S) (λv s₂ p=>p.mono g) λy y f=>f
theorem o6(M:FOk F nc)(o:EvT F nc k)(a:AOk nc A)(L:env.scope=sc)(al:Al s X κ σ env ρ){x:Str}{U:Pos}{T:List Expr}{as:List PE}{O:PE}
 (hl:T.mapM (tr kt sc)=some as) (m:m6 sc x as=some O) (hd:ev F σ (k+1) O ρ=some d):wpAny (model prog w) A (eval (.Call (.Name x U) T [] pos) env) (Pt X κ s d) No s:=by
 unfold m6 at m;by_cases hg:isG sc x=true
 ·rw[if_pos hg]at m;cases hx:jV.lookup x with
  |some g=>rw[hx]at m;exact zP o a L al hl hg hx m hd
  |none=>
   rw[hx]at m;clear hx;refine hid λK r=>?_;refine au (oe m) λy m=>?_;refine omk m λf e b=>?_;subst e;refine obk (show(Option.bind _ _)=some d from hd) λds hd z=>?_;refine au (bV b) λt j=>?_;subst t;refine af (M.2 f ds d j hd) λB i W=>?_;refine r ?_;clear r K;subst L;exact wpAny_Call_NameR (ez al.S al.R hg (cL _ (ft j)).1 (GlOk.gfn f B i ((lG j).trans (Bool.eq_false_iff.mpr y))) (lv M o a rfl al i hl z hd))
 ·rw[if_neg hg]at m;clear hg;refine hid λK r=>?_;refine wim m λf c Z b=>?_;subst c;refine pJ (show(Option.bind _ _)=some d from hd) λQ I ds E n h z=>?_;obtain rfl:=ul h;refine r ?_;clear r K;refine wpAny_Call_NameR (Wm (wpAny_toks (eA al.S al.R b n)) (λv H q=>?_) λu u f=>f.2);refine bc q λtk P C=>?_;refine af C.inv λY l J=>?_;subst l;exact Wm (lv M o a L (al.gr P (Nt al.pos tk)) J hl z E) (λv N p=>p.mono P) λu u f=>f
end
end
structure Fm(s₀:Shared)(XA:Addr->Prop)(V:List Addr)(own:Str->Bool)(env:Env)(κ:List Addr)(σ:List Sto)(ρ:ar)(s:Shared):Prop where
 same:∃h tk,s={s₀ with heap:=h,toks:=tk}
 keep:∀b o,b≠G.P->s₀.heap.get? b=some o->s.heap.get? b=some o
 fresh:∀a∈V,s₀.heap.get? a=none
 x0:∀a,XA a->∃o,s₀.heap.get? a=some o
 xp:XA G.P
 al:Al s (λa=>XA a\/a∈V) κ σ env ρ
 loc:env.locals∈V
 st:∀n,own n=true->env.kindOf n=some .local\/(env.kindOf n=some .cell/\∃c v,c∈V/\env.cells.lookup n=some c/\s.heap.IsCell c v)
 ap:∀n n' c,own n=true->env.cells.lookup n=some c->env.cells.lookup n'=some c->n=n'
 lc:∀n c,env.cells.lookup n=some c->c≠env.locals
 ce:∀n c,env.cells.lookup n=some c->c≠G.P/\∃o,s.heap.get? c=some o
 kl:∀a∈κ,a≠env.locals/\∀n c,env.cells.lookup n=some c->a≠c
 kd:∀a∈κ,∀o dx,s.heap.get? a=some o->o.dict=some dx->dx≠env.locals/\∀n c,env.cells.lookup n=some c->dx≠c
section
variable{A:Around}{s s₀:Shared}{XA:Addr->Prop}{V:List Addr}{own:Str->Bool}{κ:List Addr}{σ:List Sto}{env:Env}{ρ:ar}[GxOk]
noncomputable abbrev XV(XA:Addr->Prop)(V:List Addr):Addr->Prop:=λa=>XA a\/a∈V
theorem St.write(S:St X h)(v:X a)(y:a≠G.P)(j:Heap.SameBut a h h')(g:∃o,h'.get? a=some o):St X h' where
 base:=λb o e=>(j.2 b (λx=>S.low b o e (x▸v))).trans (S.base b o e)
 low:=S.low
 ex:=λb m=>by
  by_cases e:b=a
  ·subst e;exact g
  ·refine ah (S.ex b m) λo ho=>?_;exact⟨o,(j.2 b e).trans ho⟩
 xp:=S.xp
 tab:=GxOk.tabMove _ _ X X (λb o m u e=>⟨(j.2 b (λx=>u (x▸v))).trans e,u⟩) (λo e=>(j.2 _ (Ne.symm y)).trans e) S.tab
omit [GxOk] in
theorem Rep.write(r:Rep h X κ v d)(g:X a)(m:Heap.SameBut a h h'):Rep h' X κ v d:=
 r.keeps λb o j e=>(m.2 b (λx=>j (x▸g))).trans e
omit [GxOk] in
theorem aT.write(r:aY h X κ v d)(g:X a)(m:Heap.SameBut a h h'):aY h' X κ v d:=
 r.keeps λb o j e=>(m.2 b (λx=>j (x▸g))).trans e
omit [GxOk] in
theorem Shw.write(r:Shw h X κ v d)(z:X a)(m:Heap.SameBut a h h')
 (y:∀b,v=.ref b->b≠a) (g:∀b o dx,v=.ref b->h.get? b=some o->o.dict=some dx->dx≠a):Shw h' X κ v d:=
 r.moveG (λb o j e=>⟨(m.2 b (λx=>j (x▸z))).trans e,j⟩) (λu u e=>e) λb j o e u=>⟨(m.2 _ (y b j)).trans e,λdx hd t q u=>(m.2 _ (g b o dx j e hd)).trans q⟩
omit [GxOk] in
theorem dL.write(T:dL h X κ σ)(v:X a)(g:Heap.SameBut a h h')(m:∀b∈κ,b≠a)(hd:∀b∈κ,∀o dx,h.get? b=some o->o.dict=some dx->dx≠a):dL h' X κ σ:=
 ⟨T.len,λn x b h1 h2=>(T.at_ n x b h1 h2).write v g (λc e=>by cases e;exact m _ (List.mem_of_getElem? h2)) λc o dx e j u=>by cases e;exact hd _ (List.mem_of_getElem? h2) o dx j u⟩
omit [GxOk] in
theorem dD(h:y≠x):List.lookup y ((x,d)::ρ)=ρ.lookup y:=by
 have:(y==x)=false:=by simpa using h
 simp[List.lookup,this]
omit [GxOk] in
theorem fg:List.lookup x ((x,d)::ρ)=some d:=by simp[List.lookup]
theorem Fm.storeK(f:Fm s₀ XA V own env κ σ ρ s)(H:x<nms.length)(ho:own (nm x)=true)(r:Rep s.heap (XV XA V) κ v d):
 wpAny (model prog w) A (storeName env (nm x) v) (λu s'=>Fm s₀ XA V own env κ σ ((x,d)::ρ) s'/\(∀b,b∉V->s'.heap.get? b=s.heap.get? b)/\
  (∀b,b≠env.locals->(∀n c,env.cells.lookup n=some c->b≠c)->s'.heap.get? b=s.heap.get? b)/\s.toks<=s'.toks/\(env.kindOf (nm x)=some .local->∃m,s'.heap.Ns env.locals m/\m (nm x)=some v)) No s:=by
 refine bx f.same λh₁ jb O=>?_;refine af f.al.R.vars λm N Q=>?_;have k:XV XA V env.locals:=.inr f.loc;rcases f.st _ ho with hl|⟨hc,c,v₀,U,t,l⟩
 ·refine wpAny_storeName_local hl N (λh' M j=>?_) (by rw[f.al.R.kind];simp);have i:∃o,h'.get? env.locals=some o:=let⟨o,_,_,e,_⟩:=M;⟨o,e⟩;have I:env.locals≠G.P:=f.al.R.loc;refine⟨⟨⟨h',s.toks+1,by rw[O]⟩,λb o z e=>(j.2 b (λx=>by have:=f.fresh _ f.loc;rw[<- x,e]at this;injection this)).trans (f.keep b o z e),f.fresh,f.x0,f.xp,
   ⟨f.al.S.write k I j i,f.al.T.write k j (λb z=>(f.kl b z).1) (λb z o dx h1 h2=>(f.kd b z o dx h1 h2).1),?_,Nat.le_succ_of_le f.al.pos⟩,f.loc,?_,f.ap,f.lc,λn c h=>⟨(f.ce n c h).1,let⟨o,ho⟩:=(f.ce n c h).2;⟨o,(j.2 _ (f.lc _ _ h)).trans ho⟩⟩,f.kl,?_⟩,?_,?_,Nat.le_succ _,λu=>⟨_,M,by simp⟩⟩
  ·refine⟨f.al.R.kind,f.al.R.glob,f.al.R.bui,f.al.R.loc,λn E=>let⟨c,h1,h2,v,B⟩:=f.al.R.cl n E;⟨c,h1,h2,v,B.sameBut j (f.lc _ _ h1)⟩,_,M,λy d' e=>?_⟩;by_cases hyx:y=x
   ·clear M I;subst hyx;rw[fg]at e;(replace e:=si e;subst e);exact⟨H,v,r.write k j,.inl ⟨hl,by simp⟩⟩
   ·rw[dD hyx]at e;obtain⟨K,C,r',h⟩:=Q y d' e;have Z:nm y≠nm x:=λe=>hyx (m8 K H e);refine⟨K,C,r'.write k j,h.imp (λq=>⟨q.1,by simp only[if_neg Z];exact q.2⟩) λ⟨q,c,hc,h1,h2⟩=>⟨q,c,hc,h1,h2.sameBut j (f.lc _ _ h1)⟩⟩
  ·intro n L;rcases f.st n L with q|⟨q,c,v₀,h1,h2,B⟩
   ·exact .inl q
   ·exact .inr ⟨q,c,v₀,h1,h2,B.sameBut j (f.lc _ _ h2)⟩
  ·intro a F o dx h1 h2;exact f.kd a F o dx ((j.2 a (f.kl a F).1).symm.trans h1) h2
  ·intro b z;exact j.2 b λe=>z (e▸f.loc)
  ·intro b z _;exact j.2 b z
 ·have J:XV XA V c:=.inr U;refine wpAny_storeName_cell f.al.R.kind hc t l λh' g j=>?_;have i:∃o,h'.get? c=some o:=let⟨o,e,_⟩:=g;⟨o,e⟩;have W:c≠G.P:=by
   rintro rfl
   refine ah (f.x0 _ f.xp) λo e=>?_;rw[f.fresh _ U]at e;exact no e
  have Y:c≠env.locals:=f.lc _ _ t;refine⟨⟨⟨h',s.toks,by rw[O]⟩,λb o z e=>(j.2 b (λx=>by have:=f.fresh _ U;rw[<- x,e]at this;injection this)).trans (f.keep b o z e),f.fresh,f.x0,f.xp,
   ⟨f.al.S.write J W j i,f.al.T.write J j (λb z=>(f.kl b z).2 _ _ t) (λb z o dx h1 h2=>(f.kd b z o dx h1 h2).2 _ _ t),?_,f.al.pos⟩,f.loc,?_,f.ap,f.lc,λn p h=>⟨(f.ce n p h).1,by by_cases e:p=c;(subst e;exact i);(exact let⟨o,ho⟩:=(f.ce n p h).2;⟨o,(j.2 _ e).trans ho⟩)⟩,f.kl,?_⟩,?_,?_,Nr _,λh=>by rw[hc]at h;cases h⟩
  ·refine⟨f.al.R.kind,f.al.R.glob,f.al.R.bui,f.al.R.loc,λn E=>let⟨p,h1,h2,C,B⟩:=f.al.R.cl n E;(if e:p=c then⟨p,h1,h2,_,e▸g⟩else⟨p,h1,h2,C,B.sameBut j e⟩),m,N.sameBut j (Ne.symm Y),λy d' e=>?_⟩;by_cases hyx:y=x
   ·clear O N k l i Y;subst hyx;rw[fg]at e;(replace e:=si e;subst e);exact⟨H,v,r.write J j,.inr ⟨.inl hc,c,W,t,g⟩⟩
   ·rw[dD hyx]at e;obtain⟨K,C,r',h⟩:=Q y d' e;have Z:nm y≠nm x:=λe=>hyx (m8 K H e);refine⟨K,C,r'.write J j,h.imp id λ⟨q,p,ja,h1,h2⟩=>⟨q,p,ja,h1,h2.sameBut j ?_⟩⟩;rintro rfl
    exact Z (f.ap _ _ _ ho t h1).symm
  ·intro n L;rcases f.st n L with q|⟨q,p,C,h1,h2,B⟩
   ·exact .inl q
   ·by_cases e:p=c
    ·clear H ho r O N Q k hc l J i W Y L;subst e;exact .inr ⟨q,p,_,h1,h2,g⟩
    ·exact .inr ⟨q,p,C,h1,h2,B.sameBut j e⟩
  ·intro a F o dx h1 h2;exact f.kd a F o dx ((j.2 a ((f.kl a F).2 _ _ t)).symm.trans h1) h2
  ·intro b z;exact j.2 b λe=>z (e▸U)
  ·intro b _ z;exact j.2 b (z _ _ t)
theorem Fm.store(f:Fm s₀ XA V own env κ σ ρ s)(j:x<nms.length)(ho:own (nm x)=true)(r:Rep s.heap (XV XA V) κ v d):
 wpAny (model prog w) A (storeName env (nm x) v) (λu s'=>Fm s₀ XA V own env κ σ ((x,d)::ρ) s'/\(∀b,b∉V->s'.heap.get? b=s.heap.get? b)/\
  (∀b,b≠env.locals->(∀n c,env.cells.lookup n=some c->b≠c)->s'.heap.get? b=s.heap.get? b)/\s.toks<=s'.toks) No s:=
 Wm (f.storeK j ho r) (λu u q=>⟨q.1,q.2.1,q.2.2.1,q.2.2.2.1⟩) λu u f=>f
end
noncomputable def Kp(V:List Addr)(s s':Shared):Prop:=(∃h' tk,s'={s with heap:=h',toks:=tk})/\∀b o,b∉V->b≠G.P->s.heap.get? b=some o->s'.heap.get? b=some o
theorem Kp.refl:Kp V s s:=⟨⟨_,_,rfl⟩,λu u u u e=>e⟩
theorem Kp.trans(a:Kp V s s')(b:Kp V s' s''):Kp V s s'':=by
 obtain⟨⟨h1,y,rfl⟩,u⟩:=a;obtain⟨⟨h2,v,rfl⟩,m⟩:=b;exact⟨⟨h2,v,rfl⟩,λb o g j e=>m b o g j (u b o g j e)⟩
theorem Kp.of_gr(g:Gr X s s'):Kp V s s':=by
 refine aO g λh' tk j v m=>?_;clear g m;subst j;exact⟨⟨_,_,rfl⟩,λb o u y e=>v b o y e⟩
theorem Kp.mono(h:∀a∈V,a∈V')(k:Kp V s s'):Kp V' s s':=⟨k.1,λb o j g e=>k.2 b o (λx=>j (h _ x)) g e⟩
theorem Kp.drop{s s':Shared}(g:∀b∈wr,s.heap.get? b=none)(k:Kp (wr++V) s s'):Kp V s s':=
 ⟨k.1,λb o j m e=>k.2 b o (λx=>by
  rcases List.mem_append.mp x with x|x
  ·rw[g b x]at e;exact no e
  ·exact j x) m e⟩
section
variable{A:Around}{s s' s₀:Shared}{XA:Addr->Prop}{V wr:List Addr}{own:Str->Bool}{κ:List Addr}{σ:List Sto}{env:Env}{ρ:ar}[GxOk]
omit [GxOk] in
theorem Shw.moveT{h h':Heap}(q:Shw h X κ v d)(y:∀b o,¬X b->h.get? b=some o->h'.get? b=some o/\¬X' b)
 (g:∀b,v=.ref b->∀o,h.get? b=some o->h'.get? b=some o/\∀dx,o.dict=some dx->∀j,h.get? dx=some j->h'.get? dx=some j):Shw h' X' κ v d:=
 q.moveG y (λu u e=>e) λb m o e u=>⟨(g b m o e).1,λdx hd j z u=>(g b m o e).2 dx hd j z⟩
omit [GxOk] in
theorem Shw.move{h h':Heap}(q:Shw h X κ v d)(g:∀b o,¬X b->h.get? b=some o->h'.get? b=some o/\¬X' b)(j:∀b o,h.get? b=some o->h'.get? b=some o):Shw h' X' κ v d:=
 q.moveT g λb u o e=>⟨j _ _ e,λu u u m=>j _ _ m⟩
omit [GxOk] in
theorem uw(q:Shw h X κ (.ref a) (dI x)):
 (∃j,h.get? a=some j/\j.cls≠.none/\∀dx,j.dict=some dx->∃o'',h.get? dx=some o'')/\(∀u,¬h.IsCell a u)/\∀j dx,h.get? a=some j->j.dict=some dx->∀u,¬h.IsCell dx u:=by
 have key:∀{j:Obj},h.get? a=some j->kh j=true->j.cls≠.none->(∀dx,j.dict=some dx->∃o'',h.get? dx=some o''/\kh o''=true)->
  (∃j,h.get? a=some j/\j.cls≠.none/\∀dx,j.dict=some dx->∃o'',h.get? dx=some o'')/\(∀u,¬h.IsCell a u)/\∀j dx,h.get? a=some j->j.dict=some dx->∀u,¬h.IsCell dx u:=by
  intro j g m hc hd;have t:∀{b:Addr} {j:Obj},h.get? b=some j->kh j=true->∀u,¬h.IsCell b u:=λg m u r=>by
   refine af r λo ho r=>?_;rw[g]at ho;(replace ho:=si ho;subst ho);unfold kh at m;rw[r]at m;exact nf m
  refine⟨⟨j,g,hc,λdx e=>let⟨c,h2,_⟩:=hd dx e;⟨c,h2⟩⟩,t g m,λc dx h2 p=>?_⟩;rw[g]at h2;(replace h2:=si h2;subst h2);refine af (hd dx p) λK k i=>?_;exact t k i
 cases x with
 |list l=>obtain⟨_,_,_,e,g,-,_⟩:=q;cases e;exact key g rfl nofun nofun
 |dict l=>
  refine hid λf d=>?_;obtain⟨_,_,_,e,g,ho,-⟩:=q;cases e;refine cb ho λJ n x y=>?_;refine d ?_;clear d f;exact key g (by unfold kh;rw[y.1]) (by rw[x.1];nofun) λdx e=>by rw[x.2.1]at e;exact no e
 |obj l=>obtain⟨_,_,_,_,_,e,v,g,hc,m,z,-⟩:=q;cases e;exact key g m (by rw[hc];nofun) λdx e=>by rw[v]at e;(replace e:=si e;subst e);exact⟨_,z,rfl⟩
omit [GxOk] in
theorem dL.ex(T:dL h X κ σ)(m:a∈κ):∃o',h.get? a=some o'/\o'.cls≠.none/\∀dx,o'.dict=some dx->∃o'',h.get? dx=some o'':=by
 refine ah (List.mem_iff_getElem?.mp m) λi g=>?_;have j:i<σ.length:=by rw[<- T.len];exact(List.getElem?_eq_some_iff.mp g).1
 exact(uw (T.at_ i σ[i] a (List.getElem?_eq_getElem j) g)).1
theorem Fm.stoEx(f:Fm s₀ XA V own env κ σ ρ s)(j:a∈κ):∃o',s.heap.get? a=some o'/\o'.cls≠.none/\∀dx,o'.dict=some dx->∃o'',s.heap.get? dx=some o'':=f.al.T.ex j
theorem Fm.gr(f:Fm s₀ XA V own env κ σ ρ s)(g:Gr (XV XA V) s s')(i:G.z<=s'.toks):Fm s₀ XA V own env κ σ ρ s':=by
 have t:XV XA V G.P:=.inl f.xp;have r:Al s' (XV XA V) κ σ env ρ:=⟨f.al.S.gr g,f.al.T.gr f.al.S.tab f.al.S.xp g,f.al.R.gr f.al.S.xp g,i⟩
 clear i t;refine aO g λh' tk m u O=>?_;subst m;refine bx f.same λU x y=>?_;refine⟨⟨h',tk,by rw[y]⟩,λb o k e=>u b o k (f.keep b o k e),f.fresh,f.x0,f.xp,r,f.loc,λn K=>?_,f.ap,f.lc,λn c h=>⟨(f.ce n c h).1,let⟨o,ho⟩:=(f.ce n c h).2;⟨o,u _ _ (f.ce n c h).1 ho⟩⟩,f.kl,λa p o dx h1 h2=>?_⟩
 ·rcases f.st n K with q|⟨q,c,v,h1,h2,o,J,L⟩
  ·exact .inl q
  ·exact .inr ⟨q,c,v,h1,h2,o,u _ _ (f.ce n c h2).1 J,L⟩
 ·refine bd (f.stoEx p) λl j d M=>?_;have:=u a l (ci f.al.S.tab j d) j;have e:o=l:=Option.some.inj (h1.symm.trans this);rw[e]at h2;exact f.kd a p l dx j h2
theorem Fm.grow(f:Fm s₀ XA V own env κ σ ρ s){h':Heap}(y:∀b o,s.heap.get? b=some o->h'.get? b=some o)(K:∀b∈wr,s.heap.get? b=none)(H:∀b∈wr,∃o,h'.get? b=some o)(E:s.toks<=tk):
 Fm s₀ XA (wr++V) own env κ σ ρ {s with heap:=h',toks:=tk}:=by
 refine bx f.same λQ Z M=>?_;have i:∀b o,¬XV XA V b->s.heap.get? b=some o->h'.get? b=some o/\¬XV XA (wr++V) b:=λb o k e=>⟨y b o e,λj=>by
  rcases j with j|j
  ·exact k (.inl j)
  ·rcases List.mem_append.mp j with j|j
   ·rw[K b j]at e;exact no e
   ·exact k (.inr j)⟩
 have t:∀a,XV XA V a->∃o,s.heap.get? a=some o:=f.al.S.ex;have fr:∀a∈wr++V,s₀.heap.get? a=none:=λa g=>by
  rcases List.mem_append.mp g with g|g
  ·cases hq:s₀.heap.get? a with
   |none=>rfl
   |some o=>
    by_cases e:a=G.P
    ·subst e;refine af (GxOk.tabEx _ _ f.al.S.tab) λJ z Y=>?_;rw[K _ g]at z;exact no z
    ·have:=f.keep a o e hq;rw[K a g]at this;exact no this
  ·exact f.fresh a g
 have low:∀b o,G.h0.get? b=some o->¬XV XA (wr++V) b:=λb o e=>(i b o (f.al.S.low b o e) (f.al.S.base b o e)).2;have C:St (XV XA (wr++V)) h':=⟨λb o e=>y b o (f.al.S.base b o e),low,λa g=>by
  rcases g with g|g
  ·refine ah (t a (.inl g)) λo ho=>?_;exact⟨o,y a o ho⟩
  ·rcases List.mem_append.mp g with g|g
   ·exact H a g
   ·refine ah (t a (.inr g)) λo ho=>?_;exact⟨o,y a o ho⟩,.inl f.xp,
  GxOk.tabMove _ _ _ _ (λb o u k e=>i b o k e) (λo e=>y _ o e) f.al.S.tab⟩
 refine⟨⟨h',tk,by rw[M]⟩,λb o I e=>y b o (f.keep b o I e),fr,f.x0,f.xp,⟨C,?_,?_,Nt f.al.pos E⟩,List.mem_append_right _ f.loc,λn p=>?_,f.ap,f.lc,λn c h=>⟨(f.ce n c h).1,let⟨o,ho⟩:=(f.ce n c h).2;⟨o,y _ _ ho⟩⟩,f.kl,λa g o dx h1 h2=>?_⟩
 ·refine⟨f.al.T.len,λn x a h1 h2=>?_⟩;exact(f.al.T.at_ n x a h1 h2).move i y
 ·obtain⟨a,b,c,l,F,m,p,B⟩:=f.al.R;refine⟨a,b,c,l,λn U=>let⟨c,h1,h2,v,L⟩:=F n U;⟨c,h1,h2,v,L.keeps y⟩,m,p.at' λo e=>y _ o e,λx d e=>?_⟩;obtain⟨O,v,r,hc⟩:=B x d e;exact⟨O,v,r.move i λu u e=>e,hc.imp id λ⟨q,c,hc,hl,o,ho,hd⟩=>⟨q,c,hc,hl,o,y c o ho,hd⟩⟩
 ·rcases f.st n p with q|⟨q,c,v,h1,h2,o,L,N⟩
  ·exact .inl q
  ·exact .inr ⟨q,c,v,List.mem_append_right _ h1,h2,o,y _ _ L,N⟩
 ·refine af (f.stoEx g) λJ z W=>?_;have:=y _ _ z;have e:o=J:=Option.some.inj (h1.symm.trans this);rw[e]at h2;exact f.kd a g J dx z h2
structure i5(s₀:Shared)(V:List Addr)(env:Env)(κ:List Addr)(s:Shared):Prop where
 loc:env.locals∈V
 pc:∀n c,env.cells.lookup n=some c->c∈V\/∃o,s₀.heap.get? c=some o
 pk:∀a∈κ,a∈V\/∃o,s₀.heap.get? a=some o
 pd:∀a∈κ,∀o dx,s.heap.get? a=some o->o.dict=some dx->dx∈V\/∃o',s₀.heap.get? dx=some o'
omit [GxOk] in
theorem Fm.apart(f:Fm s₀ XA (wr++V) own env κ σ ρ s)(hd:∀b∈wr,b∉V)(j:p∈V\/∃o,s₀.heap.get? p=some o):p∉wr:=λh=>by
 rcases j with j|⟨o,j⟩
 ·exact hd p h j
 ·rw[f.fresh p (List.mem_append_left _ h)]at j;exact no j
omit [GxOk] in
theorem Fm.neP(f:Fm s₀ XA V own env κ σ ρ s)(j:a∈V):a≠G.P:=by
 rintro rfl
 refine ah (f.x0 _ f.xp) λo e=>?_;rw[f.fresh _ j]at e;exact no e
theorem Fm.touch(f:Fm s₀ XA (wr++V) own env κ σ ρ s)(c:i5 s₀ V env κ s)(hd:∀b∈wr,b∉V){h':Heap}(g:∀b o,b∉wr->s.heap.get? b=some o->h'.get? b=some o)
 (he:∀b∈wr,∃o,h'.get? b=some o) (hp:s.toks<=tk):Fm s₀ XA (wr++V) own env κ σ ρ {s with heap:=h',toks:=tk}/\i5 s₀ V env κ {s with heap:=h',toks:=tk}:=by
 refine bx f.same λh₁ N U=>?_;have L:G.P∉wr:=λh=>f.neP (List.mem_append_left _ h) rfl;have K:∀b o,¬XV XA (wr++V) b->s.heap.get? b=some o->h'.get? b=some o:=λb o z e=>g b o (λh=>z (.inr (List.mem_append_left _ h))) e;have C:∀b o,¬XV XA (wr++V) b->s.heap.get? b=some o->h'.get? b=some o/\¬XV XA (wr++V) b:=λb o z e=>⟨K b o z e,z⟩
 have S':St (XV XA (wr++V)) h':=⟨λb o e=>g b o (λh=>f.al.S.low b o e (.inr (List.mem_append_left _ h))) (f.al.S.base b o e),f.al.S.low,λa j=>by
  by_cases hw:a∈wr
  ·exact he a hw
  ·refine ah (f.al.S.ex a j) λo ho=>?_;exact⟨o,g a o hw ho⟩,f.al.S.xp,
  GxOk.tabMove _ _ _ _ (λb o u z e=>C b o z e) (λo e=>g _ o L e) f.al.S.tab⟩
 have aL:env.locals∉wr:=f.apart hd (.inl c.loc);have k:∀n x,env.cells.lookup n=some x->x∉wr:=λn x h=>f.apart hd (c.pc n x h);have E:∀a∈κ,a∉wr:=λa j=>f.apart hd (c.pk a j);have F:dL h' (XV XA (wr++V)) κ σ:=⟨f.al.T.len,λn x a h1 h2=>by
  have j:a∈κ:=List.mem_of_getElem? h2;refine(f.al.T.at_ n x a h1 h2).moveT C λb Y o ho=>?_;cases Y;exact⟨g _ _ (E a j) ho,λdx p o2 O=>g _ _ (f.apart hd (c.pd a j o dx ho p)) O⟩⟩
 have t:∀a∈κ,∀o,h'.get? a=some o->s.heap.get? a=some o:=λa j o h1=>by
  refine af (f.stoEx j) λo' i I=>?_;have:=g _ _ (E a j) i;rw[h1]at this;(replace this:=si this;subst this);exact i
 refine⟨⟨⟨h',tk,by rw[U]⟩,λb o Y e=>?_,f.fresh,f.x0,f.xp,⟨S',F,?_,Nt f.al.pos hp⟩,f.loc,λn J=>?_,f.ap,f.lc,λn y h=>⟨(f.ce n y h).1,let⟨o,ho⟩:=(f.ce n y h).2;⟨o,g _ _ (k n y h) ho⟩⟩,f.kl,λa j o dx h1 h2=>f.kd a j o dx (t a j o h1) h2⟩,
  ⟨c.loc,c.pc,c.pk,λa j o dx h1 h2=>c.pd a j o dx (t a j o h1) h2⟩⟩
 ·refine g b o (λh=>?_) (f.keep b o Y e);rw[f.fresh b (List.mem_append_left _ h)]at e;exact no e
 ·obtain⟨H,x2,x3,l,cc,m,J,Q⟩:=f.al.R;refine⟨H,x2,x3,l,λn Z=>let⟨c,h1,h2,v,o,M,B⟩:=cc n Z;⟨c,h1,h2,v,o,g c o (k _ _ h1) M,B⟩,m,J.at' λo e=>g _ o aL e,λx d e=>?_⟩;obtain⟨W,v,r,hc⟩:=Q x d e;exact⟨W,v,r.keeps K,hc.imp id λ⟨q,y,hc,hl,o,ho,hd⟩=>⟨q,y,hc,hl,o,g y o (k _ _ hl) ho,hd⟩⟩
 ·rcases f.st n J with q|⟨q,y,v,h1,h2,o,M,B⟩
  ·exact .inl q
  ·exact .inr ⟨q,y,v,h1,h2,o,g _ _ (k _ _ h2) M,B⟩
end
section
variable{A:Around}{s s' s₀:Shared}{XA:Addr->Prop}{V wr:List Addr}{own:Str->Bool}{κ:List Addr}{σ:List Sto}{env:Env}{ρ:ar}[GxOk]
noncomputable def dn(tup:Bool)(h:Heap)(X:Addr->Prop)(κ:List Addr)(v:Value)(d:PV):Prop:=
 match tup with
 |false=>Rep h X κ v d
 |true=>∃T vals dl,v=.ref T/\h.IsTuple T vals/\d=.tuple dl/\aY h X κ vals.toList dl
theorem oz:∀(xs:List Nat) (ps:List Pos) (vs:List Value) (ds:List PV) (ρ:ar) (s:Shared),xs.length=ps.length->xs.length=ds.length->(∀x∈xs,x<nms.length/\own (nm x)=true)->
 Fm s₀ XA V own env κ σ ρ s->aY s.heap (XV XA V) κ vs ds->
 wpAny (model prog w) A (assignInOrder ((xs.zip ps).map λp=>assign (.Name (nm p.1) p.2) env) vs)
  (λu s'=>Fm s₀ XA V own env κ σ ((xs.zip ds).reverse++ρ) s'/\(∀b,b∉V->s'.heap.get? b=s.heap.get? b)/\(∀a,a≠env.locals->(∀n c,env.cells.lookup n=some c->a≠c)->s'.heap.get? a=s.heap.get? a)/\s.toks<=s'.toks) No s:=by
 intro xs;induction xs with
 |nil=>
  intro ps vs ds ρ s h1 h2 ho f r;obtain rfl:=List.length_eq_zero_iff.mp h1.symm;obtain rfl:=List.length_eq_zero_iff.mp h2.symm;cases r;exact Wp ⟨f,λu u=>rfl,λu u u=>rfl,Nr _⟩
 |cons x xs M=>
  intro ps vs ds ρ s h1 h2 ho f r;cases ps with
  |nil=>injection h1
  |cons p ps=>
  cases ds with
  |nil=>injection h2
  |cons d ds=>
  refine aO r.inv λv vs j J r2=>?_;clear r;subst j;show wpAny _ _ (assignInOrder (assign (.Name (nm x) p) env::((xs.zip ps).map λp=>assign (.Name (nm p.1) p.2) env)) (v::vs)) _ _ _;refine wpAny_assignInOrder_more (wpAny_assign_Name (Wm (f.store (ho x (.head _)).1 (ho x (.head _)).2 J) (λu t q=>?_) λu u f=>f));refine nk q λl z O k=>?_;have m:aY t.heap (XV XA V) κ vs ds:=r2.keeps λb o g e=>(z b λh=>g (.inr h)).trans e;refine Wm (M ps vs ds _ t (Nat.succ.inj h1) (Nat.succ.inj h2) (λy K=>ho y (.tail _ K)) l m) (λu S q=>?_) λu u f=>f;refine nk q λi P R L=>?_;exact⟨by rw[List.zip_cons_cons,List.reverse_cons,List.append_assoc];exact i,λb g=>(P b g).trans (z b g),λa h1 h2=>(R a h1 h2).trans (O a h1 h2),Nt k L⟩
omit [GxOk] in
theorem cH(env:Env):∀(j:List Expr) (xs:List Nat),j.mapM nmI=some xs->
 ∃ps:List Pos,xs.length=ps.length/\assignEach j env=((xs.zip ps).map λp=>(false,assign (.Name (nm p.1) p.2) env))/\∀x∈xs,x<nms.length:=by
 intro j;induction j with
 |nil=>intro xs h;obtain rfl:=mn h;exact⟨[],rfl,rfl,nofun⟩
 |cons e j t=>
  intro xs h;refine mck h λx ys d u m=>?_;clear h;subst m;refine bd (t ys u) λps h1 h2 r=>?_;refine cb (nb d) λz p g q=>?_;subst g;refine au (bV q) λv hl=>?_;subst v;refine⟨p::ps,congrArg (·+ 1) h1,?_,λy u=>?_⟩
  ·show(false,assign (.Name (nm x) p) env)::assignEach j env=_;rw[h2];rfl
  ·rcases List.mem_cons.mp u with rfl|u
   ·exact hl
   ·exact r y u
omit [GxOk] in
theorem f4(l:List (Nat×Pos))(env:Env):((l.map λp=>(false,assign (.Name (nm p.1) p.2) env)).findIdx? λx=>x.1)=none:=by
 induction l with
 |nil=>rfl
 |cons p l j=>simp[List.findIdx?_cons,j]
theorem lT(hh:A.handled=none)(f:Fm s₀ XA V own env κ σ ρ s)(L:dQ tgt=some (tup,xs))(ho:∀x∈xs,own (nm x)=true)(m:a6 tup xs d ρ=some ρ')
 (r:dn tup s.heap (XV XA V) κ v d) :
 wpAny (model prog w) A (assign tgt env v) (λu s'=>Fm s₀ XA V own env κ σ ρ' s'/\(∀b o,b∉V->s.heap.get? b=some o->s'.heap.get? b=some o)/\(∀a o,a≠env.locals->(∀n c,env.cells.lookup n=some c->a≠c)->s.heap.get? a=some o->s'.heap.get? a=some o)/\s.toks<=s'.toks) No s:=by
 rcases lB L with⟨rfl,O,n,p,rfl,Z⟩|⟨rfl,i,rfl,M⟩
 ·refine bd (ej m) λW y g h=>?_;clear L;subst y;subst h;refine hid λI R=>?_;refine An r λT j B t N e Y=>?_;subst t;cases e;refine bd (cH env O xs Z) λps h1 h2 E=>?_;refine R ?_;clear R I;have P:j.toList.length=W.length:=Y.len;have J:(assignEach O env).length=j.size:=by
   rw[h2];simp only[List.length_map,List.length_zip,h1,Nat.min_self];rw[<- h1,<- g,<- P,Array.length_toList]
  refine wpAny_assign_Tuple hh N J (by rw[h2];exact f4 _ _) λh' H=>?_;have K:∀b o,s.heap.get? b=some o->h'.get? b=some o:=λb o e=>H b o (Nat.ne_of_lt (Heap.lt_size e)) e;have F:Fm s₀ XA V own env κ σ ρ {s with heap:=h'}:=f.gr (Gr.kept (tk:=s.toks) f.al.S.tab K) f.al.pos;have e2:(assignEach O env).map (·.2)=(xs.zip ps).map λp=>assign (.Name (nm p.1) p.2) env:=by rw[h2,List.map_map];rfl
  rw[e2];exact Wm (oz xs ps j.toList W ρ _ h1 g.symm (λx U=>⟨E x U,ho x U⟩) F (Y.keeps λb o u e=>K b o e)) (λu s₁ q=>⟨q.1,λb o m e=>(q.2.1 b m).trans (K b o e),λa o h1 h2 e=>(q.2.2.1 a h1 h2).trans (K a o e),q.2.2.2⟩) λu u f=>f
 ·refine cb (nb M) λC p l M=>?_;clear hh L;subst l;refine au (bV M) λk hl=>?_;subst k;refine af (io m) λQ e z=>?_;subst z;cases e;exact wpAny_assign_Name (Wm (f.store hl (ho i (.head _)) r) (λu s' q=>⟨q.1,λb o m e=>(q.2.1 b m).trans e,λa o h1 h2 e=>(q.2.2.1 a h1 h2).trans e,q.2.2.2⟩) λu u f=>f)
end
inductive fE(env:Env)(D:Addr):Expr->List Comprehension->Sem Unit->Prop
 |list (elt gens sc pos):fE env D (.ListComp elt gens sc pos) gens (do let _ <- call (.builtin "list.append") [.ref D,<- eval elt env])
 |dict (k v gens sc pos):fE env D (.DictComp k v gens sc pos) gens (do
  let kv <- eval k env;let vv <- holding [kv] (eval v env);standAt {k.pos with endLine:=v.pos.endLine,endCol:=v.pos.endCol}
  holding [kv,vv] (dictSet D kv vv))
noncomputable def ef(env:Env)(ifs:List Expr):Sem Bool:=forIn ifs true λc r=>if r=true then do let ok <- PySem.isTrue c env (eval c env);pure (ForInStep.yield ok)else pure (ForInStep.yield r)
section
variable{A:Around}{s:Shared}{env:Env}{D:Addr}
noncomputable def iG(A:Around)(e:Expr)(gens:List Comprehension)(depth:Nat)(D:Addr)(env:Env)(em:Sem Unit)(Q:Shared->Prop)(s:Shared):Prop:=match gens[depth+1]? with
 |some g'=>wpAny (model prog w) A (eval g'.iter env) (λx s₅=>wpAny (model prog w) A (pyIter x) (λit' s₆=>wpAny (model prog w) A (runOwn (.compStart e (depth+1) it' (.ref D) env) env) (λ_ s₇=>Q s₇) No s₆) No s₅) No s
 |none=>wpAny (model prog w) A em (λ_ s₅=>Q s₅) No s
noncomputable def turnR(A:Around)(t:Expr)(ifs:List Expr)(it:Value)(env:Env)(done:Shared->Prop)(pass fail:Shared->Prop)(r:Option Value)(s:Shared):Prop:=match r with
 |none=>done s
 |some v=>wpAny (model prog w) A (letOwnedTupleGo t it v) (λ_ s₂=>wpAny (model prog w) A (assign t env v) (λ_ s₃=>wpAny (model prog w) A (ef env ifs) (λok s₄=>(ok=true->pass s₄)/\(ok=false->fail s₄)) No s₃) No s₂) No s
theorem nG(S:fE env D e j em)(M:j[depth]?=some ⟨t,iter,ifs,0⟩)(y:∀g∈j,g.is_async=0/\∀x,foldedSetIterable g.iter env x=pure x)
 (h:wpAny (model prog w) A (pyNext it) (turnR A t ifs it env (Q (.done .next)) (iG A e j depth D env em (Q (.again (.compLoop e depth it (.ref D) env)))) (Q (.again (.compLoop e depth it (.ref D) env)))) No s) :
 wpAny (model prog w) A (compTurn e depth it (.ref D) env) Q No s:=by
 cases S with
 |list R j sc pos=>
  unfold compTurn;dsimp only;rw[M];refine Wb (wpAny_standAt (Wb (Wm h (λr O c=>?_) λu u f=>f)));cases r with
  |none=>exact Wp c
  |some v=>
   refine Wb (Wm c (λu U n=>Wb (Wm n (λu W k=>Wb (Wm k (λok T m=>?_) λu u f=>f)) λu u f=>f)) λu u f=>f);clear h c n k;cases ok with
   |false=>exact Wp (m.2 rfl)
   |true=>
    replace m:=m.1 rfl;generalize hq:Q (.again (.compLoop _ depth it (.ref D) env))=q at m;have z:∀{d:Shared},q d->Q (.again (.compLoop _ depth it (.ref D) env)) d:=λh=>hq▸h;unfold iG at m;simp only[if_true];cases hg':j[depth+1]? with
    |none=>
     rw[hg']at m;exact Wb (Wm m (λu a l=>Wp (z l)) λu u f=>f)
    |some b=>
     rw[hg']at m;refine au (y b (List.mem_of_getElem? hg')) λp o=>?_;have i:(b.is_async != 0)=false:=by rw[p];rfl
     refine Wb (Wm m (λx a l=>Wb (wpAny_standAt ?_)) λu u f=>f);clear m;simp only[i,Bool.false_eq_true,if_false];refine Wb (wpAny_of_eq (o x) (Wb (wpAny_holding (Wm l (λK P L=>?_) λu u f=>f))));exact Wb (Wm L (λu d J=>Wp (z J)) λu u f=>f)
 |dict Y vx j sc pos=>
  unfold compTurn;dsimp only;rw[M];refine Wb (wpAny_standAt (Wb (Wm h (λr O c=>?_) λu u f=>f)));cases r with
  |none=>exact Wp c
  |some v=>
   refine Wb (Wm c (λu U n=>Wb (Wm n (λu W k=>Wb (Wm k (λok T m=>?_) λu u f=>f)) λu u f=>f)) λu u f=>f);clear h c n k;cases ok with
   |false=>exact Wp (m.2 rfl)
   |true=>
    replace m:=m.1 rfl;generalize hq:Q (.again (.compLoop _ depth it (.ref D) env))=q at m;have z:∀{d:Shared},q d->Q (.again (.compLoop _ depth it (.ref D) env)) d:=λh=>hq▸h;unfold iG at m;simp only[if_true];cases hg':j[depth+1]? with
    |none=>
     rw[hg']at m;exact Wb (Wm m (λu a l=>Wp (z l)) λu u f=>f)
    |some b=>
     rw[hg']at m;refine au (y b (List.mem_of_getElem? hg')) λp o=>?_;have i:(b.is_async != 0)=false:=by rw[p];rfl
     refine Wb (Wm m (λx a l=>Wb (wpAny_standAt ?_)) λu u f=>f);clear m;simp only[i,Bool.false_eq_true,if_false];refine Wb (wpAny_of_eq (o x) (Wb (wpAny_holding (Wm l (λK P L=>?_) λu u f=>f))));exact Wb (Wm L (λu d J=>Wp (z J)) λu u f=>f)
theorem gT(d:fE env D e j em)(q:j[depth]?=some g)(r:g.is_async=0)
 (m:∀(Q:Value->Shared->Prop),Q (.ref I) s->wpAny (model prog w) A (pyIter (.ref I)) Q No s)
 (h:codeAny (model prog w) A (.compLoop e depth (.ref I) (.ref D) env) R s):codeAny (model prog w) A (.compStart e depth (.ref I) (.ref D) env) R s:=by
 have v:(g.is_async != 0)=false:=by rw[r];rfl
 cases d with
 |list z j sc pos=>
  refine codeAny_of_tree ?_;refine wpAny_notedAt ?_;unfold compStart;have hc:clausesOf (.ListComp z j sc pos)=j:=rfl;simp only[hc,q,Option.elim_some,v,Bool.false_eq_true,if_false];refine Wb (wpAny_askSetting (wpAny_ite ?_));split
  ·first
    |exact Wb (Wp (Wp (And.intro rfl h)))
    |exact Wp (And.intro rfl h)
  ·refine Wb (wpAny_rule (Wb (wpAny_standAt (Wb (Wm (m _ (And.intro rfl h)) (λy s' h'=>Wp h') λu u x=>x.elim)))))
 |dict t vx j sc pos=>
  refine codeAny_of_tree ?_;refine wpAny_notedAt ?_;unfold compStart;have hc:clausesOf (.DictComp t vx j sc pos)=j:=rfl;simp only[hc,q,Option.elim_some,v,Bool.false_eq_true,if_false];refine Wb (wpAny_askSetting (wpAny_ite ?_));split
  ·first
    |exact Wb (Wp (Wp (And.intro rfl h)))
    |exact Wp (And.intro rfl h)
  ·refine Wb (wpAny_rule (Wb (wpAny_standAt (Wb (Wm (m _ (And.intro rfl h)) (λy s' h'=>Wp h') λu u x=>x.elim)))))
end
inductive gR(A:Around)(tgt:Expr)(tup:Bool)(X:Addr->Prop)(κ:List Addr)(al:Bool)(s s₂:Shared)(it:Value)(ds:List PV):Prop
 |mk (sb:Shared) (I:Addr) (fp wr:List Addr) (P Md:Nat->Value->Heap->Prop) (St:Nat->Heap->Prop)
  (ei:it=.ref I) (W:KTurns prog w A tgt I fp wr ds.length P Md St) (st0:St 0 s₂.heap)
  (ex:∀i h,St i h->∀b∈wr,∃o,h.get? b=some o)
  (wr0:∀b∈wr,sb.heap.get? b=none)
  (hfp:∀b∈fp,b∈wr\/(b≠G.P/\(∃o,sb.heap.get? b=some o)/\(¬X b\/(al=true/\b∈κ))))
  (self:∀(s:Shared) (Q:Value->Shared->Prop),St 0 s.heap->Q (.ref I) s->wpAny (model prog w) A (pyIter (.ref I)) Q No s)
  (gr:Gr X s sb) (same:∃h tk,s₂={sb with heap:=h,toks:=tk}) (kb:∀b o,sb.heap.get? b=some o->s₂.heap.get? b=some o) (tk:s.toks<=sb.toks) (tk2:sb.toks<=s₂.toks)
  (it_:∀i v (h':Heap) (X':Addr->Prop),P i v h'->i<ds.length->(∀b o,¬X b->sb.heap.get? b=some o->h'.get? b=some o/\¬X' b)->(al=true->∀a∈κ,∀o,sb.heap.get? a=some o->h'.get? a=some o)->∃d,ds[i]?=some d/\dn tup h' X' κ v d):gR A tgt tup X κ al s s₂ it ds
inductive Ai(κ:List Addr)(D:Addr)(X:Addr->Prop)(h:Heap)(out:List PV):Prop
 |mk (vs:List Value) (n:Nat) (hd:h.get? D=some (du vs n)) (r:aY h X κ vs out):Ai κ D X h out
inductive z2(κ:List Addr)(D:Addr)(X:Addr->Prop)(h:Heap)(out:List PV):Prop
 |mk (o:Obj) (kvs:List (Int×Value)) (ps:List (Int×PV)) (hd:h.get? D=some o) (ho:o.IsDictOf (intKind prog w) kvs) (r:gy h X κ kvs ps) (e:out=ps.map λp=>.tuple [.int p.1,p.2]):z2 κ D X h out
noncomputable def hY(κ:List Addr)(D:Addr)(X:Addr->Prop)(h:Heap)(kind:Bool)(out:List PV):Prop:=match kind with
 |false=>Ai κ D X h out
 |true=>z2 κ D X h out
theorem hY.move{h h':Heap}(a:hY κ D X h b out)(j:∀b o,¬X b->h.get? b=some o->h'.get? b=some o/\¬X' b)(hD:∀o,h.get? D=some o->h'.get? D=some o):
 hY κ D X' h' b out:=by
 cases b with
 |false=>obtain⟨vs,n,h1,r⟩:=a;exact⟨vs,n,hD _ h1,r.repMove j λu u e=>e⟩
 |true=>obtain⟨o,kvs,ps,h1,ho,r,e⟩:=a;exact⟨o,kvs,ps,hD _ h1,ho,r.repMoveD j λu u e=>e,e⟩
section
variable{A:Around}{s s' s₀:Shared}{XA:Addr->Prop}{V wr:List Addr}{own:Str->Bool}{κ:List Addr}{σ:List Sto}{env:Env}{ρ:ar}[GlOk]
 {F:Nat->List PV->Option PV} {nc k kt:Nat}
theorem ve(J:IsT F nc k)(a:AOk nc A):∀(j:List Expr) (ps:List PE) (b:Bool) (s:Shared),j.mapM (tr kt env.scope)=some ps->eG (λe=>ev F σ k e ρ) ps=some b->Al s X κ σ env ρ->
 wpAny (model prog w) A (ef env j) (λok s'=>(Gr X s s'/\ok=b)/\s.toks<=s'.toks) No s:=by
 have key:∀(j:List Expr) (s:Shared) (Q:Bool->Shared->Prop),Q false s->wpAny (model prog w) A (forIn j false λc r=>if r=true then do let ok <- PySem.isTrue c env (eval c env);pure (ForInStep.yield ok)else pure (ForInStep.yield r)) Q No s:=by
  intro j;induction j with
  |nil=>intro s Q h;rw[List.forIn_nil];exact Wp h
  |cons c r z=>intro s Q h;rw[List.forIn_cons];simp only[Bool.false_eq_true,if_false];exact Wb (Wp (z s Q h))
 intro j;induction j with
 |nil=>
  intro ps b s h1 h2 al;obtain rfl:=mn h1;(replace h2:=si h2;subst h2);unfold ef;rw[List.forIn_nil];exact Wp ⟨⟨Gr.refl al.S.tab,rfl⟩,Nr _⟩
 |cons c r z=>
  intro ps b s h1 h2 al;refine hid λt g=>?_;refine mck h1 λp x o l i=>?_;clear h1;subst i;refine wbb (show(Option.bind _ _)=some b from h2) λd K h2 hd m=>?_;refine g ?_;clear g t;unfold ef;rw[List.forIn_cons,if_pos rfl];refine Wb (Wb (Wm (wpAny_toks (J σ kt _ c p ρ d K o hd m A env X κ s a rfl al)) (λok n q=>Wp ?_) λu u f=>f.2));refine hid λt g=>?_;refine bc q λtk v y=>?_;subst y;refine g ?_;clear g t;cases ok with
  |true=>exact Wm (z x b n l ((if_pos rfl).symm.trans h2) (al.gr v (Nt al.pos tk))) (λok L q=>⟨⟨v.trans q.1.1,q.1.2⟩,Nt tk q.2⟩) λu u f=>f
  |false=>obtain rfl:=si ((if_neg Bool.false_ne_true).symm.trans h2);exact key r n _ ⟨⟨v,rfl⟩,tk⟩
end
section
variable{A:Around}{s s' s₀:Shared}{XA:Addr->Prop}{V wr:List Addr}{own:Str->Bool}{κ:List Addr}{σ:List Sto}{env:Env}{ρ ρ':ar}[GlOk]
 {F:Nat->List PV->Option PV} {nc k kt:Nat} {D:Addr}
theorem dL.weaken(T:dL h X κ σ)(j:∀a,X' a->X a):dL h X' κ σ:=
 ⟨T.len,λn x a h1 h2=>(T.at_ n x a h1 h2).move (λb o g e=>⟨e,λh=>g (j b h)⟩) λb o e=>e⟩
omit [GlOk] in
theorem Fm.sub(f:Fm s₀ XA V own env κ σ ρ' s)(h:∀x d,ρ.lookup x=some d->ρ'.lookup x=some d):Fm s₀ XA V own env κ σ ρ s:=by
 refine⟨f.same,f.keep,f.fresh,f.x0,f.xp,⟨f.al.S,f.al.T,?_,f.al.pos⟩,f.loc,f.st,f.ap,f.lc,f.ce,f.kl,f.kd⟩;obtain⟨v,y,j,l,z,m,u,g⟩:=f.al.R;exact⟨v,y,j,l,z,m,u,λx d e=>g x d (h x d e)⟩
omit [GlOk] in
theorem dE:∀(l:List (Nat×α)) (ρ:List (Nat×α)) (x:Nat),(∀p∈l,p.1≠x)->(l++ρ).lookup x=ρ.lookup x
 |[],ρ,x,_=>rfl
 |(y,d)::l,ρ,x,h=>by
  have:(x==y)=false:=by simpa using λe:x=y=>h (y,d) (.head _) e.symm
  rw[List.cons_append,List.lookup,this];exact dE l ρ x λp j=>h p (.tail _ j)
omit [GlOk] in
theorem sw(z:a6 tp xs d ρ=some ρ')(v:(xs.all λx=>(ρ.lookup x).isNone)=true):∀x e,ρ.lookup x=some e->ρ'.lookup x=some e:=by
 intro x e h;have q:x∉xs:=λt=>by
  have:=List.all_eq_true.mp v x t;rw[h]at this;exact nf this
 clear v;cases tp with
 |false=>
  refine af (io z) λy g j=>?_;subst g;subst j;rw[dD λe=>q (by rw[e];exact .head _)];exact h
 |true=>
  refine bd (ej z) λl u c m=>?_;subst u;subst m;rw[dE _ _ _ λp r e=>q (by rw[<- e];exact(List.of_mem_zip (List.mem_reverse.mp r)).1)];exact h
noncomputable def lm(F:Nat->List PV->Option PV)(nc k:Nat):Prop:=
 ∀(σ:List Sto) kt sc e pe ρ ds al tgt tp xs,trI (tr kt sc) sc e=some pe->aQ F σ al k pe ρ=some ds->dQ tgt=some (tp,xs)->(tp=true\/iI e=false)->(∀d∈ds,∃ρ',a6 tp xs d []=some ρ')->∀A env X κ s,AOk nc A->env.scope=sc->Al s X κ σ env ρ->
  wpAny (model prog w) A (eval e env) (λx s₁=>wpAny (model prog w) A (pyIter x) (λit s₂=>gR A tgt tp X κ al s s₂ it ds) No s₁) No s
omit [GlOk] in
theorem oo(h:okE e=true)(x:Value):foldedSetIterable e env x=pure x:=by
 cases e<;>first|rfl|exact nf h
omit [GlOk] in
theorem qp(h:trI (tr kt sc) sc e=some pe):okE e=true:=by
 rcases qL h with⟨_,_,_,_,_,rfl,_⟩|⟨h,_⟩
 ·rfl
 ·exact gv h
omit [GlOk] in
theorem mO(h:trI (tr kt sc) sc e=some pe)(x:Value):foldedSetIterable e env x=pure x:=oo (qp h) x
end
section
variable{A:Around}{s s' s₀:Shared}{XA:Addr->Prop}{V wr:List Addr}{own:Str->Bool}{κ:List Addr}{σ:List Sto}{env:Env}{ρ ρ':ar}[GlOk]
 {F:Nat->List PV->Option PV} {nc k:Nat} {D:Addr}
noncomputable def KK(κ:List Addr)(s s':Shared):Prop:=∀a∈κ,∀o,s.heap.get? a=some o->s'.heap.get? a=some o
omit [GlOk] in
theorem KK.trans(a:KK κ s s')(b:KK κ s' s''):KK κ s s'':=λx j o e=>b x j o (a x j o e)
noncomputable def mE(A:Around)(s₀:Shared)(XA:Addr->Prop)(own:Str->Bool)(env:Env)(κ:List Addr)(σ:List Sto)(D:Addr)(VA:List Addr)(kind:Bool)(em:Sem Unit)(emP:ar->Option PV)(L:List PV):Prop:=
 ∀(V':List Addr) (ρ:ar) (s:Shared) (out:List PV) (d:PV) (rest:List PV),(∀b∈VA,b∈V')->Fm s₀ XA V' own env κ σ ρ s->hY κ D (XV XA V') s.heap kind out->emP ρ=some d->L=out++d::rest->
  wpAny (model prog w) A em (λ_ s'=>Fm s₀ XA V' own env κ σ ρ s'/\hY κ D (XV XA V') s'.heap kind (out++[d])/\Kp VA s s'/\KK κ s s'/\s.toks<=s'.toks) No s
omit [GlOk] in
theorem i5.mono(c:i5 s₀ V env κ s)(h:∀a∈V,a∈V'):i5 s₀ V' env κ s:=
 ⟨h _ c.loc,λn x e=>(c.pc n x e).imp (h _) id,λa j=>(c.pk a j).imp (h _) id,λa j o dx h1 h2=>(c.pd a j o dx h1 h2).imp (h _) id⟩
omit [GlOk] in
theorem i5.kk(c:i5 s₀ V env κ s)(u:KK κ s s')(g:∀a∈κ,∃o,s.heap.get? a=some o):i5 s₀ V env κ s':=
 ⟨c.loc,c.pc,c.pk,λa m o dx h1 h2=>by
  refine ah (g a m) λv j=>?_;have:=u a m v j;rw[h1]at this;(replace this:=si this;subst this);exact c.pd a m o dx j h2⟩
theorem KK.of_gr(f:Fm s₀ XA V own env κ σ ρ s)(g:Gr X s s'):KK κ s s':=λa v o e=>by
 refine aO g λh' tk m z u=>?_;clear g u;subst m;refine bd (f.stoEx v) λq j hc y=>?_;rw[e]at j;(replace j:=si j;subst j);exact z a o (ci f.al.S.tab e hc) e
structure Pr(κ:List Addr)(Vw:List Addr)(s s':Shared):Prop where
 kp:Kp Vw s s'
 kk:KK κ s s'
 tk:s.toks<=s'.toks
omit [GlOk] in
theorem Pr.refl{Vw:List Addr}{s:Shared}:Pr κ Vw s s:=⟨Kp.refl,λu u u e=>e,Nr _⟩
omit [GlOk] in
theorem Pr.trans{Vw:List Addr}{s s' j:Shared}(a:Pr κ Vw s s')(b:Pr κ Vw s' j):Pr κ Vw s j:=⟨a.kp.trans b.kp,a.kk.trans b.kk,Nt a.tk b.tk⟩
omit [GlOk] in
theorem Pr.mono{V' Vw:List Addr}{s s':Shared}(h:∀a∈V',a∈Vw)(a:Pr κ V' s s'):Pr κ Vw s s':=⟨a.kp.mono h,a.kk,a.tk⟩
structure Mid(s₀:Shared)(XA:Addr->Prop)(V Vc:List Addr)(own:Str->Bool)(env:Env)(κ:List Addr)(σ:List Sto)(D:Addr)(kind:Bool)(ρ:ar)(out:List PV)(s:Shared):Prop where
 fm:Fm s₀ XA V own env κ σ ρ s
 acc:hY κ D (XV XA V) s.heap kind out
 core:i5 s₀ Vc env κ s
structure Lay(s₀:Shared)(env:Env)(κ:List Addr)(D:Addr)(VA:List Addr):Prop where
 hD:D∈VA
 hDc:D≠env.locals/\∀n c,env.cells.lookup n=some c->D≠c
 hl:env.locals∈VA
 hpc:∀n x,env.cells.lookup n=some x->x∈VA\/∃o,s₀.heap.get? x=some o
 hκ:∀x∈κ,∃o,s₀.heap.get? x=some o
omit [GlOk] in
theorem nS{l:List α}(h:l.drop n=x::r):l[n]?=some x/\l.drop (n+1)=r:=by
 constructor
 ·have:(l.drop n)[0]?=some x:=by rw[h];rfl
  rw[List.getElem?_drop]at this;simpa using this
 ·have:(l.drop n).drop 1=r:=by rw[h];rfl
  rw[List.drop_drop]at this;exact this
omit [GlOk] in
theorem rU(h:a6 tp xs d ρ=some ρ'):∃ρ'',a6 tp xs d []=some ρ'':=by
 cases tp with
 |false=>refine af (io h) λy u j=>?_;subst u;subst j;exact⟨_,rfl⟩
 |true=>refine bd (ej h) λl m hl g=>?_;subst m;subst g;exact⟨_,if_pos hl⟩
omit [GlOk] in
theorem l8(h:iW f rest tp xs ifs ρ d=some r):
 ∃ρ' b,a6 tp xs d ρ=some ρ'/\(∀x e,ρ.lookup x=some e->ρ'.lookup x=some e)/\eG (λe=>f e ρ') ifs=some b/\(if b=true then rest ρ' else some [])=some r:=by
 refine AB h λρ' b h hn hb ht=>?_;exact⟨ρ',b,hb,sw hb hn,ht,h⟩
omit [GlOk] in
theorem fB
 (h:dq f src em (t::ts) (ifs::fs) is ρ o=some y):∃ds j,o=some ds/\ds.mapM (iW f (λρ'=>dq f src em ts fs is.tail ρ' (is.head?.bind λi=>src i ρ')) t.1 t.2 ifs ρ)=some j/\j.flatten=y:=by
 refine hid λm g=>?_;refine obk h λu h e=>?_;(replace e:=si e;subst e)
 refine wbm h λds j h2 hd h1=>?_;refine g ?_;clear g m;exact⟨ds,j,hd,h1,h2⟩
omit [GlOk] in
theorem iS
 (h:dq f src em (t::ts) (ifs::fs) is ρ o=some y):∃ds,o=some ds/\∀d∈ds,∃ρ',a6 t.1 t.2 d []=some ρ':=by
 refine aO (fB h) λds m hd h1 j=>?_;refine⟨ds,hd,λd g=>?_⟩;refine ah (jN h1 d g) λu e=>?_;refine cb (l8 e) λρ' z57 hb z58=>?_;exact rU hb
theorem Fm.touchDown(f:Fm s₀ XA (wr++V) own env κ σ ρ s)(c:i5 s₀ V env κ s)(hd:∀b∈wr,b∉V){h':Heap}(g:∀b o,b∉wr->s.heap.get? b=some o->h'.get? b=some o)
 (hp:s.toks<=tk):Fm s₀ XA V own env κ σ ρ {s with heap:=h',toks:=tk}/\i5 s₀ V env κ {s with heap:=h',toks:=tk}:=by
 refine bx f.same λh₁ ja B=>?_;have z:∀a,XV XA V a->XV XA (wr++V) a:=λa h=>h.imp id λh=>List.mem_append_right _ h;have W:G.P∉wr:=λh=>f.neP (List.mem_append_left _ h) rfl;have K:∀b o,¬XV XA (wr++V) b->s.heap.get? b=some o->h'.get? b=some o:=λb o z e=>g b o (λh=>z (.inr (List.mem_append_left _ h))) e;have M:∀b o,¬XV XA (wr++V) b->s.heap.get? b=some o->h'.get? b=some o/\¬XV XA V b:=λb o h e=>⟨K b o h e,λh2=>h (z b h2)⟩
 have nw:∀a,XV XA V a->a∉wr:=λa h Q=>by
  rcases h with h|h
  ·refine ah (f.x0 a h) λo ho=>?_;rw[f.fresh a (List.mem_append_left _ Q)]at ho;exact no ho
  ·exact hd a Q h
 have S':St (XV XA V) h':=⟨λb o e=>g b o (λh=>f.al.S.low b o e (.inr (List.mem_append_left _ h))) (f.al.S.base b o e),λb o e h=>f.al.S.low b o e (z b h),λa j=>by
  refine ah (f.al.S.ex a (z a j)) λo ho=>?_;exact⟨o,g a o (nw a j) ho⟩,.inl f.xp,
  GxOk.tabMove _ _ _ _ (λb o u z e=>M b o z e) (λo e=>g _ o W e) f.al.S.tab⟩
 have aL:env.locals∉wr:=f.apart hd (.inl c.loc);have L:∀n x,env.cells.lookup n=some x->x∉wr:=λn x h=>f.apart hd (c.pc n x h);have aK:∀a∈κ,a∉wr:=λa j=>f.apart hd (c.pk a j);have T':dL h' (XV XA V) κ σ:=⟨f.al.T.len,λn x a h1 h2=>by
  have j:a∈κ:=List.mem_of_getElem? h2;refine(f.al.T.at_ n x a h1 h2).moveT M λb E o ho=>?_;cases E;exact⟨g _ _ (aK a j) ho,λdx O o2 Z=>g _ _ (f.apart hd (c.pd a j o dx ho O)) Z⟩⟩
 have p:∀a∈κ,∀o,h'.get? a=some o->s.heap.get? a=some o:=λa j o h1=>by
  refine af (f.stoEx j) λo' J jb=>?_;have:=g _ _ (aK a j) J;rw[h1]at this;(replace this:=si this;subst this);exact J
 refine⟨⟨⟨h',tk,by rw[B]⟩,λb o E e=>?_,λa j=>f.fresh a (List.mem_append_right _ j),f.x0,f.xp,⟨S',T',?_,Nt f.al.pos hp⟩,c.loc,λn U=>?_,f.ap,f.lc,λn y h=>⟨(f.ce n y h).1,let⟨o,ho⟩:=(f.ce n y h).2;⟨o,g _ _ (L n y h) ho⟩⟩,f.kl,λa j o dx h1 h2=>f.kd a j o dx (p a j o h1) h2⟩,
  ⟨c.loc,c.pc,c.pk,λa j o dx h1 h2=>c.pd a j o dx (p a j o h1) h2⟩⟩
 ·refine g b o (λh=>?_) (f.keep b o E e);rw[f.fresh b (List.mem_append_left _ h)]at e;exact no e
 ·obtain⟨x1,x2,x3,l,cc,m,U,hv⟩:=f.al.R;refine⟨x1,x2,x3,l,λn H=>let⟨c,h1,h2,v,o,Y,N⟩:=cc n H;⟨c,h1,h2,v,o,g c o (L _ _ h1) Y,N⟩,m,U.at' λo e=>g _ o aL e,λx d e=>?_⟩;obtain⟨C,v,r,hc⟩:=hv x d e;exact⟨C,v,r.move M λu u e=>e,hc.imp id λ⟨q,y,hc,hl,o,ho,hd⟩=>⟨q,y,hc,hl,o,g y o (L _ _ hl) ho,hd⟩⟩
 ·rcases f.st n U with q|⟨q,y,v,h1,h2,o,Y,N⟩
  ·exact .inl q
  ·refine .inr ⟨q,y,v,?_,h2,o,g _ _ (L _ _ h2) Y,N⟩;rcases c.pc n y h2 with h|⟨o,ho⟩
   ·exact h
   ·rw[f.fresh y h1]at ho;exact no ho
variable{VA:List Addr}{kind:Bool}{out:List PV}{t:Expr}{I:Addr}{fp:List Addr}{n i:Nat}{P Md:Nat->Value->Heap->Prop}{St:Nat->Heap->Prop}
theorem Fm.exK(f:Fm s₀ XA V own env κ σ ρ s):∀a∈κ,∃o,s.heap.get? a=some o:=λu j=>let⟨o,ho,_⟩:=f.stoEx j;⟨o,ho⟩
theorem Mid.item(L:Lay s₀ env κ D VA)(O:∀b∈VA,b∈V)(W:KTurns prog w A t I fp wr n P Md St)(z:∀i h,St i h->∀b∈wr,∃o,h.get? b=some o)(y:∀b∈wr,b∉V)
 (m:Mid s₀ XA (wr++V) V own env κ σ D kind ρ out s) (U:i<n) (p:St i s.heap)
 (T:∀v s₁,wpAny (model prog w) A (letOwnedTupleGo t (.ref I) v) (λu l=>Mid s₀ XA (wr++V) V own env κ σ D kind ρ out l/\Pr κ wr s l/\P i v l.heap/\St (i+1) l.heap) No s₁->R (some v) s₁) :
 wpAny (model prog w) A (pyNext (.ref I)) R No s:=by
 refine wpAny_with_toks (Nr s.toks) (W.item i s _ _ U p λv Z f c J r=>T v _ ?_);refine W.go i v _ _ _ c λM S j x=>?_;have d:∀b o,b∉wr->s.heap.get? b=some o->M.get? b=some o:=λb o q e=>x b o q (J b o q e);refine au (m.fm.touch (h':=M) (tk:=f) m.core y d (z _ _ j) r) λK g=>?_;exact⟨⟨K,m.acc.move (λb o q e=>⟨d b o (λh=>q (.inr (List.mem_append_left _ h))) e,q⟩) λo e=>d D o (λh=>y D h (O D L.hD)) e,g⟩,
  ⟨⟨⟨_,_,rfl⟩,λb o q u e=>d b o q e⟩,λa Y o e=>d a o (m.fm.apart y (m.core.pk a Y)) e,r⟩,S,j⟩
theorem Mid.done(L:Lay s₀ env κ D VA)(l:∀b∈VA,b∈V)(W:KTurns prog w A t I fp wr n P Md St)(j:∀b∈wr,b∉V)
 (m:Mid s₀ XA (wr++V) V own env κ σ D kind ρ out s) (r:St n s.heap)
 (p:∀s₁,Mid s₀ XA V V own env κ σ D kind ρ out s₁->Pr κ wr s s₁->R none s₁):wpAny (model prog w) A (pyNext (.ref I)) R No s:=by
 refine wpAny_with_toks (Nr s.toks) (W.done s _ _ r λc q y v=>p _ ?_ ?_)
 ·refine au (m.fm.touchDown (h':=c) (tk:=q) m.core j y v) λd g=>?_;exact⟨d,m.acc.move (λb o z e=>⟨y b o (λh=>z (.inr (List.mem_append_left _ h))) e,λh=>z (h.imp id λh=>List.mem_append_right _ h)⟩) λo e=>y D o (λh=>j D h (l D L.hD)) e,g⟩
 ·exact⟨⟨⟨_,_,rfl⟩,λb o z u e=>y b o z e⟩,λa f o e=>y a o (m.fm.apart j (m.core.pk a f)) e,v⟩
theorem Mid.gr(L:Lay s₀ env κ D VA)(q:∀b∈VA,b∈V)(m:Mid s₀ XA (wr++V) V own env κ σ D kind ρ out s)(g:Gr (XV XA (wr++V)) s s')(tk:s.toks<=s'.toks):
 Mid s₀ XA (wr++V) V own env κ σ D kind ρ out s'/\Pr κ VA s s':=by
 have kk:=KK.of_gr m.fm g;have j:=m.fm.gr g (Nt m.fm.al.pos tk);refine⟨⟨j,?_,m.core.kk kk m.fm.exK⟩,⟨Kp.of_gr g,kk,tk⟩⟩;refine aO g λh' r u z v=>?_;clear g tk kk j v;subst u;exact m.acc.move (λb o y e=>⟨z b o (λh=>y (.inl (h▸m.fm.xp))) e,y⟩) λo e=>z D o (m.fm.neP (List.mem_append_right _ (q D L.hD))) e
omit [GlOk] in
theorem Pr.st(g:∀b∈wr,b∉V)(z:∀b∈VA,b∈V)(j:∀b∈fp,b∈wr\/(b∉V/\b≠G.P/\b∉VA))(v:∀b∈wr,b≠G.P)(W:KTurns prog w A t I fp wr n P Md St)(p:Pr κ VA s s')(m:St i s.heap):St i s'.heap:=
 W.frame _ _ _ m λb u o e=>p.kp.2 b o (λh=>(j b u).elim (λy=>g b y (z b h)) λq=>q.2.2 h) ((j b u).elim (v b) λq=>q.2.1) e
theorem Mid.turn(U:IsT F nc k)(a:AOk nc A)(L:Lay s₀ env κ D VA)(B:∀b∈VA,b∈V){r:List Expr}
 (K:dQ t=some tx) (z:∀x∈tx.2,own (nm x)=true) (y:a6 tx.1 tx.2 d ρ=some ρ') (J:r.mapM (tr kt env.scope)=some ps) (M:eG (λe=>ev F σ k e ρ') ps=some b)
 (m:Mid s₀ XA (wr++V) V own env κ σ D kind ρ out s) (g:dn tx.1 s.heap (XV XA (wr++V)) κ v d)
 (Y:∀s',Mid s₀ XA (wr++V) V own env κ σ D kind ρ' out s'->Pr κ VA s s'->Q b s') :
 wpAny (model prog w) A (assign t env v) (λu p=>wpAny (model prog w) A (ef env r) Q No p) No s:=by
 refine Wm (lT a.hd m.fm K z y g) (λu p q=>?_) λu u f=>f;refine nk q λj R kb T=>?_;have l:KK κ s p:=λx S o e=>kb x o (m.fm.kl x S).1 (m.fm.kl x S).2 e;have H:Mid s₀ XA (wr++V) V own env κ σ D kind ρ' out p:=⟨j,m.acc.move (λb o y e=>⟨R b o (λh=>y (.inr h)) e,y⟩) λo e=>kb D o L.hDc.1 L.hDc.2 e,m.core.kk l m.fm.exK⟩
 have Z:Pr κ VA s p:=by
  refine⟨⟨?_,λb o y u e=>?_⟩,l,T⟩
  ·refine bx j.same λh1 t1 e1=>?_;refine bx m.fm.same λh2 t2 e2=>?_;exact⟨h1,t1,by rw[e1,e2]⟩
  ·by_cases hw:b∈wr++V
   ·refine kb b o (λh=>y (h▸L.hl)) (λn c h W=>?_) e;rcases L.hpc n c h with h1|⟨o1,h1⟩
    ·exact y (W▸h1)
    ·rw[m.fm.fresh c (W▸hw)]at h1;exact no h1
   ·exact R b o hw e
 refine Wm (ve U a r ps b p J M j.al) (λok E q=>?_) λu u f=>f;refine au q λO t₄=>?_;clear U a K z y J M m g q j R kb T l;obtain⟨C,rfl⟩:=O;refine au (H.gr L B C t₄) λm₄ N=>?_;exact Y E m₄ (Z.trans N)
theorem Mid.inner(L:Lay s₀ env κ D VA)(f:∀b∈VA,b∈V)(m:Mid s₀ XA (wr++V) V own env κ σ D kind ρ out s){u:Heap}
 (g:Gr (XV XA (wr++V)) s sb) (v:∀b o,sb.heap.get? b=some o->u.get? b=some o) (j:∀b∈wr',sb.heap.get? b=none) (q:∀b∈wr',∃o,u.get? b=some o) (y:s.toks<=sb.toks) (z:sb.toks<=tkA) :
 Mid s₀ XA (wr'++(wr++V)) (wr++V) own env κ σ D kind ρ out {sb with heap:=u,toks:=tkA}/\KK κ s {sb with heap:=u,toks:=tkA}:=by
 refine au (m.gr L f g y) λmb p=>?_;have r:=mb.fm.grow (wr:=wr') v j q z;have kk:KK κ sb {sb with heap:=u,toks:=tkA}:=λx l o e=>v x o e;have c:=mb.core.kk kk mb.fm.exK;refine⟨⟨r,mb.acc.move (λb o d e=>⟨v b o e,λh=>?_⟩) λo e=>v D o e,?_⟩,p.kk.trans kk⟩
 ·rcases h with h|h
  ·exact d (.inl h)
  ·rcases List.mem_append.mp h with h|h
   ·rw[j b h]at e;exact no e
   ·exact d (.inr h)
 ·exact c.mono λx l=>List.mem_append_right _ l
noncomputable def xh(s₀:Shared)(XA:Addr->Prop)(V wr VA:List Addr)(own:Str->Bool)(env:Env)(κ:List Addr)(σ:List Sto)(D:Addr)(kind:Bool)(ρ:ar)(out:List PV)(pss:List (List PV))(St:Nat->Heap->Prop)(s:Shared)(n:Nat)(s':Shared):Prop:=
 ∃i,i<=pss.length/\n=pss.length+1 - i/\Mid s₀ XA (wr++V) V own env κ σ D kind ρ (out++(pss.take i).flatten) s'/\Pr κ (wr++VA) s s'/\St i s'.heap
omit [GlOk] in
theorem Mid.next(v:pss[i]?=some y)(j:∀x e,ρ.lookup x=some e->ρ'.lookup x=some e)(m:Mid s₀ XA (wr++V) V own env κ σ D kind ρ' (out++(pss.take i).flatten++y) s')(p:Pr κ (wr++VA) s s')(u:St (i+1) s'.heap):
 ∃m,m<pss.length+1 - i/\xh s₀ XA V wr VA own env κ σ D kind ρ out pss St s m s':=by
 have g:=(List.getElem?_eq_some_iff.mp v).1;refine⟨_,Nat.sub_lt_sub_left (Nat.lt_succ_of_lt g) (Nat.lt_succ_self _),i+1,g,rfl,⟨m.fm.sub j,?_,m.core⟩,p,u⟩;rw[List.take_add_one,v,List.flatten_append,<- List.append_assoc];simpa using m.acc
omit [GlOk] in
theorem kM{j:List (List PV)}{y:List PV}(u:j[i]?=some y):j.flatten=(j.take i).flatten++(y++(j.drop (i+1)).flatten):=by
 obtain⟨hl,m⟩:=List.getElem?_eq_some_iff.mp u;have g:j.drop i=y::j.drop (i+1):=by rw[List.drop_eq_getElem_cons hl,m]
 have h2:j=j.take i++y::j.drop (i+1):=by rw[<- g];exact(List.take_append_drop i j).symm
 calc j.flatten=(j.take i++y::j.drop (i+1)).flatten:=by rw[<- h2]
  _=_:=by rw[List.flatten_append,List.flatten_cons]
omit [GlOk] in
theorem sM(m:fE env D e j em)(h:wpAny (model prog w) A (compTurn e depth (.ref I) (.ref D) env) Q No s):
 wpAny (model prog w) (A.under (.compLoop e depth (.ref I) (.ref D) env)) ((model prog w).den (.compLoop e depth (.ref I) (.ref D) env)) Q E s:=by
 cases m with
 |list g j sc pos=>
  show wpAny _ A ((compTurn (.ListComp g j sc pos) depth (.ref I) (.ref D) env).onRaise (λx=>do noteFrame x env;theTreesLotGoes x)) _ _ s;exact wpAny_noted (Wm h (λu u x=>x) λu u f=>f.elim)
 |dict v vx j sc pos=>
  show wpAny _ A ((compTurn (.DictComp v vx j sc pos) depth (.ref I) (.ref D) env).onRaise (λx=>do noteFrame x env;theTreesLotGoes x)) _ _ s;exact wpAny_noted (Wm h (λu u x=>x) λu u f=>f.elim)
noncomputable def Af(s₀:Shared)(XA:Addr->Prop)(V Vw:List Addr)(own:Str->Bool)(env:Env)(κ:List Addr)(σ:List Sto)(D:Addr)(kind:Bool)(ρ:ar)(out:List PV)(s:Shared)(r:Result)(s':Shared):Prop:=
 ∃f,r=.ok f/\Mid s₀ XA V V own env κ σ D kind ρ out s'/\Pr κ Vw s s'
noncomputable def xf(XA:Addr->Prop)(V wr:List Addr)(κ:List Addr)(P:Nat->Value->Heap->Prop)(tp:Bool)(ds:List PV)(s:Shared):Prop:=
 ∀i v (h':Heap),P i v h'->i<ds.length->(∀b o,b∉wr->b∉V->b≠G.P->s.heap.get? b=some o->h'.get? b=some o)->(∀a∈κ,∀o,s.heap.get? a=some o->h'.get? a=some o)->∃d,ds[i]?=some d/\dn tp h' (XV XA (wr++V)) κ v d
theorem qR(IT:IsT F nc k)(a:AOk nc A)(he:fE env D e gens em)
 (L:Lay s₀ env κ D VA) (j:∀g∈gens,g.is_async=0/\∀x,foldedSetIterable g.iter env x=pure x) {ds:List PV}
 (hg:gens[depth]?=some g) (jf:g.is_async=0) (je:dQ g.target=some tx) (H:∀x∈tx.2,own (nm x)=true) (ja:g.ifs.mapM (tr kt env.scope)=some ps) (p:ds.mapM (iW (λe ρ=>ev F σ k e ρ) rest tx.1 tx.2 ps ρ)=some pss)
 (T:∀b∈VA,b∈V) (W:KTurns prog w A g.target I fp wr ds.length P Md St) (jb:St 0 s.heap) (S:∀i h,St i h->∀b∈wr,∃o,h.get? b=some o) (z:∀b∈wr,b∉V) (E:∀b∈fp,b∈wr\/(b∉V/\b≠G.P/\b∉VA))
 (M:xf XA V wr κ P tx.1 ds s) (m:Mid s₀ XA (wr++V) V own env κ σ D kind ρ out s)
 (O:∀i ρ' y U (Q:Shared->Prop),pss[i]?=some y->rest ρ'=some y->Mid s₀ XA (wr++V) V own env κ σ D kind ρ' (out++(pss.take i).flatten) U->
  (∀N,Mid s₀ XA (wr++V) V own env κ σ D kind ρ' (out++(pss.take i).flatten++y) N->Pr κ VA U N->Q N)->iG A e gens depth D env em Q U) :
 codeAny (model prog w) A (.compLoop e depth (.ref I) (.ref D) env) (Af s₀ XA V (wr++VA) own env κ σ D kind ρ (out++pss.flatten) s) s:=by
 have hP:∀b∈wr,b≠G.P:=λb hb=>m.fm.neP (List.mem_append_left _ hb);have r:=be p;refine codeAny_loop rfl (xh s₀ XA V wr VA own env κ σ D kind ρ out pss St s) (λn s' q=>?_) (pss.length+1) ⟨0,Nat.zero_le _,rfl,(List.append_nil out).symm▸m,Pr.refl,jb⟩;refine hid λgG B=>?_;refine zq q λi hi Z m' p' J=>?_;subst Z;obtain⟨gt,jh,jg,ji⟩:=g;obtain rfl:=jf;refine B ?_;clear B gG;refine sM he (nG he hg j ?_);by_cases hlt:i<ds.length
 ·refine m'.item L T W S z hlt J λv s₁ h=>Wm h (λu s₂ q=>?_) λu u f=>f;refine hid λgG B=>?_;refine nk q λm₂ p₂ jd Y=>?_;refine af (M i v s₂.heap jd hlt (λb o h1 h2 h3 e=>p₂.kp.2 b o h1 h3 (p'.kp.2 b o (λh=>(List.mem_append.mp h).elim h1 λh=>h2 (T b h)) h3 e)) λa ha o e=>p₂.kk a ha o (p'.kk a ha o e)) λd jc C=>?_;refine af (iy p i d jc) λy l K=>?_;refine nV (l8 l) λρ' b hb hsub hte l=>?_;refine B ?_;clear B gG;refine m₂.turn IT a L T je H hb ja hte C λU m₄ p₄=>?_;have pp:Pr κ (wr++VA) s U:=(p'.trans (p₂.mono λx R=>List.mem_append_left _ R)).trans (p₄.mono λx R=>List.mem_append_right _ R);have c:=p₄.st z T E hP W Y;refine⟨λe=>?_,λe=>?_⟩
  ·rw[if_pos e]at l;exact O i ρ' y U _ K l m₄ λN m₅ p₅=>⟨rfl,Mid.next K hsub m₅ (pp.trans (p₅.mono λx R=>List.mem_append_right _ R)) (p₅.st z T E hP W c)⟩
  ·rw[e,if_neg Bool.false_ne_true]at l;(replace l:=si l;subst l)
   exact⟨rfl,Mid.next K hsub ((List.append_nil _).symm▸m₄) pp c⟩
 ·have O:i=ds.length:=Nat.le_antisymm (Nt hi (Ne0 r)) (Nat.le_of_not_lt hlt);subst O;refine m'.done L T W z J λs₁ m₁ p₁=>⟨_,rfl,?_,p'.trans (p₁.mono λx R=>List.mem_append_left _ R)⟩
  rw[<- r,List.take_length]at m₁;exact m₁
theorem oA(IH:EvT F nc k)(IT:IsT F nc k)(SR:lm F nc k)(a:AOk nc A){e:Expr}{c:List Comprehension}{em:Sem Unit}(he:fE env D e c em)
 {raw:Scope} (H:own=aW raw) {C:ar->Option PV} {Lo:List PV} (mw:mE A s₀ XA own env κ σ D VA kind em C Lo) (L:Lay s₀ env κ D VA)
 (J:∀g∈c,g.is_async=0/\∀x,foldedSetIterable g.iter env x=pure x) {kt:Nat} :
 ∀(gs:List Comprehension) (g:Comprehension) (z:Nat) (jf:Scope) (r:List (Bool×List Nat)×List PE×List (List PE)),c.drop z=g::gs->eT (tr kt) raw env.scope jf (g::gs)=some r->
 ∀(ds:List PV) (V wr fp:List Addr) (I:Addr) (P Md:Nat->Value->Heap->Prop) (St:Nat->Heap->Prop) (ρ:ar) (out parts rest:List PV) (s:Shared),
  dq (λe ρ=>ev F σ k e ρ) (λe ρ=>aQ F σ true k e ρ) C r.1 r.2.2 r.2.1.tail ρ (some ds)=some parts->Lo=out++(parts++rest)->(∀b∈VA,b∈V)->
  KTurns prog w A g.target I fp wr ds.length P Md St->St 0 s.heap->(∀i h,St i h->∀b∈wr,∃o,h.get? b=some o)->(∀b∈wr,b∉V)->(∀b∈fp,b∈wr\/(b∉V/\b≠G.P/\b∉VA))->
  (∀tx,r.1.head?=some tx->xf XA V wr κ P tx.1 ds s)->
  Mid s₀ XA (wr++V) V own env κ σ D kind ρ out s->
  codeAny (model prog w) A (.compLoop e z (.ref I) (.ref D) env) (Af s₀ XA V (wr++VA) own env κ σ D kind ρ (out++parts) s) s:=by
 intro gs;induction gs with
 |nil=>
  intro g z jf r hdrop htr ds V wr fp I P Md St ρ out parts rest s hfor hL hV W hst hstex hwV hfp hitem m;refine hid λgG R=>?_;refine au (nS hdrop) λhg l=>?_;refine o3 (bL htr) λtx i0 ps r' jp jc jd U mu mv ja O=>?_;subst jp;(replace O:=si O;subst O)
  refine aO (fB hfor) λuf Z e T jq=>?_;subst jq;(replace e:=si e;subst e)
  refine R ?_;clear R gG;refine qR IT a he L J hg jd jc (λx M=>H▸U x M) ja T hV W hst hstex hwV hfp (hitem tx rfl) m λi ρ' y s₄ Q hyi hy m₄ hQ=>?_;unfold iG;rw[show c[z+1]?=none by rw[<- List.head?_drop,l];rfl];refine hid λgG R=>?_;refine omk (show(C ρ').map (λd=>[d])=some y from hy) λd₁ ml mx=>?_;subst ml;refine R ?_;clear R gG;refine Wm (mw (wr++V) ρ' s₄ (out++(Z.take i).flatten) d₁ ((Z.drop (i+1)).flatten++rest) (λx M=>List.mem_append_right _ (hV x M)) m₄.fm m₄.acc mx (by rw[hL,kM hyi];simp)) (λu s₅ q=>?_) λu u f=>f;refine oI q λmq jz ms jo t₅=>?_;exact hQ s₅ ⟨mq,jz,m₄.core.kk jo m₄.fm.exK⟩ ⟨ms,jo,t₅⟩
 |cons g2 gs ih=>
  intro g z jf r hdrop htr ds V wr fp I P Md St ρ out parts rest s hfor hL hV W hst hstex hwV hfp hitem m;refine hid λgG R=>?_;refine au (nS hdrop) λhg l=>?_;refine o3 (bL htr) λtx i0 ps r' jr jc jd U mu mv ja O=>?_;subst jr;refine o3 (bL O) λji i2 me r2 jt jm ma ua jk mr uc ub=>?_;subst jt;refine aO (fB hfor) λud Z e T jl=>?_;subst jl;(replace e:=si e;subst e)
  refine R ?_;clear R gG;refine qR IT a he L J hg jd jc (λx M=>H▸U x M) ja T hV W hst hstex hwV hfp (hitem tx rfl) m λi ρ' y s₄ Q hyi hy m₄ hQ=>?_;have jn:c[z+1]?=some g2:=by rw[<- List.head?_drop,l];rfl
  unfold iG;rw[jn];have jh:dq (λe ρ=>ev F σ k e ρ) (λe ρ=>aQ F σ true k e ρ) C (ji::r2.1) (me::r2.2.2) r2.2.1 ρ' (aQ F σ true k i2 ρ')=some y:=hy;refine af (iS jh) λjw N mb=>?_;rw[N]at jh;refine Wm (SR σ _ _ _ i2 ρ' jw true g2.target ji.1 ji.2 mr N jm jk mb A env (XV XA (wr++V)) κ s₄ a rfl m₄.fm.al) (λx s₅ h₅=>Wm h₅ (λue s₆ hS=>?_) λu u f=>f) λu u f=>f;refine hid λgG R=>?_;obtain⟨sb,I',my,E,P',mf,mi,rfl,W',Y,K,p,js,jb,je,⟨h₆,mz,rfl⟩,B,jg,ju,mg⟩:=hS;refine au (m₄.inner L hV je B p (K _ _ Y) jg ju) λm₆ mo=>?_;refine R ?_;clear R gG;have jj:=(m₄.gr L hV je jg).1.fm;have mj:∀b∈E,b∉wr++V:=λb hb h=>by refine ah (jj.al.S.ex b (.inr h)) λo ho=>?_;rw[p b hb]at ho;exact no ho
  refine wpAny_runOwn (gT he jn ma (λQ hQ=>jb _ Q Y hQ) ?_);refine codeAny_mono (ih g2 (z+1) env.scope _ l O jw (wr++V) E my I' P' mf mi ρ' (out++(Z.take i).flatten) y ((Z.drop (i+1)).flatten++rest) _ jh (by rw[hL,kM hyi];simp)
   (λx M=>List.mem_append_right _ (hV x M)) W' Y K mj (λb hb=>(js b hb).imp id λq=>?_) (λtx M j v h' mk hj mh mt=>?_) m₆) λfl s₇ h₇=>?_
  ·refine bc q λh1 h2 h3=>?_;have jx:b∉wr++V:=λh=>h3.elim (λh3=>h3 (.inr h)) λh3=>by refine ah (L.hκ b h3.2) λo ho=>?_;rw[m₄.fm.fresh b h]at ho;exact no ho
   exact⟨jx,h1,λh=>jx (List.mem_append_right _ (hV b h))⟩
  ·(replace M:=si M;subst M)
   refine mg j v h' _ mk hj (λb o hb e=>?_) λu x M o e=>mt x M o (B x o e);have jy:b∉E:=λh=>by rw[p b h]at e;exact no e
   exact⟨mh b o jy (λh=>hb (.inr h)) (λh=>hb (.inl (h▸jj.xp))) (B b o e),λh=>h.elim (λh=>hb (.inl h)) λh=>(List.mem_append.mp h).elim jy λh=>hb (.inr h)⟩
  ·refine bd h₇ λf jv m₇ p₇=>?_;subst jv;have md:Kp (E++VA) sb s₇:=Kp.trans ⟨⟨_,_,rfl⟩,λb o u u e=>B b o e⟩ p₇.kp;have p8:Pr κ VA s₄ s₇:=⟨(Kp.of_gr je).trans (md.drop p),mo.trans p₇.kk,Nt jg (Nt ju p₇.tk)⟩
   exact hQ s₇ ⟨m₇.fm,m₇.acc,m₄.core.kk p8.kk m₄.fm.exK⟩ p8
end
theorem bh:∀(names:List (Str×NameKind)) (n:Nat) (acc:List (Str×Addr)),cellsFrom n names acc=cellsFrom n names []++acc
 |[],_,_=>rfl
 |(name,kind)::r,n,acc=>by
  unfold cellsFrom;split
  ·rw[bh r (n+1) ((name,n)::acc),bh r (n+1) [(name,n)]];simp
  ·exact bh r n acc
theorem cO:∀(names:List (Str×NameKind)) (n:Nat) (x:Str) (c:Addr),(x,c)∈cellsFrom n names []->(x,NameKind.cell)∈names
 |[],_,_,_,h=>by simp[cellsFrom]at h
 |(name,kind)::r,n,x,c,h=>by
  unfold cellsFrom at h;split at h
  ·rename_i j;rw[bh]at h;rcases List.mem_append.mp h with h|h
   ·exact List.mem_cons_of_mem _ (cO r _ x c h)
   ·simp only[List.mem_singleton,Prod.mk.injEq]at h;rw[h.1,<- beq_iff_eq.mp j];exact .head _
  ·exact List.mem_cons_of_mem _ (cO r _ x c h)
theorem bl:∀(names:List (Str×NameKind)) (n:Nat) (x:Str),(x,NameKind.cell)∈names->∃c,(cellsFrom n names []).lookup x=some c
 |[],_,_,h=>by cases h
 |(name,kind)::r,n,x,h=>by
  unfold cellsFrom;rcases List.mem_cons.mp h with h|h
  ·cases h;rw[if_pos (by rfl),bh,List.lookup_append];cases hq:(cellsFrom (n+1) r []).lookup name with
   |some c=>exact⟨c,rfl⟩
   |none=>exact⟨n,by simp[List.lookup]⟩
  ·split
   ·refine ah (bl r (n+1) x h) λc hc=>?_;exact⟨c,by rw[bh,List.lookup_append,hc];rfl⟩
   ·exact bl r n x h
theorem fY{env:Env}(scope:Scope):∀(h:∀n,(n,NameKind.free)∈scope.names->∃c,env.cells.lookup n=some c),
 ∃cl,closureFor scope env=pure cl/\(∀n c,(n,c)∈cl->env.cells.lookup n=some c/\(n,NameKind.free)∈scope.names)/\∀n,(n,NameKind.free)∈scope.names->∃c,cl.lookup n=some c:=by
 have key:∀(names:List (Str×NameKind)) (acc:List (Str×Addr)),(∀n,(n,NameKind.free)∈names->∃c,env.cells.lookup n=some c)->
  ∃cl,(forIn names acc (λx cs=>(do
   if x.2==NameKind.free then(do let c <- cellOf env x.1;pure (ForInStep.yield ((x.1,c)::cs)))else pure (ForInStep.yield cs):Sem (ForInStep (List (Str×Addr))))))=pure cl/\
   (∀n c,(n,c)∈cl->(n,c)∈acc\/(env.cells.lookup n=some c/\(n,NameKind.free)∈names))/\(∀n,(∃c,acc.lookup n=some c)\/(n,NameKind.free)∈names->∃c,cl.lookup n=some c):=by
  intro names;induction names with
  |nil=>intro acc _;exact⟨acc,by rw[List.forIn_nil],λn c h=>.inl h,λn h=>h.elim id λh=>by cases h⟩
  |cons x r y=>
   intro acc v;obtain⟨n,k⟩:=x;rw[List.forIn_cons];by_cases hk:k=NameKind.free
   ·subst hk;refine ah (v n (.head _)) λc hc=>?_;refine bd (y ((n,c)::acc) λj h=>v j (.tail _ h)) λcl h1 h2 g=>?_;refine⟨cl,?_,λj u h=>?_,λj h=>g j ?_⟩
    ·simp only[beq_self_eq_true,if_true,cellOf,hc,pure_bind];exact h1
    ·rcases h2 j u h with h|⟨h,h'⟩
     ·rcases List.mem_cons.mp h with h|h
      ·cases h;exact .inr ⟨hc,.head _⟩
      ·exact .inl h
     ·exact .inr ⟨h,.tail _ h'⟩
    ·rcases h with⟨u,h⟩|h
     ·left
      clear hc;cases hb:j==n with
      |true=>exact⟨c,by simp[List.lookup,hb]⟩
      |false=>exact⟨u,by simp[List.lookup,hb,h]⟩
     ·rcases List.mem_cons.mp h with h|h
      ·clear hc;cases h;exact .inl ⟨c,by simp[List.lookup]⟩
      ·exact .inr h
   ·refine bd (y acc λj h=>v j (.tail _ h)) λcl h1 h2 g=>?_;have m:(k==NameKind.free)=false:=by simpa using hk
    refine⟨cl,?_,λj u h=>(h2 j u h).imp id λ⟨a,b⟩=>⟨a,.tail _ b⟩,λj h=>g j (h.imp id λh=>?_)⟩
    ·simp only[m,Bool.false_eq_true,if_false,pure_bind];exact h1
    ·rcases List.mem_cons.mp h with h|h
     ·clear y v m;cases h;exact absurd rfl hk
     ·exact h
 intro h;refine bd (key scope.names [] h) λcl h1 h2 g=>?_;refine⟨cl,?_,λn c z=>(h2 n c z).elim (λh=>by cases h) id,λn q=>g n (.inr q)⟩;unfold closureFor;simp only[bind_pure];refine Eq.trans ?_ h1;rfl
section
variable{M:Model}{A:Around}{E:Value->Shared->Prop}{s:Shared}
theorem df{scope:Scope}{j:Addr}{cl:List (Str×Addr)}{qual:Str}{code:Value}{g:Env}{Q:Env->Shared->Prop}
 (u:Q (newEnv scope s.heap.objs.size j (cellsFrom (s.heap.objs.size+1) scope.names cl) qual none code (some g) builtinsNs) {s with heap:=pushCells (s.heap.push {cls:=.type "dict",data:=.dict #[]}) scope.names}) :
 wpAny M A (newFunctionEnv scope j cl [] qual none code (some g)) Q E s:=by
 simp only[newFunctionEnv,Option.isSome_some,if_true];refine Wb (wpAny_alloc ?_);refine Wb (wpAny_layCells _ (λname kind m=>by cases hkc:kind==NameKind.cell<;>simp[hkc]) _ _ _ _ ?_);rw[show({s with heap:=s.heap.push {cls:=.type "dict",data:=.dict #[]}}:Shared).heap.objs.size=s.heap.objs.size+1 from Heap.size_push ..];rw[List.forIn_nil];exact Wb (Wp (Wp u))
end
theorem iU{p:Str->NameKind->Bool}:∀(l:List (Str×NameKind)) (x:Str),(l.map λ(n,k)=>if p n k=true then(n,NameKind.cell)else(n,k)).lookup x=(l.lookup x).map λk=>if p x k=true then NameKind.cell else k
 |[],_=>rfl
 |(n,k)::r,x=>by
  rw[List.map_cons];cases h:x==n with
  |true=>
   have:x=n:=beq_iff_eq.mp h;subst this;by_cases hp:p x k=true<;>simp[List.lookup,hp]
  |false=>
   have j:=iU (p:=p) r x;by_cases hp:p n k=true<;>simp[List.lookup,hp,h,j]
theorem dW:∀(ρ:ar) (x:Nat) (d:PV),(aj ks ρ).lookup x=some d->ρ.lookup x=some d/\x∈ks
 |[],x,d,h=>by simp[aj]at h
 |(y,e)::r,x,d,h=>by
  unfold aj at h;by_cases hy:ks.contains y=true
  ·rw[List.filter_cons_of_pos (by simpa using hy)]at h;cases j:x==y with
   |true=>simp only[List.lookup,j]at h ⊢;exact⟨h,by rw[beq_iff_eq.mp j];simpa using hy⟩
   |false=>
    simp only[List.lookup,j]at h ⊢;exact dW r x d h
  ·rw[List.filter_cons_of_neg (by simpa using hy)]at h;refine hid λm g=>?_;refine au (dW r x d h) λh1 h2=>?_;refine g ?_;clear g m;refine⟨?_,h2⟩;have j:(x==y)=false:=by
    simp only[beq_eq_false_iff_ne,ne_eq];rintro rfl;exact hy (by simpa using h2)
   simp only[List.lookup,j];exact h1
theorem cM{h:Heap}(j:h.objs.size<=a):h.get? a=none:=by
 cases e:h.get? a with
 |none=>rfl
 |some o=>exact absurd (Heap.lt_size e) (Nat.not_lt.mpr j)
noncomputable def u0(sc':Scope)(C:Addr)(cells:List (Str×Addr))(env:Env):Env:={newEnv sc' C env.globals cells env.qual none .none (some env) builtinsNs with scope:=gH sc' env.scope}
theorem lk(names:List (Str×NameKind))(h:Heap):CellsOk (pushCells h names) h.objs.size (cellsFrom h.objs.size names []):=cellsFrom_ok names h _ [] ⟨λu u j=>(nomatch j),List.Pairwise.nil⟩ (Nr _)
section
variable{A:Around}{sb:Shared}{X:Addr->Prop}{wr:List Addr}{κ:List Addr}{σ:List Sto}{env:Env}{ρ:ar}[GlOk]
omit [GlOk] in
theorem eg(h:gJ sc' sc=true):sc'.kind=.function/\(∀x∈sc'.names,sc'.names.lookup x.1=some x.2)/\(∀n,(n,NameKind.free)∈sc'.names->sc.names.lookup n=some .cell\/sc.names.lookup n=some .free):=by
 refine hid λm j=>?_;simp only[gJ,Bool.and_eq_true,List.all_eq_true,beq_iff_eq,Bool.or_eq_true,bne_iff_ne,ne_eq,Bool.not_eq_true']at h;obtain⟨⟨⟨⟨h1,h2⟩,g⟩,_⟩,_⟩:=h;refine j ?_;clear j m;exact⟨h1,h2,λn u=>by simpa using g _ u⟩
theorem o5(al:Al sb X κ σ env ρ){j:Scope}(ml:gJ j env.scope=true){cl:List (Str×Addr)}
 (jb:∀n c,(n,c)∈cl->env.cells.lookup n=some c/\(n,NameKind.free)∈j.names) (N:∀n,(n,NameKind.free)∈j.names->∃c,cl.lookup n=some c)
 {l:Heap} {tk:Nat} (jl:∀b o,sb.heap.get? b=some o->l.get? b=some o) (hw:∀b∈wr,sb.heap.get? b=none) (he:∀b∈wr,∃o,l.get? b=some o) (mi:sb.toks<=tk) (acc:Obj) (jh:acc.isFreed=false) {keep:List Nat}
 (jf:keep=(j.names.filter (·.2==.free)).filterMap λn=>idOf n.1) :
 let C:=l.objs.size+1;let inner:=cellsFrom (l.objs.size+2) j.names [];let M:=pushCells ((l.push acc).push {cls:=.type "dict",data:=.dict #[]}) j.names;let L:=l.objs.size::C::inner.map (·.2);let y:=u0 j C (inner++cl) env;Fm sb X (wr++L) (aW j) y κ σ (aj keep ρ) {sb with heap:=M,toks:=tk}/\i5 sb L y κ {sb with heap:=M,toks:=tk}/\Lay sb y κ l.objs.size L/\(∀b o,l.get? b=some o->M.get? b=some o)/\M.get? l.objs.size=some acc/\(∀b∈wr,b∉L)/\(∀b∈L,l.get? b=none):=by
 intro C inner M L y;refine bc (eg ml) λjm fW B=>?_;have hsz:((l.push acc).push {cls:=.type "dict",data:=.dict #[]}).objs.size=l.objs.size+2:=by rw[Heap.size_push,Heap.size_push]
 have ok:=lk j.names ((l.push acc).push {cls:=.type "dict",data:=.dict #[]});rw[hsz]at ok;have jd:∀b o,l.get? b=some o->M.get? b=some o:=λb o e=>pushCells_keeps _ _ b o (Hp _ (Hp _ e));have F:∀b o,sb.heap.get? b=some o->M.get? b=some o:=λb o e=>jd b o (jl b o e);have hD:M.get? l.objs.size=some acc:=pushCells_keeps _ _ _ _ (Hp _ (Heap.get?_push_size _ jh));have hC:M.Ns C λw=>none:=by
  have:=Heap.Ns.new (l.push acc) (.type "dict");rw[Heap.size_push]at this;exact this.keeps (pushCells_keeps _ _)
 have je:∀n c,inner.lookup n=some c->M.IsCell c none/\l.objs.size+2<=c:=λn c h=>ok.empty n c (mem_of_lookup h);have hV:∀a∈L,l.objs.size<=a:=λa z=>by
  rcases List.mem_cons.mp z with rfl|z
  ·exact Nr _
  rcases List.mem_cons.mp z with rfl|z
  ·exact Nat.le_succ _
  ·refine af (List.mem_map.mp z) λmj H jp=>?_;obtain⟨n,c⟩:=mj;subst jp;have:=(ok.empty n c H).2;exact Nt (Nat.le_add_right _ 2) this
 have jc:∀a∈L,l.get? a=none:=λa z=>cM (hV a z);have ji:∀a,l.get? a=none->sb.heap.get? a=none:=λa z=>by
  cases e:sb.heap.get? a with
  |none=>rfl
  |some o=>rw[jl a o e]at z;injection z
 have E:∀a∈L,sb.heap.get? a=none:=λa z=>ji a (jc a z);have fr:∀a∈wr++L,sb.heap.get? a=none:=λa z=>(List.mem_append.mp z).elim (hw a) (E a);have O:∀n c,inner.lookup n=some c->c∈L:=λn c h=>List.mem_cons_of_mem _ (List.mem_cons_of_mem _ (List.mem_map.mpr ⟨(n,c),mem_of_lookup h,rfl⟩));have K:∀n c,cl.lookup n=some c->c≠G.P/\∃v,sb.heap.IsCell c v:=λn c h=>by
  refine hid λgG W=>?_;refine au (jb n c (mem_of_lookup h)) λh1 h2=>?_;obtain⟨c',U,h4,h5⟩:=al.R.cl n (by rcases B n h2 with h|h;exact .inl h;exact .inr h);rw[h1]at U;(replace U:=si U;subst U);refine W ?_;clear W gG;exact⟨h4,h5⟩
 have g:∀n c,y.cells.lookup n=some c->inner.lookup n=some c\/(inner.lookup n=none/\cl.lookup n=some c):=λn c h=>by
  have h':(inner++cl).lookup n=some c:=h;rw[List.lookup_append]at h';cases hq:inner.lookup n with
  |some c'=>rw[hq]at h';exact .inl h'
  |none=>rw[hq]at h';exact .inr ⟨rfl,h'⟩
 have jg:G.P∉wr++L:=λh=>by
  refine ah (al.S.ex _ al.S.xp) λo ho=>?_;rw[fr _ h]at ho;exact no ho
 have Y:C∈L:=List.mem_cons_of_mem _ (.head _);have mv:∀b o,¬X b->sb.heap.get? b=some o->M.get? b=some o/\¬XV X (wr++L) b:=λb o hx e=>⟨F b o e,λh=>by
  rcases h with h|h
  ·exact hx h
  ·rw[fr b h]at e;exact no e⟩
 have s:∀n c,y.cells.lookup n=some c->c≠G.P/\∃v,M.IsCell c v:=λn c h=>by
  rcases g n c h with h|⟨_,h⟩
  ·exact⟨λe=>jg (List.mem_append_right _ (e▸O n c h)),_,(je n c h).1⟩
  ·obtain⟨h1,v,h2⟩:=K n c h;exact⟨h1,v,h2.keeps F⟩
 have I:∀c v,M.IsCell c v->c≠C:=λc v ⟨o,ho,hd⟩ e=>by
  subst e;refine Ak hC λQ es ep t jr my=>?_;rw[ho]at t;(replace t:=si t;subst t);rw[hd]at jr;injection jr
 have f:∀n,y.kindOf n=(j.names.lookup n).map λk=>if(k==.free&&env.scope.kind==.function&&env.scope.names.lookup n==some .cell)=true then NameKind.cell else k:=λn=>iU (p:=λn k=>k==.free&&env.scope.kind==.function&&env.scope.names.lookup n==some .cell) j.names n
 have Z:∀x∈κ,(∃o,sb.heap.get? x=some o)/\(∀u,¬sb.heap.IsCell x u)/\∀o dx,sb.heap.get? x=some o->o.dict=some dx->(∃Q,sb.heap.get? dx=some Q)/\∀u,¬sb.heap.IsCell dx u:=λx hx=>by
  refine hid λgG W=>?_;refine ah (List.mem_iff_getElem?.mp hx) λi hi=>?_;have jz:i<σ.length:=by rw[<- al.T.len];exact(List.getElem?_eq_some_iff.mp hi).1
  have q:=al.T.at_ i σ[i] x (List.getElem?_eq_getElem jz) hi;refine bc (uw q) λjx n1 n2=>?_;refine bd jx λQ t ua me=>?_;refine W ?_;clear W gG;exact⟨⟨Q,t⟩,n1,λo dx h1 h2=>⟨me dx (by rw[h1]at t;(replace t:=si t;subst t);exact h2),n2 o dx h1 h2⟩⟩
 have ja:∀x,(∃o,sb.heap.get? x=some o)->(∀u,¬sb.heap.IsCell x u)->x≠C/\∀n c,y.cells.lookup n=some c->x≠c:=λx ⟨o,ho⟩ J=>by
  refine⟨λe=>(by rw[e,E _ Y]at ho;exact no ho),λn c h e=>?_⟩;subst e;rcases g n x h with h|⟨_,h⟩
  ·rw[E _ (O n x h)]at ho;exact no ho
  ·obtain⟨_,v,h2⟩:=K n x h;exact J v h2
 have hT:G.tab X sb.heap:=al.S.tab;refine⟨⟨⟨M,tk,rfl⟩,λb o w e=>F b o e,fr,al.S.ex,al.S.xp,⟨⟨λb o e=>F b o (al.S.base b o e),λb o e=>(mv b o (al.S.low b o e) (al.S.base b o e)).2,λa z=>?_,.inl al.S.xp,GxOk.tabMove _ _ _ _ (λb o w hx e=>mv b o hx e) (λo e=>F _ o e) hT⟩,
  ⟨al.T.len,λn x a h1 h2=>(al.T.at_ n x a h1 h2).move mv F⟩,⟨jm,al.R.glob,al.R.bui,λe=>jg (List.mem_append_right _ (e▸Y)),λn J=>?_,λw=>none,hC,λx d hd=>?_⟩,Nt al.pos mi⟩,List.mem_append_right _ Y,λn J=>?_,λn n' c J h h'=>?_,λn c h=>?_,λn c h=>?_,λa z=>?_,λa z o dx h1 h2=>?_⟩,
  ⟨Y,λn x e=>?_,λa z=>.inr (Z a z).1,λa z o dx h1 h2=>?_⟩,⟨.head _,⟨by show l.objs.size≠l.objs.size+1;exact Nat.ne_add_one _,λn c h=>?_⟩,Y,λn x e=>?_,λx hx=>(Z x hx).1⟩,jd,hD,λb hb h=>?_,jc⟩
 ·rcases z with z|z
  ·refine ah (al.S.ex a z) λo ho=>?_;exact⟨o,F a o ho⟩
  ·rcases List.mem_append.mp z with z|z
   ·refine ah (he a z) λo ho=>?_;exact⟨o,jd a o ho⟩
   rcases List.mem_cons.mp z with rfl|z
   ·exact⟨_,hD⟩
   rcases List.mem_cons.mp z with rfl|z
   ·refine qj hC λo mq mr ho mw=>?_;exact⟨o,ho⟩
   ·refine af (List.mem_map.mp z) λju H js=>?_;obtain⟨n,c⟩:=ju;subst js;refine af ((ok.empty n c H).1) λo ho mo=>?_;exact⟨o,ho⟩
 ·-- every cell of the scope is there
  rw[f]at J;have:j.names.lookup n=some .cell\/j.names.lookup n=some .free:=by
   cases hq:j.names.lookup n with
   |none=>rw[hq]at J;simp at J
   |some k=>rw[hq]at J;cases k<;>simp at J ⊢
  have mb:∃c,y.cells.lookup n=some c:=by
   show∃c,(inner++cl).lookup n=some c;rw[List.lookup_append];rcases this with h|h
   ·refine ah (bl j.names (l.objs.size+2) n (mem_of_lookup h)) λc hc=>?_;exact⟨c,by rw[show inner=cellsFrom (l.objs.size+2) j.names []from rfl,hc];rfl⟩
   ·refine ah (N n (mem_of_lookup h)) λc hc=>?_;cases hq:inner.lookup n with
    |some c'=>exact⟨c',rfl⟩
    |none=>exact⟨c,hc⟩
  refine ah mb λc hc=>?_;refine au (s n c hc) λh1 h2=>?_;exact⟨c,hc,h1,h2⟩
 ·refine au (dW ρ x d hd) λhd jo=>?_;refine hid λgG W=>?_;refine af al.R.vars λm mt hv=>?_;obtain⟨ma,v,r,hc⟩:=hv x d hd;refine W ?_;clear W gG;refine⟨ma,v,r.move mv λw w e=>e,.inr ?_⟩;rw[jf]at jo;refine hid λgG W=>?_;refine af (List.mem_filterMap.mp jo) λmg H hid=>?_;obtain⟨n,k⟩:=mg;refine au (List.mem_filter.mp H) λH md=>?_;refine W ?_;clear W gG;have jq:k=.free:=by simpa using md
  subst jq;refine au (bV hid) λjt mx=>?_;subst jt;have jk:j.names.lookup (nm x)=some .free:=fW _ H;have jy:y.kindOf (nm x)=some .cell\/y.kindOf (nm x)=some .free:=by
   rw[f,jk];dsimp only[Option.map_some];split<;>simp
  refine⟨jy,?_⟩;have mk:inner.lookup (nm x)=none:=by
   cases hq:inner.lookup (nm x)with
   |none=>rfl
   |some c=>
    have:=cO _ _ _ _ (mem_of_lookup hq);have h2:j.names.lookup (nm x)=some .cell:=fW _ this;rw[jk]at h2;cases h2
  refine ah (N _ H) λc jj=>?_;have mh:=(jb _ _ (mem_of_lookup jj)).1;have jv:y.cells.lookup (nm x)=some c:=by
   show(inner++cl).lookup (nm x)=some c;rw[List.lookup_append,mk];exact jj
  rcases hc with⟨h1,_⟩|⟨_,c',h2,U,h4⟩
  ·have jn:env.scope.names.lookup (nm x)=some .local:=h1;rcases B _ H with h|h<;>rw[h]at jn<;>cases jn
  ·rw[mh]at U;(replace U:=si U;subst U);exact⟨c,h2,jv,h4.keeps F⟩
 ·-- what is the frame's own
  simp only[aW,Bool.or_eq_true,beq_iff_eq]at J;rcases J with J|J
  ·left;rw[f,J];rfl
  ·right
   refine ah (bl j.names (l.objs.size+2) n (mem_of_lookup J)) λc hc=>?_;refine⟨by rw[f,J];rfl,c,none,List.mem_append_right _ (O n c hc),?_,(je n c hc).1⟩;show(inner++cl).lookup n=some c;rw[List.lookup_append,show inner=cellsFrom (l.objs.size+2) j.names []from rfl,hc];rfl
 ·rcases g n c h with h|⟨_,h⟩
  ·rcases g n' c h' with h'|⟨_,h'⟩
   ·exact name_of_addr ok.apart (mem_of_lookup h) (mem_of_lookup h')
   ·obtain⟨_,v,o,ho,_⟩:=K n' c h';rw[E c (O n c h)]at ho;exact no ho
  ·have:=fW _ (jb n c (mem_of_lookup h)).2;dsimp only[aW,Bool.or_eq_true,beq_iff_eq]at J;dsimp only at this;rw[this]at J;rcases J with J|J<;>cases J
 ·obtain⟨_,v,hv⟩:=s n c h;exact I c v hv
 ·obtain⟨h1,v,o,ho,_⟩:=s n c h;exact⟨h1,o,ho⟩
 ·refine bc (Z a z) λh1 h2 mu=>?_;exact ja a h1 h2
 ·refine bc (Z a z) λmf ms U=>?_;refine ah mf λQ t=>?_;have:o=Q:=Option.some.inj (h1.symm.trans (F _ _ t));subst this;refine au (U o dx t h2) λh4 h5=>?_;exact ja dx h4 h5
 ·rcases g n x e with h|⟨_,h⟩
  ·exact .inl (O n x h)
  ·obtain⟨_,v,o,ho,_⟩:=K n x h;exact .inr ⟨o,ho⟩
 ·refine bc (Z a z) λjw mz U=>?_;refine ah jw λQ t=>?_;have:o=Q:=Option.some.inj (h1.symm.trans (F _ _ t));subst this;exact .inr (U o dx t h2).1
 ·rintro rfl
  rcases g n _ h with h|⟨_,h⟩
  ·have:=(je n _ h).2;lia
  ·obtain⟨_,v,o,ho,_⟩:=K n _ h;rw[E _ (.head _)]at ho;exact no ho
 ·rcases g n x e with h|⟨_,h⟩
  ·exact .inl (O n x h)
  ·obtain⟨_,v,o,ho,_⟩:=K n x h;exact .inr ⟨o,ho⟩
 ·refine ah (he b hb) λo ho=>?_;rw[jc b h]at ho;exact no ho
end
section
variable{A:Around}{s s' s₀:Shared}{XA:Addr->Prop}{V wr:List Addr}{own:Str->Bool}{κ:List Addr}{σ:List Sto}{env:Env}{ρ ρ':ar}[GlOk]
 {F:Nat->List PV->Option PV} {nc k:Nat} {D:Addr}
theorem Fm.poke(f:Fm s₀ XA V own env κ σ ρ s)(hD:D∈V)(hl:D≠env.locals)(hc:∀n c,env.cells.lookup n=some c->D≠c)
 (hκ:∀a∈κ,a≠D/\∀o dx,s.heap.get? a=some o->o.dict=some dx->dx≠D) (j:Heap.SameBut D s.heap h') (L:∃o,h'.get? D=some o) (B:s.toks<=tk) :
 Fm s₀ XA V own env κ σ ρ {s with heap:=h',toks:=tk}:=by
 refine bx f.same λI Y J=>?_;have i:XV XA V D:=.inr hD;have W:D≠G.P:=f.neP hD;have O:∀a∈κ,∀o,h'.get? a=some o->s.heap.get? a=some o:=λa y o e=>(j.2 a (hκ a y).1).symm.trans e;refine⟨⟨h',tk,by rw[J]⟩,λb o u e=>(j.2 b (λx=>by have:=f.fresh _ hD;rw[<- x,e]at this;injection this)).trans (f.keep b o u e),f.fresh,f.x0,f.xp,
  ⟨f.al.S.write i W j L,f.al.T.write i j (λb u=>(hκ b u).1) (λb u o dx h1 h2=>(hκ b u).2 o dx h1 h2),?_,Nt f.al.pos B⟩,f.loc,λn z=>?_,f.ap,f.lc,λn c h=>⟨(f.ce n c h).1,let⟨o,ho⟩:=(f.ce n c h).2;⟨o,(j.2 _ (Ne.symm (hc n c h))).trans ho⟩⟩,f.kl,λa y o dx h1 h2=>f.kd a y o dx (O a y o h1) h2⟩
 ·obtain⟨U,C,H,l,E,m,z,Z⟩:=f.al.R;refine⟨U,C,H,l,λn M=>let⟨c,h1,h2,v,t⟩:=E n M;⟨c,h1,h2,v,t.sameBut j (Ne.symm (hc n c h1))⟩,m,z.sameBut j (Ne.symm hl),λx d e=>?_⟩;obtain⟨K,v,r,p⟩:=Z x d e;exact⟨K,v,r.write i j,p.imp id λ⟨q,g,h0,h1,h2⟩=>⟨q,g,h0,h1,h2.sameBut j (Ne.symm (hc _ g h1))⟩⟩
 ·rcases f.st n z with q|⟨q,g,v,h1,h2,t⟩
  ·exact .inl q
  ·exact .inr ⟨q,g,v,h1,h2,t.sameBut j (Ne.symm (hc n g h2))⟩
noncomputable def Old(s₀:Shared)(κ:List Addr):Prop:=∀a∈κ,∃o,s₀.heap.get? a=some o/\∀dx,o.dict=some dx->∃o',s₀.heap.get? dx=some o'
theorem Old.of'(al:Al s X κ σ env ρ):Old s κ:=λx m=>let⟨u,g,_,j⟩:=al.T.ex m;⟨u,g,j⟩
theorem Old.apart(od:Old s₀ κ)(f:Fm s₀ XA V own env κ σ ρ s)(hD:D∈V):∀a∈κ,a≠D/\∀o dx,s.heap.get? a=some o->o.dict=some dx->dx≠D:=λa z=>by
 refine af (od a z) λr j u=>?_;refine bd (f.stoEx z) λt y m q=>?_;have v:a≠G.P:=ci f.al.S.tab y m;refine⟨λe=>?_,λo dx h1 h2 e=>?_⟩
 ·subst e;rw[f.fresh _ hD]at j;exact no j
 ·have:=f.keep a r v j;rw[h1]at this;(replace this:=si this;subst this);refine ah (u dx h2) λd g=>?_;subst e;rw[f.fresh _ hD]at g;exact no g
theorem rB(B:EvT F nc k)(a:AOk nc A){L:List PV}(E:tr kt env.scope elt=some pelt)(R:L.length<=ag)(j:D∈VA)(hDc:D≠env.locals/\∀n c,env.cells.lookup n=some c->D≠c)
 (od:Old s₀ κ):mE A s₀ XA own env κ σ D VA false (do let _ <- call (.builtin "list.append") [.ref D,<- eval elt env]) (λρ=>ev F σ k pelt ρ) L:=by
 intro V' ρ s out d rest hV fm acc hd hLe;refine Wb (Wm (wpAny_toks (B σ kt _ elt pelt ρ d E hd A env (XV XA V') κ s a rfl fm.al)) (λv O ⟨tk,i,I⟩=>?_) λu u f=>f.2);have y:=fm.gr i (Nt fm.al.pos tk);have p:D≠G.P:=fm.neP (hV D j);obtain⟨vs,n,l,T⟩:=acc;have C:∀b o,b≠G.P->s.heap.get? b=some o->O.heap.get? b=some o:=λb o h e=>by refine aO i λh' tk r hk ja=>?_;subst r;exact hk b o h e
 have M:O.heap.PlainList D vs.toArray:=⟨n,C D _ p l⟩
 have m:vs.length<ag:=by rw[T.len];rw[hLe]at R;simp at R;exact Nat.lt_of_add_right_lt R
 refine Wb (wpAny_list_append_plain (hsz:=by show vs.toArray.size<=_;simp only[List.size_toArray];unfold ag at m;unfold sizeLine;lia) M λh' q g=>Wp ?_);refine ah q λn' z=>?_;have J:=y.poke (hV D j) hDc.1 hDc.2 (od.apart y (hV D j)) (tk:=O.toks) g ⟨_,z⟩ (Nr _);have K:∀b o,¬XV XA V' b->O.heap.get? b=some o->h'.get? b=some o:=λb o h e=>(g.2 b (λx=>h (.inr (x▸hV D j)))).trans e;refine⟨J,⟨vs++[v],n',?_,((i.repL (.inl fm.xp) T).keeps K).snoc (I.keeps K)⟩,?_,λa H o e=>?_,tk⟩
 ·rw[z];simp[du]
 ·refine aO i λh₁ N t Y U=>?_;clear B E R hDc hd hLe tk i I p l T M m q z J K U;subst t;exact⟨⟨_,_,rfl⟩,λb o h Q e=>(g.2 b (λx=>h (x▸j))).trans (Y b o Q e)⟩
 ·refine bd (fm.stoEx H) λo2 W Z jb=>?_;exact(g.2 a (od.apart y (hV D j) a H).1).trans (C a o (ci fm.al.S.tab W Z) e)
noncomputable def fT(X:Addr->Prop)(κ:List Addr)(kind:Bool)(out:List PV)(s:Shared)(D C:Addr)(s':Shared):Prop:=
 Gr X s s'/\s.toks<=s'.toks/\s.heap.get? D=none/\s.heap.get? C=none/\D≠C/\(∃m,s'.heap.Ns C m)/\G.tab (λa=>X a\/a=C) s'.heap/\hY κ D (λa=>X a\/a=C) s'.heap kind out
omit [GlOk] in
theorem mH(b:∀sc e pe,trI (T sc) sc e=some pe->okE e=true)(m:Env):∀(gs:List Comprehension) (sc:Scope) r,eT T raw inner sc gs=some r->∀g∈gs,g.is_async=0/\∀x,foldedSetIterable g.iter m x=pure x:=by
 intro gs;induction gs with
 |nil=>intro _ _ _ g o;cases o
 |cons g gs c=>
  intro sc r h d j;refine o3 (bL h) λp i f a y q u z v l t n=>?_;clear h y q z v t;rcases List.mem_cons.mp j with rfl|j
  ·exact⟨u,λx=>oo (b _ _ _ l) x⟩
  ·exact c _ _ n d j
theorem lt(IH:EvT F nc k)(IT:IsT F nc k)(SR:lm F nc k)(a:AOk nc A){X:Addr->Prop}{e:Expr}{g:Comprehension}{gs:List Comprehension}{mk:Env->Addr->Sem Unit}
 {scope:Scope} {kt:Nat} {r:List (Bool×List Nat)×List PE×List (List PE)} (mg:gJ scope env.scope=true)
 (jd:eT (tr kt) scope (gH scope env.scope) env.scope (g::gs)=some r) {kind:Bool} {jj:ar->Option PV} {L:List PV} {i0:PE} (jf:r.2.1.head?=some i0)
 (p:dq (λe ρ=>ev F σ k e ρ) (λe ρ=>aQ F σ true k e ρ) jj r.1 r.2.2 r.2.1.tail (aj (fh scope) ρ) (aQ F σ true k i0 ρ)=some L)
 (he:∀j D,fE j D e (g::gs) (mk j D))
 (mi:∀j (s₀:Shared) D VA,j.scope=gH scope env.scope->D∈VA->(D≠j.locals/\∀n c,j.cells.lookup n=some c->D≠c)->Old s₀ κ->mE A s₀ X (aW scope) j κ σ D VA kind (mk j D) jj L)
 {t:Sem Value} (z:Obj) (je:z.isFreed=false) (jo:∀(s:Shared) (Q:Value->Shared->Prop),Q (.ref s.heap.objs.size) {s with heap:=s.heap.push z}->wpAny (model prog w) A t Q No s)
 (jh:∀(h:Heap) (X':Addr->Prop) (D:Addr),h.get? D=some z->hY κ D X' h kind []) {cl:List (Str×Addr)}
 (jy:∀n c,(n,c)∈cl->env.cells.lookup n=some c/\(n,NameKind.free)∈scope.names) (ji:∀n,(n,NameKind.free)∈scope.names->∃c,cl.lookup n=some c)
 {RR:Value->Addr->Result->Shared->Prop} (al:Al s X κ σ env ρ) (mf:∀D C f s',fT X κ kind L s D C s'->RR (.ref D) C (.ok f) s') :
 wpAny (model prog w) A (eval g.iter env) (λx s₁=>wpAny (model prog w) A (pyIter x) (λit s₂=>wpAny (model prog w) A t (λacc s₃=>
  wpAny (model prog w) A (newFunctionEnv scope env.globals cl [] env.qual none .none (some env)) (λj s₄=>
   codeAny (model prog w) A (.compStart e 0 it acc {j with scope:=relabel scope env}) (RR acc j.locals) s₄) No s₃) No s₂) No s₁) No s:=by
 have Z:=jd;refine hid λgG gF=>?_;refine o3 (bL jd) λtx mo ms r' jn jx jz jl me md ju jg=>?_;clear jd jl ju jg;subst jn;(replace jf:=si jf;subst jf)
 refine af (iS p) λds jt d=>?_;rw[jt]at p;refine gF ?_;clear gF gG;refine Wm (SR σ _ _ _ _ ρ ds true g.target tx.1 tx.2 md jt jx me d A env X κ s a rfl al) (λx s₁ h₁=>Wm h₁ (λml s₂ hS=>?_) λu u f=>f) λu u f=>f;obtain⟨sb,I,fp,wr,P,Md,St,rfl,W,B,l,T,jv,ja,gr,⟨y,mr,rfl⟩,M,jk,tk2,ma⟩:=hS;have O:=al.gr gr (Nt al.pos jk);refine jo _ _ (df ?_);dsimp only;have hf:=o5 O mg jy ji M T (l _ _ B) tk2 z je rfl;dsimp only at hf;rw[Heap.size_push,bh];refine Ag hf λfm core L0 jc hD mh K=>?_;have od:Old sb κ:=Old.of' O;have U:St 0 (pushCells ((y.push z).push {cls:=.type "dict",data:=.dict #[]}) scope.names):=W.frame _ _ _ B λb d o e=>jc b o e;have N:({newEnv scope (y.objs.size+1) env.globals (cellsFrom (y.objs.size+1+1) scope.names []++cl) env.qual none .none (some env) builtinsNs with scope:=relabel scope env}:Env)=u0 scope (y.objs.size+1) (cellsFrom (y.objs.size+2) scope.names []++cl) env:=rfl;rw[N];have jb:(newEnv scope (y.objs.size+1) env.globals (cellsFrom (y.objs.size+1+1) scope.names []++cl) env.qual none .none (some env) builtinsNs).locals=y.objs.size+1:=rfl;rw[jb];generalize hce:u0 scope (y.objs.size+1) (cellsFrom (y.objs.size+2) scope.names []++cl) env=j at *;have E:j.locals=y.objs.size+1:=by rw[<- hce];rfl
 have q:j.scope=gH scope env.scope:=by rw[<- hce];rfl
 have jp:=K _ (.tail _ (.head _));generalize hVA:y.objs.size::(y.objs.size+1)::(cellsFrom (y.objs.size+2) scope.names []).map (·.2)=VA at *;generalize pushCells ((y.push z).push {cls:=.type "dict",data:=.dict #[]}) scope.names=h₄ at *;refine gT (he j y.objs.size) (g:=g) rfl jz (λQ hQ=>ja _ Q U hQ) ?_;have bk:∀b,y.get? b=none->sb.heap.get? b=none:=λb d=>by
  cases e:sb.heap.get? b with
  |none=>rfl
  |some o=>rw[M b o e]at d;injection d
 refine codeAny_mono (oA IH IT SR a (he j y.objs.size) (raw:=scope) rfl (mi j sb y.objs.size VA q L0.hD L0.hDc od) L0 (mH (λu u u h=>qp h) j _ _ _ Z) gs g 0 env.scope _ rfl (by rw[q];exact Z)
  ds VA wr fp I P Md St (aj (fh scope) ρ) [] L [] _ p (by simp) (λu h=>h) W U l mh (λb d=>?_) (λtx J i v h' hP hi h1 h2=>?_) ⟨fm,jh _ _ _ hD,core⟩) λr s' h=>?_
 ·rcases jv b d with h|⟨h1,⟨o,ho⟩,_⟩
  ·exact .inl h
  ·have:b∉VA:=λh=>by rw[bk b (K b h)]at ho;exact no ho
   exact .inr ⟨this,h1,this⟩
 ·(replace J:=si J;subst J)
  refine ma i v h' _ hP hi (λb o d e=>?_) λu x J o e=>h2 x J o (jc _ _ (M _ _ e));have hw:b∉wr:=λh=>by rw[T b h]at e;exact no e
  have hv:b∉VA:=λh=>by rw[bk b (K b h)]at e;exact no e
  exact⟨h1 b o hw hv (λh=>d (h▸al.S.xp)) (jc _ _ (M _ _ e)),λh=>h.elim d λh=>(List.mem_append.mp h).elim hw hv⟩
 ·refine bd h λf jr m' p'=>?_;subst jr;have Y:∀b,y.get? b=none->s.heap.get? b=none:=λb d=>by
   have H:=bk b d;cases e:s.heap.get? b with
   |none=>rfl
   |some o=>
    refine aO gr λhq tq jm mb mj=>?_;subst jm;by_cases hbP:b=G.P
    ·subst hbP;refine ah (O.S.ex _ O.S.xp) λo' js=>?_;rw[H]at js;exact no js
    ·rw[mb b o hbP e]at H;injection H
  have jw:y.objs.size+1∈VA:=by rw[<- hVA];exact .tail _ (.head _)
  have J:∀b:Addr,X b\/b=y.objs.size+1->XV X VA b:=λb h=>h.imp id λe=>by rw[e];exact jw
  refine mf _ _ f s' ⟨gr.trans ?_,Nt jk (Nt tk2 p'.tk),Y _ (K _ L0.hD),Y _ jp,(by have:=L0.hDc.1;rw[E]at this;exact this),?_,?_,?_⟩
  ·refine bx m'.fm.same λhq tq jq=>?_;subst jq;refine⟨hq,tq,rfl,λb o d e=>m'.fm.keep b o d e,?_⟩;exact GxOk.tabMove _ _ _ _ (λb o u J e=>⟨e,λh=>J (.inl h)⟩) (λu e=>e) m'.fm.al.S.tab
  ·refine af m'.fm.al.R.vars λm hn mq=>?_;exact⟨m,E▸hn⟩
  ·exact GxOk.tabMove _ _ _ _ (λb o u h e=>⟨e,λh'=>h (J b h')⟩) (λu e=>e) m'.fm.al.S.tab
  ·exact m'.acc.move (λb o h e=>⟨e,λh'=>h (J b h')⟩) λo e=>e
end
section
variable{A:Around}{s s' s₀:Shared}{XA:Addr->Prop}{V wr:List Addr}{own:Str->Bool}{κ:List Addr}{σ:List Sto}{env:Env}{ρ ρ':ar}[GlOk]
 {F:Nat->List PV->Option PV} {nc k:Nat} {D:Addr}
omit [GlOk] in
theorem k3(al:Al s XA κ σ env ρ)(g:gJ sc' env.scope=true):
 ∃cl,closureFor sc' env=pure cl/\(∀n c,(n,c)∈cl->env.cells.lookup n=some c/\(n,NameKind.free)∈sc'.names)/\∀n,(n,NameKind.free)∈sc'.names->∃c,cl.lookup n=some c:=by
 refine bc (eg g) λm v j=>?_;refine fY sc' λn u=>?_;obtain⟨c,hc,_⟩:=al.R.cl n (by rcases j n u with h|h;exact .inl h;exact .inr h);exact⟨c,hc⟩
theorem f9(P:EvT F nc k)(I:IsT F nc k)(SR:lm F nc k)(a:AOk nc A)
 (S:tr (kt+1) env.scope (.ListComp elt gens sc' pos)=some pe) (hd:ev F σ (k+1) pe ρ=some d) (al:Al s X κ σ env ρ)
 (h:∀D C s' l,d=.list l->fT X κ false l s D C s'->compPost (model prog w) A No use Q (.ref D) C (.ok .next) s') :
 wpAny (model prog w) A (comprehension (.ListComp elt gens sc' pos) sc' env (firstIterPos gens pos) (newList []) (firstAsync gens) (firstIter gens env) use) Q No s:=by
 refine hid λO y=>?_;refine ze (show(if gJ sc' env.scope then _ else none)=some pe from S) λr T b m z o=>?_;clear S;subst b;refine zc hd λi0 L hd i q B=>?_;(replace hd:=si hd;subst hd)
 refine y ?_;clear y O;clear hd;cases gens with
 |nil=>(replace z:=si z;subst z);exact no i
 |cons g gs=>
  refine hid λO y=>?_;refine o3 (bL z) λtx H jb r' c N K U jc n W R=>?_;subst c;refine bd (k3 al m) λcl u J v=>?_;refine bc (eg m) λe fW ja=>?_;obtain⟨t,Y,M,as⟩:=g;obtain rfl:=(show as=0 from K)
  refine y ?_;clear y O;refine wpAny_comprehension_free (g:=⟨t,Y,M,0⟩) (gs:=gs) rfl (λx=>mO n x) u e (λx E hl=>by rw[fW x E,hl]) ?_;exact lt (RR:=λacc C r s'=>compPost (model prog w) A No use Q acc C r s') (mk:=λj D=>do let _ <- call (.builtin "list.append") [.ref D,<- eval elt j]) P I SR a m z i q (λj D=>.list elt _ sc' pos)
   (λj s₀ D VA hs p hDc od=>rB P a (hs▸o) B p hDc od) (du [] 0) rfl (λs Q h=>wpAny_newObj_type h (by size_fits)) (λh X' D hD=>⟨_,_,hD,.nil⟩) J v al
   λD C f s' Z=>by
    have:=h D C s' L rfl Z;cases use<;>exact this
omit [GlOk] in
theorem oj{L:List PV}(h:L.mapM kvP=some ps):L=ps.map λp=>.tuple [.int p.1,p.2]:=by
 induction L generalizing ps with
 |nil=>obtain rfl:=mn h;rfl
 |cons d r y=>
  refine mck h λp t v g m=>?_;clear h;subst m;refine wbm v λq i j z u=>?_;subst j;rw[jM z,aA u,y g];rfl
omit [GlOk] in
theorem emptyDict:(dictOf [] 0).IsDictOf (intKind prog w) []:=by
 have:=Heap.DictOf.new (knd:=intKind prog w) ({}:Heap);refine qj this λo g j ho r=>?_;rw[Heap.get?_push_size _ rfl]at ho;(replace ho:=si ho;subst ho)
 exact⟨g,j,r⟩
omit [GlOk] in
theorem aT.keysEq{R:Value->PV->Prop}{vs:List (Int×Value)}{ds:List (Int×PV)}(r:aT (λp q=>p.1=q.1/\R p.2 q.2) vs ds):vs.map (·.1)=ds.map (·.1):=by
 induction r with
 |nil=>rfl
 |cons h t j=>rw[List.map_cons,List.map_cons,j,h.1]
omit [GlOk] in
theorem kj:∀(j ps:List (Int×PV)),(ps.map λp=>PV.tuple [.int p.1,p.2])=(j.map λp=>PV.tuple [.int p.1,p.2])++PV.tuple [d1,d2]::rest->
 ∃(i:Int) (rs:List (Int×PV)),d1=.int i/\ps=j++(i,d2)::rs
 |[],[],h=>by simp at h
 |[],p::r,h=>by simp at h;obtain⟨⟨rfl,rfl⟩,_⟩:=h;exact⟨p.1,r,rfl,rfl⟩
 |q::j,[],h=>by simp at h
 |q::j,p::r,h=>by
  simp at h;refine hid λu g=>?_;obtain⟨⟨h1,h2⟩,m⟩:=h;obtain⟨i,rs,v,y⟩:=kj (d1:=d1) (d2:=d2) (rest:=rest) j r (by simpa using m);refine g ?_;clear g u;exact⟨i,rs,v,by rw[y,List.cons_append,Prod.ext h1 h2]⟩
theorem sm(IH:EvT F nc k)(a:AOk nc A){kt:Nat}{kx vx:Expr}{pk pv:PE}{VA:List Addr}{L:List PV}{ps:List (Int×PV)}(O:tr kt env.scope kx=some pk)(jb:tr kt env.scope vx=some pv)
 (jf:L=ps.map λp=>.tuple [.int p.1,p.2]) (hL:(ps.map (·.1)).Nodup/\ps.length<=ag) (j:D∈VA) (hDc:D≠env.locals/\∀n c,env.cells.lookup n=some c->D≠c)
 (od:Old s₀ κ):mE A s₀ XA own env κ σ D VA true (do
  let kv <- eval kx env;let vv <- holding [kv] (eval vx env);standAt {kx.pos with endLine:=vx.pos.endLine,endCol:=vx.pos.endCol}
  holding [kv,vv] (dictSet D kv vv)) (λρ=>(ev F σ k pk ρ).bind λa=>(ev F σ k pv ρ).map λb=>.tuple [a,b]) L:=by
 intro V' ρ s out d rest hV fm acc hd hLo;refine wbm hd λd1 d2 C N B=>?_;clear hd;subst C;refine Wb (Wm (wpAny_toks (IH σ kt _ kx pk ρ d1 O N A env (XV XA V') κ s a rfl fm.al)) (λv s₁ ⟨tk,g₁,r₁⟩=>?_) λu u f=>f.2);have m:=fm.gr g₁ (Nt fm.al.pos tk);refine Wb (wpAny_holding (Wm (wpAny_toks (IH σ kt _ vx pv ρ d2 jb B A env (XV XA V') κ s₁ a rfl m.al)) (λv2 s₂ ⟨tk2,g₂,r₂⟩=>?_) λu u f=>f.2));have J:=m.gr g₂ (Nt m.al.pos tk2);have H:D≠G.P:=fm.neP (hV D j);have q:∀b o,b≠G.P->s.heap.get? b=some o->s₁.heap.get? b=some o:=λb o g e=>by refine aO g₁ λh' tk E hk jr=>?_;subst E;exact hk b o g e
 have r:∀b o,b≠G.P->s₁.heap.get? b=some o->s₂.heap.get? b=some o:=λb o g e=>by refine aO g₂ λh' tk W hk jq=>?_;subst W;exact hk b o g e
 clear IH O jb N B m;obtain⟨o,kvs,qs,jg,ho,rd,rfl⟩:=acc;rw[jf]at hLo;refine cb (kj qs ps hLo) λi rs Y Q=>?_;subst Y;subst Q;have l:kvs.map (·.1)=qs.map (·.1):=rd.keysEq;have jd:i∉kvs.map (·.1):=by
  rw[l];have:=hL.1;simp only[List.map_append,List.map_cons,List.nodup_append]at this;intro h;exact this.2.2 i h i (.head _) rfl
 have R:kvs.length<ag:=by
  have h1:kvs.length=qs.length:=rd.len;have h2:=hL.2;simp at h2;exact Nl (Nm (Ne0 h1) (Nat.lt_add_of_pos_right (Nat.succ_pos _))) h2
 have je:stored kvs i v2=kvs++[(i,v2)]:=by
  unfold stored;rw[if_neg];simp only[List.any_eq_true,decide_eq_true_eq,not_exists,not_and];rintro⟨x,y⟩ hm rfl
  exact jd (List.mem_map.mpr ⟨_,hm,rfl⟩)
 have jm:s₂.heap.DictOf (intKind prog w) D kvs:=Heap.dictOf_iff.mpr ⟨o,r D _ H (q D _ H jg),ho⟩;refine ah r₁.inv λt Z=>?_;subst Z;refine Wb (wpAny_standAt (wpAny_holding (wpAny_dictSet_pairs (hsz:=by unfold ag at R;unfold sizeLine;lia) (intKind_is prog w i t) jm λh' M z=>?_)));rw[je]at M;refine af (Heap.dictOf_iff.mp M) λo' ja jc=>?_;have jk:=J.poke (hV D j) hDc.1 hDc.2 (od.apart J (hV D j)) (tk:=s₂.toks+1) z ⟨_,ja⟩ (Nat.le_succ _);have K:∀b o,¬XV XA V' b->s₂.heap.get? b=some o->h'.get? b=some o:=λb o g e=>(z.2 b (λx=>g (.inr (x▸hV D j)))).trans e;have jj:gy h' (XV XA V') κ (kvs++[(i,v2)]) (qs++[(i,d2)]):=
  (rd.keepsD λb o g e=>K b o g (r b o (λh=>g (.inl (h▸fm.xp))) (q b o (λh=>g (.inl (h▸fm.xp))) e))).snoc ⟨rfl,r₂.keeps K⟩
 refine⟨jk,⟨o',_,_,ja,jc,jj,by rw[List.map_append];rfl⟩,?_,λa ha o e=>?_,Nat.le_succ_of_le (Nt tk tk2)⟩
 ·refine aO g₁ λh₁ jp I jl jt=>?_;subst I;refine aO g₂ λh₂ ju U ji js=>?_;subst U;exact⟨⟨_,_,rfl⟩,λb o g hp e=>(z.2 b (λx=>g (x▸j))).trans (ji b o hp (jl b o hp e))⟩
 ·refine bd (fm.stoEx ha) λo2 jh jn jo=>?_;have T:=ci fm.al.S.tab jh jn;exact(z.2 a (od.apart J (hV D j) a ha).1).trans (r a o T (q a o T e))
theorem f3(T:EvT F nc k)(IT:IsT F nc k)(SR:lm F nc k)(a:AOk nc A)
 (W:tr (kt+1) env.scope (.DictComp kx vx gens sc' pos)=some pe) (hd:ev F σ (k+1) pe ρ=some d) (al:Al s X κ σ env ρ)
 (h:∀D C s' l,d=.dict l->fT X κ true (l.map λp=>.tuple [.int p.1,p.2]) s D C s'->compPost (model prog w) A No use Q (.ref D) C (.ok .next) s') :
 wpAny (model prog w) A (comprehension (.DictComp kx vx gens sc' pos) sc' env (firstIterPos gens pos) (newDict) (firstAsync gens) (firstIter gens env) use) Q No s:=by
 refine hid λS z=>?_;refine zL (show(if gJ sc' env.scope then _ else none)=some pe from W) λr pk pv c m e J K=>?_;clear W;subst c;refine oT hd λi0 L ps hd n i v I=>?_;(replace hd:=si hd;subst hd)
 refine z ?_;clear z S;clear hd;cases gens with
 |nil=>(replace e:=si e;subst e);exact no n
 |cons g gs=>
  refine hid λS z=>?_;refine o3 (bL e) λtx ja jc r' q jb P Y jd o je U=>?_;subst q;refine bd (k3 al m) λcl u O y=>?_;refine bc (eg m) λb fW H=>?_;obtain⟨t,B,R,as⟩:=g;obtain rfl:=(show as=0 from P)
  refine z ?_;clear z S;refine wpAny_comprehension_free (g:=⟨t,B,R,0⟩) (gs:=gs) rfl (λx=>mO o x) u b (λx N hl=>by rw[fW x N,hl]) ?_;exact lt (RR:=λacc C r s'=>compPost (model prog w) A No use Q acc C r s') (mk:=λj D=>do
   let kv <- eval kx j;let vv <- holding [kv] (eval vx j);standAt {kx.pos with endLine:=vx.pos.endLine,endCol:=vx.pos.endCol}
   holding [kv,vv] (dictSet D kv vv)) T IT SR a m e n i (λj D=>.dict kx vx _ sc' pos)
   (λj s₀ D VA Z M hDc od=>sm T a (Z▸J) (Z▸K) (oj v) I M hDc od) (dictOf [] 0) rfl (λs Q h=>wpAny_newObj_type h (by size_fits)) (λh X' D hD=>⟨_,_,_,hD,emptyDict,.nil,rfl⟩) O y al
   λD C f s' E=>by
    have:=h D C s' ps rfl (oj v▸E);cases use<;>exact this
omit [GlOk] in
theorem hY.keepC(a:hY κ D (λa=>X a\/a=C) h b out)(m:Heap.SameBut C h h')(j:D≠C):hY κ D X h' b out:=
 a.move (λb o g e=>⟨(m.2 b λx=>g (.inr x)).trans e,λh=>g (.inl h)⟩) λo e=>(m.2 D j).trans e
theorem fT.fin(r:fT X κ kind out s D C s')(S:St X s.heap)(m:Heap.SameBut C s'.heap h'):
 Gr X s {s' with heap:=h'}/\hY κ D X h' kind out/\¬X D:=by
 refine vY r λj v hD c y l t acc=>?_;refine aO j λp tk g n f=>?_;clear r j v l f;subst g;have q:∀b,X b->b≠C:=λb d e=>by refine ah (S.ex b d) λo ho=>?_;subst e;rw[c]at ho;exact no ho
 refine⟨⟨h',tk,rfl,λb o d e=>(m.2 b λx=>by subst x;rw[c]at e;exact no e).trans (n b o d e),?_⟩,acc.keepC m y,λh=>by refine ah (S.ex D h) λo ho=>?_;rw[hD]at ho;exact no ho⟩;have z:G.P≠C:=q _ S.xp;exact GxOk.tabMove _ _ _ _ (λb o u i e=>⟨(m.2 b λx=>i (.inr x)).trans e,λh=>i (.inl h)⟩) (λo e=>(m.2 _ z).trans e) t
omit [GlOk] in
theorem kK:∀(l ps:List (Int×PV)),(l.map λp=>PV.tuple [.int p.1,p.2])=(ps.map λp=>PV.tuple [.int p.1,p.2])->ps=l
 |[],[],_=>rfl
 |[],_::_,h=>by simp at h
 |_::_,[],h=>by simp at h
 |x::r,y::t,h=>by
  simp at h;refine au h λj g=>?_;refine au j λh1 h2=>?_;rw[kK r t (by simpa using g),Prod.ext h1 h2]
omit [GlOk] in
theorem mN[GxOk](S:St X s.heap)(hD:s.heap.get? D=none):(D==sysModules)=false:=by
 refine ah (GxOk.sysm) λo ho=>?_;have:=S.base _ o ho;simp only[beq_eq_false_iff_ne,ne_eq];rintro rfl
 rw[hD]at this;exact no this
theorem yK(v:EvT F nc k)(u:IsT F nc k)(z:lm F nc k)(a:AOk nc A)
 (y:tr (kt+1) env.scope (.ListComp elt gens sc' pos)=some pe) (hd:ev F σ (k+1) pe ρ=some d) (al:Al s X κ σ env ρ):wpAny (model prog w) A (eval (.ListComp elt gens sc' pos) env) (Pt X κ s d) No s:=by
 rw[eval_ListComp];refine f9 v u z a y hd al λD C s' l hl r=>?_;clear v u z a y hd;subst hl;have h:=r;refine vY r λt q c f i j J e=>?_;refine ah j λm o=>?_;refine⟨m,o,λh' p=>?_⟩;refine bc (h.fin al.S p) λg acc x=>?_;obtain⟨vs,n,hD,b⟩:=acc;exact⟨g,.list hD x b⟩
theorem wJ(y:EvT F nc k)(v:IsT F nc k)(q:lm F nc k)(a:AOk nc A)
 (z:tr (kt+1) env.scope (.DictComp kx vx gens sc' pos)=some pe) (hd:ev F σ (k+1) pe ρ=some d) (al:Al s X κ σ env ρ):wpAny (model prog w) A (eval (.DictComp kx vx gens sc' pos) env) (Pt X κ s d) No s:=by
 refine f3 y v q a z hd al λD C s' l hl r=>?_;clear y v q a z hd;subst hl;have c:=r;refine vY r λp K u b t j i J=>?_;refine ah j λm n=>?_;refine⟨m,n,λh' x=>?_⟩;refine bc (c.fin al.S x) λg acc h=>?_;obtain⟨o,kvs,ps,hD,ho,f,e⟩:=acc;obtain rfl:=kK _ _ e;exact⟨g,.dict hD ho (mN al.S u) h f⟩
end
section
variable{A:Around}{s s' s₀ sb:Shared}{X:Addr->Prop}{κ:List Addr}{σ:List Sto}{env:Env}{ρ ρ':ar}[GlOk]
 {F:Nat->List PV->Option PV} {nc k:Nat} {D:Addr} {tgt:Expr} {tp al:Bool} {ds:List PV}
omit [GlOk] in
theorem fM{o:Obj}(l:o.isFreed=false){g:List Addr}{P:Nat->Value->Prop}{St:Nat->Heap->Prop}(W:Walks prog w A sb.heap.objs.size g [sb.heap.objs.size] ds.length P St)
 (m:∀i v (s:Shared) (Q:Unit->Shared->Prop) (E:Value->Shared->Prop),St i s.heap->Q () s->wpAny (model prog w) A (letOwnedTupleGo tgt (.ref sb.heap.objs.size) v) Q E s) (u:St 0 (sb.heap.push o))
 (y:∀i h,St i h->∃o,h.get? sb.heap.objs.size=some o) (q:∀b∈g,b=sb.heap.objs.size\/(b≠G.P/\(∃o,sb.heap.get? b=some o)/\(¬X b\/(al=true/\b∈κ))))
 (gr:Gr X s sb) (tk:s.toks<=sb.toks)
 (z:∀i v (h':Heap) (r:Addr->Prop),P i v->i<ds.length->(∀b o,¬X b->sb.heap.get? b=some o->h'.get? b=some o/\¬r b)->(al=true->∀a∈κ,∀o,sb.heap.get? a=some o->h'.get? a=some o)->∃d,ds[i]?=some d/\dn tp h' r κ v d) :
 gR A tgt tp X κ al s {sb with heap:=sb.heap.push o} (.ref sb.heap.objs.size) ds:=by
 refine⟨sb,sb.heap.objs.size,g,[sb.heap.objs.size],_,_,St,rfl,KTurns.ofWalks W m,u,λi h st b j=>?_,λb j=>?_,λb j=>(q b j).imp (λe=>by simp[e]) id,λs Q st t=>W.self 0 _ _ _ st t,gr,⟨_,_,rfl⟩,λb o e=>Hp _ e,tk,Nr _,z⟩
 ·rw[List.mem_singleton.mp j];exact y i h st
 ·rw[List.mem_singleton.mp j];exact cM (Nr _)
omit [GlOk] in
theorem fy{h h':Heap}(r:Rep h X κ v d)(g:∀b o,¬X b->h.get? b=some o->h'.get? b=some o/\¬X' b)(m:tp=true->∃l,d=.tuple l):dn tp h' X' κ v d:=by
 cases tp with
 |false=>exact r.move g λu u e=>e
 |true=>
  refine ah (m rfl) λl j=>?_;clear m;subst j;obtain⟨a,vs,n,rfl,q,z,y⟩:=r.inv;exact⟨_,_,_,rfl,⟨_,(g _ _ z q).1,rfl,_,rfl⟩,rfl,by rw[List.toList_toArray];exact y.repMove g λu u e=>e⟩
omit [GlOk] in
theorem oU(h:a6 true xs d []=some ρ'):∃l,d=.tuple l:=by
 refine af (ej h) λl j g=>?_;clear h g;subst j;exact⟨l,rfl⟩
omit [GlOk] in
theorem f6(g:T="str_ascii_iterator"\/T="str_iterator"){s':Shared}(j:s'.heap.IsStrIter I T x t i)(h:Q' () s'):
 wpAny (model prog w) A (letOwnedTupleGo target (.ref I) v) Q' E s':=by
 refine bd j λo ho hc hd=>?_;unfold letOwnedTupleGo;clear j;cases target<;>first
  |exact Wp h
  |(cases v<;>first
   |exact Wp h
   |(refine Wb (wpAny_load ho ?_)
     rw[hc,hd];clear ho hc hd;rcases g with rfl|rfl<;>exact Wp h))
theorem wb(a:AOk nc A){xs:List Nat}(p:∀d∈ds,∃ρ',a6 tp xs d []=some ρ'){u:Value}{d d':PV}(T:dL sb.heap X κ σ)(S:St X sb.heap)(r:Rep sb.heap X κ u d)(f:res σ d=some d')(B:∀n,d=.cell n->al=true)(K:items d'=some ds)
 (gr:Gr X s sb) (tk:s.toks<=sb.toks):wpAny (model prog w) A (pyIter u) (λit s₂=>gR A tgt tp X κ al s s₂ it ds) No sb:=by
 have tup:∀d∈ds,tp=true->∃l,d=.tuple l:=λd hd ht=>by
  refine ah (p d hd) λρ' e=>?_;subst ht;exact oU e
 have N:∀(g:Addr) (vs:List Value) (n:Nat),sb.heap.get? g=some (du vs n)->aY sb.heap X κ vs ds->(¬X g\/(al=true/\g∈κ))->wpAny (model prog w) A (pyIter (.ref g)) (λit s₂=>gR A tgt tp X κ al s s₂ it ds) No sb:=λg vs n m J Z=>by
  have P:sb.heap.IsList g vs.toArray:=⟨_,m,rfl,_,rfl⟩
  have L:g≠sb.heap.objs.size:=Nat.ne_of_lt (Heap.lt_size m);refine wpAny_pyIter_list P ?_;have z:vs.length=ds.length:=J.len;have W:=Walks.list (prog:=prog) (w:=w) (A:=A) a.hd sb.heap.objs.size g L vs.toArray;rw[show vs.toArray.size=_ from List.size_toArray.trans z]at W;refine fM rfl W (λi v s Q E st q=>letGo_listiter st.1 q) ⟨⟨_,Heap.get?_push_size _ rfl,rfl,rfl⟩,P.at λo e=>Hp _ e⟩ (λi h st=>let⟨o,ho,_⟩:=st.1;⟨o,ho⟩) (λb p=>?_) gr tk (λi v h' X' R j O y=>?_)
  ·rcases List.mem_cons.mp p with rfl|p
   ·exact .inl rfl
   ·rw[List.mem_singleton.mp p];exact .inr ⟨ci S.tab m nofun,⟨_,m⟩,Z⟩
  ·refine af (J.get (List.getElem?_eq_getElem j)) λv' M r'=>?_;have:v'=v:=by simpa [M]using R
   subst this;exact⟨_,List.getElem?_eq_getElem j,fy r' O (tup _ (List.getElem_mem j))⟩
 by_cases hc:∃n,d=.cell n
 ·refine ah hc λn C=>?_;subst C;refine hid λgG gF=>?_;refine af r.inv λg H hk=>?_;subst H;refine af (kU f) λx hσ ja=>?_;subst ja;refine gF ?_;clear gF gG;have q:=T.at_ n _ g hσ hk;clear T hσ;cases x with
  |list l=>
   (replace K:=si K;subst K)
   obtain⟨_,_,_,e,m,_,J⟩:=q;cases e;exact N _ _ _ m J (.inr ⟨B n rfl,List.mem_of_getElem? hk⟩)
  |_=>exact no K
 clear T B;cases mP f λn h=>hc ⟨n,h⟩;have r:=r.inv;clear f;cases d with
 |tuple l=>
  cases K;obtain⟨g,vs,n,rfl,m,Z,J⟩:=r;have P:sb.heap.IsTuple g vs.toArray:=⟨_,m,rfl,_,rfl⟩
  have L:g≠sb.heap.objs.size:=Nat.ne_of_lt (Heap.lt_size m);refine wpAny_pyIter_tuple P ?_;have z:vs.length=ds.length:=J.len;have W:=Walks.tuple (prog:=prog) (w:=w) (A:=A) a.hd sb.heap.objs.size g L vs.toArray;rw[show vs.toArray.size=_ from List.size_toArray.trans z]at W;refine fM rfl W (λi v s Q E st q=>letGo_tupleiter st.1 q) ⟨⟨_,Heap.get?_push_size _ rfl,rfl,rfl⟩,P.at λo e=>Hp _ e⟩ (λi h st=>let⟨o,ho,_⟩:=st.1;⟨o,ho⟩) (λb p=>?_) gr tk (λi v h' X' R j O y=>?_)
  ·rcases List.mem_cons.mp p with rfl|p
   ·exact .inl rfl
   ·rw[List.mem_singleton.mp p];exact .inr ⟨ci S.tab m nofun,⟨_,m⟩,.inl Z⟩
  ·refine af (J.get (List.getElem?_eq_getElem j)) λv' M r'=>?_;cases(show v'=v by simpa [M]using R);exact⟨_,List.getElem?_eq_getElem j,fy r' O (tup _ (List.getElem_mem j))⟩
 |list l=>
  cases K;obtain⟨g,vs,n,rfl,m,Z,J⟩:=r;exact N _ _ _ m J (.inl Z)
 |str l=>
  cases K;refine ah r λt jb=>?_;subst jb;refine wpAny_pyIter_strU ?_;have key:∀(ty:String) (W:Walks prog w A sb.heap.objs.size [sb.heap.objs.size] [sb.heap.objs.size] (⟨l.toArray⟩:Str).cps.size (SignAt ⟨l.toArray⟩) (λi h=>h.IsStrIter sb.heap.objs.size ty ⟨l.toArray⟩ t i))
   (U:∀i v (s:Shared) (Q:Unit->Shared->Prop) (E:Value->Shared->Prop),s.heap.IsStrIter sb.heap.objs.size ty ⟨l.toArray⟩ t i->Q () s->wpAny (model prog w) A (letOwnedTupleGo tgt (.ref sb.heap.objs.size) v) Q E s),
   gR A tgt tp X κ al s {sb with heap:=sb.heap.push {cls:=.type ty,data:=.fields #[.str ⟨l.toArray⟩ t,.int 0 0]}} (.ref sb.heap.objs.size) (l.map λc=>.str [c]):=λty W U=>by
   have hs:(⟨l.toArray⟩:Str).cps.size=(l.map λc=>PV.str [c]).length:=by simp
   rw[hs]at W;refine fM rfl W U ⟨_,Heap.get?_push_size _ rfl,rfl,rfl⟩ (λi h st=>let⟨o,ho,_⟩:=st;⟨o,ho⟩) (λb p=>.inl (List.mem_singleton.mp p)) gr tk (λi v h' X' R j O y=>?_);refine cb R λc u hc I=>?_;subst I;have Y:l[i]?=some c:=by simpa using hc
   refine⟨.str [c],by simp[Y],?_⟩;have r:Rep sb.heap X κ (.str ⟨#[c]⟩ u) (.str [c]):=.str [c] u;exact fy r O (tup _ (List.mem_map.mpr ⟨c,List.mem_of_getElem? Y,rfl⟩))
  unfold strIterType;split
  ·exact key _ (Walks.strAscii a.hd _ _ t) λi v s Q E st q=>f6 (.inl rfl) st q
  ·exact key _ (Walks.strWide a.hd _ _ t) λi v s Q E st q=>f6 (.inr rfl) st q
 |_=>cases K
end
section
variable{A:Around}{s s' s₀ sb:Shared}{X:Addr->Prop}{κ:List Addr}{σ:List Sto}{env:Env}{ρ ρ':ar}[GlOk]
 {F:Nat->List PV->Option PV} {nc k kt:Nat} {sc:Scope} {D:Addr} {tgt:Expr} {tp al:Bool} {ds:List PV} {pos:Pos}
theorem qD(c:EvT F nc k)(a:AOk nc A)(b:env.scope=sc)(al:Al s X κ σ env ρ){id:String}{i:Pos}{q:List Expr}{pa:PE}{y:PV}(d:isG sc (Str.ofString id)=true)
 (hid:(id=="tuple"||id=="range"||id=="enumerate"||id=="zip")=true) (n:(Str.ofString id==Str.ofString "__debug__")=false)
 (hl:q.mapM (tr kt sc)=some [pa]) (z:ev F σ k pa ρ=some y) {Q:Value->Shared->Prop}
 (h:∀v s',Gr X s s'->s.toks<=s'.toks->Al s' X κ σ env ρ->Rep s'.heap X κ v y->wpAny (model prog w) A (call (.type id) [v]) Q No s') :
 wpAny (model prog w) A (eval (.Call (.Name (Str.ofString id) i) q [] pos) env) Q No s:=by
 subst b;have t:=GlOk.bty id hid;refine wpAny_Call_NameR (gh al.S al.R d n t.1 t.2 (PySem.callWith_type (eD (i6 hl)) (Wm (wpAny_toks (cN c a rfl _ al hl (ds:=[y]) (aw z rfl) (Q:=λas s'=>∃v,as=⟨[v],[]⟩/\Gr X s s'/\Al s' X κ σ env ρ/\Rep s'.heap X κ v y) λvs s' g j r=>?_)) (λas s' ⟨tk,v,e,g,j,r⟩=>?_) λu u f=>f.2)))
 ·refine af r.inv1 λv m l=>?_;subst m;exact⟨_,rfl,g,j,l⟩
 ·subst e;exact h v s' g tk j r
theorem wm(b:EvT F nc k)(a:AOk nc A)(J:env.scope=sc)(al:Al s X κ σ env ρ){id:String}{x:Pos}{o:List Expr}{pa p:PE}{d l:PV}(c:isG sc (Str.ofString id)=true)
 (hid:(id=="tuple"||id=="range"||id=="enumerate"||id=="zip")=true) (n:(Str.ofString id==Str.ofString "__debug__")=false)
 (hl:o.mapM (tr kt sc)=some [pa,p]) (z:ev F σ k pa ρ=some d) (m:ev F σ k p ρ=some l) {Q:Value->Shared->Prop}
 (h:∀u v s',Gr X s s'->s.toks<=s'.toks->Al s' X κ σ env ρ->Rep s'.heap X κ u d->Rep s'.heap X κ v l->wpAny (model prog w) A (call (.type id) [u,v]) Q No s') :
 wpAny (model prog w) A (eval (.Call (.Name (Str.ofString id) x) o [] pos) env) Q No s:=by
 subst J;have t:=GlOk.bty id hid;refine wpAny_Call_NameR (gh al.S al.R c n t.1 t.2 (PySem.callWith_type (eD (i6 hl)) (Wm (wpAny_toks (cN b a rfl _ al hl (ds:=[d,l]) (aw z (aw m rfl)) (Q:=λas s'=>∃u v,as=⟨[u,v],[]⟩/\Gr X s s'/\Al s' X κ σ env ρ/\Rep s'.heap X κ u d/\Rep s'.heap X κ v l) λvs s' g j r=>?_)) (λas s' ⟨tk,u,v,e,g,j,i,r2⟩=>?_) λy y f=>f.2)))
 ·refine aO r.inv2 λu v q i r2=>?_;clear b a al hid n z m c hl t r;subst q;exact⟨_,_,rfl,g,j,i,r2⟩
 ·clear b a al hid n z m c hl t;subst e;exact h u v s' g tk j i r2
omit [GlOk] in
theorem i7{s':Shared}(g:IsRangeIter s'.heap I x l c)(h:Q' () s'):
 wpAny (model prog w) A (letOwnedTupleGo target (.ref I) v) Q' E s':=by
 have j:s'.heap.get? I=some _:=g;unfold letOwnedTupleGo;cases target<;>first
  |exact Wp h
  |(cases v<;>first
   |exact Wp h
   |(refine Wb (wpAny_load j ?_)
     exact Wp h))
omit [GlOk] in
theorem lA(a:AOk nc A)(l:∀d∈ds,∃ρ',a6 tp xs d []=some ρ')(z:ds=(List.range n).map λi:Nat=>PV.int (m+i))(L:IsRange sb.heap r m b 1 t u v)
 (c:Builtin.Range.small m b 1=true) (M:Builtin.Range.rangeSize m b 1=(n:Int)) (gr:Gr X s sb) (tk:s.toks<=sb.toks) :
 wpAny (model prog w) A (pyIter (.ref r)) (λK O=>gR A tgt tp X κ al s O K ds) No sb:=by
 subst z;refine wpAny_pyIter_range L c ?_;have P:=Walks.range (prog:=prog) (w:=w) (A:=A) a.hd sb.heap.objs.size m 1 n;have W:Walks prog w A sb.heap.objs.size [sb.heap.objs.size] [sb.heap.objs.size] n (λi v=>∃t,v=.int (m+(i:Int)) t) (λi h=>IsRangeIter h sb.heap.objs.size (m+(i:Nat)*1) ((n:Int) - (i:Nat)) 1):=by simpa using P
 have j:((List.range n).map λi:Nat=>PV.int (m+i)).length=n:=by simp
 rw[<- j]at W;refine fM rfl W (λi v s Q E st q=>i7 st q) (by rw[M,j];show Heap.get? _ _=_;simpa using Heap.get?_push_size _ rfl) (λi h st=>⟨_,st⟩) (λb l=>.inl (List.mem_singleton.mp l)) gr tk (λi v h' R o g J y=>?_);obtain⟨f,rfl⟩:=o;rw[j]at g;refine⟨.int (m+i),by simp[g],?_⟩;have p:Rep sb.heap X κ (.int (m+(i:Nat)) f) (.int (m+i)):=.int _ _;refine fy p J λx=>?_;obtain⟨ρ',e⟩:=l (.int (m+i)) (List.mem_map.mpr ⟨i,List.mem_range.mpr g,rfl⟩);subst x;exact oU e
end
open AutoSeq1 (wpAny_loadPart')
section
variable{A:Around}{E:Value->Shared->Prop}{s:Shared}
theorem hK{g l:Addr}{i:Nat}{items:Array Value}{x:Value}{Q:Value->Shared->Prop}(j:s.heap.IsTupleIter g l i)
 (hl:s.heap.IsTuple l items) (q:items[i]?=some x)
 (y:∀h',h'.IsTupleIter g l (i+1)->Heap.SameBut g s.heap h'->Q x {s with heap:=h'}) :
 wpAny (model prog w) A (Builtin.SmallTypes.nextOf (.ref g)) Q E s:=by
 refine hid λz v=>?_;refine bd (id j) λo ho hc hd=>?_;obtain⟨t,m,_,r,u⟩:=hl;refine v ?_;clear v z;unfold Builtin.SmallTypes.nextOf;refine Wb (wpAny_callSpecial?_slot (name:=Str.ofString "__next__") j.typeIs F.slot_tuple_iterator_next
  (wpAny_call_entry F.slot_tuple_iterator_next j.typeIs F.entry_tuple_iterator_next ?_ (F.args_tuple_iterator_next_1 _)))
 show wpAny _ _ (field (.ref g) 0 >>= _) _ _ s;refine Wb (wpAny_field ho hd (x:=.ref l) rfl ?_);rw[if_neg (show¬((Value.ref l==Value.none)=true)from Bool.false_ne_true)];refine Wb (wpAny_field ho hd (x:=.int i 0) rfl ?_);refine Wb (wpAny_seqItems m u ?_);simp only[Int.toNat_natCast,q];refine Wb (wpAny_setField ho hd (by simp) (Wp ⟨x,rfl,Wp (y _ ?_ (Heap.SameBut.update ..))⟩));exact⟨_,Heap.get?_update_self _ ho (Obj.isFreed_of_fields (Obj.data_mapFields hd _)),(Obj.cls_mapFields ..).trans hc,by
  rw[Obj.data_mapFields hd];simp[rawInt]⟩
theorem ip{g l:Addr}{i:Nat}{items:Array Value}{Q:Value->Shared->Prop}(hh:A.handled=none)
 (j:s.heap.IsTupleIter g l i) (hl:s.heap.IsTuple l items) (r:items[i]?=none)
 (z:∀h' e,Heap.ExtBut g s.heap h'->(∃o,h'.get? e=some o/\o.cls=.type "StopIteration")->E (.ref e) {s with heap:=h'}) :
 wpAny (model prog w) A (Builtin.SmallTypes.nextOf (.ref g)) Q E s:=by
 refine hid λq y=>?_;refine bd (id j) λo ho hc hd=>?_;obtain⟨d,u,_,t,v⟩:=hl;refine y ?_;clear y q;unfold Builtin.SmallTypes.nextOf;refine Wb (wpAny_callSpecial?_slot (name:=Str.ofString "__next__") j.typeIs F.slot_tuple_iterator_next
  (wpAny_call_entry F.slot_tuple_iterator_next j.typeIs F.entry_tuple_iterator_next ?_ (F.args_tuple_iterator_next_1 _)))
 show wpAny _ _ (field (.ref g) 0 >>= _) _ _ s;refine Wb (wpAny_field ho hd (x:=.ref l) rfl ?_);rw[if_neg (show¬((Value.ref l==Value.none)=true)from Bool.false_ne_true)];refine Wb (wpAny_field ho hd (x:=.int i 0) rfl ?_);refine Wb (wpAny_seqItems u v ?_);simp only[Int.toNat_natCast,r];refine Wb (wpAny_rule (Wb (wpAny_setField ho hd (by simp) ?_)));refine Wb ?_;dsimp only[newExc,newTuple];refine Wb (wpAny_newObj_type ?_ (by size_fits));refine Wb (m:=firstArgMember _ _) (wpAny_of_eq (a:=Value.none) (by first|rfl|(dsimp only[firstArgMember];rfl)) ?_);refine wpAny_newObj_type ?_ (by size_fits);dsimp only[raiseNew];refine Wb (wpAny_handled ?_);first|rw[show A.in1.handled=none from hh]|rw[hh]
 refine Wb (Wp (wpAny_throw ?_));exact z _ _ (((Heap.SameBut.update ..).extBut.push _).push _) ⟨_,Heap.get?_push_size _ rfl,rfl⟩
end
theorem oS{A:Around}(hh:A.handled=none)(g l:Addr)(y:l≠g)(items:Array Value):
 Draws prog w A g [g,l] items.size (λi v=>items[i]?=some v) (λi h=>h.IsTupleIter g l i/\h.IsTuple l items) where
 live:=λu u st=>let⟨o,ho,_⟩:=st.1;⟨o,ho⟩
 frame:=λu u u st q=>⟨st.1.at λo e=>q g (by simp) o e,st.2.at λo e=>q l (by simp) o e⟩
 item:=λi s Q E z st t=>by
  refine hK st.1 st.2 (x:=items[i]) (by simp[z]) λh' m j=>?_;exact t _ h' s.toks (by simp[z]) ⟨m,st.2.at λo e=>(j.2 l y).trans e⟩ j
 done:=λs Q E st r=>ip hh st.1 st.2 (by simp) r
set_option tactic.hygienic true in
theorem z1{prog:Program}{w:World}{A:Around}{b:Bool}{Q:Bool->Shared->Prop}{E:Value->Shared->Prop}{s:Shared}(h:∀b,Q b s):wpAny (model prog w) A (pure b) Q E s:=Wp (h b)
set_option maxHeartbeats 1000000 in
theorem fC(l:Addr)(items:Array Value)(n:Nat)(j:Option Addr)(y:Array (Option Value)):
 Meets (Builtin.«enumerate.__new__» ⟨[.type "enumerate",.ref l],[]⟩) (λu R s=>s.heap.get? l=some {cls:=.type "tuple",dict:=j,data:=.seq items n,slots:=y}/\
  R (.ok (.ret (.ref (s.heap.push {cls:=.type "tuple_iterator",data:=.fields #[.ref l,.int 0 0]}).objs.size)))
   {s with heap:=(s.heap.push {cls:=.type "tuple_iterator",data:=.fields #[.ref l,.int 0 0]}).push {cls:=.type "enumerate",data:=.fields #[.none,.bool false,.ref s.heap.objs.size,rawInt 0,.none,.none]}}):=
 .of_wp λprog w A R s h=>by
  obtain⟨z,g,d,tk,q⟩:=s;refine au h λhl h=>?_;have v:=sub_enumerate;have m:Heap.IsTuple (Shared.heap ⟨z,g,d,tk,q⟩) l items:=⟨_,hl,rfl,n,rfl⟩
  wp_walk using wpAny_loadPart' hl
  refine wpAny_stack_any λst=>z1 λb=>?_;cases b
  ·wp_walk using wpAny_loadPart' hl,wpAny_pyIter_tuple m
   exact⟨_,rfl,h⟩
  ·wp_walk using wpAny_loadPart' hl,wpAny_pyIter_tuple m
   exact⟨_,rfl,h⟩
section
variable{A:Around}{E:Value->Shared->Prop}{s:Shared}
theorem fj{l:Addr}{items:Array Value}{Q:Value->Shared->Prop}(y:s.heap.IsTuple l items)
 (h:∀h',IsEnum h' (s.heap.objs.size+1) s.heap.objs.size 0 .none->h'.IsTupleIter s.heap.objs.size l 0->h'.objs.size=s.heap.objs.size+2->
  (∀b o,s.heap.get? b=some o->h'.get? b=some o)->Q (.ref (s.heap.objs.size+1)) {s with heap:=h'}) :
 wpAny (model prog w) A (call (.type "enumerate") [.ref l]) Q E s:=by
 refine hid λq m=>?_;obtain⟨⟨c,g,v,z⟩,hl,hc,n,hd⟩:=y;replace hc:c=.type "tuple":=hc;replace hd:v=.seq items n:=hd;subst hc hd;refine m ?_;clear m q;refine callType_new F.called_enumerate (by decide) (F.typeCall_enumerate_1 _) (F.newCall_enumerate_1 _) (λj=>F.args_object_init_2 j _) F.entry_enumerate_new
  (fC l items n g z) ⟨hl,?_⟩
 have hz:(s.heap.push {cls:=.type "tuple_iterator",data:=.fields #[.ref l,.int 0 0]}).objs.size=s.heap.objs.size+1:=Heap.size_push ..;show _/\_;rw[hz];have u:IsEnum ((s.heap.push {cls:=.type "tuple_iterator",data:=.fields #[.ref l,.int 0 0]}).push
  {cls:=.type "enumerate",data:=.fields #[.none,.bool false,.ref s.heap.objs.size,rawInt 0,.none,.none]}) (s.heap.objs.size+1) s.heap.objs.size 0 .none:=by
  have:=Heap.get?_push_size (s.heap.push {cls:=.type "tuple_iterator",data:=.fields #[.ref l,.int 0 0]})
   (o:={cls:=.type "enumerate",data:=.fields #[.none,.bool false,.ref s.heap.objs.size,rawInt 0,.none,.none]}) rfl
  rw[hz]at this;exact this
 refine⟨⟨_,u,rfl⟩,h _ u ⟨_,Hp _ (Heap.get?_push_size _ rfl),rfl,rfl⟩ (by rw[Heap.size_push,hz]) λb o x=>Hp _ (Hp _ x)⟩
end
section
variable{A:Around}{s s' s₀ sb:Shared}{X:Addr->Prop}{κ:List Addr}{σ:List Sto}{env:Env}{ρ ρ':ar}[GlOk]
 {F:Nat->List PV->Option PV} {nc k kt:Nat} {sc:Scope} {D:Addr} {tgt:Expr} {tp al:Bool} {ds l:List PV} {pos:Pos}
omit [GlOk] in
theorem n4(a:AOk nc A)(U:∃elts n p,tgt=.Tuple elts n p)(f:tp=true){z:List Addr}{P:Nat->Value->Prop}{St:Nat->Heap->Prop}(y:ds=l.mapIdx λi d=>PV.tuple [.int i,d])
 (Z:Draws prog w A.in1 sb.heap.objs.size (sb.heap.objs.size::z) l.length P St) (m:∀b∈z,b≠G.P/\(∃o,sb.heap.get? b=some o)/\¬X b)
 (I:∀i v,P i v->i<l.length->∃d,l[i]?=some d/\Rep sb.heap X κ v d)
 {h':Heap} (Y:IsEnum h' (sb.heap.objs.size+1) sb.heap.objs.size 0 .none) (J:St 0 h') (hk:∀b o,sb.heap.get? b=some o->h'.get? b=some o) (gr:Gr X s sb) (tk:s.toks<=sb.toks) :
 wpAny (model prog w) A (pyIter (.ref (sb.heap.objs.size+1))) (λE s₂=>gR A tgt tp X κ al s s₂ E ds) No {sb with heap:=h'}:=by
 refine AJ U λelts n p q=>?_;clear a U;subst q;subst f;have O:sb.heap.objs.size+1∉sb.heap.objs.size::z:=λh=>by
  rcases List.mem_cons.mp h with h|h
  ·exact Nat.succ_ne_self _ h
  ·refine bc (m _ h) λz5 y6 z7=>?_;refine ah y6 λo ho=>?_;exact Nat.lt_irrefl _ (Nat.lt_of_succ_lt (Heap.lt_size ho))
 have W:=(WalksT.enumerateD Z (sb.heap.objs.size+1) (Nat.succ_ne_self _) O (.head _)).toU;have g:ds.length=l.length:=by rw[y];simp
 rw[<- g]at W;have H:=KTurns.ofWalksU (elts:=elts) (k:=n) (pos:=p) W;refine wpAny_pyIter_enum Y ?_;refine⟨sb,_,_,_,_,_,_,rfl,H,⟨⟨_,Y⟩,J⟩,λi h st b j=>?_,λb j=>?_,λb j=>?_,λs Q st B=>W.self 0 _ _ _ st B,gr,⟨_,_,rfl⟩,hk,tk,Nr _,λi v ja X' M c C u=>?_⟩
 ·refine au st λy8 hs=>?_;refine ah y8 λjb e=>?_;rcases List.mem_cons.mp j with rfl|j
  ·exact⟨_,e⟩
  ·rw[List.mem_singleton.mp j];exact Z.live _ _ hs
 ·rcases List.mem_cons.mp j with rfl|j
  ·exact cM (Nat.le_add_right _ _)
  ·rw[List.mem_singleton.mp j];exact cM (Nr _)
 ·rcases List.mem_cons.mp j with rfl|j
  ·exact .inl (.head _)
  rcases List.mem_cons.mp j with rfl|j
  ·exact .inl (.tail _ (.head _))
  ·refine bc (m b j) λh1 h2 N=>?_;exact .inr ⟨h1,h2,.inl N⟩
 ·refine aO M λT S L K hT=>?_;subst L;refine cb K λt x hx R=>?_;subst R;refine af (I i x hx (Nat.lt_of_lt_of_eq c g)) λd hd r=>?_;refine⟨.tuple [.int i,d],by rw[y];simp[hd],T,_,_,rfl,hT,rfl,?_⟩;exact .cons (.int _ _) (.cons (r.move C λu u e=>e) .nil)
omit [GlOk] in
theorem rQ(h:dQ t=some (true,xs)):∃elts n p,t=.Tuple elts n p:=by
 rcases lB h with⟨_,j,n,p,rfl,_⟩|⟨e,_⟩
 ·exact⟨_,_,_,rfl⟩
 ·injection e
theorem vR(C:EvT F nc k)(a:AOk nc A)(I:env.scope=sc)(f:Al s X κ σ env ρ){Q:Pos}{H:List Expr}{pa:PE}{U:PV}(E:isG sc (Str.ofString "enumerate")=true)
 (hl:H.mapM (tr kt sc)=some [pa]) (L:ev F σ k pa ρ=some U) (hd:U=.list l\/U=.tuple l) (R:ds=l.mapIdx λi d=>PV.tuple [.int i,d]) {xs:List Nat} (K:dQ tgt=some (tp,xs)) (T:∀d∈ds,∃ρ',a6 tp xs d []=some ρ') (y:tp=true) :
 wpAny (model prog w) A (eval (.Call (.Name (Str.ofString "enumerate") Q) H [] pos) env) (λx s₁=>wpAny (model prog w) A (pyIter x) (λN s₂=>gR A tgt tp X κ al s s₂ N ds) No s₁) No s:=by
 refine qD C a I f E (by decide) (by decide +kernel) hl L λv c g tk p r=>?_;have J:=rQ (y▸K);clear C I f E hl L;rcases hd with rfl|rfl
 ·obtain⟨z,vs,n,rfl,m,K,P⟩:=r.inv
  ·
   have h:c.heap.IsList z vs.toArray:=⟨_,m,rfl,_,rfl⟩
   have u:z≠c.heap.objs.size:=Nat.ne_of_lt (Heap.lt_size m);refine call_enumerate_list h λh' Y q hsz M=>?_;have O:=Draws.list (prog:=prog) (w:=w) (A:=A.in1) a.hd c.heap.objs.size z u vs.toArray;simp only[List.size_toArray,P.len]at O;refine n4 a J y R O (λb T=>?_) (λi v W j=>?_) Y ⟨q,h.at λo e=>M _ o e⟩ M g tk
   ·rw[List.mem_singleton.mp T];exact⟨ci p.S.tab m nofun,⟨_,m⟩,K⟩
   ·refine af (P.get (List.getElem?_eq_getElem j)) λZ t B=>?_;have:Z=v:=by simpa [t]using W
    subst this;exact⟨_,List.getElem?_eq_getElem j,B⟩
 ·obtain⟨z,vs,n,rfl,m,K,P⟩:=r.inv
  ·
   have h:c.heap.IsTuple z vs.toArray:=⟨_,m,rfl,_,rfl⟩
   have u:z≠c.heap.objs.size:=Nat.ne_of_lt (Heap.lt_size m);refine fj h λh' Y q hsz M=>?_;have O:=oS (A:=A.in1) a.hd c.heap.objs.size z u vs.toArray;simp only[List.size_toArray,P.len]at O;refine n4 a J y R O (λb T=>?_) (λi v W j=>?_) Y ⟨q,h.at λo e=>M _ o e⟩ M g tk
   ·rw[List.mem_singleton.mp T];exact⟨ci p.S.tab m nofun,⟨_,m⟩,K⟩
   ·refine af (P.get (List.getElem?_eq_getElem j)) λZ t B=>?_;have:Z=v:=by simpa [t]using W
    subst this;exact⟨_,List.getElem?_eq_getElem j,B⟩
end
section
variable[GlOk]{F:Nat->List PV->Option PV}{nc k:Nat}
omit [GlOk] in
theorem nE{m b:Int}(g:m.natAbs<1000000)(j:b.natAbs<1000000):Builtin.Range.small m b 1=true:=small_one (by lia) (by lia) (by lia) (by lia)
omit [GlOk] in
theorem ry(h:pS pe=false):aQ F σ al (k+1) pe ρ=(ev F σ k pe ρ).bind λd=>if al||(aZ d).isNone then(res σ d).bind items else none:=by
 cases pe<;>first|rfl|injection h
theorem rD(E:EvT F nc k):lm F nc (k+1):=by
 intro σ kt sc e pe ρ ds al tgt tp xs I hd hx hen hb A env X κ s a hs alv;rcases qL I with⟨x,args,pos,np,as,rfl,N,rfl|rfl,K,y⟩|⟨I,c⟩
 ·refine af (fQ ((if_pos (beq_self_eq_true _)).symm.trans y)) λq B O=>?_;subst B;subst O;refine wbm hd λda l hd L hl=>?_;have H:tp=true:=hen.elim id λh=>by
   have:iI (.Call (.Name (Str.ofString "enumerate") np) args [] pos)=true:=beq_self_eq_true _;rw[this]at h;injection h
  exact vR E a hs alv N K L ((oor hl).imp bN gn) hd.symm hx hb H
 ·rcases oor ((if_neg (by decide +kernel)).symm.trans y)with y|y
  ·refine af (fQ y) λb Y C=>?_;clear hx hen;subst Y;subst C;refine zc hd λdb j hd J Q z=>?_;refine qD E a hs alv N (by decide) (by decide +kernel) K J λv s' g tk o r=>?_;rw[aA Q]at r;refine ah r.inv λt R=>?_;subst R;refine call_range_1 ?_;exact lA a hb (m:=0) (n:=j.toNat) (by rw[<- Option.some.inj hd];simp) (IsRange.new ..) (nE (by decide) z) (by rw[rangeSize_nat];simp) (g.trans (Gr.push o.S.tab _ _)) (Nt tk (Nt (Nat.le_succ _) (Nat.le_succ _)))
  ·refine cb (qG y) λp b M W=>?_;clear hx hen y;subst M;subst W;refine pJ hd λda i db hd L hi J=>?_;refine wbi hd λj hd Q z=>?_;refine wm E a hs alv N (by decide) (by decide +kernel) K L J λu v s' g tk o r1 r2=>?_;rw[aA hi]at r1;rw[aA Q]at r2;refine ah r1.inv λt P=>?_;subst P;refine ah r2.inv λt2 Z=>?_;subst Z;refine call_range_2 ?_;exact lA a hb (m:=i) (n:=(j - i).toNat) (Option.some.inj hd).symm (IsRange.new ..) (nE z.1 z.2) (rangeSize_nat _ _) (g.trans (Gr.push o.S.tab _ _)) (Nt tk (Nat.le_succ _))
 ·rw[ry c]at hd;clear hx hen c;refine xP hd λd d' h4 h1 hc h2=>?_;refine Wm (wpAny_toks (E σ kt sc e pe ρ d I h1 A env X κ s a hs alv)) (λv s₁ q=>?_) λw w f=>f.2;refine bc q λtk g r=>?_;have U:=alv.gr g (Nt alv.pos tk);exact wb a hb U.T U.S r h2 (λn e=>(bo hc).elim id λh=>by rw[e]at h;exact nf h) h4 g tk
end
section
variable[GlOk]{A:Around}{s:Shared}{X:Addr->Prop}{κ:List Addr}{σ:List Sto}{env:Env}{ρ:ar}{F:Nat->List PV->Option PV}{nc k kt:Nat}{sc:Scope}
theorem w0(L:EvT F nc k)(a:AOk nc A)(W:env.scope=sc)(al:Al s X κ σ env ρ){o:Expr}{n:Str}{apos pos:Pos}{args:List Expr}{J:PE}{d:List PE}{c i:PV}{ds:List PV}
 (ho:tr kt sc o=some J) (p:ev F σ k J ρ=some c) (j:res σ c=some i) (hl:args.mapM (tr kt sc)=some d) (K:d.mapM (λe=>ev F σ k e ρ)=some ds)
 (z:attributeBase o n env (eval o env)=eval o env) (y:(apos.endLine==pos.line)=true) (q:args.length<=5) {T id:String} (pa:PlainAttrs T) (U:Slot T n id) (O:typeOf (.builtin id)=pure (.type "method_descriptor"))
 (Y:∀u (s':Shared),Shw s'.heap X κ u i->s'.TypeIs u T/\∀b,u=.ref b->∃ob,s'.heap.get? b=some ob/\ob.dict=none) {Q:Value->Shared->Prop}
 (h:∀u vs s',Gr X s s'->Al s' X κ σ env ρ->Shw s'.heap X κ u i->aY s'.heap X κ vs ds->wpAny (model prog w) A (call (.builtin id) (u::vs)) Q No s') :
 wpAny (model prog w) A (eval (.Call (.Attribute o n apos) args [] pos) env) Q No s:=by
 subst W;have t:=eD (env:=env) (i6 hl) (pos:=pos);refine wpAny_Call_method_lateS z ?_ y (Wm (wpAny_toks (L σ kt _ o J ρ c ho p A env X κ s a rfl al)) (λu P ⟨tk,g,r⟩=>?_) λv v f=>f.2)
 ·have h1:((backTo pos (starEach args env)).all λx=>!x.1)=true:=by
   rw[List.all_eq_true];intro x R;have:=List.any_eq_false.mp t x R;simpa using this
  rw[h1];have:args.length<30:=Nm q (by decide);exact decide_eq_true (show args.length+0+0<30 from this)
 ·have m:=al.gr g (Nt al.pos tk);refine au (Y u P (aC m.T r j)) λh1 h2=>?_;refine⟨T,id,pa,U,O,h1,h2,callWith_builtin_kwB t rfl (cN L a rfl _ m hl K λvs S M l rs=>?_)⟩;exact h u vs S (g.trans M) l (aC l.T (m.rep M r) j) rs
end
section
variable[GxOk]{A:Around}{s:Shared}{X:Addr->Prop}{κ:List Addr}
noncomputable def mD(c:Int):Value->Bool|.int i _=>i==c|_=>false
omit [GxOk] in
theorem pA(r:aY h X κ vs l):∀{j:List Int},l.mapM aN=some j->
 (∀y∈vs,∃i t,y=.int i t)/\vs.countP (mD c)=(j.filter (·= c)).length:=by
 induction r with
 |nil=>intro j m;obtain rfl:=mn m;exact⟨nofun,rfl⟩
 |cons r rs d=>
  intro j m;refine mck m λi e h1 h2 g=>?_;subst g;refine au (d h2) λq z=>?_;rw[aA h1]at r;refine ah r.inv λt v=>?_;subst v;refine⟨λy u=>?_,?_⟩
  ·rcases List.mem_cons.mp u with rfl|u
   ·exact⟨_,_,rfl⟩
   ·exact q y u
  ·by_cases hc:i=c
   ·simp[List.countP_cons,mD,hc,z]
   ·simp[List.countP_cons,mD,hc,z]
omit [GxOk] in
theorem tW(S:St X s.heap)(sv:Shw s.heap X κ u (.list l))(g:l.mapM aN=some is):
 wpAny (model prog w) A (call (.builtin "list.count") [u,.int c t]) (Pt X κ s (.int (is.filter (·= c)).length)) No s:=by
 obtain⟨r,vs,n,rfl,z,_,v⟩:=sv
 ·
  refine au (pA (c:=c) v g) λh1 h2=>?_;have q:∀y,y∈vs.toArray->MeetsSeq.EqGives y (.int c t) (mD c y):=λy m=>by
   refine bx (h1 y (by simpa using m)) λi d j=>?_;clear g v h1 m;subst j;exact MeetsSeq.EqGives.int i c d t
  refine call_meets F.slot_list_count ⟨_,z,rfl⟩ F.entry_list_count (F.args_list_count_2 _ _) (MeetsSeq.list_count r vs.toArray n (.int c t) (mD c) q) ⟨z,?_⟩;refine⟨Gr.tok S.tab _,?_⟩;have:(vs.toArray.toList.countP (mD c):Int)=((is.filter (·= c)).length:Int):=by rw[<- h2]
  rw[this];exact .int _ _
end
section
variable[GxOk]{A:Around}{s:Shared}{X:Addr->Prop}{κ:List Addr}
omit [GxOk] in
theorem jG(x:List Nat):∀(r:List (List Nat)) (a:List Nat),bq x (a::r)=a++(r.map λp=>x++p).flatten
 |[],a=>by simp[bq]
 |b::r,a=>by rw[bq,jG x r b];simp;intro h;injection h
omit [GxOk] in
theorem nZ(x:List Nat):∀(r:List (List Nat)) (acc:Array Nat),((r.map λl=>(⟨l.toArray⟩:Str)).foldl (λacc p=>acc++(x.toArray)++p.cps) acc)=acc++(r.map λp=>x++p).flatten.toArray
 |[],acc=>by simp
 |b::r,acc=>by
  rw[List.map_cons,List.foldl_cons,nZ x r];simp[Array.append_assoc]
omit [GxOk] in
theorem n8(x:List Nat)(j:List (List Nat)):Txt.join ⟨x.toArray⟩ (j.map λl=>(⟨l.toArray⟩:Str))=⟨(bq x j).toArray⟩:=by
 show(⟨_⟩:Str)=_;congr 1;cases j with
 |nil=>rfl
 |cons a r=>
  rw[jG];simp only[List.map_cons,List.drop_succ_cons,List.drop_zero,List.headD_cons];rw[nZ];simp
omit [GxOk] in
theorem wQ(r:aY h X κ vs l):∀{u:List (List Nat)},l.mapM bZ=some u->StrsAre vs (u.map λl=>(⟨l.toArray⟩:Str)):=by
 induction r with
 |nil=>intro v g;obtain rfl:=mn g;exact .nil
 |cons r rs y=>
  intro v g;refine mck g λi z h1 h2 m=>?_;subst m;rw[bE h1]at r;refine ah r.inv λt j=>?_;subst j;exact .cons _ _ (y h2)
omit [GxOk] in
theorem wR{x:List Nat}(S:St X s.heap)(sv:Shw s.heap X κ u (.list l))(m:l.mapM bZ=some ws)
 (y:x.length<=10/\l.length<=1000/\(ws.map List.length).sum<=ag) :
 wpAny (model prog w) A (call (.builtin "str.join") [.str ⟨x.toArray⟩ t,u]) (Pt X κ s (.str (bq x ws))) No s:=by
 obtain⟨d,vs,n,rfl,r,_,q⟩:=sv
 ·
  have j:((ws.map λl=>(⟨l.toArray⟩:Str)).map (·.length))=ws.map List.length:=by simp[List.map_map,Function.comp_def,Str.length]
  have g:ws.length=l.length:=be m;refine PyProof.Rows.join_list (ys:=ws.map λl=>(⟨l.toArray⟩:Str)) ⟨_,r,rfl,_,rfl⟩ (by simpa using wQ q m) ?_ λe k=>?_
  ·rw[j];refine bc y λh1 h2 v=>?_;have z:(⟨x.toArray⟩:Str).length=x.length:=by simp[Str.length]
   rw[z];have:(ws.map λl=>(⟨l.toArray⟩:Str)).length*x.length<=1000*10:=Nat.mul_le_mul (by simp;exact Nt (Ne0 g) y.2.1) h1;unfold ag at v;exact Nt (Na v this) (by decide)
  ·rw[n8];exact⟨Gr.tok S.tab _,.str _ _⟩
end
section
variable[GxOk]{A:Around}{s:Shared}{X:Addr->Prop}{κ:List Addr}
noncomputable def ko(c:List Nat):Value->Bool|.str x _=>x.cps.toList==c|_=>false
omit [GxOk] in
theorem wY(r:aY h X κ vs l):∀{v:List (List Nat)},l.mapM bZ=some v->(∀y∈vs,∃i t,y=.str i t)/\vs.map (ko c)=v.map (·==c):=by
 induction r with
 |nil=>intro z g;obtain rfl:=mn g;exact⟨nofun,rfl⟩
 |cons r rs d=>
  intro z g;refine mck g λi b h1 h2 j=>?_;subst j;refine au (d h2) λq e=>?_;rw[bE h1]at r;refine ah r.inv λt m=>?_;subst m;refine⟨λy u=>?_,by simp[ko,e]⟩;rcases List.mem_cons.mp u with rfl|u
  ·exact⟨_,_,rfl⟩
  ·exact q y u
omit [GxOk] in
theorem lj(S:St X s.heap)(sv:Shw s.heap X κ u (.list l))(b:l.mapM bZ=some ws)(J:ws.findIdx? (·= c)=some k)(hsz:k<2 ^ 60):
 wpAny (model prog w) A (call (.builtin "list.index") [u,.str ⟨c.toArray⟩ t]) (Pt X κ s (.int k)) No s:=by
 obtain⟨o,vs,n,rfl,e,_,a⟩:=sv
 ·
  refine au (wY (c:=c) a b) λh1 h2=>?_;have f:∀y,y∈vs.toArray->MeetsSeq.EqGives y (.str ⟨c.toArray⟩ t) (ko c y):=λy x=>by
   refine bx (h1 y (by simpa using x)) λi p v=>?_;subst v;have:=PySem.SeqRoads2.EqGives.str i ⟨c.toArray⟩ p t;simpa [ko]using this
  have j:vs.length=ws.length:=by simpa using congrArg List.length h2
  obtain⟨d,z,r⟩:=List.findIdx?_eq_some_iff_getElem.mp J;have at_:∀m (g:m<vs.length),ko c vs[m]=(ws[m]'(j▸g)==c):=λm g=>by
   have K:(vs.map (ko c))[m]?=(ws.map (·==c))[m]?:=by rw[h2]
   simpa [g,j▸g]using K
  refine call_meets F.slot_list_index ⟨_,e,rfl⟩ F.entry_list_index (F.args_list_index_2 _ _) (MeetsSeq.list_index o vs.toArray n (.str ⟨c.toArray⟩ t) (ko c) f k (by simpa [j]using d) (by lia) ?_ λm g q=>?_) ⟨e,?_⟩
  ·have:=at_ k (by lia);simpa [this]using z
  ·have:=at_ m (by simpa using g);have h:=r m q;simp only[List.getElem_toArray,this];simpa using h
  ·exact⟨Gr.tok S.tab _,.int _ _⟩
end
section
variable[GxOk]{A:Around}{s:Shared}{X:Addr->Prop}{κ:List Addr}
omit [GxOk] in
theorem fZ(c:Nat):∀l:List Nat,(l.map λn=>if decide (n=c)=true then(1:Int)else 0).sum=((l.filter (·= c)).length:Int)
 |[]=>rfl
 |n::r=>by
  rw[List.map_cons,List.sum_cons,fZ c r];by_cases h:n=c
  ·simp[h];exact Int.add_comm 1 ↑_
  ·simp[h]
omit [GxOk] in
theorem rR{x:List Nat}(S:St X s.heap):
 wpAny (model prog w) A (call (.builtin "str.count") [.str ⟨x.toArray⟩ t,.str ⟨[c].toArray⟩ u]) (Pt X κ s (.int (x.filter (·= c)).length)) No s:=by
 refine PySem.call_gives F.slot_str_count (typeIs_str _ _ _) F.entry_str_count (F.args_str_count_2 _ _) (gives_str_count _ _ t u) ?_;have h:=count_is ⟨x.toArray⟩ c;rw[countIn_signs_sum,fZ]at h;have h':((PySem.Builtin.Str.occurrences ⟨x.toArray⟩ ⟨[c].toArray⟩ 0 (⟨x.toArray⟩:Str).length ((⟨x.toArray⟩:Str).length+1)).length:Int)=((x.filter (·= c)).length:Int):=by simpa [Txt.count]using h
 rw[h'];exact⟨Gr.tok S.tab _,.int _ _⟩
end
end
section
open PyProof.Rows PySem PySem.Builtin PySem.Builtin.Str PySem.Calls PySem.W
theorem ga(c:Nat):∀p:List Nat,c∉p->aB c p=[p]
 |[],_=>rfl
 |x::r,h=>by
  have h1:x≠c:=λe=>h (e▸.head _);have h2:=ga c r λm=>h (.tail _ m);simp[aB,h1,h2]
theorem gZ(c:Nat):∀(p y:List Nat),c∉p->aB c (p++c::y)=p::aB c y
 |[],y,_=>by simp[aB]
 |x::r,y,h=>by
  have h1:x≠c:=λe=>h (e▸.head _);have h2:=gZ c r y λm=>h (.tail _ m);simp[aB,h1,h2]
theorem ge(c:Nat):∀ps:List (List Nat),ps≠[]->(∀p∈ps,c∉p)->aB c (bq [c] ps)=ps
 |[],h,_=>absurd rfl h
 |[p],_,h=>ga c p (h p (.head _))
 |p::q::r,_,h=>by
  have h1:bq [c] (p::q::r)=p++c::bq [c] (q::r):=by simp[bq]
  rw[h1,gZ c p _ (h p (.head _)),ge c (q::r) (by simp) λa j=>h a (.tail _ j)]
theorem dP(x:Str):(⟨x.cps.toList.toArray⟩:Str)=x:=by cases x;simp
theorem tG(x:List Nat)(c:Nat):(Txt.split ⟨x.toArray⟩ ⟨#[c]⟩)=(aB c x).map λl=>(⟨l.toArray⟩:Str):=by
 have h1:=StrLaws.join_split ⟨x.toArray⟩ ⟨#[c]⟩;have h2:=StrLaws.split_free ⟨x.toArray⟩ c;have m:=PyProof.Rows.split_pos ⟨x.toArray⟩ ⟨#[c]⟩;generalize g:Txt.split ⟨x.toArray⟩ ⟨#[c]⟩=ps at *;have e:ps=(ps.map λs=>s.cps.toList).map λl=>(⟨l.toArray⟩:Str):=by
  rw[List.map_map];simp[Function.comp_def]
 have u:bq [c] (ps.map λs=>s.cps.toList)=x:=by
  have:=n8 [c] (ps.map λs=>s.cps.toList);rw[<- e]at this;have y:Txt.join ⟨[c].toArray⟩ ps=⟨x.toArray⟩:=by
   show glued _ _=_;rw[StrLaws.glued_eq_join];exact h1
  rw[y]at this;have:=congrArg Str.cps this;simpa using this.symm
 have v:aB c x=ps.map λs=>s.cps.toList:=by
  rw[<- u];refine ge c _ (λh=>?_) λp g=>?_
  ·have:ps=[]:=by simpa using h
   rw[this]at m;simp at m
  ·refine af (List.mem_map.mp g) λq z j=>?_;clear g h1 m u;subst j;exact h2 q z
 rw[v];exact e
theorem dA(x p:List Nat)(i:Nat):StrLaws.At ⟨x.toArray⟩ ⟨p.toArray⟩ (⟨x.toArray⟩:Str).length i↔(i<=x.length/\p <+: x.drop i):=by
 unfold StrLaws.At;rw[StrLaws.subAt_eq];have j:(⟨x.toArray⟩:Str).length=x.length:=by simp[Str.length]
 have g:(⟨p.toArray⟩:Str).length=p.length:=by simp[Str.length]
 rw[j,g];rw[List.prefix_iff_eq_take];constructor
 ·rintro⟨h1,h2⟩
  simp at h2;exact⟨Nat.le_of_add_right_le h1,h2.symm⟩
 ·rintro⟨h1,h2⟩
  refine⟨?_,by simpa using h2.symm⟩;have:=congrArg List.length h2;simp at this;exact Nt (Nat.add_le_add_left (Nt (Ne0 this) (Nat.min_le_right _ _)) _) (Ne0 (Nat.add_sub_of_le h1))
theorem gQ(p:List Nat):∀(x:List Nat) (k:Nat),bg p x=some k->k<=x.length/\p <+: x.drop k/\∀j,j<k->¬p <+: x.drop j
 |[],k,h=>by
  unfold bg at h;split at h
  ·(replace h:=si h;subst h);rename_i g;exact⟨Nr _,List.isPrefixOf_iff_prefix.mp g,λj m=>by lia⟩
  ·exact no h
 |c::r,k,h=>by
  unfold bg at h;split at h
  ·(replace h:=si h;subst h);rename_i g;exact⟨Nat.zero_le _,List.isPrefixOf_iff_prefix.mp g,λj m=>by lia⟩
  ·rename_i g;simp only[Option.map_eq_some_iff]at h;obtain⟨v,h',rfl⟩:=h;obtain⟨h1,h2,u⟩:=gQ p r v h';refine⟨by simp;lia,by simpa using h2,λj m=>?_⟩;cases j with
   |zero=>intro hh;exact g (List.isPrefixOf_iff_prefix.mpr (by simpa using hh))
   |succ j=>simpa using u j (Nat.le_of_succ_le_succ m)
theorem oR(x p:List Nat)(j k:Nat)(g:j<=x.length)(O:bg p (x.drop j)=some k):
 ∃r,occurrences ⟨x.toArray⟩ ⟨p.toArray⟩ j (⟨x.toArray⟩:Str).length 1=(k+j)::r:=by
 refine bc (gQ p _ k O) λh1 h2 L=>?_;have n:(⟨x.toArray⟩:Str).length=x.length:=by simp[Str.length]
 have m:k<=x.length - j:=by simpa using h1
 rw[StrLaws.occ_eq];rcases StrLaws.occ_first ⟨x.toArray⟩ ⟨p.toArray⟩ (⟨x.toArray⟩:Str).length 1 (Nr _) (List.range' j ((⟨x.toArray⟩:Str).length+1 - j)) j (λi R=>(List.mem_range'_1.mp R).1)with⟨h0,f⟩|⟨pre,a,M,e,h0,P,f⟩
 ·exfalso
  refine f (k+j) (by rw[n];simp[List.mem_range'];refine⟨k,xe g m,Nat.add_comm _ _⟩) ((dA x p _).mpr ⟨Nat.add_le_of_le_sub g m,?_⟩);rw[List.drop_drop]at h2;rw[Nat.add_comm k j];exact h2
 ·have y:a∈List.range' j ((⟨x.toArray⟩:Str).length+1 - j):=by rw[e];simp
  have v:j<=a/\a<=x.length:=by
   rw[n]at y;have q:=List.mem_range'_1.mp y;exact⟨q.1,Nat.le_of_lt_succ (Nat.lt_of_lt_of_eq q.2 (Nat.add_sub_of_le (Nat.le_succ_of_le g)))⟩
  have d:=((dA x p a).mp P).2;have z:k+j<=a:=by
   refine Nat.le_of_not_lt λu=>?_;refine L (a - j) (Nat.sub_lt_right_of_lt_add v.1 u) ?_;rw[List.drop_drop];rw[Nat.add_sub_of_le v.1];exact d
  have c:a<=k+j:=by
   refine Nat.le_of_not_lt λu=>?_;have K:k+j∈List.range' j ((⟨x.toArray⟩:Str).length+1 - j):=by rw[n];simp[List.mem_range'];refine⟨k,xe g m,Nat.add_comm _ _⟩
   rw[e]at K;have l:List.Pairwise (·< ·) (List.range' j ((⟨x.toArray⟩:Str).length+1 - j)):=List.pairwise_lt_range';rw[e]at l;have o:k+j∈pre:=by
    rcases List.mem_append.mp K with h|h
    ·exact h
    ·rcases List.mem_cons.mp h with h|h
     ·exact absurd h (Nat.ne_of_lt u)
     ·exact absurd ((List.pairwise_cons.mp (List.pairwise_append.mp l).2.1).1 _ h) (Nat.lt_asymm u)
   refine f _ o ((dA x p _).mpr ⟨Nat.add_le_of_le_sub g m,?_⟩);rw[List.drop_drop]at h2;rw[Nat.add_comm k j];exact h2
  have J:a=k+j:=Eq.symm (Nat.le_antisymm z c);clear g O h2 L n m e P f y v d z c;subst J;generalize(forIn (List.range' j ((⟨x.toArray⟩:Str).length+1 - j)) ((#[]:Array Nat),j) (StrLaws.occBody ⟨x.toArray⟩ ⟨p.toArray⟩ (⟨x.toArray⟩:Str).length 1)).run.fst=arr at h0;have h1:arr.toList[0]?=some (k+j):=by simpa using h0
  cases hL:arr.toList with
  |nil=>rw[hL]at h1;exact no h1
  |cons b t=>rw[hL]at h1;simp at h1;exact⟨t,by rw[h1]⟩
theorem kn(p q:List Nat):∀(k:Nat) (x:List Nat),a8 p q k x=a8 p q 0 (x.drop k)
 |0,x=>by simp
 |k+1,[]=>by simp[a8]
 |k+1,c::r=>by rw[a8,kn p q k r];simp
theorem iK(p q:List Nat):∀(n:Nat) (x:List Nat),(∀j,j<n->¬p <+: x.drop j)->n<=x.length->a8 p q 0 x=x.take n++a8 p q 0 (x.drop n)
 |0,x,_,_=>by simp
 |n+1,[],_,h=>by simp at h
 |n+1,c::r,h,hn=>by
  have h0:p.isPrefixOf (c::r)=false:=by
   cases hh:p.isPrefixOf (c::r)with
   |false=>rfl
   |true=>exact absurd (List.isPrefixOf_iff_prefix.mp hh) (by simpa using h 0 (Nat.succ_pos _))
  rw[a8,h0];simp only[Bool.false_eq_true,if_false,List.take_succ_cons,List.drop_succ_cons,List.cons_append];rw[iK p q n r (λj g=>by simpa using h (j+1) (Nat.succ_le_succ g)) (by simpa using hn)]
theorem rG(p q:List Nat)(x:List Nat)(j:p≠[])(h:p <+: x):a8 p q 0 x=q++a8 p q 0 (x.drop p.length):=by
 cases x with
 |nil=>exact absurd (List.prefix_nil.mp h) j
 |cons c r=>
  rw[a8,List.isPrefixOf_iff_prefix.mpr h,if_pos rfl,kn];clear h;cases p with
  |nil=>exact absurd rfl j
  |cons a p=>simp
theorem o4(p q:List Nat)(x:List Nat)(h:∀j,j<=x.length->¬p <+: x.drop j):a8 p q 0 x=x:=by
 rw[iK p q x.length x (λj g=>h j ((Nat.le_of_lt g))) (Nr _)];simp[a8]
theorem j2(x p q:List Nat)(n:p≠[]):∀(m:List Nat) (a f:Nat),StrLaws.ChainG ⟨x.toArray⟩ ⟨p.toArray⟩ (⟨x.toArray⟩:Str).length a m f->(∀k,f<=k->¬StrLaws.At ⟨x.toArray⟩ ⟨p.toArray⟩ (⟨x.toArray⟩:Str).length k)->a<=x.length->
 (Str.join ⟨q.toArray⟩ (StrLaws.partsFrom ⟨x.toArray⟩ p.length a m)).cps.toList=a8 p q 0 (x.drop a)
 |[],a,f,h,hn,ha=>by
  have e:f=a:=h;subst e;show(strSub _ _ _).cps.toList=_;rw[StrLaws.strSub_toList];have i:(⟨x.toArray⟩:Str).length=x.length:=by simp[Str.length]
  rw[o4 p q (x.drop f) λj v hh=>?_]
  ·rw[i];exact List.take_of_length_le (by simp)
  ·refine hn (f+j) (Nat.le_add_right _ _) ((dA x p _).mpr ⟨by simp at v;exact(Nat.le_sub_iff_add_le' ha).mp v,?_⟩);rw[List.drop_drop]at hh;exact hh
 |c::r,a,f,h,hn,ha=>by
  clear ha;refine nk h λb t d g=>?_;have l:=(dA x p c).mp t;have i:(⟨x.toArray⟩:Str).length=x.length:=by simp[Str.length]
  have J:(⟨p.toArray⟩:Str).length=p.length:=by simp[Str.length]
  rw[J]at g;have u:c+p.length<=x.length:=by have:=t.1;rw[i,J]at this;exact this
  have o:=j2 x p q n r (c+p.length) f g hn u;refine bx (StrLaws.partsFrom_ne ⟨x.toArray⟩ p.length (c+p.length) r) λy z e=>?_;show(Str.join _ (strSub _ a c::StrLaws.partsFrom _ _ _ r)).cps.toList=_;rw[e]at o ⊢;show(strSub _ a c++⟨q.toArray⟩++Str.join _ (y::z)).cps.toList=_;simp only[Str.cps_append,Array.toList_append,o,StrLaws.strSub_toList];rw[iK p q (c - a) (x.drop a) (λj v hh=>?_) (by simp;exact Nt (Nt (Nat.le_add_right _ _) u) (Nat.le_add_of_sub_le (Nr _)))]
  ·rw[List.drop_drop,Nat.add_sub_of_le b,rG p q _ n l.2,List.drop_drop];simp
  ·refine d (a+j) (Nat.le_add_right _ _) (Nat.add_lt_of_lt_sub' v) ((dA x p _).mpr ⟨Nt (Nat.le_of_lt (Nat.add_lt_of_lt_sub' v)) (Nt (Nat.le_add_right _ _) u),?_⟩);rw[List.drop_drop]at hh;exact hh
theorem pL(x p q:List Nat)(j:p≠[]):Txt.replace ⟨x.toArray⟩ ⟨p.toArray⟩ ⟨q.toArray⟩=⟨(a8 p q 0 x).toArray⟩:=by
 have g:(⟨p.toArray⟩:Str).length=p.length:=by simp[Str.length]
 have hl:1<=p.length:=by cases p;exact absurd rfl j;simp
 obtain⟨f,u,v⟩:=StrLaws.occ_tight ⟨x.toArray⟩ ⟨p.toArray⟩ (by rw[g];exact hl);have key:=j2 x p q j _ 0 f u v (Nat.zero_le _);rw[List.drop_zero]at key;apply Str.ext';rw[<- Array.toList_inj];simp only;rw[<- key];unfold Txt.replace;rw[g,show(p.length==0)=false by simp;omega,Bool.false_and,Bool.or_false];split
 ·rename_i m;rw[List.isEmpty_iff.mp m];show _=(strSub _ 0 _).cps.toList;rw[StrLaws.sub_whole]
 ·rw[StrLaws.glued_eq_join,StrLaws.partsBetween_eq]
section
variable[GxOk]{A:Around}{s:Shared}{X:Addr->Prop}{κ:List Addr}
omit [GxOk] in
theorem nC:∀(l:List (Str×Tok)),aY h X κ (strValues l) (l.map λp=>PV.str p.1.cps.toList)
 |[]=>.nil
 |p::r=>by
  have:Rep h X κ (.str ⟨p.1.cps.toList.toArray⟩ p.2) (.str p.1.cps.toList):=.str _ _;rw[dP]at this;exact .cons this (nC r)
omit [GxOk] in
theorem iA(x:List Nat)(c:Nat):(partsBetween ⟨x.toArray⟩ (occurrences ⟨x.toArray⟩ ⟨#[c]⟩ 0 (⟨x.toArray⟩:Str).length ((⟨x.toArray⟩:Str).length+1)) (⟨#[c]⟩:Str).length).length<=x.length+2:=by
 have h1:=StrLaws.occ_length_le ⟨x.toArray⟩ ⟨#[c]⟩ 0 (⟨x.toArray⟩:Str).length ((⟨x.toArray⟩:Str).length+1);have j:(⟨x.toArray⟩:Str).length=x.length:=by simp[Str.length]
 rw[j]at h1;simp only[partsBetween,List.length_map,List.length_zip,List.length_cons,List.length_append,List.length_singleton,j];simp;omega
theorem sX{x:List Nat}(S:St X s.heap)(d:x.length<=ag):
 wpAny (model prog w) A (call (.builtin "str.split") [.str ⟨x.toArray⟩ t,.str ⟨[c].toArray⟩ u]) (Pt X κ s (.list ((aB c x).map .str))) No s:=by
 have i:(⟨x.toArray⟩:Str).length=x.length:=by simp[Str.length]
 have hh:=iA x c;have b:x.length<=100000:=d;have j:=tG x c;unfold Txt.split at j;have g:∀(ps:List Str) (l:List (Str×Tok)) (k:Nat),ps=(aB c x).map (λl=>(⟨l.toArray⟩:Str))->l.map (·.1)=ps->Pt X κ s (.list ((aB c x).map .str)) (.ref s.heap.objs.size) {s with heap:=s.heap.push (du (strValues l) 0),toks:=k}:=by
  intro ps l k h1 h2;have r:=nC (h:=s.heap) (X:=X) (κ:=κ) l;have e:l.map (λp=>PV.str p.1.cps.toList)=(aB c x).map .str:=by
   have:l.map (λp=>PV.str p.1.cps.toList)=(l.map (·.1)).map λp=>PV.str p.cps.toList:=by rw[List.map_map];rfl
   rw[this,h2,h1,List.map_map];simp[Function.comp_def]
  rw[e]at r;exact⟨Gr.push S.tab _ _,.newList S r _⟩
 by_cases h1:(decide ((⟨x.toArray⟩:Str).length<(⟨#[c]⟩:Str).length)||decide (strKind ⟨x.toArray⟩<strKind ⟨#[c]⟩))=true
 ·rw[if_pos h1]at j;exact call_meets F.slot_str_split (typeIs_str _ _ _) F.entry_str_split (F.args_str_split_2 _ _) (meets_str_split_cannot_occur _ _ t u h1) (g _ [(_,t)] s.toks j rfl)
 ·rw[if_neg h1]at j;have m:=Bool.eq_false_iff.mpr h1;by_cases h2:(occurrences ⟨x.toArray⟩ ⟨#[c]⟩ 0 (⟨x.toArray⟩:Str).length ((⟨x.toArray⟩:Str).length+1)).isEmpty=true
  ·rw[if_pos h2]at j;exact call_meets F.slot_str_split (typeIs_str _ _ _) F.entry_str_split (F.args_str_split_2 _ _) (meets_str_split_not_found _ _ t u m rfl h2) (g _ [(_,t)] s.toks j rfl)
  ·rw[if_neg h2]at j;have y:=Bool.eq_false_iff.mpr h2;refine call_meets F.slot_str_split (typeIs_str _ _ _) F.entry_str_split (F.args_str_split_2 _ _) (meets_str_split_sep _ _ t u m rfl y (by rw[i];unfold sizeLine;lia) (by unfold sizeLine;exact Nt hh (by lia))) ?_;have key:∀(ps:List Str) (k:Nat),∃l,strValues l=strsFrom k ps/\l.map (·.1)=ps:=by
    intro ps;induction ps with
    |nil=>intro k;exact⟨[],rfl,rfl⟩
    |cons p r q=>intro k;refine af (q (k+1)) λl z v=>?_;exact⟨(p,k)::l,by show _::strValues l=_::strsFrom (k+1) r;rw[z],by simp[v]⟩
   refine af (key (partsBetween ⟨x.toArray⟩ (occurrences ⟨x.toArray⟩ ⟨#[c]⟩ 0 (⟨x.toArray⟩:Str).length ((⟨x.toArray⟩:Str).length+1)) (⟨#[c]⟩:Str).length) s.toks) λl z v=>?_;have:=g _ l (s.toks+(partsBetween ⟨x.toArray⟩ (occurrences ⟨x.toArray⟩ ⟨#[c]⟩ 0 (⟨x.toArray⟩:Str).length ((⟨x.toArray⟩:Str).length+1)) (⟨#[c]⟩:Str).length).length) j v;rw[z]at this;exact this
omit [GxOk] in
theorem u5(S:St X s.heap)(j:bg [c] x=some k):
 wpAny (model prog w) A (call (.builtin "str.index") [.str ⟨x.toArray⟩ t,.str ⟨[c].toArray⟩ u]) (Pt X κ s (.int k)) No s:=by
 refine ah (oR x [c] 0 k (Nat.zero_le _) (by simpa using j)) λr h=>?_;exact SC.index (i:=k) (rest:=r) (by simpa using h) ⟨Gr.tok S.tab _,.int _ _⟩
omit [GxOk] in
theorem i3(n k:Nat)(t:Tok)(h:Q (k,n) s):wpAny M A (searchRange n [.int k t]) Q E s:=by
 show wpAny M A (do
  let lo <- (do
   if(<- specialOf (.int k t) "__index__").isNone then
    rule "str.search-range.no-index"
    raiseError "TypeError" "slice indices must be integers or None or have an __index__ method"
   let i <- asIndex (.int k t);pure (max 0 (if i<0 then i+n else i)):Sem Int)
  let hi <- (pure (n:Int):Sem Int);pure (lo.toNat,min hi.toNat n)) _ _ _
 refine Wb (Wb (wpAny_specialOf (name:=Str.ofString "__index__") (typeIs_int s k t) F.slot_int_index.lookup ?_));have e:((max 0 (if(k:Int)<0 then(k:Int)+n else k)).toNat,min (n:Int).toNat n)=(k,n):=by
  have:¬((k:Int)<0):=Int.not_ofNat_neg _;rw[if_neg this];simp
 have h':Q ((max 0 (if(k:Int)<0 then(k:Int)+n else k)).toNat,min (n:Int).toNat n) s:=by rw[e];exact h
 exact Wp (Wp h')
omit [GxOk] in
theorem rb{x:List Nat}{j:Nat}(S:St X s.heap)(m:j<=x.length)(v:bg [c] (x.drop j)=some k):
 wpAny (model prog w) A (call (.builtin "str.index") [.str ⟨x.toArray⟩ t,.str ⟨[c].toArray⟩ u,.int j t3]) (Pt X κ s (.int ((k:Int)+(j:Int)))) No s:=by
 refine ah (oR x [c] j k m v) λr h=>?_;have g:Gives («str.index» ⟨[.str ⟨x.toArray⟩ t,.str ⟨[c].toArray⟩ u,.int j t3],[]⟩) (.int ((k+j:Nat):Int)):=by
  refine Gives.of_wp λM A E s Q y=>?_;show wpAny _ _ (do
   let(lo',hi) <- searchRange (⟨x.toArray⟩:Str).length [.int j t3];match occurrences ⟨x.toArray⟩ ⟨[c].toArray⟩ lo' hi 1 with
   |i::_=>retInt i
   |[]=>(do rule "str.index.not-found";raiseError "ValueError" "substring not found")) _ _ _
  refine Wb (i3 _ j t3 ?_);dsimp only;rw[h];exact Wb (wpAny_mkInt (Wp ⟨_,rfl,y⟩))
 exact call_gives F.slot_str_index (typeIs_str _ _ _) F.entry_str_index (F.args_str_index_3 _ _ _) g ⟨Gr.tok S.tab _,.int _ _⟩
omit [GxOk] in
theorem qZ(S:St X s.heap)(j:kc p q x=some y)(z:u≠0)(m:v≠0)(g:u≠v):
 wpAny (model prog w) A (call (.builtin "str.replace") [.str ⟨x.toArray⟩ t,.str ⟨p.toArray⟩ u,.str ⟨q.toArray⟩ v]) (Pt X κ s (.str y)) No s:=by
 unfold kc at j;split at j<;>cases j
 rename_i hc;have r:(⟨x.toArray⟩:Str).length=x.length:=by simp[Str.length]
 have d:(⟨q.toArray⟩:Str).length=q.length:=by simp[Str.length]
 refine SC.replaceW z m g (by rw[jB];exact decide_eq_false hc.2.1) (by rw[r];lia) (by rw[d];lia) λe k=>?_;rw[pL x p q hc.1];exact⟨Gr.tok S.tab _,.str _ _⟩
end
end
section
open PyProof.Rows PySem PySem.Calls PySem.W
section
variable[GlOk]{A:Around}{s:Shared}{X:Addr->Prop}{κ:List Addr}{σ:List Sto}{env:Env}{ρ:ar}{F:Nat->List PV->Option PV}{nc k kt:Nat}{sc:Scope}
omit [GlOk] in
theorem Au(s':Shared)(q:Shw s'.heap X κ u (.str x)):s'.TypeIs u "str"/\∀b,u=.ref b->∃ob,s'.heap.get? b=some ob/\ob.dict=none:=by
 refine ah q λt j=>?_;clear q;subst j;exact⟨typeIs_str _ _ _,nofun⟩
omit [GlOk] in
theorem nj(s':Shared)(q:Shw s'.heap X κ u (.list x)):s'.TypeIs u "list"/\∀b,u=.ref b->∃ob,s'.heap.get? b=some ob/\ob.dict=none:=by
 obtain⟨a,vs,n,rfl,j,_,r⟩:=q;exact⟨⟨_,j,rfl⟩,λb e=>by cases e;exact⟨_,j,rfl⟩⟩
omit [GlOk] in
theorem dt(x:String)(g:idOf n=some i)(e:i=j)(h:nm j=Str.ofString x):n=Str.ofString x:=by
 have:=(bV g).1;rw[e,h]at this;exact this.symm
omit [GlOk] in
theorem sO(r:aY h X κ vs [d,e]):∃v u,vs=[v,u]/\Rep h X κ v d/\Rep h X κ u e:=r.inv2
omit [GlOk] in
theorem fO(q:Rep h X κ u (.str x)):∃t,u=.str ⟨x.toArray⟩ t:=q.inv
omit [GlOk] in
theorem qC(q:Rep h X κ u (.int x)):∃t,u=.int x t:=q.inv
noncomputable def sS(A:Around)(X:Addr->Prop)(κ:List Addr)(T:String)(n:Str)(d0:PV)(ds:List PV)(d:PV):Prop:=
 ∃id,PlainAttrs T/\Slot T n id/\typeOf (.builtin id)=pure (.type "method_descriptor")/\∀u vs s',St X s'.heap->Shw s'.heap X κ u d0->aY s'.heap X κ vs ds->(∀v l,Rep s'.heap X κ v (.list l)->Shw s'.heap X κ v (.list l))->wpAny (model prog w) A (call (.builtin id) (u::vs)) (Pt X κ s' d) No s'
theorem pq(p:idOf n=some i)(g:qM x i ds=some d):sS A X κ "str" n (.str x) ds d:=by
 match ds,g with
 |[e],g=>
  by_cases h1:i=(110:Nat)
  ·refine wbi ((if_pos h1).symm.trans g) λc g hc hx=>?_;(replace g:=si g;subst g)
   obtain rfl:=jC hc;obtain rfl:=dt "split" p h1 (by decide +kernel);refine⟨_,PySem.F.plainAttrs_str,PySem.F.slot_str_split,PySem.F.type_str_split,λu vs s' S q r w=>?_⟩;refine ah q λt y=>?_;subst y;refine af r.inv1 λv T z=>?_;subst T;refine ah z.inv λQ U=>?_;subst U;exact sX S hx
  replace g:=(if_neg h1).symm.trans g;by_cases h2:i=(113:Nat)
  ·refine wbm ((if_pos h2).symm.trans g) λc j J hc N=>?_;subst J;obtain rfl:=jC hc;obtain rfl:=dt "index" p h2 (by decide +kernel);refine⟨_,PySem.F.plainAttrs_str,PySem.F.slot_str_index,PySem.F.type_str_index,λu vs s' S q r w=>?_⟩;refine ah q λt B=>?_;subst B;refine af r.inv1 λv C z=>?_;subst C;refine ah z.inv λQ W=>?_;subst W;exact u5 S N
  replace g:=(if_neg h2).symm.trans g;by_cases h3:i=(4:Nat)
  ·refine omk ((if_pos h3).symm.trans g) λc K hc=>?_;subst K;obtain rfl:=jC hc;obtain rfl:=dt "count" p h3 (by decide +kernel);refine⟨_,PySem.F.plainAttrs_str,PySem.F.slot_str_count,PySem.F.type_str_count,λu vs s' S q r w=>?_⟩;refine ah q λt h=>?_;subst h;refine af r.inv1 λv M z=>?_;subst M;refine ah z.inv λQ o=>?_;subst o;exact rR S
  refine xz ((if_neg h3).symm.trans g) λl ws g h4 hl I hsz=>?_;(replace g:=si g;subst g)
  obtain rfl:=bN hl;obtain rfl:=dt "join" p h4 (by decide +kernel);refine⟨_,PySem.F.plainAttrs_str,PySem.F.slot_str_join,PySem.F.type_str_join,λu vs s' S q r L=>?_⟩;refine ah q λt O=>?_;subst O;refine af r.inv1 λv b z=>?_;subst b;exact wR S (L _ _ z) I hsz
 |[e,e2],g=>
  refine xz g λc lo g h1 hc H E=>?_;refine au E λh0 f=>?_;refine omk g λj y N=>?_;subst y;obtain rfl:=jC hc;obtain rfl:=aA H;obtain rfl:=dt "index" p h1 (by decide +kernel);refine ah (Int.eq_ofNat_of_zero_le h0) λm P=>?_;subst P;refine⟨_,PySem.F.plainAttrs_str,PySem.F.slot_str_index,PySem.F.type_str_index,λu vs s' S q r w=>?_⟩;refine ah q λt Z=>?_;subst Z;refine aO r.inv2 λv v2 R z r2=>?_;subst R;refine ah z.inv λQ Y=>?_;subst Y;refine ah r2.inv λt3 a=>?_;subst a;exact rb S f N
theorem nq(p:idOf n=some i)(g:j7 x i ds=some d):sS A X κ "list" n (.list x) ds d:=by
 match ds,g with
 |[e],g=>
  by_cases h1:i=(4:Nat)
  ·refine wbm ((if_pos h1).symm.trans g) λc K t hc h=>?_;subst t;obtain rfl:=aA hc;obtain rfl:=dt "count" p h1 (by decide +kernel);refine⟨_,PySem.F.plainAttrs_list,PySem.F.slot_list_count,PySem.F.type_list_count,λu vs s' S q r w=>?_⟩;refine af r.inv1 λv f o=>?_;subst f;refine ah o.inv λJ m=>?_;subst m;exact tW S q h
  refine AO ((if_neg h1).symm.trans g) λc g h2 hc hsz=>?_;refine wbm g λL j b y a=>?_;clear g;subst b;clear g;obtain rfl:=bE hc;clear g hc;obtain rfl:=dt "index" p h2 (by decide +kernel);refine⟨_,PySem.F.plainAttrs_list,PySem.F.slot_list_index,PySem.F.type_list_index,λu vs s' S q r w=>?_⟩;refine af r.inv1 λv l o=>?_;clear h2 p r;subst l;refine ah o.inv λJ z=>?_;subst z;have h1:=(List.findIdx?_eq_some_iff_getElem.mp a).1;rw[be y]at h1;exact lj S q y a (Nl h1 (Nt hsz (by decide)))
theorem vy(O:EvT F nc k)(a:AOk nc A)(R:env.scope=sc)(al:Al s X κ σ env ρ){apos pos:Pos}{args:List Expr}
 (ho:tr kt sc o=some po) (P:idOf n=some i) (K:ev F σ k po ρ=some da) (c:res σ da=some d0) (hl:args.mapM (tr kt sc)=some pes) (J:pes.mapM (λe=>ev F σ k e ρ)=some ds)
 (L:xo d0 i ds=some d)
 (z:attributeBase o n env (eval o env)=eval o env) (j:(apos.endLine==pos.line)=true) (t:args.length<=5) :
 wpAny (model prog w) A (eval (.Call (.Attribute o n apos) args [] pos) env) (Pt X κ s d) No s:=by
 have M:∀{T:String},sS A X κ T n d0 ds d->(∀u (s':Shared),Shw s'.heap X κ u d0->s'.TypeIs u T/\∀b,u=.ref b->∃ob,s'.heap.get? b=some ob/\ob.dict=none)->
  wpAny (model prog w) A (eval (.Call (.Attribute o n apos) args [] pos) env) (Pt X κ s d) No s:=λm Y=>by
  refine AA m λid h1 h2 W U=>?_;exact w0 O a R al ho K c hl J z j t h1 h2 W Y λu vs s' g h q r=>Wm (U u vs s' h.S q r λv l r=>aC h.T r rfl) (λv Z p=>p.mono g) λy y f=>f
 clear O a R al ho K c hl J z j t;cases d0 with
 |str x=>exact M (pq P L) λu s' q=>Au s' q
 |list x=>exact M (nq P L) λu s' q=>nj s' q
 |_=>exact no L
end
class ObjOk:Prop extends FnOk where
 kin:G.K.In G.h0
 hasD:hasDictIn G.K G.C=true
 getOk:∀n,cj.contains n=true->plainGet G.K G.C n=true/\findIn G.K (.ref G.C) n=some none
 meth:∀i a,dJ i=true->G.fnv i=some a->i≠cV/\plainGet G.K G.C (nm i)=true/\findIn G.K (.ref G.C) (nm i)=some (some (.ref a))/\isFn G.K (.ref a)=true
 clsN:G.mg "Whitespace"=some (.ref G.C)
 clsST:∃mc t t',readsIn G.K G.C mc=true/\findCls G.K (.ref G.C) mc "S"=some (.val (.str ⟨[32].toArray⟩ t))/\findCls G.K (.ref G.C) mc "T"=some (.val (.str ⟨[9].toArray⟩ t'))
section
variable[ObjOk]{A:Around}{s:Shared}{X:Addr->Prop}{κ:List Addr}{σ:List Sto}{env:Env}{ρ:ar}{F:Nat->List PV->Option PV}{nc k kt:Nat}{sc:Scope}
omit [ObjOk] in
theorem s7(h:¬i<nms.length):nm i=Str.empty:=by
 unfold nm;rw[List.getD_eq_getElem?_getD,List.getElem?_eq_none ((Nat.le_of_not_lt h))];rfl
omit [ObjOk] in
theorem yR:∀x∈nms,(x==Str.empty)=false:=by
 have h:(nms.all λx=>!(x==Str.empty))=true:=by decide +kernel
 intro x j;have:=List.all_eq_true.mp h x j;simpa using this
omit [ObjOk] in
theorem zD(g:i<nms.length)(h:nm j=nm i):j=i:=by
 by_cases hj:j<nms.length
 ·exact m8 hj g h
 ·rw[s7 hj]at h;have:=yR _ (ft g);rw[<- h]at this;simp at this
omit [ObjOk] in
theorem k5(y:n<nms.length)(r:oF h X κ es fs):
 (fs.lookup n=none/\getL (nm n) es=some none)\/∃v d,fs.lookup n=some d/\getL (nm n) es=some (some v)/\Rep h X κ v d:=by
 induction r with
 |nil=>exact .inl ⟨rfl,rfl⟩
 |@cons e f es fs a b ih=>
  obtain⟨hh,z,v⟩:=e;obtain⟨j,d⟩:=f;obtain⟨⟨t,u⟩,r⟩:=a;dsimp only at u r;subst u;by_cases e:j=n
  ·subst e;refine .inr ⟨v,d,by simp[List.lookup],?_,r⟩;unfold getL;simp[List.find?,Value.isStr]
  ·have m:(n==j)=false:=by simpa using λx=>e x.symm
   have g:(nm j==nm n)=false:=by
    simp only[beq_eq_false_iff_ne,ne_eq];exact λx=>e (zD y x)
   have h1:getL (nm n) (⟨hh,.str (nm j) t,v⟩::es)=getL (nm n) es:=by
    unfold getL;simp only[List.find?,Value.isStr,g,List.any_cons];simp[DictEntry.refKey]
   have h2:List.lookup n ((j,d)::fs)=fs.lookup n:=by rw[List.lookup,m]
   rw[h1,h2];exact ih
theorem fu(S:St X s.heap):G.K.In s.heap:=λa o e=>S.base _ _ (ObjOk.kin a o e)
omit [ObjOk] in
theorem nh{h:Heap}{j:Obj}(hd:j.dict=some dx)(u:h.get? x=some j)(hc:j.cls=.ref G.C)(m:kh j=true)(g:h.get? dx=some (dictOf es n)):
 InstAt h x j G.C (some (dictOf es n)):=
 ⟨u,hc,by unfold kh at m;unfold notCls;split at m<;>simp_all,by rw[hd];exact g⟩
omit [ObjOk] in
theorem nN(h:noC e=true)(n:Str)(j:Sem Value):attributeBase e n env j=j:=by
 cases e<;>first|rfl|exact nf h
theorem x9(R:EvT F nc k)(a:AOk nc A)(J:env.scope=sc)(al:Al s X κ σ env ρ)
 (ho:tr kt sc o=some po) (p:idOf n=some i) (y:cj.contains n=true) (e:noC o=true) (hd:ev F σ (k+1) (.attr po i) ρ=some d) :
 wpAny (model prog w) A (eval (.Attribute o n pos) env) (Pt X κ s d) No s:=by
 refine hid λK b=>?_;refine au (bV p) λt hl=>?_;clear p;subst t;refine obk hd λY hd j=>?_;refine obk j λW j r=>?_;refine obk hd λZ u z=>?_;obtain rfl:=mC z;refine b ?_;clear b K;rw[arm_eval_Attribute,nN e];refine Wb (bR R ho r a J al λv B O g M=>Wb (wpAny_standAt (Wb (wpAny_holding ?_))));obtain⟨x,dx,E,U,m,rfl,q,L,hc,l,c,_,_,h⟩:=aC g.T M j;rcases k5 hl h with⟨h1,h2⟩|⟨C,d',h1,h2,f⟩
 ·rw[u]at h1;injection h1
 ·rw[u]at h1;(replace h1:=si h1;subst h1);refine au (ObjOk.getOk _ y) λP p2=>?_;refine get_value (fu g.S) (nh q L hc l c) (plainGet_of P).1 (findObj_own (ObjOk.hasD) p2 rfl (by rw[lookIn_dict];exact h2)) f.handed ?_;exact Wb (wpAny_letTemporaryGo (Wp ⟨O.trans (Gr.tok g.S.tab _),f⟩))
theorem wF(a:AOk nc A)(r:env.scope=sc)(al:Al s X κ σ env ρ)
 (z:isG sc "Whitespace"=true) (u:idOf n=some i) (hd:ev F σ (k+1) (.cattr i) ρ=some d) :
 wpAny (model prog w) A (eval (.Attribute (.Name "Whitespace" np) n pos) env) (Pt X κ s d) No s:=by
 subst r;replace hd:(if i=(2:Nat)then some (.str [32])else if i=(3:Nat)then some (.str [9])else none)=some d:=hd;refine Ak (ObjOk.clsST) λmc t e g q y=>?_;rw[arm_eval_Attribute];show wpAny _ _ (eval (.Name "Whitespace" np) env >>= _) _ _ _;refine Wb (ez al.S al.R z (by decide +kernel) (ObjOk.clsN) (Wb (wpAny_standAt (Wb (wpAny_holding ?_)))));split at hd
 ·rename_i j;refine hid λv m=>?_;(replace hd:=si hd;subst hd)
  obtain rfl:=dt "S" u j (by decide +kernel);refine m ?_;clear m v;exact cls_value (fu al.S) g q rfl (Wb (wpAny_letTemporaryGo (Wp ⟨Gr.tok al.S.tab _,.str _ _⟩)))
 ·split at hd<;>cases hd
  rename_i j;obtain rfl:=dt "T" u j (by decide +kernel);exact cls_value (fu al.S) g y rfl (Wb (wpAny_letTemporaryGo (Wp ⟨Gr.tok al.S.tab _,.str _ _⟩)))
theorem su(FO:FOk F nc)(IH:EvT F nc k)(a:AOk nc A)(I:env.scope=sc)(al:Al s X κ σ env ρ){apos pos:Pos}{args:List Expr}
 (ho:tr kt sc o=some po) (hn:idOf n=some i) (R:ev F σ k po ρ=some (.obj fs)) (hl:args.mapM (tr kt sc)=some pes) (O:pes.mapM (λe=>ev F σ k e ρ)=some ds)
 (T:fs.lookup i=none) (P:dJ i=true) (hd:F i (.obj fs::ds)=some d)
 (g:attributeBase o n env (eval o env)=eval o env) (r:(apos.endLine==pos.line)=true) (J:args.length<=5) :
 wpAny (model prog w) A (eval (.Call (.Attribute o n apos) args [] pos) env) (Pt X κ s d) No s:=by
 refine hid λgG H=>?_;refine au (bV hn) λL h=>?_;subst L;refine af (FO.2 i _ d h hd) λf B y=>?_;refine nk (ObjOk.meth i f P B) λY p1 p2 p3=>?_;refine cb (FnOk.fnObj i f B Y) λof fd W M=>?_;refine H ?_;clear H gG;have Z:=eD (env:=env) (i6 hl) (pos:=pos);rw[arm_eval_Call,g];refine Wb (bR IH ho R a I al λv s₁ g₁ j r₁=>Wb (wpAny_standAt ?_));have z:methodCallForm (args.length+([]:List Keyword).length) (backTo pos (starEach args env)) (backToKw pos (keywordEach [] env))=true:=by
  have h1:((backTo pos (starEach args env)).all λx=>!x.1)=true:=by
   rw[List.all_eq_true];intro x K;have:=List.any_eq_false.mp Z x K;simpa using this
  unfold methodCallForm;rw[h1];have:args.length<30:=Nm J (by decide);rw[show backToKw pos (keywordEach [] env)=[]from rfl];simp[this]
 have t:methodCallPos true o env apos pos=pure pos:=by unfold methodCallPos;simp[r]
 unfold methodCall;rw[z];obtain⟨x,dx,ox,es,m,rfl,l,Q,hc,c,b,K,U,E⟩:=r₁.inv
 ·
  rcases k5 h E with⟨h1,h2⟩|⟨v',d',h1,h2,h3⟩
  ·refine Wb (wpAny_holding (method_fn (fu j.S) (nh l Q hc c b) (plainGet_of p1).1 (plainGet_of p1).2 p2 (beq_iff_eq.mp p3) (by show(lookIn _ (dictOf _ _)).map _=_;rw[lookIn_dict,h2];rfl) ?_));refine Wb (wpAny_of_eq t ?_);refine callWith_function (o:=of) (fd:=fd) (cN IH a I _ j hl O λvs N C q rs=>⟨⟨q.S.base _ _ W,M⟩,?_⟩);have r₂:Rep N.heap X κ (.ref x) (.obj fs):=j.rep C (.obj l Q hc c b K U E);exact Wm (y A X κ N (.ref x::vs) a q.S q.pos (.cons r₂ rs)) (λv s₃ p=>p.mono (g₁.trans C)) λu u f=>f
  ·rw[T]at h1;exact no h1
end
class aI:Prop extends ObjOk where
 ex:∃a es n,G.mg "EXACT_TOKEN_TYPES"=some (.ref a)/\(a==sysModules)=false/\G.K.lookup a=some ⟨.type "dict",none,.dict es n,#[]⟩/\KeysLit w.params es.toList/\
  ∀x:List Nat,∃r,nsIn G.K a ⟨x.toArray⟩=some r/\(match exT.lookup x with|some i=>∃t,r=some (.int i t)|none=>r=none)
section
variable[aI]{A:Around}{s:Shared}{X:Addr->Prop}{κ:List Addr}{σ:List Sto}{env:Env}{ρ:ar}{F:Nat->List PV->Option PV}{nc k kt:Nat}{sc:Scope}{d:PV}{pos:Pos}
theorem ya(U:FOk F nc)(L:EvT F nc k)(a:AOk nc A)(P:env.scope=sc)(al:Al s X κ σ env ρ){apos K p2:Pos}{p q:Str}
 (ho:tr kt sc o=some po) (hd:ev F σ (k+1) (.repl po p.cps.toList q.cps.toList) ρ=some d)
 (j:attributeBase o "replace" env (eval o env)=eval o env) (g:(apos.endLine==pos.line)=true) :
 wpAny (model prog w) A (eval (.Call (.Attribute o "replace" apos) [.Constant (.str p) k1 K,.Constant (.str q) k2 p2] [] pos) env) (Pt X κ s d) No s:=by
 subst P;refine hid λR h=>?_;refine oik (show(if(F 998 []).isNone=true then _ else none)=some d from hd) λhd i=>?_;replace i:=Option.isNone_iff_eq_none.mp i;refine wbb hd λY x hd c n=>?_;refine omk hd λy r M=>?_;clear hd;subst r;clear hd;obtain rfl:=bE n;refine h ?_;clear h R
 ·
  refine wpAny_Call_method_lateS j rfl g (bR L ho c a rfl al λu m W l J=>?_);refine ah (fO J) λt r=>?_;clear L a al j g ho hd c n J;subst r;refine⟨"str","str.replace",PySem.F.plainAttrs_str,PySem.F.slot_str_replace,PySem.F.type_str_replace,typeIs_str _ _ _,(λb e=>nomatch e),?_⟩;refine callWith_builtin_kwB rfl rfl (evalArgs_plain ?_);show wpAny _ _ (spliced ((false,eval (.Constant (.str p) k1 K) env)::(false,eval (.Constant (.str q) k2 p2) env)::[])) _ _ _;unfold spliced;refine Wb (wpAny_Constant_str ?_);dsimp only[Bool.false_eq_true,if_false];refine Wb (Wp (Wb (wpAny_holding ?_)));unfold spliced;refine Wb (wpAny_Constant_str ?_);dsimp only[Bool.false_eq_true,if_false];refine Wb (Wp (Wb (wpAny_holding ?_)));delta spliced;refine Wp (Wp (Wp ?_));have T:=Nt (U.1 i) l.pos;have O:=W.trans (Gr.tok l.S.tab (m.toks+1+1));have:=qZ (A:=A) (κ:=κ) (t:=t) (u:=m.toks) (v:=m.toks+1) (s:={m with toks:=m.toks+1+1}) (X:=X) l.S M (by show m.toks≠0;exact Nat.ne_zero_of_lt T) (by show m.toks+1≠0;exact Nat.succ_ne_zero _) (by show m.toks≠m.toks+1;exact Nat.ne_add_one _);rw[dP,dP]at this;exact Wm this (λv Z p=>p.mono O) λz z f=>f
omit [aI] in
theorem gI{K:Type}[DecidableEq K]:∀(kvs acc:List (K×Value)),((acc++kvs).map (·.1)).Nodup->merged acc kvs=acc++kvs
 |[],acc,_=>by simp[merged]
 |(k,v)::r,acc,h=>by
  have j:stored acc k v=acc++[(k,v)]:=by
   unfold stored;rw[if_neg];simp only[List.any_eq_true,decide_eq_true_eq,not_exists,not_and];rintro⟨x,y⟩ g rfl
   simp only[List.map_append,List.map_cons,List.nodup_append]at h;exact h.2.2 _ (List.mem_map.mpr ⟨_,g,rfl⟩) _ (.head _) rfl
  show merged (stored acc k v) r=_;rw[j,gI r (acc++[(k,v)]) (by simpa using h)];simp
theorem tM(Q:EvT F nc k)(a:AOk nc A)(I:env.scope=sc):∀(ks:List (Option Expr)) (vs:List Expr) (g j:List PE) (b:List Int) (ds:List PV) (s:Shared),ks.mapM (λ(o:Option Expr)=>o.bind (tr kt sc))=some g->vs.mapM (tr kt sc)=some j->
 g.mapM (λe=>(ev F σ k e ρ).bind aN)=some b->j.mapM (λe=>ev F σ k e ρ)=some ds->b.length=ds.length->Al s X κ σ env ρ->
 wpAny (model prog w) A (evalPairs (pairTrees ks vs env pos)) (λps L=>Gr X s L/\Al L X κ σ env ρ/\∃kvs,Carries (intKind prog w) ps kvs/\gy L.heap X κ kvs (b.zip ds)) No s:=by
 intro ks;induction ks with
 |nil=>
  intro vs g j b ds s h1 h2 C M n al;obtain rfl:=mn h1;obtain rfl:=mn C;cases vs with
  |nil=>exact pairTrees_nil_walk ⟨Gr.refl al.S.tab,al,[],trivial,.nil⟩
  |cons v vs=>
   have e1:=be h2;have e2:=be M;rw[e2,e1]at n;injection n
 |cons o ks ih=>
  intro vs g j b ds s h1 h2 C M n al;refine hid λc m=>?_;refine mck h1 λpk r y p z=>?_;clear h1;subst z;refine mck C λi B R P Y=>?_;subst Y;refine m ?_;clear m c;cases vs with
  |nil=>obtain rfl:=mn h2;obtain rfl:=mn M;injection n
  |cons v vs=>
   refine hid λc m=>?_;refine mck h2 λpv h T K O=>?_;subst O;refine mck M λd H hd Z x=>?_;subst x;refine obk y λe y l=>?_;subst l;refine obk R λdi R E=>?_;obtain rfl:=aA R;refine m ?_;clear m c;refine pairTrees_cons_walk (bR Q y E a I al λkv L g₁ W r₁=>bR Q T hd a I W λvv s₂ g₂ J r₂=>?_);refine Wm (ih vs r h B H s₂ p K P Z (Nat.succ.inj n) J) (λps s₃ q=>?_) λu u f=>f;refine hid λc m=>?_;obtain⟨N,U,kvs,hc,rd⟩:=q;refine ah r₁.inv λt z=>?_;subst z;refine m ?_;clear m c;exact⟨g₁.trans (g₂.trans N),U,(i,vv)::kvs,⟨intKind_is prog w i t,rfl,hc⟩,.cons ⟨rfl,N.rep J.S.xp r₂⟩ rd⟩
theorem Al.withFresh(al:Al s X κ σ env ρ)(o:Obj)(t:o.isFreed=false):Al {s with heap:=s.heap.push o} (λa=>X a\/a=s.heap.objs.size) κ σ env ρ:=by
 have p:∀{b j},s.heap.get? b=some j->b≠s.heap.objs.size:=λe=>Nat.ne_of_lt (Heap.lt_size e);have g:∀b j,s.heap.get? b=some j->(s.heap.push o).get? b=some j:=λb j e=>Hp _ e;have f:∀b j,¬X b->s.heap.get? b=some j->(s.heap.push o).get? b=some j/\¬(X b\/b=s.heap.objs.size):=λb j y e=>⟨g b j e,λh=>h.elim y (p e)⟩
 refine⟨⟨λb j e=>g _ _ (al.S.base b j e),λb j e h=>h.elim (al.S.low b j e) (p (al.S.base b j e)),λa h=>?_,.inl al.S.xp,?_⟩,⟨al.T.len,λn x a h1 h2=>(al.T.at_ n x a h1 h2).move f g⟩,?_,al.pos⟩
 ·by_cases e:a=s.heap.objs.size
  ·subst e;exact⟨o,Heap.get?_push_size _ t⟩
  ·obtain⟨j,ho⟩:=al.S.ex a (h.resolve_right e);exact⟨j,g _ _ ho⟩
 ·exact GxOk.tabMove _ _ _ _ (λb j u y e=>f b j y e) (λj e=>g _ _ e) al.S.tab
 ·obtain⟨a,b,c,l,M,m,L,J⟩:=al.R;refine⟨a,b,c,l,λn i=>let⟨c,h1,h2,v,K⟩:=M n i;⟨c,h1,h2,v,K.keeps g⟩,m,L.at' λo e=>g _ o e,λx d e=>?_⟩;obtain⟨z,v,r,hc⟩:=J x d e;exact⟨z,v,r.move f λu u e=>e,hc.imp id λ⟨q,c,hc,hl,o,ho,hd⟩=>⟨q,c,hc,hl,o,g c o ho,hd⟩⟩
theorem yC(IH:EvT F nc k)(a:AOk nc A)(N:env.scope=sc)(al:Al s X κ σ env ρ){ks:List (Option Expr)}{vs:List Expr}(h1:ks.mapM (λ(o:Option Expr)=>o.bind (tr kt sc))=some pks)(h2:vs.mapM (tr kt sc)=some pvs)
 (R:ks≠[]) (hd:ev F σ (k+1) (.dict pks pvs) ρ=some d):wpAny (model prog w) A (eval (.Dict ks vs pos) env) (Pt X κ s d) No s:=by
 refine zc hd λY ds hd y z y8=>?_;refine bc y8 λJ g jb=>?_;(replace hd:=si hd;subst hd)
 have e1:=be h1;have e2:=be h2;have e3:=be y;have e4:=be z;have fW:ks.all (·.isSome)=true:=by
  rw[List.all_eq_true];intro o ho;refine ah (jN h1 o ho) λp Q=>?_;refine obk Q λe ja r=>?_;subst r;rfl
 let o0:Obj:={cls:=.type "dict",data:=.dict #[]}
 have M:=al.withFresh o0 rfl;refine wpAny_Dict_walk (knd:=intKind prog w) fW (by lia) R (by lia) (Wm (tM IH a N ks vs pks pvs Y ds _ h1 h2 y z g M) (λps B ⟨C,I,kvs,hc,Z⟩=>⟨kvs,hc,?_,λh' hD O=>?_⟩) λu u f=>f)
 ·have h0:({s with heap:=s.heap.push o0}:Shared).heap.get? s.heap.objs.size=some o0:=Heap.get?_push_size _ rfl;have hP:s.heap.objs.size≠G.P:=λe=>by
   refine ah (al.S.ex _ al.S.xp) λo ho=>?_;rw[<- e]at ho;exact absurd (Heap.lt_size ho) (Nat.lt_irrefl _)
  refine aO C λn tk c l H=>?_;subst c;exact Heap.dictOf_iff.mpr ⟨o0,l _ _ hP h0,emptyDict⟩
 ·have m:kvs.map (·.1)=Y:=by
   rw[Z.keysEq,List.map_fst_zip ((Ne0 g))]
  rw[gI kvs [] (by simpa [m]using J)]at hD;refine af (Heap.dictOf_iff.mp hD) λo' U i=>?_;have q:¬X s.heap.objs.size:=al.S.fresh;have j:s.heap.get? s.heap.objs.size=none:=by
   cases e:s.heap.get? s.heap.objs.size with
   |none=>rfl
   |some o=>exact absurd (Heap.lt_size e) (Nat.lt_irrefl _)
  have T:G.P≠s.heap.objs.size:=λe=>q (e▸al.S.xp);have K:∀b o,b≠s.heap.objs.size->B.heap.get? b=some o->h'.get? b=some o:=λb o W e=>(O.2 b W).trans e;have E:∀b o,¬(X b\/b=s.heap.objs.size)->B.heap.get? b=some o->h'.get? b=some o/\¬X b:=λb o t e=>⟨K b o (λx=>t (.inr x)) e,λh=>t (.inl h)⟩
  refine⟨?_,.dict (kvs:=kvs) U (by simpa using i) (mN al.S j) q (Z.repMoveD E λu u e=>e)⟩;refine aO C λn tk v l L=>?_;subst v;exact⟨h',_,rfl,λb o W e=>K b o (λx=>by subst x;rw[j]at e;exact no e) (l b o W (Hp _ e)),GxOk.tabMove _ _ _ _ (λb o u t e=>E b o t e) (λo e=>K _ o T e) L⟩
theorem rF{x:List Nat}{i:Int}{t:Tok}{g j:Expr}(S:St X s.heap)(q:exT.lookup x=some i){m:Addr}(b:G.mg "EXACT_TOKEN_TYPES"=some (.ref m))
 (z:subscripted j false (.ref m) (.str ⟨x.toArray⟩ t)=operate [.ref m,.str ⟨x.toArray⟩ t] (getItem (.ref m) (.str ⟨x.toArray⟩ t))) :
 wpAny (model prog w) A (subscriptTail g j (.ref m) (.str ⟨x.toArray⟩ t)) (Pt X κ s (.int i)) No s:=by
 refine hid λf l=>?_;refine zJ (aI.ex) λa h n h1 h2 c p e=>?_;rw[b]at h1;cases h1;refine af (e x) λr o y=>?_;rw[q]at y;refine ah y λJ u=>?_;clear q b h2 e y;subst u;refine l ?_;clear l f;have v:=mapOf_K (prog:=prog) (fu S) c p;exact tail_any v.typeIs slot_dict_getitem.lookup (wpAny_getItem_of (strKind_is prog w _ t) v (find_K c o) ⟨Gr.tok S.tab _,.int _ _⟩) z
theorem qI{x:List Nat}{t:Tok}(S:St X s.heap){u:Addr}(b:G.mg "EXACT_TOKEN_TYPES"=some (.ref u)):
 wpAny (model prog w) A (compareOp .In (.str ⟨x.toArray⟩ t) (.ref u)) (λv s'=>Gr X s s'/\v=.bool (exT.lookup x).isSome) No s:=by
 refine hid λq y=>?_;refine zJ (aI.ex) λo p n h1 h2 z f l=>?_;rw[b]at h1;cases h1;refine af (l x) λr c g=>?_;refine y ?_;clear y q;have m:=mapOf_K (prog:=prog) (fu S) z f;have e:r.isSome=(exT.lookup x).isSome:=by
  cases hl:exT.lookup x with
  |none=>rw[hl]at g;dsimp only at g;rw[g];rfl
  |some i=>rw[hl]at g;refine ah g λa j=>?_;subst j;rfl
 exact wpAny_in_of (strKind_is prog w _ t) h2 m (by rw[find_K z c];exact⟨Gr.tok S.tab _,by rw[e]⟩)
theorem yy(O:EvT F nc k)(a:AOk nc A)(T:env.scope=sc)(al:Al s X κ σ env ρ){l:Expr}{o:Pos}{L:PE}(K:isG sc "EXACT_TOKEN_TYPES"=true)(hl:tr kt sc l=some L)
 (hd:ev F σ (k+1) (.exIn L) ρ=some d):wpAny (model prog w) A (eval (.Compare l [.In] [.Name "EXACT_TOKEN_TYPES" o] pos) env) (Pt X κ s d) No s/\
  (∀g b,Internal.truthy d=some b->wpAny (model prog w) A (PySem.isTrue (.Compare l [.In] [.Name "EXACT_TOKEN_TYPES" o] pos) env g) (λr s'=>Gr X s s'/\r=b) No s):=by
 subst T;refine qj (aI.ex) λZ Y n h1 i=>?_;refine wbm hd λB x z y P=>?_;clear hd i;subst z;obtain rfl:=bE P;have M:∀t:List (Sem Value),markedEach [.In] [.Name "EXACT_TOKEN_TYPES" o] t=t:=λt=>by
  cases t with
  |nil=>rfl
  |cons a r=>cases r<;>rfl
 refine⟨?_,λg b J=>?_⟩
 ·rw[arm_eval_Compare,M];refine Wb (bR O hl y a rfl al λv W h j p=>?_);refine ah (fO p) λt m=>?_;subst m;refine Wb (wpAny_holding (ez j.S j.R K (by decide +kernel) h1 (Wb (wpAny_standAt (wpAny_operating ?_)))));exact Wm (qI j.S h1) (λv U ⟨c,e⟩=>⟨h.trans c,by rw[e];exact .bool _⟩) λu u f=>f
 ·(replace J:=si J;subst J)
  rw[arm_isTrue_Compare,M];refine Wb (bR O hl y a rfl al λv W h j p=>?_);refine ah (fO p) λt q=>?_;subst q;refine Wb (wpAny_holding (ez j.S j.R K (by decide +kernel) h1 (Wb (wpAny_standAt (Wb (wpAny_operating ?_))))));exact Wm (qI j.S h1) (λv U ⟨c,e⟩=>wpAny_holding (by rw[e];exact wpAny_truthy_bool ⟨h.trans c,rfl⟩)) λu u f=>f
omit [aI] in
theorem rE(h:okE slice=true):subscripted slice false o i=operate [o,i] (getItem o i):=by
 cases slice<;>first|rfl|exact nf h
theorem wk(K:EvT F nc k)(a:AOk nc A)(b:env.scope=sc)(al:Al s X κ σ env ρ){i:Expr}{o:Pos}{r:PE}(J:isG sc "EXACT_TOKEN_TYPES"=true)(q:tr kt sc i=some r)
 (hd:ev F σ (k+1) (.exGet r) ρ=some d):wpAny (model prog w) A (eval (.Subscript (.Name "EXACT_TOKEN_TYPES" o) i pos) env) (Pt X κ s d) No s:=by
 subst b;refine qj (aI.ex) λT M n h1 l=>?_;refine iZ hd λU x j g z e c=>?_;subst g;obtain rfl:=bE e
 ·
  refine Subscript_ (ez al.S al.R J (by decide +kernel) h1 (bR K q z a rfl al λv P L y h=>?_));refine ah (fO h) λt m=>?_;subst m;exact Wm (rF y.S c h1 (rE (gv q))) (λv O p=>p.mono L) λu u f=>f
theorem AG(z:env.scope=sc)(al:Al s X κ σ env ρ)(v:isG sc x=true)(g:hZ.contains x=true)(u:idOf x=some i):
 wpAny (model prog w) A (eval (.Name x np) env) (Pt X κ s (.fn i)) No s:=by
 subst z;obtain⟨rfl,hl⟩:=bV u;obtain⟨m,j⟩:=GlOk.gesc i g;have y:dJ i=false:=by
  have:∀x∈hZ,jD.contains x=false:=by decide +kernel
  exact(lG hl).trans (this _ (by simpa using g))
 exact ez al.S al.R v (cL _ (ft hl)).1 (GlOk.gfn i m j y) ⟨Gr.refl al.S.tab,.fn j⟩
end
section
variable[aI]{A:Around}{s:Shared}{X:Addr->Prop}{κ:List Addr}{σ:List Sto}{env:Env}{ρ:ar}{F:Nat->List PV->Option PV}{nc k kt:Nat}{sc:Scope}
theorem yL(q:env.scope=sc)(al:Al s X κ σ env ρ)(j:kJ sc x=some pe)(hd:ev F σ (k+1) pe ρ=some d):wpAny (model prog w) A (eval (.Name x pos) env) (Pt X κ s d) No s:=by
 unfold kJ at j;by_cases hv:isV sc x=true
 ·rw[if_pos hv]at j;refine omk j λi m u=>?_;subst m;exact eA al.S al.R u hd
 ·refine oik ((if_neg hv).symm.trans j) λj z=>?_;clear hv;cases hgi:ow.lookup x with
  |some i=>
   rw[hgi]at j;(replace j:=si j;subst j)
   (replace hd:=si hd;subst hd)
   refine ah (GlOk.gint x i hgi) λt g=>?_;subst q;refine ez al.S al.R z ?_ g ⟨Gr.refl al.S.tab,.int i t⟩;cases hx:x==Str.ofString "__debug__" with
   |false=>rfl
   |true=>
    obtain rfl:=eq_of_beq hx;have:ow.lookup (Str.ofString "__debug__")=none:=by decide +kernel
    rw[this]at hgi;exact no hgi
  |none=>
   refine hid λr y=>?_;rw[hgi]at j;refine wim j λi v e u=>?_;subst v;(replace hd:=si hd;subst hd)
   refine y ?_;clear y r;exact AG q al z e u
omit [aI] in
theorem v5(al:Al s X κ σ env ρ)(j:qB c=some pe)(hd:ev F σ (k+1) pe ρ=some d):wpAny (model prog w) A (eval (.Constant c kk pos) env) (Pt X κ s d) No s:=by
 cases c with
 |none=>(replace j:=si j;subst j);(replace hd:=si hd;subst hd);exact wpAny_Constant_none ⟨Gr.refl al.S.tab,.none⟩
 |bool b=>(replace j:=si j;subst j);(replace hd:=si hd;subst hd);exact wpAny_Constant_bool ⟨Gr.refl al.S.tab,.bool b⟩
 |int i=>(replace j:=si j;subst j);(replace hd:=si hd;subst hd);exact wpAny_Constant_int ⟨Gr.tok al.S.tab _,.int i _⟩
 |str x=>
  (replace j:=si j;subst j);(replace hd:=si hd;subst hd)
  refine wpAny_Constant_str ⟨Gr.tok al.S.tab _,?_⟩;have:Rep s.heap X κ (.str ⟨x.cps.toList.toArray⟩ s.toks) (.str x.cps.toList):=.str _ _;rw[dP]at this;exact this
 |_=>exact no j
theorem lO(z:EvT F nc k)(a:AOk nc A)(q:env.scope=sc)(al:Al s X κ σ env ρ)(g:u6 (tr kt sc) sc l ops cs=some pe)(hd:ev F σ (k+1) pe ρ=some d):
 wpAny (model prog w) A (eval (.Compare l ops cs pos) env) (Pt X κ s d) No s/\(∀whole b,Internal.truthy d=some b->wpAny (model prog w) A (PySem.isTrue (.Compare l ops cs pos) env whole) (λr s'=>Gr X s s'/\r=b) No s):=by
 unfold u6 at g;by_cases h:mK sc ops cs=true
 ·rw[if_pos h]at g;refine bd (ph h) λi m j t=>?_;subst m;subst j;refine omk g λe y hl=>?_;subst y;exact yy z a q al t hl hd
 ·rw[if_neg h]at g;refine wbm g λe c u hl v=>?_;subst u;exact Aq z a q al hl v hd
theorem vl(S:FOk F nc)(P:EvT F nc k)(a:AOk nc A)(h:env.scope=sc)(al:Al s X κ σ env ρ)(v:i9 (tr kt sc) o n apos args pos=some pe)(hd:ev F σ (k+1) pe ρ=some d):
 wpAny (model prog w) A (eval (.Call (.Attribute o n apos) args [] pos) env) (Pt X κ s d) No s:=by
 refine hid λc m=>?_;refine oik v λt hc=>?_;clear v;refine wa2 hc λg y K=>?_;refine obk t λI v r=>?_;refine m ?_;clear m c;clear t;have j:=nN K n (eval o env) (env:=env);by_cases hx:(n==("replace":Str))=true
 ·replace v:=(if_pos hx).symm.trans v;obtain rfl:=eq_of_beq hx;refine hid λc m=>?_;refine iZ v λC p q x O W Y=>?_;subst x;refine bx (bP W) λZ H L=>?_;refine bx (bP Y) λE p2 J=>?_;refine m ?_;clear m c;rw[ek O,L,J];exact ya S P a h al r hd j g
 ·rw[if_neg hx]at v;refine hid λc m=>?_;refine wbm v λU i M u R=>?_;subst M;refine wbb hd λT ds hd z e=>?_;refine m ?_;clear m c;unfold j8 at hd;cases ho:lD T with
  |some l=>
   rw[ho]at hd;refine oik hd λhd b=>?_;rw[mC ho]at z hd;exact su S P a h al r R z u e (Option.isNone_iff_eq_none.mp b.1) b.2 hd j g (of_decide_eq_true y)
  |none=>
   rw[ho]at hd;refine obk hd λB hd f=>?_;exact vy P a h al r R z f u e hd j g (of_decide_eq_true y)
theorem nI(FO:FOk F nc)(m:EvT F nc k)(H:IsT F nc k)(SR:lm F nc k):EvT F nc (k+1):=by
 intro σ kt sc e J ρ d j hd A env X κ s a g al;cases kt with
 |zero=>exact no j
 |succ kt=>
 cases e with
 |Constant c kk pos=>exact v5 al j hd
 |Name x pos=>exact yL g al j hd
 |BoolOp B vs pos=>
  refine omk j λh I P=>?_;subst I;rw[arm_eval_BoolOp];exact vf m a g B vs h d s P hd al
 |BinOp l B r pos=>
  refine wbm j λpl pr C hl hr=>?_;subst C;exact zx m a g al hl hr hd
 |UnaryOp B x pos=>
  cases B with
  |USub=>
   refine omk j λpl Y hl=>?_;subst Y;exact zQ m a g al hl hd
  |Not=>
   refine omk j λpl M hl=>?_;subst M;exact yu m a g al hl hd
  |_=>exact no j
 |IfExp c x y pos=>
  refine iZ j λpc px py Z hc b hy=>?_;subst Z;exact Ae m H a g al hc b hy hd
 |List E pos=>
  refine wim (show(if E.length<=1000 then _ else none)=some J from j) λh u t P=>?_;subst u;refine omk hd λds z p=>?_;subst z;exact xZ m a g al P p t
 |Tuple E n pos=>
  refine wim (show(if E.length<=1000 then _ else none)=some J from j) λh K t P=>?_;subst K;refine omk hd λds W p=>?_;subst W;exact wT m a g al P p t
 |Dict ks vs pos=>
  refine au (oe (show(if ks.isEmpty=true then none else _)=some J from j)) λja j=>?_;refine wbm j λje jc L h1 h2=>?_;subst L;exact yC m a g al h1 h2 (λe=>ja (by rw[e];rfl)) hd
 |Compare l ops cs pos=>exact(lO m a g al j hd).1
 |Subscript v i pos=>
  replace j:j1 (tr kt sc) sc v i=some J:=j;unfold j1 at j;by_cases b:mM sc "EXACT_TOKEN_TYPES" v=true
  ·rw[if_pos b]at j;refine af (fx b) λnp u N=>?_;subst u;refine omk j λpi S O=>?_;subst S;exact wk m a g al N O hd
  ·rw[if_neg b]at j;refine obk j λpv j hv=>?_;exact oL m a g al hv j hd
 |Attribute v n pos=>
  replace j:p4 (tr kt sc) sc v n=some J:=j;unfold p4 at j;by_cases b:mM sc "Whitespace" v=true
  ·rw[if_pos b]at j;refine af (fx b) λnp z N=>?_;subst z;refine omk j λi T O=>?_;subst T;exact wF a g al N O hd
  ·refine oik ((if_neg b).symm.trans j) λj hc=>?_;refine bak hc λh1 h2=>?_;refine wbm j λpv i U hv O=>?_;subst U;exact x9 m a g al hv O h1 h2 hd
 |Call f args Q pos=>
  replace j:=oi (show(if Q.isEmpty=true then pV (tr kt sc) sc f args pos else none)=some J from j);obtain⟨hk,j⟩:=j;obtain rfl:=List.isEmpty_iff.mp hk;have q:=bC f;unfold pV at j;generalize c5 f=v at q j;cases v with
  |name x=>
   obtain⟨np,rfl⟩:=q;obtain⟨as,hl,j⟩:=ob j;exact o6 FO m a g al hl j hd
  |attr o n apos=>
   obtain rfl:=q;exact vl FO m a g al j hd
  |_=>exact no j
 |ListComp jd R jb pos=>subst g;exact yK m H SR a j hd al
 |DictComp kk vv R jb pos=>subst g;exact wJ m H SR a j hd al
 |_=>exact no j
theorem ti(M:FOk F nc)(n:EvT F nc k)(q:IsT F nc k)(t:EvT F nc (k+1)):IsT F nc (k+1):=by
 intro σ kt sc e J ρ d b j hd g A env X κ s a v al;have f:=t σ kt sc e J ρ d j hd A env X κ s a v al;cases kt with
 |zero=>exact no j
 |succ kt=>
 cases e with
 |BoolOp i vs pos=>
  refine omk j λr z h=>?_;subst z;rw[arm_isTrue_BoolOp];exact rp q a v i vs r d b s h hd g al
 |UnaryOp i x pos=>
  cases i with
  |Not=>
   refine omk j λL u hl=>?_;subst u;exact Ax q n a v al hl hd g
  |_=>exact hO b f g rfl
 |IfExp c x y pos=>
  refine iZ j λpc K O m hc p o=>?_;subst m;exact wH q a v al hc p o hd g
 |Compare l ops cs pos=>exact(lO n a v al j hd).2 _ b g
 |_=>exact hO b f g rfl
theorem bu(g:FOk F nc):∀k,EvT F nc k/\IsT F nc k/\lm F nc k:=by
 intro k;induction k with
 |zero=>exact⟨λu u u u u u u u hd=>by(exact no hd),λu u u u u u u u u hd=>by(exact no hd),λu u u u u u u u u u u u hd=>by(exact no hd)⟩
 |succ k j=>exact⟨nI g j.1 j.2.1 j.2.2,ti g j.1 j.2.1 (nI g j.1 j.2.1 j.2.2),rD j.1⟩
end
theorem eb(V:List Addr)(h:Heap)(b:Addr):(dN V h).get? b=if b∈V then none else h.get? b:=by
 delta dN Heap.get?;simp only[Array.getElem?_mapIdx];by_cases hb:b∈V
 ·cases hq:h.objs[b]? with
  |none=>simp[hb]
  |some o=>simp[hb]
 ·cases hq:h.objs[b]? with
  |none=>simp[hb]
  |some o=>simp[hb]
noncomputable def base(V:List Addr)(s:Shared):Shared:={s with heap:=dN V s.heap}
section
variable{A:Around}{s s' s₀:Shared}{X XA:Addr->Prop}{V V' wr:List Addr}{own:Str->Bool}{κ κ':List Addr}{σ:List Sto}{env:Env}{ρ:ar}[GlOk]
omit [GlOk] in
theorem cn(h:∀a∈V,X a):XV (λa=>X a/\a∉V) V=X:=by
 funext a
 apply propext;by_cases ha:a∈V
 ·exact⟨λu=>h a ha,λu=>.inr ha⟩
 ·exact⟨λq=>q.elim (·.1) λq=>absurd q ha,λq=>.inl ⟨q,ha⟩⟩
omit [GlOk] in
theorem cT(b:Addr)(o:Obj):(base V s).heap.get? b=some o↔b∉V/\s.heap.get? b=some o:=by
 show(dN V s.heap).get? b=some o↔_;rw[eb];by_cases hb:b∈V<;>simp[hb]
omit [GlOk] in
theorem fU(h:b∈V):(base V s).heap.get? b=none:=by
 show(dN V s.heap).get? b=none;rw[eb,if_pos h]
structure Co(V:List Addr)(env:Env)(κ:List Addr)(s:Shared):Prop where
 pc:∀n c,env.cells.lookup n=some c->c∈V
 pk:∀a∈κ,a∈V
 pd:∀a∈κ,∀o dx,s.heap.get? a=some o->o.dict=some dx->dx∈V
 nd:κ.Nodup
 p2:∀a∈κ,∀o dx,s.heap.get? a=some o->o.dict=some dx->dx∉κ/\∀b∈κ,b≠a->∀o',s.heap.get? b=some o'->o'.dict=none
omit [GlOk] in
theorem Co.move(c:Co V env κ s)(h:∀a∈κ,∀o,s'.heap.get? a=some o->s.heap.get? a=some o):Co V env κ s':=
 ⟨c.pc,c.pk,λa j o dx h1 h2=>c.pd a j o dx (h a j o h1) h2,c.nd,λa j o dx h1 h2=>let⟨y,z⟩:=c.p2 a j o dx (h a j o h1) h2;⟨y,λb m g u v=>z b m g u (h b m u v)⟩⟩
structure Fz(X:Addr->Prop)(V:List Addr)(own:Str->Bool)(env:Env)(κ:List Addr)(σ:List Sto)(ρ:ar)(s:Shared):Prop where
 f:Fm (base V s) (λa=>X a/\a∉V) V own env κ σ ρ s
 vx:∀a∈V,X a
 c:Co V env κ s
omit [GlOk] in
theorem Fz.al(z:Fz X V own env κ σ ρ s):Al s X κ σ env ρ:=by
 have:=z.f.al;have e:=cn z.vx;unfold XV at e;rw[e]at this;exact this
theorem Fz.ex(z:Fz X V own env κ σ ρ s)(h:a∈V):∃o,s.heap.get? a=some o:=z.al.S.ex a (z.vx a h)
omit [GlOk] in
theorem Fz.nP(z:Fz X V own env κ σ ρ s)(h:a∈V):a≠G.P:=z.f.neP h
omit [GlOk] in
theorem Fz.of(f:Fm s₀ XA (wr++V) own env κ σ ρ s)(hl:env.locals∈V)(c:Co V env κ s):Fz (XV XA (wr++V)) V own env κ σ ρ s:=by
 have j:∀a∈V,XV XA (wr++V) a:=λa h=>.inr (List.mem_append_right _ h);have m:G.P∉V:=λh=>f.neP (List.mem_append_right _ h) rfl;refine⟨⟨⟨s.heap,s.toks,rfl⟩,λb o u e=>((cT b o).mp e).2,λa h=>fU h,λa h=>?_,⟨.inl f.xp,m⟩,?_,hl,λn z=>?_,f.ap,f.lc,f.ce,f.kl,f.kd⟩,j,c⟩
 ·refine ah (f.al.S.ex a h.1) λo ho=>?_;exact⟨o,(cT a o).mpr ⟨h.2,ho⟩⟩
 ·have e:=cn j;unfold XV at e ⊢;rw[e];exact f.al
 ·rcases f.st n z with q|⟨q,g,v,h1,h2,y⟩
  ·exact .inl q
  ·exact .inr ⟨q,g,v,c.pc n g h2,h2,y⟩
theorem Fz.of0(f:Fm s₀ XA V own env κ σ ρ s)(c:Co V env κ s):Fz (XV XA V) V own env κ σ ρ s:=Fz.of (wr:=[]) f f.loc c
omit [GlOk] in
theorem Fz.cast(e:X=X')(z:Fz X V own env κ σ ρ s):Fz X' V own env κ σ ρ s:=e▸z
theorem Fz.gr(z:Fz X V own env κ σ ρ s)(g:Gr X s s')(y:G.z<=s'.toks):Fz X V own env κ σ ρ s':=by
 have e:=cn z.vx;have v:Gr (XV (λa=>X a/\a∉V) V) s s':=by rw[e];exact g
 have f:=z.f.gr v y;refine(Fz.of0 f (z.c.move λa t o h1=>?_)).cast e;clear y e v;refine bd (z.f.stoEx t) λr j u l=>?_;refine aO g λh' tk m q d=>?_;subst m;have:=q a r (ci z.al.S.tab j u) j;rw[h1]at this;(replace this:=si this;subst this);exact j
theorem Fz.weaken(z:Fz X V own env κ σ ρ s)(j:∀a,X' a->X a)(g:∀a∈V,X' a)(k:X' G.P):Fz X' V own env κ σ ρ s:=by
 have al:=z.al;have n:∀b o,¬X b->s.heap.get? b=some o->s.heap.get? b=some o/\¬X' b:=λb o i e=>⟨e,λh=>i (j b h)⟩
 have q:Al s X' κ σ env ρ:=by
  refine⟨⟨al.S.base,λb o e h=>al.S.low b o e (j b h),λa h=>al.S.ex a (j a h),k,GxOk.tabMove _ _ _ _ (λb o u i e=>n b o i e) (λu e=>e) al.S.tab⟩,al.T.weaken j,?_,al.pos⟩;obtain⟨L,J,p,l,M,m,K,g⟩:=al.R;refine⟨L,J,p,l,M,m,K,λx d e=>?_⟩;obtain⟨t,v,r,hc⟩:=g x d e;exact⟨t,v,r.move n λu u e=>e,hc⟩
 have y:G.P∉V:=λh=>z.nP h rfl;refine⟨⟨z.f.same,z.f.keep,z.f.fresh,λa h=>z.f.x0 a ⟨j a h.1,h.2⟩,⟨k,y⟩,?_,z.f.loc,z.f.st,z.f.ap,z.f.lc,z.f.ce,z.f.kl,z.f.kd⟩,g,z.c⟩;have e:=cn g;unfold XV at e;rw[e];exact q
theorem Fz.grow(z:Fz X V own env κ σ ρ s){h':Heap}(g:∀b o,s.heap.get? b=some o->h'.get? b=some o)(m:∀b∈wr,s.heap.get? b=none)(u:∀b∈wr,∃o,h'.get? b=some o)(v:s.toks<=tk):
 Fz (λa=>X a\/a∈wr) V own env κ σ ρ {s with heap:=h',toks:=tk}:=by
 have f:=z.f.grow (wr:=wr) (tk:=tk) g m u v;refine(Fz.of f z.f.loc (z.c.move λa q o h1=>?_)).cast ?_
 ·refine af (z.f.stoEx q) λy j r=>?_;have:=g a y j;rw[h1]at this;(replace this:=si this;subst this);exact j
 ·funext a
  apply propext;constructor
  ·rintro(h|h)
   ·exact .inl h.1
   ·rcases List.mem_append.mp h with h|h
    ·exact .inr h
    ·exact .inl (z.vx a h)
  ·rintro(h|h)
   ·by_cases hv:a∈V
    ·exact .inr (List.mem_append_right _ hv)
    ·exact .inl ⟨h,hv⟩
   ·exact .inr (List.mem_append_left _ h)
end
section
variable{A:Around}{s s' s₁ s₀:Shared}{X XA:Addr->Prop}{V V' wr:List Addr}{own:Str->Bool}{κ κ':List Addr}{σ σ':List Sto}{env:Env}{ρ ρ':ar}[GlOk]
omit [GlOk] in
theorem Fz.sub(z:Fz X V own env κ σ ρ' s)(h:∀x d,ρ.lookup x=some d->ρ'.lookup x=some d):Fz X V own env κ σ ρ s:=⟨z.f.sub h,z.vx,z.c⟩
theorem Fz.storeK(z:Fz X V own env κ σ ρ s)(g:x<nms.length)(ho:own (nm x)=true)(r:Rep s.heap X κ v d):
 wpAny (model prog w) A (storeName env (nm x) v) (λu s'=>Fz X V own env κ σ ((x,d)::ρ) s'/\Kp V s s'/\s.toks<=s'.toks/\(env.kindOf (nm x)=some .local->∃m,s'.heap.Ns env.locals m/\m (nm x)=some v)) No s:=by
 have e:=cn z.vx;refine Wm (z.f.storeK g ho (by rw[e];exact r)) (λ_ s' ⟨f,q,i,t,y⟩=>⟨(Fz.of0 f (z.c.move λa j o h1=>?_)).cast e,⟨?_,λb o l u e=>(q b l).trans e⟩,t,y⟩) λu u f=>f
 ·rw[i a (z.f.kl a j).1 (z.f.kl a j).2]at h1;exact h1
 ·refine bx f.same λh tk e=>?_;exact⟨h,tk,by rw[e];rfl⟩
theorem Fz.store(z:Fz X V own env κ σ ρ s)(j:x<nms.length)(ho:own (nm x)=true)(r:Rep s.heap X κ v d):
 wpAny (model prog w) A (storeName env (nm x) v) (λu s'=>Fz X V own env κ σ ((x,d)::ρ) s'/\Kp V s s'/\s.toks<=s'.toks) No s:=
 Wm (z.storeK j ho r) (λu u q=>⟨q.1,q.2.1,q.2.2.1⟩) λu u f=>f
theorem Fz.storeAll:∀(xs:List Nat) (ps:List Pos) (vs:List Value) (ds:List PV) (ρ:ar) (s:Shared),xs.length=ps.length->xs.length=ds.length->(∀x∈xs,x<nms.length/\own (nm x)=true)->
 Fz X V own env κ σ ρ s->aY s.heap X κ vs ds->
 wpAny (model prog w) A (assignInOrder ((xs.zip ps).map λp=>assign (.Name (nm p.1) p.2) env) vs)
  (λu s'=>Fz X V own env κ σ ((xs.zip ds).reverse++ρ) s'/\Kp V s s'/\s.toks<=s'.toks) No s:=by
 intro xs;induction xs with
 |nil=>
  intro ps vs ds ρ s h1 h2 ho z r;obtain rfl:=List.length_eq_zero_iff.mp h1.symm;obtain rfl:=List.length_eq_zero_iff.mp h2.symm;cases r;exact Wp ⟨z,Kp.refl,Nr _⟩
 |cons x xs c=>
  intro ps vs ds ρ s h1 h2 ho z r;cases ps with
  |nil=>injection h1
  |cons p ps=>
  cases ds with
  |nil=>injection h2
  |cons d ds=>
  refine aO r.inv λv vs j a r2=>?_;clear r;subst j;show wpAny _ _ (assignInOrder (assign (.Name (nm x) p) env::((xs.zip ps).map λp=>assign (.Name (nm p.1) p.2) env)) (v::vs)) _ _ _;refine wpAny_assignInOrder_more (wpAny_assign_Name (Wm (z.store (ho x (.head _)).1 (ho x (.head _)).2 a) (λu l q=>?_) λu u f=>f));refine bc q λn m k=>?_;have g:aY l.heap X κ vs ds:=r2.keeps λb o t e=>m.2 b o (λh=>t (z.vx b h)) (λh=>t (h▸z.al.S.xp)) e;refine Wm (c ps vs ds _ l (Nat.succ.inj h1) (Nat.succ.inj h2) (λy i=>ho y (.tail _ i)) n g) (λu J q=>?_) λu u f=>f;exact⟨by rw[List.zip_cons_cons,List.reverse_cons,List.append_assoc];exact q.1,m.trans q.2.1,Nt k q.2.2⟩
theorem Fz.assign(hh:A.handled=none)(z:Fz X V own env κ σ ρ s)(i:dQ tgt=some (tup,xs))(ho:∀x∈xs,own (nm x)=true)(m:a6 tup xs d ρ=some ρ')
 (r:dn tup s.heap X κ v d) :
 wpAny (model prog w) A (PySem.assign tgt env v) (λu s'=>Fz X V own env κ σ ρ' s'/\Kp V s s'/\s.toks<=s'.toks) No s:=by
 have e:=cn z.vx;refine Wm (lT hh z.f i ho m (by rw[e];exact r)) (λ_ s' ⟨f,q,k,t⟩=>⟨(Fz.of0 f (z.c.move λa g o h1=>?_)).cast e,⟨?_,λb o m u e=>q b o m e⟩,t⟩) λu u f=>f
 ·refine af (z.f.stoEx g) λl j y=>?_;have:=k a l (z.f.kl a g).1 (z.f.kl a g).2 j;rw[h1]at this;(replace this:=si this;subst this);exact j
 ·refine bx f.same λh tk e=>?_;exact⟨h,tk,by rw[e];rfl⟩
omit [GlOk] in
theorem Rep.snocK(r:Rep h X κ v d)(e:List Addr):Rep h X (κ++e) v d:=
 r.move (λu u j q=>⟨q,j⟩) λn a h=>by rw[List.getElem?_append_left (List.getElem?_eq_some_iff.mp h).1];exact h
omit [GlOk] in
theorem Shw.moveK{h h':Heap}(q:Shw h X κ v d)(z:∀b o,¬X b->h.get? b=some o->h'.get? b=some o/\¬X' b)(hκ:∀(n:Nat) (a:Addr),κ[n]?=some a->κ'[n]?=some a)
 (m:∀b,v=.ref b->∀o,h.get? b=some o->h'.get? b=some o/\∀dx,o.dict=some dx->∀j,h.get? dx=some j->h'.get? dx=some j):Shw h' X' κ' v d:=
 q.moveG z hκ λb g o e u=>⟨(m b g o e).1,λdx hd j y u=>(m b g o e).2 dx hd j y⟩
theorem Fz.addSto(z:Fz X V own env κ σ ρ s){h':Heap}(hD:s.heap.get? D=none)(H:∀b o,s.heap.get? b=some o->h'.get? b=some o)(ho:h'.get? D=some o)(i:o.dict=none)
 (hp:s.toks<=tk) (hs:Shw h' (λa=>X a\/a∈[D]) (κ++[D]) (.ref D) (dI x)) :
 Fz (λa=>X a\/a∈[D]) (D::V) own env (κ++[D]) (σ++[x]) ρ {s with heap:=h',toks:=tk}/\Kp V s {s with heap:=h',toks:=tk}:=by
 have p:=z.grow (wr:=[D]) (tk:=tk) H (λb t=>by rw[List.mem_singleton.mp t];exact hD) (λb t=>⟨o,by rw[List.mem_singleton.mp t];exact ho⟩) hp;have k:D∉V:=λh=>by refine ah (z.ex h) λg h'=>?_;rw[hD]at h';exact no h'
 have C:D∉κ:=λh=>k (z.c.pk D h);have E:D≠env.locals:=λh=>k (h▸z.f.loc);have Y:∀n c,env.cells.lookup n=some c->D≠c:=λn c h e=>k (e▸z.c.pc n c h);have hκ:∀(n:Nat) (a:Addr),κ[n]?=some a->(κ++[D])[n]?=some a:=λn a h=>by rw[List.getElem?_append_left (List.getElem?_eq_some_iff.mp h).1];exact h
 have L:∀a∈D::V,X a\/a∈[D]:=λa h=>by
  rcases List.mem_cons.mp h with h|h
  ·exact .inr (List.mem_singleton.mpr h)
  ·exact .inl (z.vx a h)
 have al:=p.al;have U:Al {s with heap:=h',toks:=tk} (λa=>X a\/a∈[D]) (κ++[D]) (σ++[x]) env ρ:=by
  refine⟨al.S,⟨by simp[al.T.len],λn y a h1 h2=>?_⟩,?_,al.pos⟩
  ·by_cases K:n<σ.length
   ·rw[List.getElem?_append_left K]at h1;rw[List.getElem?_append_left (by rw[al.T.len];exact K)]at h2;exact(al.T.at_ n y a h1 h2).moveK (λb o N e=>⟨e,N⟩) hκ λb u o e=>⟨e,λu u u e=>e⟩
   ·have J:=al.T.len;have Z:n=σ.length:=by
     have:=(List.getElem?_eq_some_iff.mp h1).1;simp at this;exact Nat.eq_of_lt_succ_of_not_lt this K
    subst Z;rw[List.getElem?_append_right (Nr _)]at h1;rw[List.getElem?_append_right ((Ne0 J))]at h2;simp at h1;rw[J]at h2;simp at h2;subst h1 h2;exact hs
  ·obtain⟨x1,x2,Q,l,cc,m,K,hv⟩:=al.R;refine⟨x1,x2,Q,l,cc,m,K,λy d e=>?_⟩;obtain⟨W,v,r,hc⟩:=hv y d e;exact⟨W,v,r.snocK _,hc⟩
 have B:G.P≠D:=λe=>by refine ah (z.al.S.ex _ z.al.S.xp) λg h'=>?_;rw[e,hD]at h';exact no h'
 refine⟨⟨⟨⟨h',tk,rfl⟩,λb o u e=>((cT b o).mp e).2,λa h=>fU h,λa h=>?_,⟨al.S.xp,λh=>?_⟩,?_,List.mem_cons_of_mem _ z.f.loc,λn K=>?_,p.f.ap,p.f.lc,p.f.ce,λa j=>?_,λa j g dx h1 h2=>?_⟩,L,⟨λn c h=>List.mem_cons_of_mem _ (z.c.pc n c h),λa j=>?_,λa j g dx h1 h2=>?_,?_,λa j g dx h1 h2=>?_⟩⟩,⟨⟨_,_,rfl⟩,λb o u u e=>H b o e⟩⟩
 ·refine ah (al.S.ex a h.1) λo ho=>?_;exact⟨o,(cT a o).mpr ⟨h.2,ho⟩⟩
 ·rcases List.mem_cons.mp h with h|h
  ·exact B h
  ·exact z.nP h rfl
 ·have e:=cn L;unfold XV at e;rw[e];exact U
 ·rcases p.f.st n K with q|⟨q,c',v,h1,h2,O⟩
  ·exact .inl q
  ·exact .inr ⟨q,c',v,List.mem_cons_of_mem _ h1,h2,O⟩
 ·rcases List.mem_append.mp j with j|j
  ·exact z.f.kl a j
  ·rw[List.mem_singleton.mp j];exact⟨E,Y⟩
 ·rcases List.mem_append.mp j with j|j
  ·exact p.f.kd a j g dx h1 h2
  ·rw[List.mem_singleton.mp j]at h1;have:h'.get? D=some g:=h1;rw[ho]at this;(replace this:=si this;subst this);rw[i]at h2;exact no h2
 ·rcases List.mem_append.mp j with j|j
  ·exact List.mem_cons_of_mem _ (z.c.pk a j)
  ·rw[List.mem_singleton.mp j];exact .head _
 ·rcases List.mem_append.mp j with j|j
  ·exact List.mem_cons_of_mem _ (p.c.pd a j g dx h1 h2)
  ·rw[List.mem_singleton.mp j]at h1;have:h'.get? D=some g:=h1;rw[ho]at this;(replace this:=si this;subst this);rw[i]at h2;exact no h2
 ·exact List.nodup_append.mpr ⟨z.c.nd,by simp,λa j b t e=>by rw[List.mem_singleton.mp t]at e;exact C (e▸j)⟩
 ·rcases List.mem_append.mp j with j|j
  ·refine au (p.c.p2 a j g dx h1 h2) λq1 q2=>?_;have M:=p.c.pd a j g dx h1 h2;refine⟨λh=>?_,λb t F I O=>?_⟩
   ·rcases List.mem_append.mp h with h|h
    ·exact q1 h
    ·rw[List.mem_singleton.mp h]at M;exact k M
   ·rcases List.mem_append.mp t with t|t
    ·exact q2 b t F I O
    ·rw[List.mem_singleton.mp t]at O;have:h'.get? D=some I:=O;rw[ho]at this;(replace this:=si this;subst this);exact i
  ·rw[List.mem_singleton.mp j]at h1;have:h'.get? D=some g:=h1;rw[ho]at this;(replace this:=si this;subst this);rw[i]at h2;exact no h2
end
section
variable{A:Around}{s s' s₁ s₀:Shared}{X XA:Addr->Prop}{V V' wr:List Addr}{own:Str->Bool}{κ κ':List Addr}{σ σ':List Sto}{env:Env}{ρ ρ':ar}[GlOk]
omit [GlOk] in
theorem sf{l:List Addr}(h:l.Nodup){i j:Nat}{a:Addr}(u:l[i]?=some a)(m:l[j]?=some a):i=j:=by
 obtain⟨h1,h2⟩:=List.getElem?_eq_some_iff.mp u;obtain⟨v,g⟩:=List.getElem?_eq_some_iff.mp m;exact(List.getElem_inj h).mp (h2.trans g.symm)
theorem Fz.mut(z:Fz X V own env κ σ ρ s){n:Nat}{a t:Addr}{x':Sto}{h':Heap}{tk:Nat}(B:n<σ.length)(C:κ[n]?=some a)(J:Heap.SameBut t s.heap h')(O:t∈V)(Y:t≠env.locals)(p:∀n c,env.cells.lookup n=some c->t≠c)
 (j:∀b∈κ,b≠a->b≠t/\∀o dx,s.heap.get? b=some o->o.dict=some dx->dx≠t) (L:∃o,h'.get? t=some o)
 (k:∀I,h'.get? a=some I->∀dx,I.dict=some dx->∃o,s.heap.get? a=some o/\o.dict=some dx)
 (i:Shw h' X κ (.ref a) (dI x')) (hp:s.toks<=tk) :
 Fz X V own env κ (σ.set n x') ρ {s with heap:=h',toks:=tk}/\Kp V s {s with heap:=h',toks:=tk}:=by
 have al:=z.al;have F:X t:=z.vx t O;have H:t≠G.P:=z.nP O;have U:a∈κ:=List.mem_of_getElem? C;have N:=al.S.write F H J L;have K:∀b o,¬X b->s.heap.get? b=some o->h'.get? b=some o:=λb o g e=>(J.2 b (λx=>g (x▸F))).trans e;have mv:∀b o,¬X b->s.heap.get? b=some o->h'.get? b=some o/\¬X b:=λb o g e=>⟨K b o g e,g⟩
 have T':dL h' X κ (σ.set n x'):=⟨by simp[al.T.len],λm y b h1 h2=>by
  by_cases hm:m=n
  ·clear L F H U;subst hm;rw[C]at h2;(replace h2:=si h2;subst h2);rw[List.getElem?_set_self B]at h1;(replace h1:=si h1;subst h1);exact i
  ·rw[List.getElem?_set_ne (Ne.symm hm)]at h1;have g:b∈κ:=List.mem_of_getElem? h2;have M:b≠a:=λe=>hm (sf z.c.nd h2 (e▸C));refine(al.T.at_ m y b h1 h2).moveT mv λc hc o ho=>?_;clear C L i F H U mv hm;cases hc;exact⟨(J.2 _ (j b g M).1).trans ho,λdx jd o2 jc=>(J.2 _ ((j b g M).2 o dx ho jd)).trans jc⟩⟩
 have up:∀b∈κ,b≠a->∀o,h'.get? b=some o->s.heap.get? b=some o:=λb g M o e=>(J.2 _ (j b g M).1).symm.trans e;have W:Al {s with heap:=h',toks:=tk} X κ (σ.set n x') env ρ:=by
  refine⟨N,T',?_,Nt al.pos hp⟩;obtain⟨x1,x2,x3,l,cc,m,B,hv⟩:=al.R;refine⟨x1,x2,x3,l,λn je=>let⟨c,h1,h2,v,Z⟩:=cc n je;⟨c,h1,h2,v,Z.sameBut J (Ne.symm (p _ _ h1))⟩,m,B.sameBut J (Ne.symm Y),λx d e=>?_⟩;obtain⟨jb,v,r,hc⟩:=hv x d e;exact⟨jb,v,r.keeps K,hc.imp id λ⟨q,c',hc,hl,h2⟩=>⟨q,c',hc,hl,h2.sameBut J (Ne.symm (p _ _ hl))⟩⟩
 refine⟨⟨⟨⟨h',tk,rfl⟩,λb o u e=>((cT b o).mp e).2,λa h=>fU h,λa h=>?_,⟨al.S.xp,λh=>z.nP h rfl⟩,?_,z.f.loc,λn B=>?_,z.f.ap,z.f.lc,λn c h=>⟨(z.f.ce n c h).1,let⟨o,ho⟩:=(z.f.ce n c h).2;⟨o,(J.2 _ (Ne.symm (p _ _ h))).trans ho⟩⟩,z.f.kl,λb g o dx h1 h2=>?_⟩,z.vx,⟨z.c.pc,z.c.pk,λb g o dx h1 h2=>?_,z.c.nd,λb g o dx h1 h2=>?_⟩⟩,⟨⟨_,_,rfl⟩,λb o g u e=>(J.2 b (λx=>g (x▸O))).trans e⟩⟩
 ·refine ah (N.ex a h.1) λo ho=>?_;exact⟨o,(cT a o).mpr ⟨h.2,ho⟩⟩
 ·have e:=cn z.vx;unfold XV at e;rw[e];exact W
 ·rcases z.f.st n B with q|⟨q,c',v,h1,h2,Z⟩
  ·exact .inl q
  ·exact .inr ⟨q,c',v,h1,h2,Z.sameBut J (Ne.symm (p _ _ h2))⟩
 ·by_cases hba:b=a
  ·clear B C J O Y p j L i hp al F H U N K mv T' W;subst hba;refine af (k o h1 dx h2) λE Z Q=>?_;exact z.f.kd b g E dx Z Q
  ·exact z.f.kd b g o dx (up b g hba o h1) h2
 ·by_cases hba:b=a
  ·clear B C J O Y p j L i hp al F H U N K mv T' W;subst hba;refine af (k o h1 dx h2) λE Z Q=>?_;exact z.c.pd b g E dx Z Q
  ·exact z.c.pd b g o dx (up b g hba o h1) h2
 ·have ja:∃E,s.heap.get? b=some E/\E.dict=some dx:=by
   by_cases hba:b=a
   ·clear B C J O Y p j L i hp al F H U N K mv T' W;subst hba;exact k o h1 dx h2
   ·exact⟨o,up b g hba o h1,h2⟩
  refine af ja λE Z Q=>?_;refine au (z.c.p2 b g E dx Z Q) λq1 q2=>?_;refine⟨q1,λc hc M I h5=>?_⟩;by_cases hca:c=a
  ·clear z B C J O Y p j L i hp al F H U N K mv T' W g h1 h2 ja Z Q q1;subst hca;cases hd:I.dict with
   |none=>rfl
   |some dy=>
    refine af (k I h5 dy hd) λo2 h6 h7=>?_;rw[q2 c hc M o2 h6]at h7;exact no h7
  ·exact q2 c hc M I (up c hc hca I h5)
theorem Fz.mutL(z:Fz X V own env κ σ ρ s)(t:n<σ.length)(v:κ[n]?=some a)(d:Heap.SameBut a s.heap h')(ho:h'.get? a=some o')(u:o'.dict=none)
 (g:Shw h' X κ (.ref a) (dI x')) (q:s.toks<=tk) :
 Fz X V own env κ (σ.set n x') ρ {s with heap:=h',toks:=tk}/\Kp V s {s with heap:=h',toks:=tk}:=by
 have j:a∈κ:=List.mem_of_getElem? v;refine z.mut t v d (z.c.pk a j) (z.f.kl a j).1 (z.f.kl a j).2 (λb r m=>⟨m,λo dx h1 h2 e=>?_⟩) ⟨o',ho⟩ (λl h2 dx y=>?_) g q
 ·exact(z.c.p2 b r o dx h1 h2).1 (e▸j)
 ·rw[ho]at h2;(replace h2:=si h2;subst h2);rw[u]at y;exact no y
noncomputable def oQ(h:Heap)(X:Addr->Prop)(κ:List Addr):Flow->Fl->Prop
 |.next,.next=>True
 |.brk,.brk=>True
 |.ret v,.ret d=>Rep h X κ v d
 |_,_=>False
structure Go(X:Addr->Prop)(V:List Addr)(own:Str->Bool)(env:Env)(κ:List Addr)(s:Shared)(V' κ':List Addr)(p':PS')(s':Shared):Prop where
 sub:∀a∈V,a∈V'
 new:∀a∈V',a∈V\/s.heap.get? a=none
 pre:∃e,κ'=κ++e
 kp:Kp V s s'
 tk:s.toks<=s'.toks
 z:Fz (λa=>X a\/a∈V') V' own env κ' p'.σ p'.ρ s'
theorem Go.refl{p:PS'}(z:Fz X V own env κ p.σ p.ρ s):Go X V own env κ s V κ p s:=
 ⟨λu h=>h,λu h=>.inl h,⟨[],by simp⟩,Kp.refl,Nr _,z.weaken (λa h=>h.elim id (z.vx a)) (λa h=>.inr h) (.inl z.al.S.xp)⟩
theorem Go.trans(r:∃o,s'.heap.get? G.P=some o)(a:Go X V own env κ s V' κ' p s')(b:Go (λa=>X a\/a∈V') V' own env κ' s' V'' κ'' p' s₁):Go X V own env κ s V'' κ'' p' s₁:=by
 refine⟨λx h=>b.sub x (a.sub x h),λx h=>?_,?_,⟨?_,λc o hc y e=>?_⟩,Nt a.tk b.tk,b.z.cast ?_⟩
 ·rcases b.new x h with h|h
  ·exact a.new x h
  ·by_cases hx:x∈V
   ·exact .inl hx
   ·refine .inr ?_;cases e:s.heap.get? x with
    |none=>rfl
    |some o=>
     by_cases hxp:x=G.P
     ·subst hxp;refine ah r λd m=>?_;rw[h]at m;exact no m
     ·rw[a.kp.2 x o hx hxp e]at h;injection h
 ·refine ah a.pre λu j=>?_;subst j;refine ah b.pre λv g=>?_;subst g;exact⟨u++v,by simp⟩
 ·refine bx a.kp.1 λh1 t u=>?_;refine bx b.kp.1 λh2 q v=>?_;exact⟨h2,q,by rw[v,u]⟩
 ·have h1:=a.kp.2 c o hc y e;exact b.kp.2 c o (λh=>(a.new c h).elim hc λh=>by rw[h]at e;exact no e) y h1
 ·funext x
  apply propext;constructor
  ·rintro((h|h)|h)
   ·exact .inl h
   ·exact .inr (b.sub x h)
   ·exact .inr h
  ·exact λh=>h.imp .inl id
theorem Go.stay{p:PS'}(z:Fz X V own env κ p.σ p.ρ s')(kp:Kp V s s')(tk:s.toks<=s'.toks):Go X V own env κ s V κ p s':=
 ⟨λu h=>h,λu h=>.inl h,⟨[],by simp⟩,kp,tk,z.weaken (λa h=>h.elim id (z.vx a)) (λa h=>.inr h) (.inl z.al.S.xp)⟩
end
section
variable{A:Around}{s s' s₁ s₀:Shared}{X XA:Addr->Prop}{V V' wr:List Addr}{own:Str->Bool}{κ κ':List Addr}{σ σ':List Sto}{env:Env}{ρ ρ':ar}[aI]
 {F:Nat->List PV->Option PV} {nc k kt:Nat} {sc:Scope} {d:PV}
theorem cy(j:EvT F nc k)(m:tr kt sc e=some pe)(hd:ev F σ k pe ρ=some d)
 (a:AOk nc A) (g:env.scope=sc) (z:Fz X V own env κ σ ρ s)
 (h:∀v s',Gr X s s'->Fz X V own env κ σ ρ s'->s.toks<=s'.toks->Rep s'.heap X κ v d->Q v s'):wpAny (model prog w) A (eval e env) Q No s:=
 Wm (wpAny_toks (j σ kt sc e pe ρ d m hd A env X κ s a g z.al)) (λv s' p=>h v s' p.2.1 (z.gr p.2.1 (Nt z.al.pos p.1)) p.1 p.2.2) λu u f=>f.2
noncomputable def Rhs(X:Addr->Prop)(V:List Addr)(own:Str->Bool)(env:Env)(κ:List Addr)(s:Shared)(p':PS')(d:PV)(v:Value)(s':Shared):Prop:=
 ∃V' κ',Go X V own env κ s V' κ' p' s'/\Rep s'.heap (λa=>X a\/a∈V') κ' v d
theorem Rhs.plain{p:PS'}(z:Fz X V own env κ p.σ p.ρ s)(g:Gr X s s')(m:Fz X V own env κ p.σ p.ρ s')(tk:s.toks<=s'.toks)(r:Rep s'.heap X κ v d):Rhs X V own env κ s p d v s':=
 ⟨V,κ,.stay m (Kp.of_gr g) tk,r.move (λb o j e=>⟨e,λh=>h.elim j λh=>j (z.vx b h)⟩) λu u e=>e⟩
omit [aI] in
theorem ia(s:Shared):s.heap.get? s.heap.objs.size=none:=by
 cases e:s.heap.get? s.heap.objs.size with
 |none=>rfl
 |some o=>exact absurd (Heap.lt_size e) (Nat.lt_irrefl _)
theorem Rhs.make{p:PS'}{o:Obj}(j:o.isFreed=false)(m:o.dict=none)(t:Fz X V own env κ p.σ p.ρ s₀)(g:Gr X s₀ s)(tk:s₀.toks<=s.toks)(z:Fz X V own env κ p.σ p.ρ s)
 (r:Shw (s.heap.push o) (λa=>X a\/a∈[s.heap.objs.size]) (κ++[s.heap.objs.size]) (.ref s.heap.objs.size) (dI x)) :
 Rhs X V own env κ s₀ {p with σ:=p.σ++[x]} (.cell p.σ.length) (.ref s.heap.objs.size) {s with heap:=s.heap.push o}:=by
 refine au (z.addSto (tk:=s.toks) (x:=x) (ia s) (λb o e=>Hp _ e) (Heap.get?_push_size _ j) m (Nr _) r) λq kp=>?_;refine⟨s.heap.objs.size::V,κ++[s.heap.objs.size],⟨λa h=>List.mem_cons_of_mem _ h,λa h=>?_,⟨_,rfl⟩,(Kp.of_gr g).trans kp,tk,q.cast ?_⟩,.cell ?_⟩
 ·rcases List.mem_cons.mp h with h|h
  ·clear j m t tk r q kp;subst h;refine .inr ?_;cases e:s₀.heap.get? s.heap.objs.size with
   |none=>rfl
   |some f=>
    refine aO g λh' n u l c=>?_;subst u;by_cases hp:s₀.heap.objs.size=s₀.heap.objs.size/\h'.objs.size=G.P
    ·refine ah (z.al.S.ex _ z.al.S.xp) λi y=>?_;have:=Heap.lt_size y;rw[<- hp.2]at this;exact absurd this (Nat.lt_irrefl _)
    ·have v:h'.objs.size≠G.P:=λe=>hp ⟨rfl,e⟩;exact absurd (Heap.lt_size (l _ _ v e)) (Nat.lt_irrefl _)
  ·exact .inl h
 ·funext a
  apply propext;constructor
  ·rintro(h|h)
   ·exact .inl h
   ·exact .inr (List.mem_singleton.mp h▸.head _)
  ·rintro(h|h)
   ·exact .inl h
   ·rcases List.mem_cons.mp h with h|h
    ·exact .inr (List.mem_singleton.mpr h)
    ·exact .inl (z.vx a h)
 ·rw[List.getElem?_append_right (by rw[z.al.T.len];exact Nr _),z.al.T.len];simp
theorem Fz.pop{p:PS'}(z:Fz X V own env κ p.σ p.ρ s)(y:κ[n]?=some a)(P:p.σ[n]?=some (.list l))(hl:l.getLast?=some d)(hsz:l.length<=ag):
 wpAny (model prog w) A (call (.builtin "list.pop") [.ref a]) (Rhs X V own env κ s {p with σ:=p.σ.set n (.list l.dropLast)} d) No s:=by
 refine hid λR M=>?_;have q:=z.al.T.at_ n _ a P y;obtain⟨_,vs,m,U,ho,_,f⟩:=q;cases U;refine M ?_;clear M R
 ·
  have j:=f.len;refine af (f.get (i:=l.length - 1) (b:=d) (by rw[<- hl,List.getLast?_eq_getElem?])) λv S W=>?_;have J:vs.length<=sizeLine:=by rw[sizeLine_eq];unfold ag at hsz;omega
  have t:l≠[]:=λe=>by rw[e]at hl;exact no hl
  have r:0<l.length:=List.length_pos_iff.mpr t;refine call_meets PySem.F.slot_list_pop ⟨_,ho,rfl⟩ PySem.F.entry_list_pop (PySem.F.args_list_pop_1 _) (MeetsSeq.list_pop_last a vs.toArray m v (by simpa [j]using S) (by simpa using J)) ⟨ho,?_⟩;have K:=Heap.SameBut.update s.heap a (Obj.mapSeq λxs=>xs.eraseIdxIfInBounds (vs.toArray.size - 1));have g:(s.heap.update a (Obj.mapSeq λxs=>xs.eraseIdxIfInBounds (vs.toArray.size - 1))).get? a=some (du vs.dropLast (m+1)):=by
   rw[Heap.get?_update_self _ ho rfl];have:vs.toArray.eraseIdxIfInBounds (vs.toArray.size - 1)=vs.dropLast.toArray:=by
    apply Array.toList_inj.mp;rw[Array.toList_eraseIdxIfInBounds];simp only[List.size_toArray,List.toList_toArray];rw[List.eraseIdx_eq_take_drop_succ,List.dropLast_eq_take,List.drop_of_length_le (Nat.le_add_of_sub_le (Nr _)),List.append_nil]
   simp[Obj.mapSeq,du,this];exact Nat.ne_of_lt (Nat.sub_lt (j▸r) Nat.one_pos)
  have O:X a:=z.vx a (z.c.pk a (List.mem_of_getElem? y));have x:aY (s.heap.update a (Obj.mapSeq λxs=>xs.eraseIdxIfInBounds (vs.toArray.size - 1))) X κ vs.dropLast l.dropLast:=by
   rw[List.dropLast_eq_take,List.dropLast_eq_take,j];exact(f.write O K).take _
  refine au (z.mutL (x':=.list l.dropLast) (tk:=s.toks) (List.getElem?_eq_some_iff.mp P).1 y K g rfl (.list g x) (Nr _)) λY kp=>?_;exact⟨V,κ,.stay (p:={p with σ:=p.σ.set n (.list l.dropLast)}) Y kp (Nr _),(W.write O K).move (λb o L e=>⟨e,λh=>h.elim L λh=>L (z.vx b h)⟩) λu u e=>e⟩
theorem Fz.append{p:PS'}(z:Fz X V own env κ p.σ p.ρ s)(g:κ[n]?=some a)(o:p.σ[n]?=some (.list l))(hsz:l.length<=ag)(J:Rep s.heap X κ v d):
 wpAny (model prog w) A (call (.builtin "list.append") [.ref a,v]) (λu s'=>Fz X V own env κ (p.σ.set n (.list (l++[d]))) p.ρ s'/\Kp V s s'/\s.toks<=s'.toks) No s:=by
 refine hid λx e=>?_;have q:=z.al.T.at_ n _ a o g;obtain⟨_,vs,m,h,ho,_,b⟩:=q;cases h;refine e ?_;clear e x
 ·
  have f:=b.len;refine wpAny_list_append_plain (items:=vs.toArray) ⟨m,ho⟩ (λh' y t=>?_) (by rw[sizeLine_eq];unfold ag at hsz;simp;lia);refine ah y λK r=>?_;have i:X a:=z.vx a (z.c.pk a (List.mem_of_getElem? g));have j:h'.get? a=some (du (vs++[v]) K):=by rw[r];simp[du]
  refine au (z.mutL (x':=.list (l++[d])) (tk:=s.toks) (List.getElem?_eq_some_iff.mp o).1 g t j rfl (.list j ((b.write i t).snoc (J.write i t))) (Nr _)) λL kp=>?_;exact⟨L,kp,Nr _⟩
omit [aI] in
theorem oO{E:Value->Shared->Prop}{a:Addr}{vs:List Value}{m:Nat}{k:Int}{t:Tok}{v:Value}{Q:Unit->Shared->Prop}(ho:s.heap.get? a=some (du vs m))(h0:0<=k)(z:k<vs.length)(hz:vs.length<200000)
 (q:Q () {s with heap:=s.heap.update a (Obj.mapSeq (·.setIfInBounds k.toNat v))}):wpAny (model prog w) A (PySem.setItem (.ref a) (.int k t) v) Q E s:=by
 have u:s.TypeIs (.ref a) "list":=⟨_,ho,rfl⟩
 have g:Builtin.List.listFitsIndex k=true:=fitsIndex_of h0 (by lia);unfold PySem.setItem;try with_reducible refine wpAny_holding ?_
 first|refine Wb (Wp ?_)|skip
 refine Wb (wpAny_sequenceKey u (by decide) ?_);refine Wb (wpAny_callSpecial?_slot (name:=Str.ofString "__setitem__") u slot_list_setitem (wpAny_call_entry slot_list_setitem u entry_list_setitem ?_ (args_list_setitem _ _ _)));show wpAny _ _ (Builtin.List.listSubscript? (.int k t) >>= _) _ _ s;refine Wb (wpAny_listSubscript_int g ?_);clear g;obtain⟨j,rfl⟩:=Int.eq_ofNat_of_zero_le h0;have y:vs.toArray[j]?=some (vs[j]'(Int.ofNat_lt.mp z)):=by
  have:j<vs.length:=Int.ofNat_lt.mp z;simp[this]
 refine Wb (Wb (wpAny_seqItemAt ho rfl (Wp ?_)));rw[y];refine Wb (wpAny_setSeqItemAt ho rfl ?_);first
  |exact Wb (Wp (Wp ⟨.none,rfl,Wp q⟩))
  |exact Wp ⟨.none,rfl,Wp q⟩
theorem Fz.setItem{p:PS'}(z:Fz X V own env κ p.σ p.ρ s){a:Addr}{n j:Nat}{l:List PV}{v:Value}{i:Int}{t:Tok}(f:κ[n]?=some a)(O:p.σ[n]?=some (.list l))(hsz:l.length<=ag)(h0:0<=i)(g:idx l.length i=some j)(S:Rep s.heap X κ v d):
 wpAny (model prog w) A (PySem.setItem (.ref a) (.int i t) v) (λu s'=>Fz X V own env κ (p.σ.set n (.list (l.set j d))) p.ρ s'/\Kp V s s'/\s.toks<=s'.toks) No s:=by
 have q:=z.al.T.at_ n _ a O f;refine ah (Int.eq_ofNat_of_zero_le h0) λi r=>?_;subst r;have x:i=j/\i<l.length:=by
  unfold idx at g;split at g
  ·exact no g
  ·try rw[if_pos h0]at g
   split at g<;>simp at g
   rename_i h;simp at h;exact⟨g,h⟩
 clear g;refine hid λP K=>?_;refine au x λe o=>?_;subst e;obtain⟨_,vs,m,R,ho,_,M⟩:=q;cases R;refine K ?_;clear K P
 ·
  have y:=M.len;have W:s.TypeIs (.ref a) "list":=⟨_,ho,rfl⟩
  have L:X a:=z.vx a (z.c.pk a (List.mem_of_getElem? f));refine oO ho h0 (by rw[y];exact Int.ofNat_lt.mpr o) (by have:l.length<=100000:=hsz;(rw[y];exact Nm this (by decide))) ?_;have J:=Heap.SameBut.update s.heap a (Obj.mapSeq (·.setIfInBounds i v));have b:(s.heap.update a (Obj.mapSeq (·.setIfInBounds i v))).get? a=some (du (vs.set i v) m):=by
   rw[Heap.get?_update_self _ ho rfl];simp[Obj.mapSeq,du]
  refine au (z.mutL (x':=.list (l.set i d)) (tk:=s.toks) (List.getElem?_eq_some_iff.mp O).1 f J b rfl (.list b (aT.setAt (S.write L J) (M.write L J) i)) (Nr _)) λU kp=>?_;exact⟨U,kp,Nr _⟩
end
section
variable{A:Around}{s s' s₁ s₀:Shared}{X XA:Addr->Prop}{V V' wr:List Addr}{own:Str->Bool}{κ κ':List Addr}{σ σ':List Sto}{env:Env}{ρ ρ':ar}[aI]
 {F:Nat->List PV->Option PV} {nc k kt:Nat} {sc:Scope} {d:PV} {p p':PS'}
omit [aI] in
theorem lJ(h:isR pe=false):evR F k p pe=(ev F p.σ k pe p.ρ).map λd=>(d,p):=by
 cases pe<;>first|rfl|injection h
omit [aI] in
theorem mI(y:EvT F nc k)(a:AOk nc A)(r:env.scope=sc)(z:Fz X V own env κ p.σ p.ρ s)(j:trP sc e=some pe)(hd:evR F k p pe=some (d,p')):
 p'=p/\ev F p.σ k pe p.ρ=some d/\tr 60 sc e=some pe:=by
 refine hid λm g=>?_;refine obk j λq j v=>?_;refine au (oe j) λu j=>?_;(replace j:=si j;subst j)
 rw[lJ (Bool.eq_false_iff.mpr u)]at hd;refine omk hd λd' e h1=>?_;cases e;refine g ?_;clear g m;exact⟨rfl,h1,v⟩
omit [aI] in
theorem cB(h:aV p i=some n):b8 p.ρ i=some (.cell n):=by
 refine obk h λd h hd=>?_;rw[j3 h]at hd;exact hd
omit [aI] in
theorem lR(h:dG p i=some (d,p')):∃n l,b8 p.ρ i=some (.cell n)/\p.σ[n]?=some (.list l)/\l.getLast?=some d/\l.length<=ag/\p'=p.set n (.list l.dropLast):=by
 refine gU h λn t l d' h g j hl hd=>?_;refine oik h λh hsz=>?_;(replace h:=sp h;obtain⟨rfl,rfl⟩:=h)
 rw[cZ hl]at j;exact⟨n,l,cB g,j,hd,hsz,rfl⟩
theorem Go.pre'(g:Gr X s s₁)(tk:s.toks<=s₁.toks)(v:∃o,s₁.heap.get? G.P=some o)(j:Go X V own env κ s₁ V' κ' p' s'):Go X V own env κ s V' κ' p' s':=by
 refine⟨j.sub,λa h=>?_,j.pre,(Kp.of_gr g).trans j.kp,Nt tk j.tk,j.z⟩;rcases j.new a h with h|h
 ·exact .inl h
 ·by_cases hp:a=G.P
  ·clear tk j;subst hp;refine ah v λo ho=>?_;rw[h]at ho;exact no ho
  ·refine .inr ?_;clear tk v j;cases e:s.heap.get? a with
   |none=>rfl
   |some o=>refine aO g λh' q m u y=>?_;subst m;rw[u a o hp e]at h;injection h
theorem sU(a:AOk nc A)(P:env.scope=sc)(z:Fz X V own env κ p.σ p.ρ s){J apos pos:Pos}(K:idOf x=some i)(j:(apos.endLine==pos.line)=true)(hd:dG p i=some (d,p')):
 wpAny (model prog w) A (eval (.Call (.Attribute (.Name x J) "pop" apos) [] [] pos) env) (Rhs X V own env κ s p' d) No s:=by
 refine yI (lR hd) λn l h b hl hsz y=>?_;subst y;refine Call_method0 rfl j (Wm (wpAny_toks (eA z.al.S z.al.R K h)) (λv M q=>?_) λu u f=>f.2);refine bc q λtk g r=>?_;have t:=z.gr g (Nt z.al.pos tk);refine af r.inv λo m c=>?_;subst m;have e:=nj M (t.al.T.at_ n _ o b c);refine⟨"list","list.pop",PySem.F.plainAttrs_list,PySem.F.slot_list_pop,PySem.F.type_list_pop,e.1,e.2,?_⟩;exact callWith_builtin_kwB rfl rfl (PySem.evalArgs_none (Wm (t.pop c b hl hsz) (λv O q=>let⟨V',κ',L,r⟩:=q;⟨V',κ',L.pre' g tk (t.al.S.ex _ t.al.S.xp),r⟩) λu u f=>f))
omit [aI] in
theorem sA(h:qS e=true):∃p,e=.List [] p:=by
 have q:=bC e;unfold qS at h;generalize c5 e=v at q h;cases v<;>first|(exact nf h;done)|(obtain rfl:=List.isEmpty_iff.mp h;exact q)
omit [aI] in
theorem p7(h:m3 e=true):∃p,e=.Dict [] [] p:=by
 have q:=bC e;unfold m3 at h;generalize c5 e=v at q h;cases v<;>first|(exact nf h;done)|skip
 refine bak h λh1 h2=>?_;clear h;obtain rfl:=List.isEmpty_iff.mp h1;obtain rfl:=List.isEmpty_iff.mp h2;exact q
omit [aI] in
theorem l7(h:qz sc e=some i):∃x j apos pos,e=.Call (.Attribute (.Name x j) "pop" apos) [] [] pos/\(apos.endLine==pos.line)=true/\idOf x=some i:=by
 refine hid λu g=>?_;refine wbi h λm h q hc=>?_;refine wa2 hc λh1 h2 y=>?_;refine aO (bG h) λx j ho v z=>?_;refine g ?_;clear g u;refine⟨x,j,m.apos,m.pos,?_,y,z⟩;rw[eF q,ho,eq_of_beq h1,List.isEmpty_iff.mp h2]
omit [aI] in
theorem nr(h:trR sc e=some pe):(pe=.newList/\∃p,e=.List [] p)\/(pe=.newDict/\∃p,e=.Dict [] [] p)\/(∃i,pe=.pop i/\qz sc e=some i)\/trP sc e=some pe:=by
 unfold trR at h;by_cases h1:qS e=true
 ·obtain rfl:=si ((if_pos h1).symm.trans h);exact .inl ⟨rfl,sA h1⟩
 replace h:=(if_neg h1).symm.trans h;by_cases h2:m3 e=true
 ·obtain rfl:=si ((if_pos h2).symm.trans h);exact .inr (.inl ⟨rfl,p7 h2⟩)
 replace h:=(if_neg h2).symm.trans h;cases h3:qz sc e with
 |some i=>rw[h3]at h;(replace h:=si h;subst h);exact .inr (.inr (.inl ⟨i,rfl,rfl⟩))
 |none=>rw[h3]at h;exact .inr (.inr (.inr h))
omit [aI] in
theorem qu(h:trR sc e=some pe):okE e=true:=by
 rcases nr h with⟨_,_,rfl⟩|⟨_,_,rfl⟩|⟨i,_,h⟩|h
 ·rfl
 ·rfl
 ·refine AI (l7 h) λg u z m j y=>?_;subst j;rfl
 ·refine obk h λq g v=>?_;exact gv v
theorem yD(q:EvT F nc k)(a:AOk nc A)(y:env.scope=sc)(z:Fz X V own env κ p.σ p.ρ s)(u:trR sc e=some pe)(hd:evR F k p pe=some (d,p')):
 wpAny (model prog w) A (eval e env) (Rhs X V own env κ s p' d) No s:=by
 rcases nr u with⟨rfl,pos,rfl⟩|⟨rfl,pos,rfl⟩|⟨i,rfl,h⟩|h
 ·clear u;(replace hd:=sp hd;obtain⟨rfl,rfl⟩:=hd)
  refine wpAny_List_spliced (Wp ⟨Nat.zero_le _,?_⟩);exact Rhs.make (x:=.list []) (o:=du [] 0) rfl rfl z (Gr.refl z.al.S.tab) (Nr _) z (.list (n:=0) (Heap.get?_push_size _ rfl) .nil)
 ·clear u;(replace hd:=sp hd;obtain⟨rfl,rfl⟩:=hd)
  refine wpAny_Dict_empty ?_;exact Rhs.make (x:=.dict []) (o:=dictOf [] 0) rfl rfl z (Gr.refl z.al.S.tab) (Nr _) z (.dict (Heap.get?_push_size _ rfl) emptyDict (mN z.al.S (ia s)) .nil)
 ·refine z0 (l7 h) λx c apos pos m hl t=>?_;clear u;subst m;exact sU a y z t hl hd
 ·refine bc (mI q a y z h hd) λj h1 h2=>?_;clear u hd h;subst j;exact cy q h2 h1 a y z λv s' g l tk r=>.plain z g l tk r
theorem pO(W:EvT F nc k)(a:AOk nc A)(J:env.scope=sc)(z:Fz X V own env κ p.σ p.ρ s)(m:vE b sc e=some pe)(hd:evR F k p pe=some (d,p')):
 wpAny (model prog w) A (eval e env) (Rhs X V own env κ s p' d) No s:=by
 unfold vE at m;cases j:(if b then lq e else none)with
 |none=>rw[j]at m;exact yD W a J z m hd
 |some q=>
  rw[j]at m;refine hid λI Z=>?_;refine oik j λj O=>?_;obtain⟨l,r⟩:=q;refine ah (iz j) λpos t=>?_;clear O j;subst t;refine wbm m λpl pr g hl hr=>?_;subst g;refine gU hd λx la y lb hd i U E L=>?_;refine oik hd λhd hsz=>?_;(replace hd:=sp hd;obtain⟨rfl,rfl⟩:=hd)
  refine obk i λdl f P=>?_;refine obk E λdr M R=>?_;obtain rfl:=bN U;obtain rfl:=bN L;refine Z ?_;clear Z I;refine wpAny_BinOp (cy W hl P a J z λu s₁ g₁ B t₁ N=>cy W hr R a J B λv K Y c t₂ Q=>?_);refine tJ c.al.S (aC c.al.T (B.al.rep Y N) f) (aC c.al.T Q M) hsz λC H=>?_;have mv:∀b o,¬X b->K.heap.get? b=some o->(K.heap.push (du C 0)).get? b=some o/\¬(X b\/b∈[K.heap.objs.size]):=λb o i e=>⟨Hp _ e,λh=>h.elim i λh=>by rw[List.mem_singleton.mp h,ia]at e;exact no e⟩
  refine Rhs.make (x:=.list (la++lb)) (o:=du C 0) rfl rfl z (g₁.trans Y) (Nt t₁ t₂) c (.list (n:=0) (Heap.get?_push_size _ rfl) ?_);exact H.repMove mv λn a h=>by rw[List.getElem?_append_left (List.getElem?_eq_some_iff.mp h).1];exact h
end
section
variable{A:Around}{s s' s₁ s₀:Shared}{X X' XA:Addr->Prop}{V V' wr:List Addr}{own:Str->Bool}{κ κ':List Addr}{σ σ':List Sto}{env:Env}{ρ ρ':ar}[aI]
 {F:Nat->List PV->Option PV} {nc k kt:Nat} {sc:Scope} {d:PV} {p p':PS'}
theorem Fz.step(z:Fz X V own env κ σ ρ s){h':Heap}(L:∀b o,¬X b->s.heap.get? b=some o->h'.get? b=some o/\¬X' b)(g:∀b∈V,∀o,s.heap.get? b=some o->h'.get? b=some o)
 (E:∀a,X' a->∃o,h'.get? a=some o) (t:∀a∈V,X' a) (H:X' G.P) (ht:G.tab X' h') (hp:s.toks<=tk):Fz X' V own env κ σ ρ {s with heap:=h',toks:=tk}:=by
 have al:=z.al;have K:∀b o,¬X b->s.heap.get? b=some o->h'.get? b=some o:=λb o I e=>(L b o I e).1;have S':St X' h':=⟨λb o e=>K b o (al.S.low b o e) (al.S.base b o e),λb o e=>(L b o (al.S.low b o e) (al.S.base b o e)).2,E,H,ht⟩
 have Q:dL h' X' κ σ:=⟨al.T.len,λn x a h1 h2=>by
  have j:a∈κ:=List.mem_of_getElem? h2;refine(al.T.at_ n x a h1 h2).moveT L λb hb o ho=>?_;cases hb;exact⟨g _ (z.c.pk _ j) o ho,λdx W o2 U=>g _ (z.c.pd _ j o dx ho W) o2 U⟩⟩
 have y:∀a∈κ,∀o,h'.get? a=some o->s.heap.get? a=some o:=λa j o h1=>by
  refine af (z.f.stoEx j) λo' i ja=>?_;have:=g _ (z.c.pk _ j) _ i;rw[h1]at this;(replace this:=si this;subst this);exact i
 have M:Al {s with heap:=h',toks:=tk} X' κ σ env ρ:=by
  refine⟨S',Q,?_,Nt al.pos hp⟩;obtain⟨x1,x2,N,l,cc,m,B,hv⟩:=al.R;refine⟨x1,x2,N,l,λn Y=>let⟨c,h1,h2,v,o,Z,C⟩:=cc n Y;⟨c,h1,h2,v,o,g c (z.c.pc _ _ h1) o Z,C⟩,m,B.at' λo e=>g _ z.f.loc o e,λx d e=>?_⟩;obtain⟨O,v,r,hc⟩:=hv x d e;exact⟨O,v,r.move L λu u e=>e,hc.imp id λ⟨q,J,hc,hl,o,ho,hd⟩=>⟨q,J,hc,hl,o,g J (z.c.pc _ _ hl) o ho,hd⟩⟩
 refine⟨⟨⟨h',tk,rfl⟩,λb o u e=>((cT b o).mp e).2,λa h=>fU h,λa h=>?_,⟨H,λh=>z.nP h rfl⟩,?_,z.f.loc,λn B=>?_,z.f.ap,z.f.lc,λn c h=>⟨(z.f.ce n c h).1,let⟨o,ho⟩:=(z.f.ce n c h).2;⟨o,g _ (z.c.pc _ _ h) o ho⟩⟩,z.f.kl,λa j o dx h1 h2=>z.f.kd a j o dx (y a j o h1) h2⟩,t,z.c.move λa j o h1=>y a j o h1⟩
 ·refine ah (E a h.1) λo ho=>?_;exact⟨o,(cT a o).mpr ⟨h.2,ho⟩⟩
 ·have e:=cn t;unfold XV at e;rw[e];exact M
 ·rcases z.f.st n B with q|⟨q,J,v,h1,h2,o,Z,C⟩
  ·exact .inl q
  ·exact .inr ⟨q,J,v,h1,h2,o,g _ h1 o Z,C⟩
noncomputable def Ex(X:Addr->Prop)(V:List Addr)(own:Str->Bool)(env:Env)(κ:List Addr)(s:Shared)(p':PS')(fl:Fl)(f:Flow)(s':Shared):Prop:=
 ∃V' κ',Go X V own env κ s V' κ' p' s'/\oQ s'.heap (λa=>X a\/a∈V') κ' f fl
theorem Go.hP(j:Go X V own env κ s V' κ' p' s'):∃o,s'.heap.get? G.P=some o:=j.z.al.S.ex _ j.z.al.S.xp
theorem Ex.after(g:Go X V own env κ s V' κ' p s₁)(e:Ex (λa=>X a\/a∈V') V' own env κ' s₁ p' fl f s'):Ex X V own env κ s p' fl f s':=by
 refine cb e λV'' κ'' j fr=>?_;have m:(λa=>(X a\/a∈V')\/a∈V'')=λa=>X a\/a∈V'':=by
  funext x
  apply propext;constructor
  ·rintro((h|h)|h)
   ·exact .inl h
   ·exact .inr (j.sub x h)
   ·exact .inr h
  ·exact λh=>h.imp .inl id
 exact⟨V'',κ'',g.trans g.hP j,m▸fr⟩
omit [aI] in
theorem Ex.next(j:Go X V own env κ s V' κ' p' s'):Ex X V own env κ s p' .next .next s':=⟨V',κ',j,trivial⟩
noncomputable def ScF(sc:Scope):Prop:=∀n,sc.names.lookup n≠some .free
omit [aI] in
theorem fF(h:ScF sc)(j:isV sc x=true):aW sc x=true:=by
 unfold isV at j;unfold aW;simp only[Bool.or_eq_true,beq_iff_eq]at j ⊢;rcases j with j|j
 ·exact j
 ·exact absurd j (h x)
theorem iq(h:ScF sc)(y:isV sc x=true)(g:idOf x=some i)(r:Rhs X V (aW sc) env κ s p' d v s₁):
 wpAny (model prog w) A (storeName env x v) (λu s'=>Ex X V (aW sc) env κ s {p' with ρ:=(i,d)::p'.ρ} .next .next s') No s₁:=by
 refine cb r λV' κ' m r=>?_;refine au (bV g) λj hl=>?_;clear g;subst j;exact Wm (m.z.store hl (fF h y) r) (λ_ s' ⟨q,kp,tk⟩=>.after m (.next (.stay (p:={p' with ρ:=(i,d)::p'.ρ}) q kp tk))) λu u f=>f
omit [aI] in
theorem uC(v:Expr)(x:Str)(g:Pos)(j:Nat)(env:Env):∃b,swapsWith v (some (.Name x g)) j env=pure b/\(b=true->(∃elt gens sc' pos,v=.ListComp elt gens sc' pos)\/(∃kk vv gens sc' pos,v=.DictComp kk vv gens sc' pos)\/∃elt gens sc' pos,v=.SetComp elt gens sc' pos):=by
 cases v<;>first|exact⟨false,rfl,λh=>nomatch h⟩|exact⟨_,rfl,λu=>.inl ⟨_,_,_,_,rfl⟩⟩|exact⟨_,rfl,λu=>.inr (.inl ⟨_,_,_,_,_,rfl⟩)⟩|exact⟨_,rfl,λu=>.inr (.inr ⟨_,_,_,_,rfl⟩)⟩
theorem qq(h:ScF sc)(hs:env.scope=sc)(z:Fz X V (aW sc) env κ p.σ p.ρ s)(hv:isV sc x=true)(hi:idOf x=some i)(r:fT X κ kind out s D C s₁)
 (hd:∀h',hY κ D (λa=>X a\/a=C) h' kind out->¬X D->D≠C->Rep h' (λa=>X a\/a=C) κ (.ref D) d) :
 wpAny (model prog w) A (PySem.assign (.Name x px) env (.ref D)) (λu c=>∃m,c.heap.Ns C m/\∀h',Heap.SameBut C c.heap h'->Ex X V (aW sc) env κ s {p with ρ:=(i,d)::p.ρ} .next .next {c with heap:=h'}) No s₁:=by
 refine au (bV hi) λn hl=>?_;subst n;refine vY r λZ L hD E R H J acc=>?_;refine aO Z λI tk T O ht=>?_;subst T;refine ah H λm Q=>?_;have t:∀b,X b->b≠C:=λb y e=>by refine ah (z.al.S.ex b y) λo ho=>?_;subst e;rw[E]at ho;exact no ho
 have U:¬X D:=λy=>by refine ah (z.al.S.ex D y) λo ho=>?_;rw[hD]at ho;exact no ho
 have q:=z.al.S.xp;have mv:∀b o,¬X b->s.heap.get? b=some o->I.get? b=some o/\¬(X b\/b=C):=λb o g e=>⟨O b o (λh=>g (h▸q)) e,λh=>h.elim g λh=>by subst h;rw[E]at e;exact no e⟩
 have z₁:Fz (λa=>X a\/a=C) V (aW sc) env κ p.σ p.ρ {s with heap:=I,toks:=tk}:=by
  refine z.step mv (λb y o e=>O b o (z.nP y) e) (λa v=>?_) (λa v=>.inl (z.vx a v)) (.inl q) J L;rcases v with v|v
  ·by_cases l:a=G.P
   ·subst l;refine af (GxOk.tabEx _ _ J) λo ho jc=>?_;exact⟨o,ho⟩
   ·refine ah (z.al.S.ex a v) λo ho=>?_;exact⟨o,O a o l ho⟩
  ·subst v;refine qj Q λo jd jb ho ja=>?_;exact⟨o,ho⟩
 have M:C∉V:=λh=>t C (z.vx C h) rfl;have K:C≠G.P:=λh=>t _ q h.symm;refine wpAny_assign_Name (Wm (z₁.store hl (fF h hv) (hd _ acc U R)) (λ_ N ⟨Y,kp,t2⟩=>⟨m,Q.at' λo e=>kp.2 C o M K e,λh' j=>?_⟩) λu u f=>f);have z₃:Fz X V (aW sc) env κ p.σ ((i,d)::p.ρ) {N with heap:=h',toks:=N.toks}:=by
  refine Y.step (λb o g e=>⟨(j.2 b λh=>g (.inr h)).trans e,λh=>g (.inl h)⟩) (λb y o e=>(j.2 b λh=>M (h▸y)).trans e) (λa v=>?_) z.vx q ?_ (Nr _)
  ·refine ah (Y.al.S.ex a (.inl v)) λo ho=>?_;exact⟨o,(j.2 a (t a v)).trans ho⟩
  ·exact GxOk.tabMove _ _ _ _ (λb o u g e=>⟨(j.2 b λh=>g (.inr h)).trans e,λh=>g (.inl h)⟩) (λo e=>(j.2 _ (Ne.symm K)).trans e) Y.al.S.tab
 have W:Kp V s {s with heap:=I,toks:=tk}:=⟨⟨_,_,rfl⟩,λb o u l e=>O b o l e⟩
 refine .next (.stay (p:={p with ρ:=(i,d)::p.ρ}) z₃ ⟨?_,λb o y l e=>?_⟩ (Nt L t2))
 ·refine bx kp.1 λh2 B e=>?_;exact⟨h',B,by rw[e]⟩
 ·have e2:=kp.2 b o y l (W.2 b o y l e);exact(j.2 b λg=>by subst g;rw[E]at e;exact no e).trans e2
theorem uI(Y:FOk F nc)(h:ScF sc)(a:AOk nc A)(t:env.scope=sc)(z:Fz X V (aW sc) env κ p.σ p.ρ s)(Z:isV sc x=true)(W:idOf x=some i)
 (T:vE b sc v=some pe) (hd:evR F k p pe=some (d,p')) :
 wpAny (model prog w) A (exec (.Assign [.Name x px] v pos) env) (Ex X V (aW sc) env κ s {p' with ρ:=(i,d)::p'.ρ} .next) No s:=by
 have E:=(bu Y k).1;refine af (uC v x px pos.line env) λN J hc=>?_;cases N with
 |false=>exact wpAny_Assign_Name (Wm (pO E a t z T hd) (λu s₁ r=>iq h Z W r) λy y f=>f) J
 |true=>
  rw[exec_Assign_Name_used x px v pos J];refine Wb (wpAny_standAt ?_);clear J;rcases hc rfl with⟨R,j,g,U,rfl⟩|⟨kk,vv,j,g,U,rfl⟩|⟨R,j,g,U,rfl⟩
  ·have n:trP sc (.ListComp R j g U)=some pe:=by cases b<;>exact T
   refine bc (mI E a t z n hd) λO h1 h2=>?_;subst O;cases k with
   |zero=>exact no h1
   |succ k=>
   refine bc (bu Y k) λK M L=>?_;rw[arm_evalThenUse_ListComp];refine Wb (Wb (Wm (f9 (kt:=59) (use:=some (PySem.assign (.Name x px) env)) (Q:=λy s'=>Ex X V (aW sc) env κ s {p' with ρ:=(i,d)::p'.ρ} .next .next s') K M L a (t▸h2) h1 z.al λD C s' l hl r=>?_) (λy s' q=>Wp (Wp q)) λy y f=>f));subst hl;exact qq h t z Z W r λh' acc c m=>let⟨_,_,hD,H⟩:=acc;.list hD (λh=>h.elim c m) H
  ·have n:trP sc (.DictComp kk vv j g U)=some pe:=by cases b<;>exact T
   refine bc (mI E a t z n hd) λP h1 h2=>?_;subst P;cases k with
   |zero=>exact no h1
   |succ k=>
   refine bc (bu Y k) λK M L=>?_;rw[arm_evalThenUse_DictComp];refine Wb (Wb (Wm (f3 (kt:=59) (use:=some (PySem.assign (.Name x px) env)) (Q:=λy s'=>Ex X V (aW sc) env κ s {p' with ρ:=(i,d)::p'.ρ} .next .next s') K M L a (t▸h2) h1 z.al λD C s' l hl r=>?_) (λy s' q=>Wp (Wp q)) λy y f=>f));subst hl;have B:=r.2.2.1;refine qq h t z Z W r λh' acc c m=>?_;obtain⟨o,kvs,ps,hD,ho,I,e⟩:=acc;obtain rfl:=kK _ _ e;exact .dict hD ho (mN z.al.S B) (λh=>h.elim c m) I
  ·cases b<;>exact no T
end
section
variable{A:Around}{s s' s₁ s₀:Shared}{X X' XA:Addr->Prop}{V V' wr:List Addr}{own:Str->Bool}{κ κ':List Addr}{σ σ':List Sto}{env:Env}{ρ ρ':ar}[aI]
 {F:Nat->List PV->Option PV} {nc k kt:Nat} {sc:Scope} {d:PV} {p p':PS'}
omit [aI] in
theorem Go.mv(u:X G.P)(g:∀a∈V,X a)(m:Go X V own env κ s V' κ' p' s'):∀b o,¬X b->s.heap.get? b=some o->s'.heap.get? b=some o/\¬(X b\/b∈V'):=λb o j e=>
 ⟨m.kp.2 b o (λh=>j (g b h)) (λh=>j (h▸u)) e,λh=>h.elim j λh=>(m.new b h).elim (λh=>j (g b h)) λh=>by rw[h]at e;exact no e⟩
omit [aI] in
theorem Go.kx(g:Go X V own env κ s V' κ' p' s'):∀(n:Nat) (a:Addr),κ[n]?=some a->κ'[n]?=some a:=λn a h=>by
 refine ah g.pre λe j=>?_;clear g;subst j;rw[List.getElem?_append_left (List.getElem?_eq_some_iff.mp h).1];exact h
theorem Go.rep(m:X G.P)(g:∀a∈V,X a)(j:Go X V own env κ s V' κ' p' s')(r:Rep s.heap X κ v d):Rep s'.heap (λa=>X a\/a∈V') κ' v d:=
 r.move (j.mv m g) j.kx
omit [aI] in
theorem gM{V' V'':List Addr}(h:∀a∈V',a∈V''):(λa=>(X a\/a∈V')\/a∈V'')=λa=>X a\/a∈V'':=by
 funext x
 apply propext;constructor
 ·rintro((q|q)|q)
  ·exact .inl q
  ·exact .inr (h x q)
  ·exact .inr q
 ·exact λq=>q.imp .inl id
theorem wo(R:EvT F nc k)(a:AOk nc A)(M:env.scope=sc)(pos:Pos):∀(g:List Expr) (j:List PE) (ds:List PV) (p p':PS') (X:Addr->Prop) (V κ:List Addr) (s:Shared) (Q:List Value->Shared->Prop),g.mapM (trR sc)=some j->pE F k p j=some (ds,p')->Fz X V own env κ p.σ p.ρ s->
 (∀vs s' V' κ',Go X V own env κ s V' κ' p' s'->aY s'.heap (λa=>X a\/a∈V') κ' vs ds->Q vs s')->wpAny (model prog w) A (spliced (backTo pos (starEach g env))) Q No s:=by
 intro g;induction g with
 |nil=>
  intro j ds p p' X V κ s Q h1 h2 z h;obtain rfl:=mn h1;(replace h2:=sp h2;obtain⟨rfl,rfl⟩:=h2);exact Wp (h [] s V κ (.refl z) .nil)
 |cons e g O=>
  intro j ds p p' X V κ s Q h1 h2 z h;refine hid λJ o=>?_;refine mck h1 λU m n l c=>?_;clear h1;subst c;refine obk h2 λL h2 hd=>?_;obtain⟨d,P⟩:=L;refine omk h2 λT K y=>?_;obtain⟨t,p2⟩:=T;cases K;refine o ?_;clear o J;rw[dC (qu n)];show wpAny _ _ (spliced ((false,eval e env)::backTo pos (starEach g env))) _ _ _;unfold spliced;refine Wb (Wm (pO (b:=false) R a M z n hd) (λv x q=>?_) λu u f=>f);refine cb q λVB κB go r=>?_;rw[if_neg Bool.false_ne_true];refine Wb (Wp (Wb (wpAny_holding ?_)));refine O m t P p2 _ VB κB x _ l y go.z λvs s₂ VC κC goA rs=>?_;have e:=gM (X:=X) goA.sub;have i:=goA.rep go.z.al.S.xp go.z.vx r;rw[e]at rs i;exact Wp (h (v::vs) s₂ VC κC (go.trans go.hP goA) (.cons i rs))
theorem Fz.bindAll:∀(xs:List Nat) (vs:List Value) (ds:List PV) (ρ:ar) (s:Shared),xs.length=ds.length->(∀x∈xs,x<nms.length/\own (nm x)=true)->
 Fz X V own env κ σ ρ s->aY s.heap X κ vs ds->
 wpAny (model prog w) A (assignInOrder (xs.map λx=>bindName env (nm x)) vs)
  (λu s'=>Fz X V own env κ σ ((xs.zip ds).reverse++ρ) s'/\Kp V s s'/\s.toks<=s'.toks) No s:=by
 intro xs;induction xs with
 |nil=>
  intro vs ds ρ s h2 ho z r;obtain rfl:=List.length_eq_zero_iff.mp h2.symm;cases r;exact Wp ⟨z,Kp.refl,Nr _⟩
 |cons x xs n=>
  intro vs ds ρ s h2 ho z r;cases ds with
  |nil=>injection h2
  |cons d ds=>
  refine aO r.inv λv vs j a r2=>?_;clear r;subst j;refine wpAny_assignInOrder_more (wpAny_bindName (Wm (z.store (ho x (.head _)).1 (ho x (.head _)).2 a) (λu t q=>?_) λu u f=>f));refine bc q λi l c=>?_;have g:aY t.heap X κ vs ds:=r2.keeps λb o m e=>l.2 b o (λh=>m (z.vx b h)) (λh=>m (h▸z.al.S.xp)) e;refine Wm (n vs ds _ t (Nat.succ.inj h2) (λy J=>ho y (.tail _ J)) i g) (λu K q=>?_) λu u f=>f;exact⟨by rw[List.zip_cons_cons,List.reverse_cons,List.append_assoc];exact q.1,l.trans q.2.1,Nt c q.2.2⟩
omit [aI] in
theorem dK:∀{l:List (Nat×α)},(l.map (·.1)).Nodup->∀{x:Nat} {d:α},l.lookup x=some d↔(x,d)∈l
 |[],_,x,d=>by simp
 |(y,e)::l,h,x,d=>by
  have h':y∉l.map (·.1)/\(l.map (·.1)).Nodup:=List.nodup_cons.mp h;by_cases hx:x=y
  ·subst hx;simp only[List.lookup,beq_self_eq_true,Option.some.injEq,List.mem_cons,Prod.mk.injEq,true_and];constructor
   ·exact λh=>.inl h.symm
   ·rintro(h|h)
    ·exact h.symm
    ·exact absurd (List.mem_map.mpr ⟨_,h,rfl⟩) h'.1
  ·have:(x==y)=false:=by simpa using hx
   simp only[List.lookup,this,List.mem_cons,Prod.mk.injEq,hx,false_and,false_or];exact dK h'.2
omit [aI] in
theorem gw:∀(l m:List (Nat×α)) (x:Nat),(l++m).lookup x=(l.lookup x).or (m.lookup x)
 |[],m,x=>by simp
 |(y,e)::l,m,x=>by
  by_cases hx:x==y
  ·simp[List.lookup,hx]
  ·have j:(x==y)=false:=Bool.eq_false_iff.mpr hx;simp[List.lookup,j,gw l m x]
omit [aI] in
theorem kZ{l m:List (Nat×α)}(h:(l.map (·.1)).Nodup)(x:Nat):(l.reverse++m).lookup x=(l++m).lookup x:=by
 rw[gw,gw];congr 1;have h2:(l.reverse.map (·.1)).Nodup:=by
  rw[List.map_reverse];exact List.pairwise_reverse.mpr (List.Pairwise.imp Ne.symm h)
 cases e:l.lookup x with
 |some d=>exact(dK h2).mpr (List.mem_reverse.mpr ((dK h).mp e))
 |none=>
  cases e2:l.reverse.lookup x with
  |none=>rfl
  |some d=>rw[(dK h).mpr (List.mem_reverse.mp ((dK h2).mp e2))]at e;injection e
omit [aI] in
theorem pw{g:List Expr}:∀{xs:List Nat},g.mapM (bO sc)=some xs->g.mapM nmI=some xs/\∀x∈xs,x<nms.length/\isV sc (nm x)=true:=by
 induction g with
 |nil=>intro xs h;obtain rfl:=mn h;exact⟨rfl,nofun⟩
 |cons t g e=>
  intro xs h;refine mck h λx ys v l m=>?_;clear h;subst m;refine au (e l) λh1 h2=>?_;refine aO (bG v) λy p j q u=>?_;subst j;refine au (bV u) λr c=>?_;refine⟨aw u h1,λz hz=>?_⟩;rcases List.mem_cons.mp hz with rfl|hz
  ·exact⟨c,by rw[r];exact q⟩
  ·exact h2 z hz
omit [aI] in
theorem ew(g:List Expr)(n:Nat)(tp:Pos)(v:Expr)(j:Nat)(env:Env):swapsWithSole [.Tuple g n tp] v j env=pure false:=by
 cases v<;>rfl
omit [aI] in
theorem v3{j:List Expr}(h1:j.mapM nmI=some xs):dQ (.Tuple j n tp)=some (true,xs):=by
 show(j.mapM nmI).map (λxs=>(true,xs))=_;rw[h1];rfl
theorem t7(S:EvT F nc k)(h:ScF sc)(a:AOk nc A)(R:env.scope=sc)(z:Fz X V (aW sc) env κ p.σ p.ρ s){J:List Expr}(j:J.mapM (bO sc)=some xs)
 (i:∀vs m q,v≠.Tuple vs m q) (P:tr kt sc v=some pe) (hd:ev F p.σ k pe p.ρ=some d) (K:a6 true xs d p.ρ=some ρ') :
 wpAny (model prog w) A (exec (.Assign [.Tuple J n tp] v pos) env) (Ex X V (aW sc) env κ s {p with ρ:=ρ'} .next) No s:=by
 refine au (pw j) λh1 h2=>?_;have t:swappedStores [.Tuple J n tp] v env=pure none:=by
  cases v<;>first|rfl|exact absurd rfl (i _ _ _)
 have c:∃l,d=.tuple l:=let⟨l,e,_⟩:=ej K;⟨l,e⟩;refine Assign_Tuple (cy S P hd a R z λu T g O tk r=>?_) (ew ..) t;refine Wm (O.assign (tup:=true) a.hd (v3 h1) (λx j=>fF h (h2 x j).2) K (fy r (λb o j e=>⟨e,j⟩) λy=>c)) (λ_ U ⟨L,kp,M⟩=>?_) λy y f=>f;exact .next (.stay (p:={p with ρ:=ρ'}) L ((Kp.of_gr g).trans kp) (Nt tk M))
theorem m5:∀(xs:List Nat) (ps:List Pos) (ρ:ar) (s:Shared),xs.length=ps.length->(∀x∈xs,x<nms.length/\own (nm x)=true)->Fz X V own env κ σ ρ s->Rep s.heap X κ v d->
 wpAny (model prog w) A (assignAll v ((xs.zip ps).map λp=>PySem.assign (.Name (nm p.1) p.2) env)) (λj s'=>Fz X V own env κ σ ((xs.map λx=>(x,d)).reverse++ρ) s'/\Kp V s s'/\s.toks<=s'.toks) No s:=by
 intro xs;induction xs with
 |nil=>intro ps ρ s h1 ho z r;obtain rfl:=List.length_eq_zero_iff.mp h1.symm;exact Wp ⟨z,Kp.refl,Nr _⟩
 |cons x xs n=>
  intro ps ρ s h1 ho z r;cases ps with
  |nil=>injection h1
  |cons q ps=>
   have st:=wpAny_assign_Name (pos:=q) (z.store (A:=A) (ho x (.head _)).1 (ho x (.head _)).2 r);cases xs with
   |nil=>obtain rfl:=List.length_eq_zero_iff.mp (Nat.succ.inj h1).symm;exact st
   |cons y xs=>
    cases ps with
    |nil=>cases h1
    |cons a ps=>
    refine Wb (wpAny_holding (Wm st (λj m q=>?_) λj j f=>f));refine bc q λl t J=>?_;have c:Rep m.heap X κ v d:=r.keeps λb o g e=>t.2 b o (λh=>g (z.vx b h)) (λh=>g (h▸z.al.S.xp)) e;refine Wm (n (a::ps) _ m (Nat.succ.inj h1) (λu i=>ho u (.tail _ i)) l c) (λj K q=>?_) λj j f=>f;exact⟨by rw[List.map_cons,List.reverse_cons,List.append_assoc];exact q.1,t.trans q.2.1,Nt J q.2.2⟩
theorem rI(J:EvT F nc k)(h:ScF sc)(a:AOk nc A)(n:env.scope=sc)(z:Fz X V (aW sc) env κ p.σ p.ρ s)
 (j:(t1::m::ts).mapM (bO sc)=some xs)
 (b:tr kt sc v=some pe) (hd:ev F p.σ k pe p.ρ=some d) :
 wpAny (model prog w) A (exec (.Assign (t1::m::ts) v pos) env) (Ex X V (aW sc) env κ s {p with ρ:=(xs.map λx=>(x,d)).reverse++p.ρ} .next) No s:=by
 refine au (pw j) λh1 h2=>?_;refine bd (cH env _ xs h1) λps e q c=>?_;refine wpAny_Assign_stores (cy J b hd a n z λu l g i tk r=>?_) rfl (by cases t1<;>rfl);have o:(assignEach (t1::m::ts) env).map (·.2)=(xs.zip ps).map λp=>PySem.assign (.Name (nm p.1) p.2) env:=by rw[q,List.map_map];rfl
 rw[o];exact Wm (m5 xs ps p.ρ l e (λx j=>⟨(h2 x j).1,fF h (h2 x j).2⟩) i r) (λ_ K ⟨t,kp,m⟩=>.next (.stay (p:={p with ρ:=(xs.map λx=>(x,d)).reverse++p.ρ}) t ((Kp.of_gr g).trans kp) (Nt tk m))) λy y f=>f
omit [aI] in
theorem pQ{j vs:List Expr}(h1:j.mapM nmI=some xs)(hc:(vs.all (foldedForSure 8)||!vs.all (constantsAlone 8))=true)(env:Env):
 swappedStores [.Tuple j n tp] (.Tuple vs m vp) env=pure none\/swappedStores [.Tuple j n tp] (.Tuple vs m vp) env=pure (some (xs.map nm)):=by
 have i:∀(g:Expr->Option Str),(∀e y,g e=some y->∃q,e=.Name y q)->∀(j:List Expr) (xs:List Nat),j.mapM nmI=some xs->(j.filterMap g).length=j.length->j.filterMap g=xs.map nm:=by
  intro g K j;induction j with
  |nil=>intro xs h _;obtain rfl:=mn h;rfl
  |cons t j O=>
   intro xs h hl;refine mck h λx ys J P r=>?_;clear h;subst r;have l:(j.filterMap g).length<=j.length:=List.length_filterMap_le _ _;rw[List.filterMap_cons]at hl ⊢;cases hgt:g t with
   |none=>rw[hgt]at hl;exact absurd hl (Nat.ne_of_lt (Nat.lt_succ_of_le l))
   |some y=>
    rw[hgt]at hl;refine hid λo b=>?_;refine ah (K t y hgt) λq z=>?_;subst z;refine cb (nb J) λa L e M=>?_;cases e;refine b ?_;clear b o;rw[List.map_cons,(bV M).1];exact congrArg _ (O ys P (Nat.succ.inj hl))
 unfold swappedStores;dsimp only;split
 ·exact .inl rfl
 ·split
  ·exact .inl rfl
  ·split
   ·exact .inl rfl
   ·rename_i u;split
    ·exact .inl rfl
    ·rename_i f;split
     ·rename_i c;rw[c]at hc;simp only[Bool.not_true,Bool.or_false]at hc;exact absurd hc f
     ·refine .inr ?_;simp only[Bool.or_eq_true,not_or,bne_iff_ne,ne_eq,Decidable.not_not]at u;refine congrArg (λx=>pure (some x)) (i _ (λe y v=>?_) j xs h1 u.1);clear h1 hc i f u;split at v
      ·split at v<;>simp at v
       subst v;exact⟨_,rfl⟩
      ·exact no v
omit [aI] in
theorem qK:∀(xs:List α) (ys:List β),xs.length=ys.length->xs.reverse.zip ys.reverse=(xs.zip ys).reverse
 |[],[],_=>rfl
 |[],_::_,h=>by simp at h
 |_::_,[],h=>by simp at h
 |x::xs,y::ys,h=>by
  rw[List.reverse_cons,List.reverse_cons,List.zip_append (by simpa using h),qK xs ys (by simpa using h)];simp
theorem Ab(IH:EvT F nc k)(h:ScF sc)(a:AOk nc A)(hs:env.scope=sc)(z:Fz X V (aW sc) env κ p.σ p.ρ s){P vs:List Expr}{n m:Nat}{tp vp pos:Pos}{c:List PE}{xs:List Nat}{ds:List PV}
 (r:P.mapM (bO sc)=some xs) (hc:(vs.all (foldedForSure 8)||!vs.all (constantsAlone 8))=true)
 (N:vs.mapM (trR sc)=some c) (hd:pE F k p c=some (ds,p')) (y:xs.length=ds.length) (U:xs.Nodup) (hsz:xs.length<=10) :
 wpAny (model prog w) A (exec (.Assign [.Tuple P n tp] (.Tuple vs m vp) pos) env) (Ex X V (aW sc) env κ s {p' with ρ:=(xs.zip ds).reverse++p'.ρ} .next) No s:=by
 refine au (pw r) λh1 h2=>?_;have ho:∀x∈xs,x<nms.length/\aW sc (nm x)=true:=λx r=>⟨(h2 x r).1,fF h (h2 x r).2⟩
 have L:∀Q:Value->Shared->Prop,(∀T j s' V' κ',Go X V (aW sc) env κ s V' κ' p' s'->s'.heap.IsTuple T j.toArray->aY s'.heap (λa=>X a\/a∈V') κ' j ds->Q (.ref T) s')->wpAny (model prog w) A (eval (.Tuple vs m vp) env) Q No s:=by
  intro Q hQ;refine wpAny_Tuple_spliced (wo IH a hs vp vs c ds p p' X V κ s _ N hd z λj s' V' κ' go rs=>⟨?_,?_⟩)
  ·have W:=rs.len;rw[sizeLine_eq];lia
  ·have g:=Gr.push (s:=s') go.z.al.S.tab (sg j 0) s'.toks;have J:=go.z.gr g go.z.al.pos;have e:=gM (X:=X) (V':=V') (V'':=V') λu h=>h;refine hQ _ j _ V' κ' (go.trans go.hP (.stay J (Kp.of_gr g) (Nr _))) ⟨_,Heap.get?_push_size _ rfl,rfl,_,rfl⟩ (rs.keeps λb o u e=>Hp _ e)
 have key:∀(T:Addr) (j:List Value) (v:Shared) (V' κ':List Addr) (h':Heap) (ys:List Nat) (O:List PV) (q:List Value),Go X V (aW sc) env κ s V' κ' p' v->Heap.ExtBut v.heap.objs.size v.heap h'->aY v.heap (λa=>X a\/a∈V') κ' q O->ys.length=O.length->(∀x∈ys,x∈xs)->
  (∀x d,((xs.zip ds).reverse++p'.ρ).lookup x=some d->((ys.zip O).reverse++p'.ρ).lookup x=some d)->
  wpAny (model prog w) A (assignInOrder (ys.map λx=>bindName env (nm x)) q) (λu s'=>Ex X V (aW sc) env κ s {p' with ρ:=(xs.zip ds).reverse++p'.ρ} .next .next s') No {v with heap:=h'}:=by
  intro T j v V' κ' h' ys O q go M rs hl hys hsub;have K:∀b o,v.heap.get? b=some o->h'.get? b=some o:=λb o e=>M b o (Nat.ne_of_lt (Heap.lt_size e)) e;have g:=Gr.kept (s:=v) (h':=h') (tk:=v.toks) go.z.al.S.tab K;have J:=go.z.gr g go.z.al.pos;refine Wm (Fz.bindAll ys q O p'.ρ _ hl (λx r=>ho x (hys x r)) J (rs.keeps λb o u e=>K b o e)) (λ_ I ⟨R,kp,t⟩=>?_) λu u f=>f;exact .after go (.next (.stay (p:={p' with ρ:=(xs.zip ds).reverse++p'.ρ}) (R.sub hsub) ((Kp.of_gr g).trans kp) t))
 rcases pQ (n:=n) (tp:=tp) (m:=m) (vp:=vp) h1 hc env with l|l
 ·refine Assign_Tuple (L _ λT j v V' κ' go hT rs=>?_) (ew ..) l;refine bd (cH env P xs h1) λps W Y e3=>?_;have Z:j.length=ds.length:=rs.len;refine wpAny_assign_Tuple a.hd hT ?_ (by rw[Y];exact f4 _ _) λh' M=>?_
  ·rw[Y];simp only[List.length_map,List.length_zip,W,Nat.min_self,List.size_toArray];lia
  ·have K:∀b o,v.heap.get? b=some o->h'.get? b=some o:=λb o e=>M b o (Nat.ne_of_lt (Heap.lt_size e)) e;have g:=Gr.kept (s:=v) (h':=h') (tk:=v.toks) go.z.al.S.tab K;have J:=go.z.gr g go.z.al.pos;have e4:(assignEach P env).map (·.2)=(xs.zip ps).map λp=>PySem.assign (.Name (nm p.1) p.2) env:=by rw[Y,List.map_map];rfl
   rw[e4];refine Wm (Fz.storeAll xs ps j ds p'.ρ _ W y ho J (rs.keeps λb o u e=>K b o e)) (λ_ I ⟨R,kp,t⟩=>?_) λu u f=>f;exact .after go (.next (.stay (p:={p' with ρ:=(xs.zip ds).reverse++p'.ρ}) R ((Kp.of_gr g).trans kp) t))
 ·refine Assign_Tuple_swapped (L _ λT j v V' κ' go hT rs=>?_) (ew ..) l;have Z:j.length=ds.length:=rs.len;have C:(xs.map nm).length=j.toArray.size:=by simp;lia
  rw[C];refine wpAny_unpackItems_tuple a.hd hT λh' M=>?_;have B:((xs.map nm).reverse.map λn=>bindName env n)=xs.reverse.map λx=>bindName env (nm x):=by rw[<- List.map_reverse,List.map_map];rfl
  rw[B];have E:(j.toArray.toList).reverse=j.reverse:=by simp
  rw[E];refine key T j v V' κ' h' xs.reverse ds.reverse j.reverse go M rs.reverse (by simp[y]) (λx r=>List.mem_reverse.mp r) λx d hl=>?_;have H:xs.reverse.zip ds.reverse=(xs.zip ds).reverse:=qK xs ds y;rw[H,List.reverse_reverse];have i:((xs.zip ds).map (·.1)).Nodup:=by rw[List.map_fst_zip ((Ne0 y))];exact U
  rw[<- kZ i];exact hl
end
section
variable{A:Around}{s s' s₁ s₀:Shared}{X X' XA:Addr->Prop}{V V' wr:List Addr}{own:Str->Bool}{κ κ':List Addr}{σ σ':List Sto}{env:Env}{ρ ρ':ar}[aI]
 {F:Nat->List PV->Option PV} {nc k kt:Nat} {sc:Scope} {d:PV} {p p':PS'}
omit [aI] in
theorem v6(h:evR F k p pe=some (d,p')):p'.ρ=p.ρ/\∀n,n<p.σ.length->∀l,p'.σ[n]?=some (.list l)->∃l0,p.σ[n]?=some (.list l0):=by
 have j:∀x,(p.add x).ρ=p.ρ/\∀n,n<p.σ.length->∀l,(p.add x).σ[n]?=some (.list l)->∃l0,p.σ[n]?=some (.list l0):=λx=>⟨rfl,λn a l e=>⟨l,(List.getElem?_append_left a).symm.trans e⟩⟩
 by_cases hr:isR pe=false
 ·rw[lJ hr]at h;refine omk h λR e z=>?_;clear z;cases e;exact⟨rfl,λn w l e=>⟨l,e⟩⟩
 ·cases pe with
  |newList=>(replace h:=sp h;obtain⟨rfl,rfl⟩:=h);exact j _
  |newDict=>(replace h:=sp h;obtain⟨rfl,rfl⟩:=h);exact j _
  |pop i=>
   refine yI (lR h) λm l y K c q g=>?_;clear y c q;subst g;refine⟨rfl,λn a M e=>?_⟩;by_cases hm:m=n
   ·subst hm;exact⟨_,K⟩
   ·exact⟨M,(List.getElem?_set_ne hm).symm.trans e⟩
  |freshAdd u v=>
   refine gU h λP L O J h b o t f=>?_;refine oik h λh r=>?_;clear b o t f r;(replace h:=sp h;obtain⟨rfl,rfl⟩:=h);exact j _
  |_=>exact absurd rfl hr
theorem k6(z:Fz X V own env κ p.σ p.ρ s):interactive env=false:=by
 unfold interactive;rw[z.al.R.kind];rfl
theorem Ex.pre(g:Gr X s s₁)(tk:s.toks<=s₁.toks)(j:∃o,s₁.heap.get? G.P=some o)(r:Ex X V own env κ s₁ p' fl f s'):Ex X V own env κ s p' fl f s':=
 let⟨V',κ',m,r⟩:=r;⟨V',κ',m.pre' g tk j,r⟩
theorem Fz.hP(z:Fz X V own env κ σ ρ s):∃o,s.heap.get? G.P=some o:=z.al.S.ex _ z.al.S.xp
theorem tZ(Q:EvT F nc k)(a:AOk nc A)(B:env.scope=sc)(z:Fz X V own env κ p.σ p.ρ s){C apos pos q:Pos}(Z:idOf x=some i)(j:(apos.endLine==pos.line)=true)
 (W:trR sc e=some pe) (hd:evR F k p pe=some (d,p')) (O:b8 p'.ρ i=some (.cell n)) (P:p'.σ[n]?=some (.list l)) (hsz:l.length<=ag) :
 wpAny (model prog w) A (exec (.Expr (.Call (.Attribute (.Name x C) "append" apos) [e] [] pos) q) env) (Ex X V own env κ s {p' with σ:=p'.σ.set n (.list (l++[d]))} .next) No s:=by
 have M:starEach [e] env=[(false,eval e env)]:=dC (qu W) [] env;refine au (v6 hd) λH J=>?_;rw[H]at O;refine wpAny_Expr_any (Call_method1 rfl M j (Wm (wpAny_toks (eA z.al.S z.al.R Z O)) (λv E ⟨tk,g,r⟩=>?_) λy y f=>f.2)) (k6 z) rfl;have c:=z.gr g (Nt z.al.pos tk);refine af r.inv λY m o=>?_;subst m
 ·
  have h:n<p.σ.length:=by rw[<- c.al.T.len];exact(List.getElem?_eq_some_iff.mp o).1
  refine ah (J n h _ P) λl0 K=>?_;have U:=nj E (c.al.T.at_ n _ Y K o);refine⟨"list","list.append",PySem.F.plainAttrs_list,PySem.F.slot_list_append,PySem.F.type_list_append,U.1,U.2,?_⟩;refine callWith_builtin_kwB rfl rfl (evalArgs_plain ?_);unfold spliced;refine Wb (Wm (pO (b:=false) Q a B c W hd) (λu s₂ r=>?_) λy y f=>f);refine cb r λV' κ' L I=>?_;dsimp only[Bool.false_eq_true,if_false];refine Wb (Wp (Wb (wpAny_holding ?_)));unfold spliced;refine Wp (Wp ?_);refine Wm (L.z.append (L.kx n Y o) P hsz I) (λ_ s₃ ⟨N,kp,t⟩=>?_) λy y f=>f;exact .pre g tk c.hP (.after L (.next (.stay (p:={p' with σ:=p'.σ.set n (.list (l++[d]))}) N kp t)))
theorem yf(a:AOk nc A)(t:env.scope=sc)(z:Fz X V own env κ p.σ p.ρ s){m apos pos g:Pos}(y:idOf x=some i)(j:(apos.endLine==pos.line)=true)(hd:dG p i=some (d,p')):
 wpAny (model prog w) A (exec (.Expr (.Call (.Attribute (.Name x m) "pop" apos) [] [] pos) g) env) (Ex X V own env κ s p' .next) No s:=
 wpAny_Expr_any (Wm (sU a t z y j hd) (λv e ⟨V',κ',q,r⟩=>.next q) λu u f=>f) (k6 z) rfl
theorem o8(IH:EvT F nc k)(a:AOk nc A)(E:env.scope=sc)(z:Fz X V own env κ p.σ p.ρ s){np sp apos pos L:Pos}(Z:idOf x=some i)(j:(apos.endLine==pos.line)=true)
 (o:tr 60 sc ie=some pi) (ht:tr 60 sc e=some pe) (U:b8 p.ρ i=some (.cell n)) (C:p.σ[n]?=some (.list l)) (K:ev F p.σ k pi p.ρ=some di) (c:gq (.list l) di=some (.cell m)) (hd:ev F p.σ k pe p.ρ=some d) (hm:p.σ[m]?=some (.list l2)) (hsz:l2.length<=ag) :
 wpAny (model prog w) A (exec (.Expr (.Call (.Attribute (.Subscript (.Name x np) ie sp) "append" apos) [e] [] pos) L) env) (Ex X V own env κ s {p with σ:=p.σ.set m (.list (l2++[d]))} .next) No s:=by
 have M:starEach [e] env=[(false,eval e env)]:=dC (gv ht) [] env;refine wpAny_Expr_any (Call_method1 rfl M j (Subscript_ (Wm (wpAny_toks (eA z.al.S z.al.R Z U)) (λv s₁ ⟨tk,g,r⟩=>cy IH o K a E (z.gr g (Nt z.al.pos tk)) λu s₂ W b P N=>?_) λy y f=>f.2))) (k6 z) rfl;have B:=z.gr g (Nt z.al.pos tk);have q:=aC b.al.T (B.al.rep W r) (d':=.list l) (by show(p.σ[n]?).map dI=_;rw[C];rfl);refine Wm (wpAny_toks (th b.al.S q N c)) (λov s₃ ⟨J,H,Q⟩=>?_) λy y f=>f.2;have z₃:=b.gr H (Nt b.al.pos J);refine af Q.inv λad h Y=>?_;clear z Z j o U C K c M r b N B q Q;subst h
 ·
  have I:=nj s₃ (z₃.al.T.at_ m _ ad hm Y);refine⟨"list","list.append",PySem.F.plainAttrs_list,PySem.F.slot_list_append,PySem.F.type_list_append,I.1,I.2,?_⟩;refine callWith_builtin_kwB rfl rfl (evalArgs_plain ?_);unfold spliced;refine Wb (cy IH ht hd a E z₃ λu s₄ g₄ z₄ O r₄=>?_);dsimp only[Bool.false_eq_true,if_false];refine Wb (Wp (Wb (wpAny_holding ?_)));unfold spliced;refine Wp (Wp ?_);refine Wm (z₄.append Y hm hsz r₄) (λ_ s₅ ⟨z₅,kp,t⟩=>?_) λy y f=>f;exact .pre (g.trans (W.trans (H.trans g₄))) (Nt tk (Nt P (Nt J O))) z₄.hP (.next (.stay (p:={p with σ:=p.σ.set m (.list (l2++[d]))}) z₅ kp t))
theorem tS(L:EvT F nc k)(a:AOk nc A)(h:env.scope=sc)(z:Fz X V own env κ p.σ p.ρ s){x:Str}{i n j:Nat}{I sp pos:Pos}{P e:Expr}{W U:PE}{l:List PV}{o:Int}(O:idOf x=some i)
 (m:tr 60 sc P=some W) (B:tr 60 sc e=some U) (M:b8 p.ρ i=some (.cell n)) (E:p.σ[n]?=some (.list l)) (r:ev F p.σ k W p.ρ=some (.int o)) (hd:ev F p.σ k U p.ρ=some d) (H:idx l.length o=some j) (hsz:l.length<=ag) (h0:0<=o) :
 wpAny (model prog w) A (exec (.Assign [.Subscript (.Name x I) P sp] e pos) env) (Ex X V own env κ s {p with σ:=p.σ.set n (.list (l.set j d))} .next) No s:=by
 refine wpAny_Assign_Subscript (cy L B hd a h z λv s₁ g₁ g J N=>Wm (wpAny_toks (eA g.al.S g.al.R O M)) (λov s₂ ⟨q,b,Q⟩=>cy L m r a h (g.gr b (Nt g.al.pos q)) λiv s₃ T Z K Y=>?_) λu u f=>f.2) (by cases e<;>rfl);refine ah (qC Y) λt y=>?_;clear L a h z O m B M r hd Y;subst y;refine af Q.inv λad c C=>?_;subst c
 ·
  refine Wm (Z.setItem C E hsz h0 H (g.al.rep (b.trans T) N)) (λ_ s₄ ⟨z₄,kp,t⟩=>?_) λu u f=>f;exact .pre (g₁.trans (b.trans T)) (Nt J (Nt q K)) Z.hP (.next (.stay (p:={p with σ:=p.σ.set n (.list (l.set j d))}) z₄ kp t))
theorem zE(q:EvT F nc k)(a:AOk nc A)(t:env.scope=sc)(z:Fz X V own env κ p.σ p.ρ s)(y:tr 60 sc e=some pe)(hd:ev F p.σ k pe p.ρ=some d):
 wpAny (model prog w) A (exec (.Return (some e) pos) env) (Ex X V own env κ s p (.ret d)) No s:=
 wpAny_Return_some (cy q y hd a t z λv l g m tk r=>⟨V,κ,.stay m (Kp.of_gr g) tk,r.move (λb o j e=>⟨e,λh=>h.elim j λh=>j (z.vx b h)⟩) λu u e=>e⟩)
omit [aI] in
theorem pM(u:Rep h X κ v d)(r:gy h X κ kvs l):gy h X κ (stored kvs i v) (b9 l i d):=by
 have m:=r.keysEq;delta stored b9;have e:(kvs.any λp=>decide (p.1=i))=(l.lookup i).isSome:=by
  have h1:(kvs.any λp=>decide (p.1=i))=((kvs.map (·.1)).any λj=>decide (j=i)):=by rw[List.any_map];rfl
  rw[h1,m];clear h1 m r;induction l with
  |nil=>rfl
  |cons p l g=>
   by_cases hp:i=p.1
   ·subst hp;simp[List.lookup]
   ·have h2:(i==p.1)=false:=by simpa using hp
    have y:decide (p.1=i)=false:=by simpa using λx=>hp x.symm
    obtain⟨t,p2⟩:=p;simp only[List.lookup,h2,List.map_cons,List.any_cons,y,Bool.false_or];exact g
 cases hc:(l.lookup i).isSome with
 |true=>
  rw[hc]at e;simp only[e,if_true];clear hc e m;induction r with
  |nil=>exact .nil
  |@cons q f _ _ a b g=>
   obtain⟨j,z⟩:=q;obtain⟨c,d'⟩:=f;obtain⟨e,a⟩:=a;dsimp only at e a;subst e;by_cases hj:j=i
   ·subst hj;rw[List.map_cons,List.map_cons,if_pos rfl,if_pos rfl];exact .cons ⟨rfl,u⟩ g
   ·rw[List.map_cons,List.map_cons,if_neg hj,if_neg hj];exact .cons ⟨rfl,a⟩ g
 |false=>rw[hc]at e;simp only[e,Bool.false_eq_true,if_false];exact r.snoc ⟨rfl,u⟩
theorem Fz.setKey(z:Fz X V own env κ p.σ p.ρ s)(f:κ[n]?=some a)(L:p.σ[n]?=some (.dict l))(hsz:l.length<=ag+1)(S:Rep s.heap X κ v d):
 wpAny (model prog w) A (PySem.setItem (.ref a) (.int i t) v) (λu s'=>Fz X V own env κ (p.σ.set n (.dict (b9 l i d))) p.ρ s'/\Kp V s s'/\s.toks<=s'.toks) No s:=by
 refine hid λW J=>?_;have q:=z.al.T.at_ n _ a L f;obtain⟨_,H,kvs,R,ho,m,r,_,M⟩:=q;cases R;refine J ?_;clear J W
 ·have P:=M.len;refine wpAny_setItem_pairs (hsz:=by rw[sizeLine_eq];unfold ag at hsz;lia) (intKind_is prog w i t) (Heap.dictOf_iff.mpr ⟨_,ho,m⟩) λh' hD y=>?_;refine af (Heap.dictOf_iff.mp hD) λZ g j=>?_;have O:X a:=z.vx a (z.c.pk a (List.mem_of_getElem? f));have K:∀b o,¬X b->s.heap.get? b=some o->h'.get? b=some o:=λb o C e=>(y.2 b (λx=>C (x▸O))).trans e;have h:Z.dict=none:=by refine cb j λY E x B=>?_;exact x.2.1
  refine au (z.mutL (x':=.dict (b9 l i d)) (tk:=s.toks+1) (List.getElem?_eq_some_iff.mp L).1 f y g h (.dict g j r (pM (S.write O y) (M.keepsD K))) (Nat.le_succ _)) λU kp=>?_;exact⟨U,kp,Nat.le_succ _⟩
omit [aI] in
theorem uD(l:List (Int×PV))(i:Int)(d:PV):(b9 l i d).length<=l.length+1:=by
 unfold b9;split<;>simp
theorem re(IH:EvT F nc k)(a:AOk nc A)(hs:env.scope=sc)(z:Fz X V own env κ p.σ p.ρ s){x:Str}{i n m:Nat}{Y E sp Z tp pos:Pos}{J je e:Expr}{O pj pe:PE}{l:List (Int×PV)}{j i2:Int}{d1 d2:PV}(hi:idOf x=some i)
 (L:tr 60 sc J=some O) (ja:tr 60 sc je=some pj) (ht:tr 60 sc e=some pe) (jg:∀vs m q,e≠.Tuple vs m q) (Q:b8 p.ρ i=some (.cell n)) (H:p.σ[n]?=some (.dict l)) (M:ev F p.σ k O p.ρ=some (.int j)) (jc:ev F (p.σ.set n (.dict (b9 l j d1))) k pj p.ρ=some (.int i2)) (hd:ev F p.σ k pe p.ρ=some (.tuple [d1,d2])) (hsz:l.length<=ag) :
 wpAny (model prog w) A (exec (.Assign [.Tuple [.Subscript (.Name x Y) J sp,.Subscript (.Name x E) je Z] m tp] e pos) env) (Ex X V own env κ s {p with σ:=p.σ.set n (.dict (b9 (b9 l j d1) i2 d2))} .next) No s:=by
 have one:∀{J:Expr} {O:PE} {j:Int} {d1:PV} {v:Value} {q:PS'} {l:List (Int×PV)} {Y sp:Pos} {s:Shared},tr 60 sc J=some O->q.ρ=p.ρ->ev F q.σ k O q.ρ=some (.int j)->q.σ[n]?=some (.dict l)->l.length<=ag+1->Fz X V own env κ q.σ q.ρ s->Rep s.heap X κ v d1->
  wpAny (model prog w) A (PySem.assign (.Subscript (.Name x Y) J sp) env v) (λy s'=>Fz X V own env κ (q.σ.set n (.dict (b9 l j d1))) q.ρ s'/\Kp V s s'/\s.toks<=s'.toks) No s:=by
  intro J O j d1 v q l Y sp s L hq M H hsz z r;rw[assign_Subscript];refine Wb (wpAny_holding (Wm (wpAny_toks (eA z.al.S z.al.R hi (hq▸Q))) (λov s₂ ⟨B,c,r₂⟩=>Wb (wpAny_holding (cy IH L M a hs (z.gr c (Nt z.al.pos B)) λiv s₃ g₃ z₃ jh r₃=>Wb (wpAny_standAt (Wb (wpAny_holding ?_)))))) λy y f=>f.2));refine ah (qC r₃) λt C=>?_;clear hi Q hq r₃;subst C;refine af r₂.inv λad P hk=>?_;subst P
  ·
   refine Wm (z₃.setKey hk H hsz (z.al.rep (c.trans g₃) r)) (λ_ s₄ ⟨N,kp,t⟩=>wpAny_release ⟨N,(Kp.of_gr (c.trans g₃)).trans kp,Nt B (Nt jh t)⟩) λy y f=>f
 have jd:swappedStores [.Tuple [.Subscript (.Name x Y) J sp,.Subscript (.Name x E) je Z] m tp] e env=pure none:=by
  clear hi Q hsz;cases e<;>first|rfl|exact absurd rfl (jg _ _ _)
 refine Assign_Tuple (cy IH ht hd a hs z λu s₁ g U tk r=>?_) (ew ..) jd;obtain⟨T,vs,n',rfl,ha,jj,rs⟩:=r.inv
 ·
  refine aO (sO rs) λv1 v2 W r1 r2=>?_;subst W;refine wpAny_assign_Tuple (items:=#[v1,v2]) a.hd ⟨_,ha,rfl,n',rfl⟩ rfl rfl λh' hk=>?_;have K:∀b o,s₁.heap.get? b=some o->h'.get? b=some o:=λb o e=>hk b o (Nat.ne_of_lt (Heap.lt_size e)) e;have c:=Gr.kept (s:=s₁) (h':=h') (tk:=s₁.toks) U.al.S.tab K;have I:=U.gr c U.al.pos;refine wpAny_assignInOrder_more (Wm (one (q:=p) L rfl M H (Nat.le_succ_of_le hsz) I (c.rep U.al.S.xp r1)) (λ_ s₃ ⟨z₃,kp,t⟩=>?_) λy y f=>f);have ji:Rep s₃.heap X κ v2 d2:=(c.rep U.al.S.xp r2).keeps λb o hb e=>kp.2 b o (λh=>hb (I.vx b h)) (λh=>hb (h▸I.al.S.xp)) e;have jf:=(List.getElem?_eq_some_iff.mp H).1;refine wpAny_assignInOrder_more (Wm (one (q:=⟨p.ρ,p.σ.set n (.dict (b9 l j d1))⟩) ja rfl jc (List.getElem?_set_self jf) (by have:=uD l j d1;exact Nt this (Nat.succ_le_succ hsz)) z₃ ji) (λ_ s₄ ⟨N,jb,t2⟩=>Wp ?_) λy y f=>f);simp only[List.set_set]at N;exact .pre (g.trans c) tk I.hP (.next (.stay (p:={p with σ:=p.σ.set n (.dict (b9 (b9 l j d1) i2 d2))}) N (kp.trans jb) (Nt t t2)))
end
structure Lo(X:Addr->Prop)(V wr:List Addr)(own:Str->Bool)(env:Env)(κ:List Addr)(s₂:Shared)(V' κ':List Addr)(q:PS')(s':Shared):Prop where
 sub:∀a∈V,a∈V'
 new:∀a∈V',a∈V\/s₂.heap.get? a=none
 pre:∃e,κ'=κ++e
 kp:Kp (wr++V) s₂ s'
 tk:s₂.toks<=s'.toks
 z:Fz (λa=>(X a\/a∈wr)\/a∈V') V' own env κ' q.σ q.ρ s'
section
variable{A:Around}{s sb s₂ s' s₁ s₀:Shared}{X X' XA:Addr->Prop}{V V' wr:List Addr}{own:Str->Bool}{κ κ':List Addr}{σ σ':List Sto}{env:Env}{ρ ρ':ar}[aI]
 {F:Nat->List PV->Option PV} {nc k kt:Nat} {sc:Scope} {d:PV} {p p' q:PS'}
structure Ls(X:Addr->Prop)(V wr:List Addr)(own:Str->Bool)(env:Env)(κ:List Addr)(p:PS')(s sb s₂:Shared):Prop where
 z:Fz X V own env κ p.σ p.ρ s
 gr:Gr X s sb
 tk:s.toks<=sb.toks
 same:∃h tk,s₂={sb with heap:=h,toks:=tk}
 kb:∀b o,sb.heap.get? b=some o->s₂.heap.get? b=some o
 wr0:∀b∈wr,sb.heap.get? b=none
 wrx:∀b∈wr,∃o,s₂.heap.get? b=some o
 tk2:sb.toks<=s₂.toks
theorem Ls.sbx(L:Ls X V wr own env κ p s sb s₂)(h:X a):∃o,sb.heap.get? a=some o:=(L.z.gr L.gr (Nt L.z.al.pos L.tk)).al.S.ex a h
theorem Ls.xwr(L:Ls X V wr own env κ p s sb s₂)(h:X a):a∉wr:=λj=>by
 refine ah (L.sbx h) λo ho=>?_;rw[L.wr0 a j]at ho;exact no ho
theorem Ls.sOf(L:Ls X V wr own env κ p s sb s₂)(h:s₂.heap.get? a=none):s.heap.get? a=none:=by
 cases e:s.heap.get? a with
 |none=>rfl
 |some o=>
  by_cases hp:a=G.P
  ·subst hp;refine ah (L.sbx L.z.al.S.xp) λu j=>?_;rw[L.kb _ _ j]at h;injection h
  ·refine aO L.gr λh' t m g v=>?_;have:=g a o hp e;have h2:sb.heap.get? a=some o:=by rw[m];exact this
   rw[L.kb _ _ h2]at h;injection h
theorem Ls.start(L:Ls X V wr own env κ p s sb s₂):Lo X V wr own env κ s₂ V κ p s₂:=by
 have g:=L.z.gr L.gr (Nt L.z.al.pos L.tk);refine bx L.same λh tk j=>?_;subst j;have m:=g.grow (wr:=wr) (tk:=tk) L.kb L.wr0 L.wrx L.tk2;refine⟨λu h=>h,λu h=>.inl h,⟨[],by simp⟩,Kp.refl,Nr _,m.weaken (λa h=>h.elim id λh=>.inl (L.z.vx a h)) (λa h=>.inr h) (.inl (.inl L.z.al.S.xp))⟩
theorem Lo.vwr(l:Lo X V wr own env κ s₂ V' κ' q s')(L:Ls X V wr own env κ p s sb s₂)(h:a∈V'):a∉wr:=λj=>by
 rcases l.new a h with h|h
 ·exact L.xwr (L.z.vx a h) j
 ·refine ah (L.wrx a j) λo ho=>?_;rw[h]at ho;exact no ho
theorem Lo.finish(l:Lo X V wr own env κ s₂ V' κ' q s')(L:Ls X V wr own env κ p s sb s₂){h':Heap}{tk:Nat}(g:∀b o,b∉wr->s'.heap.get? b=some o->h'.get? b=some o)(v:s'.toks<=tk):
 Go X V own env κ s V' κ' q {s' with heap:=h',toks:=tk}/\∀b o,¬((X b\/b∈wr)\/b∈V')->s'.heap.get? b=some o->h'.get? b=some o/\¬(X b\/b∈V'):=by
 have f:∀b o,¬((X b\/b∈wr)\/b∈V')->s'.heap.get? b=some o->h'.get? b=some o/\¬(X b\/b∈V'):=λb o m e=>⟨g b o (λh=>m (.inl (.inr h))) e,λh=>h.elim (λh=>m (.inl (.inl h))) λh=>m (.inr h)⟩
 have t:G.P∉wr:=L.xwr L.z.al.S.xp;have K:Fz (λa=>X a\/a∈V') V' own env κ' q.σ q.ρ {s' with heap:=h',toks:=tk}:=by
  refine l.z.step f (λb c o e=>g b o (l.vwr L c) e) (λa j=>?_) (λa j=>.inr j) (.inl L.z.al.S.xp) (GxOk.tabMove _ _ _ _ (λb o u m e=>f b o m e) (λo e=>g _ o t e) l.z.al.S.tab) v;rcases j with j|j
  ·refine ah (l.z.al.S.ex a (.inl (.inl j))) λo ho=>?_;exact⟨o,g a o (L.xwr j) ho⟩
  ·refine ah (l.z.al.S.ex a (.inr j)) λo ho=>?_;exact⟨o,g a o (l.vwr L j) ho⟩
 refine⟨⟨l.sub,λa j=>(l.new a j).imp id λh=>L.sOf h,l.pre,⟨?_,λb o c v e=>?_⟩,Nt L.tk (Nt L.tk2 (Nt l.tk v)),K⟩,f⟩
 ·refine bx l.kp.1 λh1 U J=>?_;refine bx L.same λh2 W M=>?_;refine cb L.gr λR O y T=>?_;exact⟨h',tk,by rw[J,M,y]⟩
 ·refine aO L.gr λR O y i x=>?_;have r:sb.heap.get? b=some o:=by rw[y];exact i b o v e
  have n:b∉wr:=λh=>by rw[L.wr0 b h]at r;exact no r
  exact g b o n (l.kp.2 b o (λh=>(List.mem_append.mp h).elim n c) v (L.kb _ _ r))
omit [aI] in
theorem rY(hκ:∀(n:Nat) (a:Addr),κ[n]?=some a->κ'[n]?=some a)(r:dn tup h X κ v d):dn tup h X κ' v d:=by
 cases tup with
 |false=>exact Rep.move (λu u m e=>⟨e,m⟩) hκ r
 |true=>
  refine An r λT j l y z g t=>?_;clear r;subst y;subst g;exact⟨T,j,l,rfl,z,rfl,t.repMove (λu u m e=>⟨e,m⟩) hκ⟩
noncomputable def xr(A:Around)(env:Env)(own:Str->Bool)(body:List Stmt)(f:PS'->Option (Fl×PS')):Prop:=
 ∀p p' fl X V κ s,f p=some (fl,p')->Fz X V own env κ p.σ p.ρ s->wpAny (model prog w) A (execs body env) (Ex X V own env κ s p' fl) No s
omit [aI] in
theorem cJ(r:oQ h X κ f .next):f=.next:=by cases f<;>first|rfl|exact r.elim
omit [aI] in
theorem gD(r:oQ h X κ f .brk):f=.brk:=by cases f<;>first|rfl|exact r.elim
omit [aI] in
theorem eV(r:oQ h X κ f (.ret d)):∃v,f=.ret v/\Rep h X κ v d:=by cases f<;>first|exact⟨_,rfl,r⟩|exact r.elim
theorem Lo.touch(l:Lo X V wr own env κ s₂ V' κ' q s')(L:Ls X V wr own env κ p s sb s₂){h2:Heap}{tk:Nat}(m:∀b o,b∉wr->s'.heap.get? b=some o->h2.get? b=some o)(r:∀b∈wr,∃o,h2.get? b=some o)(g:s'.toks<=tk):
 Lo X V wr own env κ s₂ V' κ' q {s' with heap:=h2,toks:=tk}:=by
 have v:∀b o,¬((X b\/b∈wr)\/b∈V')->s'.heap.get? b=some o->h2.get? b=some o/\¬((X b\/b∈wr)\/b∈V'):=λb o j e=>⟨m b o (λh=>j (.inl (.inr h))) e,j⟩
 have t:G.P∉wr:=L.xwr L.z.al.S.xp;refine⟨l.sub,l.new,l.pre,⟨?_,λb o y c e=>m b o (λh=>y (List.mem_append_left _ h)) (l.kp.2 b o y c e)⟩,Nt l.tk g,?_⟩
 ·refine bx l.kp.1 λf n i=>?_;exact⟨h2,tk,by rw[i]⟩
 ·refine l.z.step v (λb y o e=>m b o (l.vwr L y) e) (λx j=>?_) l.z.vx l.z.al.S.xp (GxOk.tabMove _ _ _ _ (λb o u j e=>v b o j e) (λo e=>m _ o t e) l.z.al.S.tab) g;by_cases hw:x∈wr
  ·exact r x hw
  ·refine ah (l.z.al.S.ex x j) λo ho=>?_;exact⟨o,m x o hw ho⟩
theorem Lo.go(l:Lo X V wr own env κ s₂ V' κ' q s')(t:∀b∈wr,∃o,s'.heap.get? b=some o)(L:Ls X V wr own env κ p s sb s₂)(g:Go (λa=>(X a\/a∈wr)\/a∈V') V' own env κ' s' V'' κ'' p' s₁):Lo X V wr own env κ s₂ V'' κ'' p' s₁:=by
 refine⟨λa h=>g.sub a (l.sub a h),λb y=>?_,?_,⟨?_,λb o y m e=>?_⟩,Nt l.tk g.tk,?_⟩
 ·rcases g.new b y with h|h
  ·exact l.new b h
  ·by_cases hv:b∈V
   ·exact .inl hv
   ·refine .inr ?_;cases e:s₂.heap.get? b with
    |none=>rfl
    |some o=>
     by_cases m:b=G.P
     ·refine ah l.z.hP λf j=>?_;rw[<- m,h]at j;exact no j
     ·by_cases hw:b∈wr
      ·refine ah (t b hw) λf j=>?_;rw[h]at j;exact no j
      ·rw[l.kp.2 b o (λn=>(List.mem_append.mp n).elim hw hv) m e]at h;injection h
 ·refine ah l.pre λr v=>?_;subst v;refine ah g.pre λi h2=>?_;exact⟨r++i,by rw[h2,List.append_assoc]⟩
 ·refine bx l.kp.1 λM O x=>?_;refine bx g.kp.1 λc K J=>?_;exact⟨c,K,by rw[J,x]⟩
 ·have h1:=l.kp.2 b o y m e;exact g.kp.2 b o (λh=>(l.new b h).elim (λh=>y (List.mem_append_right _ h)) λh=>by rw[h]at e;exact no e) m h1
 ·have r:=gM (X:=λa=>X a\/a∈wr) g.sub;have u:=g.z;rw[r]at u;exact u
theorem Lo.old(l:Lo X V wr own env κ s₂ V' κ' q s')(L:Ls X V wr own env κ p s sb s₂)(g:¬X b)(e:sb.heap.get? b=some o):b∉wr/\b∉V'/\b≠G.P/\s'.heap.get? b=some o:=by
 have h1:b∉wr:=λh=>by rw[L.wr0 b h]at e;exact no e
 have h2:b≠G.P:=λh=>g (h▸L.z.al.S.xp);have m:b∉V:=λh=>g (L.z.vx b h);have j:=L.kb b o e;exact⟨h1,(λh=>(l.new b h).elim m λh=>by rw[h]at j;exact no j),h2,l.kp.2 b o (λh=>(List.mem_append.mp h).elim h1 m) h2 j⟩
omit [aI] in
theorem kY(h:qg go (f1,q1)=some (fl,p')):(f1=.next/\go q1=some (fl,p'))\/(f1=.brk/\fl=.next/\p'=q1)\/∃d,f1=.ret d/\fl=.ret d/\p'=q1:=by
 cases f1 with
 |next=>exact .inl ⟨rfl,h⟩
 |brk=>(replace h:=sp h;obtain⟨rfl,rfl⟩:=h);exact .inr (.inl ⟨rfl,rfl,rfl⟩)
 |ret d=>(replace h:=sp h;obtain⟨rfl,rfl⟩:=h);exact .inr (.inr ⟨d,rfl,rfl,rfl⟩)
theorem Lo.exit(l:Lo X V wr own env κ s₂ V' κ' q s')(L:Ls X V wr own env κ p s sb s₂){f:Flow}{y:Fl}(fr:oQ s'.heap (λa=>(X a\/a∈wr)\/a∈V') κ' f y):Ex X V own env κ s q y f s':=by
 refine au (l.finish L (h':=s'.heap) (tk:=s'.toks) (λu u u e=>e) (Nr _)) λm g=>?_;refine⟨V',κ',m,?_⟩;cases y with
 |next=>obtain rfl:=cJ fr;exact trivial
 |brk=>obtain rfl:=gD fr;exact trivial
 |ret d=>refine af (eV fr) λv j r=>?_;subst j;exact r.move g λu u e=>e
theorem zr(SR:lm F nc k)(h:ScF sc)(a:AOk nc A)(hs:env.scope=sc)(z:Fz X V (aW sc) env κ p.σ p.ρ s){t it:Expr}{body:List Stmt}{pos:Pos}{tp:Bool}{xs:List Nat}{E:PE}{ds:List PV}{bf:PS'->Option (Fl×PS')}{fl:Fl}
 (hx:dQ t=some (tp,xs)) (jr:tp=true\/iI it=false) (ho:∀x∈xs,isV sc (nm x)=true) (hi:trI (tr 60 sc) sc it=some E) (jl:aQ F p.σ false k E p.ρ=some ds) (y:∀d∈ds,∃ρ',a6 tp xs d []=some ρ')
 (hB:xr A env (aW sc) body bf) (O:cQ bf tp xs ds p=some (fl,p')) :
 wpAny (model prog w) A (exec (.For t it body [] pos) env) (Ex X V (aW sc) env κ s p' fl) No s:=by
 refine wpAny_For (Wm (SR p.σ 60 sc it E p.ρ ds false t tp xs hi jl hx jr y A env X κ s a hs z.al) (λx s₁ h₁=>Wm h₁ (λju s₂ hS=>?_) λu u f=>f) λu u f=>f) (λx=>mO hi x);refine hid λr j=>?_;obtain⟨sb,I,fp,wr,P,Md,St,rfl,W,M,l,jc,jk,jj,gr,B,jg,jh,tk2,ji⟩:=hS;refine j ?_;clear j r;have L:Ls X V wr (aW sc) env κ p s sb s₂:=⟨z,gr,jh,B,jg,jc,l 0 _ M,tk2⟩
 have js:G.P∉wr:=L.xwr z.al.S.xp;refine codeAny_forLoop_any (λm s'=>∃i V' κ' q,i<=ds.length/\m=ds.length+1 - i/\cQ bf tp xs (ds.drop i) q=some (fl,p')/\St i s'.heap/\Lo X V wr (aW sc) env κ s₂ V' κ' q s') ?_ (ds.length+1) ⟨0,V,κ,p,Nat.zero_le _,rfl,O,M,L.start⟩;intro m s' hm;refine hid λr j=>?_;obtain⟨i,V',κ',q,Q,rfl,hl,N,lo⟩:=hm;refine j ?_;clear j r;by_cases hlt:i<ds.length
 ·refine wpAny_with_toks (Nr s'.toks) (W.item i s' _ _ hlt N λv h1 T jq U Y=>W.go i v {s' with heap:=h1,toks:=T} _ _ jq λh2 jf J je=>?_);have hk:∀b o,b∉wr->s'.heap.get? b=some o->h2.get? b=some o:=λb o y e=>je b o y (U b o y e);have g:=lo.touch L hk (l _ _ J) Y;obtain⟨d,jp,ja⟩:=ji i v h2 (λa=>(X a\/a∈wr)\/a∈V') jf hlt (λb o y e=>by
   refine hid λr j=>?_;obtain⟨h1,h3,h4,h5⟩:=g.old L y e;refine j ?_;clear j r;exact⟨h5,λh=>h.elim (λh=>h.elim y h1) h3⟩) nofun
  have H:ds.drop i=d::ds.drop (i+1):=by
   rw[List.drop_eq_getElem_cons hlt,(List.getElem?_eq_some_iff.mp jp).2]
  rw[H]at hl;refine hid λr j=>?_;refine wbb hl λρ' jd hl hρ R=>?_;obtain⟨f1,q1⟩:=jd;refine j ?_;clear j r;have kx:∀(n:Nat) (a:Addr),κ[n]?=some a->κ'[n]?=some a:=λn a h=>by
   refine hid λr j=>?_;obtain⟨e,rfl⟩:=lo.pre;refine j ?_;clear j r;rw[List.getElem?_append_left (List.getElem?_eq_some_iff.mp h).1];exact h
  refine Wm (g.z.assign a.hd hx (λx hx=>fF h (ho x hx)) hρ (rY kx ja)) (λu s3 q3=>?_) λu u f=>f.elim;refine hid λr j=>?_;obtain⟨z3,Z,t3⟩:=q3;refine j ?_;clear j r;replace z3:=z3.sub (ρ:=norm ρ') λx d h=>by rw[<- ac];exact h
  have jm:Lo X V wr (aW sc) env κ s₂ V' κ' {q with ρ:=norm ρ'} s3:=by
   refine⟨g.sub,g.new,g.pre,⟨?_,λb o y hp e=>?_⟩,Nt g.tk t3,z3⟩
   ·obtain⟨a1,a2,a3⟩:=g.kp.1;refine hid λr j=>?_;obtain⟨b1,b2,b3⟩:=Z.1;refine j ?_;clear j r;exact⟨b1,b2,by rw[b3,a3]⟩
   ·exact Z.2 b o (λh=>(lo.new b h).elim (λh=>y (List.mem_append_right _ h)) λh=>by rw[h]at e;exact no e) hp (g.kp.2 b o y hp e)
  have c:∀b∈fp,b∉V'/\b≠G.P:=λb y=>by
   rcases jk b y with hw|⟨hp,⟨o',jt⟩,jo|⟨hf,_⟩⟩
   ·exact⟨λh=>lo.vwr L h hw,λh=>js (h▸hw)⟩
   ·obtain⟨_,h3,h4,_⟩:=g.old L jo jt;exact⟨h3,h4⟩
   ·exact nf hf
  have K:St (i+1) s3.heap:=W.frame _ _ _ J λb y o e=>Z.2 b o (c b y).1 (c b y).2 e;refine Wm (hB _ q1 f1 _ V' κ' s3 R z3) (λf s4 q4=>?_) λu u f=>f.elim;refine hid λr j=>?_;obtain⟨V'',κ'',go,fr⟩:=q4;refine j ?_;clear j r;have jb:St (i+1) s4.heap:=W.frame _ _ _ K λb y o e=>go.kp.2 b o (c b y).1 (c b y).2 e;have C:=jm.go (l _ _ K) L go;rw[gM (X:=λa=>X a\/a∈wr) go.sub]at fr;rcases kY hl with⟨rfl,hl⟩|⟨rfl,rfl,rfl⟩|⟨d',rfl,rfl,rfl⟩
  ·obtain rfl:=cJ fr;exact⟨ds.length+1 - (i+1),xD Q,i+1,V'',κ'',q1,hlt,rfl,hl,jb,C⟩
  ·obtain rfl:=gD fr;exact C.exit L trivial
  ·obtain⟨v',rfl,rv⟩:=eV fr;exact C.exit L rv
 ·have jn:i=ds.length:=xG Q hlt;subst jn;rw[List.drop_length]at hl;(replace hl:=sp hl;obtain⟨rfl,rfl⟩:=hl)
  refine wpAny_with_toks (Nr s'.toks) (W.done s' _ _ N λh1 T U Y=>?_);exact wpAny_execs_nil (.next (lo.finish L (h':=h1) (tk:=T) U Y).1)
end
section
variable{A:Around}{s sb s₂ s' s₁ s₀:Shared}{X X' XA:Addr->Prop}{V V' wr:List Addr}{own:Str->Bool}{κ κ':List Addr}{σ σ':List Sto}{env:Env}{ρ ρ':ar}[aI]
 {F:Nat->List PV->Option PV} {nc k kt:Nat} {sc:Scope} {d:PV} {p p' q:PS'}
theorem vm(K:IsT F nc k)(a:AOk nc A)(L:env.scope=sc)(z:Fz X V own env κ p.σ p.ρ s)
 (hc:tr 60 sc c=some pc) (U:xr A env own body bf) (g:bS (λs=>(ev F s.σ k pc s.ρ).bind truthy) bf m p=some (fl,p')) :
 wpAny (model prog w) A (exec (.While c body [] pos) env) (Ex X V own env κ s p' fl) No s:=by
 refine wpAny_While (codeAny_whileLoop (λm s'=>∃V' κ' q,bS (λs=>(ev F s.σ k pc s.ρ).bind truthy) bf m q=some (fl,p')/\Go X V own env κ s V' κ' q s') ?_ m ⟨V,κ,p,g,.refl z⟩);intro m s' W;clear g;refine hid λv j=>?_;obtain⟨V',κ',q,hl,i⟩:=W;refine j ?_;clear j v;cases m with
 |zero=>exact no hl
 |succ m=>
  refine hid λv j=>?_;obtain⟨b,o,hl⟩:=ob hl;obtain⟨d,hd,o⟩:=ob o;refine j ?_;clear j v;refine Wm (wpAny_toks (K q.σ 60 sc c pc q.ρ d b hc hd o A env _ κ' s' a L i.z.al)) (λr P n=>?_) λu u f=>f.2.elim;clear K a L hc o hd;refine hid λv j=>?_;obtain⟨M,J,rfl⟩:=n;refine j ?_;clear j v;have O:=i.z.gr J (Nt i.z.al.pos M);have e:Go X V own env κ s V' κ' q P:=i.trans i.hP (.stay O (Kp.of_gr J) M);cases r with
  |false=>
   rw[if_neg Bool.false_ne_true]at hl ⊢;(replace hl:=sp hl;obtain⟨rfl,rfl⟩:=hl)
   exact wpAny_execs_nil (.next e)
  |true=>
   rw[if_pos rfl]at hl ⊢;refine hid λv j=>?_;obtain⟨⟨T,n⟩,y,hl⟩:=ob hl;refine j ?_;clear j v;refine Wm (U q.norm n T _ V' κ' P y (O.sub (ρ:=norm q.ρ) λx d h=>by rw[<- ac];exact h)) (λf Z Y=>?_) λu u f=>f.elim;refine hid λv j=>?_;obtain⟨V'',κ'',l,fr⟩:=Y;refine j ?_;clear j v;have R:=gM (X:=X) l.sub;rw[R]at fr;have t:=e.trans (p:=q) e.hP l;rcases kY hl with⟨rfl,hl⟩|⟨rfl,rfl,rfl⟩|⟨d',rfl,rfl,rfl⟩
   ·obtain rfl:=cJ fr;exact⟨m,Nat.lt_succ_self m,V'',κ'',n,hl,t⟩
   ·obtain rfl:=gD fr;exact .next t
   ·obtain⟨B,rfl,S⟩:=eV fr;exact⟨V'',κ'',t,S⟩
end
noncomputable def ExT(LE:Env->Prop)(F:Nat->List PV->Option PV)(lam:Bool)(nc k:Nat)(P:PS->Prop):Prop:=
 ∀kt sc st ps p p' fl,P ps->trS kt sc st=some ps->exS F lam k ps p=some (fl,p')->ScF sc->∀A env X V κ s,AOk nc A->env.scope=sc->(lam=true->LE env)->Fz X V (aW sc) env κ p.σ p.ρ s->
  wpAny (model prog w) A (exec st env) (Ex X V (aW sc) env κ s p' fl) No s
noncomputable def sB(LE:Env->Prop)(F:Nat->List PV->Option PV)(lam:Bool)(nc k:Nat):Prop:=
 ∀kt sc sts ps p p' fl,kg kt sc sts=some ps->aU F lam k ps p=some (fl,p')->ScF sc->∀A env X V κ s,AOk nc A->env.scope=sc->(lam=true->LE env)->Fz X V (aW sc) env κ p.σ p.ρ s->
  wpAny (model prog w) A (execs sts env) (Ex X V (aW sc) env κ s p' fl) No s
section
variable[aI]{F:Nat->List PV->Option PV}{nc k:Nat}{LE:Env->Prop}{lam:Bool}
theorem uA(h1:ExT LE F lam nc k λu=>True)(h2:sB LE F lam nc k):sB LE F lam nc (k+1):=by
 intro kt sc y ps p p' P t hd g A env X V κ s a i hl z;cases kt with
 |zero=>exact no t
 |succ kt=>
 cases y with
 |nil=>
  (replace t:=si t;subst t);(replace hd:=sp hd;obtain⟨rfl,rfl⟩:=hd)
  exact wpAny_execs_nil (.next (.refl z))
 |cons st y=>
  refine hid λL o=>?_;refine wbm t λq K n h m=>?_;clear t;subst n;refine obk hd λM j c=>?_;obtain⟨x,J⟩:=M;refine o ?_;clear o L;rw[arm_execs_cons];refine Wb (Wm (h1 kt sc st q p J x trivial h c g A env X V κ s a i hl z) (λf O q=>?_) λu u f=>f);refine cb q λV' κ' b fr=>?_;clear h1 h hd c q;cases x with
  |next=>
   obtain rfl:=cJ fr;exact Wm (h2 kt sc y K J p' P m j g A env _ V' κ' O a i hl b.z) (λf R e=>.after b e) λu u f=>f
  |brk=>
   clear h2 g a i hl z m;obtain rfl:=gD fr;(replace j:=sp j;obtain⟨rfl,rfl⟩:=j)
   exact Wp ⟨V',κ',b,trivial⟩
  |ret d=>
   refine af (eV fr) λv l r=>?_;clear h2 g a i hl z m fr;subst l;(replace j:=sp j;obtain⟨rfl,rfl⟩:=j)
   exact Wp ⟨V',κ',b,r⟩
noncomputable abbrev oN(LE:Env->Prop)(F:Nat->List PV->Option PV)(lam:Bool)(nc k:Nat)(sc:Scope)(st:Stmt)(ps:PS):Prop:=
 ∀(p p':PS') (fl:Fl),exS F lam (k+1) ps p=some (fl,p')->ScF sc->∀A env X V κ s,AOk nc A->env.scope=sc->(lam=true->LE env)->Fz X V (aW sc) env κ p.σ p.ρ s->
  wpAny (model prog w) A (exec st env) (Ex X V (aW sc) env κ s p' fl) No s
structure y4(LE:Env->Prop)(F:Nat->List PV->Option PV)(lam:Bool)(nc k:Nat):Prop where
 sort:∀sc x np v pos i a l ps,isV sc x=true->idOf x=some i->fI sc v=some (a,l)->pB sc i a l=some ps->oN LE F lam nc k sc (.Assign [.Name x np] v pos) ps
 attr:∀sc x np n ap v pos i m pe,idOf x=some i->cj.contains n=true->idOf n=some m->tr 60 sc v=some pe->oN LE F lam nc k sc (.Assign [.Attribute (.Name x np) n ap] v pos) (.setAttr i m pe)
 unesc:∀sc t i b pos u,hH sc t i b=some u->oN LE F lam nc k sc (.For t i b [] pos) (.unesc u.x u.y u.p u.a u.sep u.b)
section
variable(FO:FOk F nc)(H:y4 LE F lam nc k)
include FO H
theorem xT(g:sP sc ts v=some ps):oN LE F lam nc k sc (.Assign [.Tuple ts n tp] v pos) ps:=by
 intro p p' fl hd f A env X V κ s a S hl z;have N:=(bu FO k).1;unfold sP at g;cases hv:j9 v with
 |some vs=>
  rw[hv]at g;refine hid λu j=>?_;refine ze g λxs ja E hc i J=>?_;subst E;refine bx (iC hv) λm vp L=>?_;subst L;refine wbi hd λr hd hr b=>?_;(replace hd:=sp hd;obtain⟨rfl,rfl⟩:=hd)
  refine j ?_;clear j u;exact Ab N f a S z i hc J hr b.1 b.2.1 b.2.2
 |none=>
  rw[hv]at g;have K:∀vs m q,v≠.Tuple vs m q:=λvs m q e=>by rw[e]at hv;injection hv
  cases h2:u7 ts with
  |some q=>
   refine hid λu j=>?_;obtain⟨⟨o1,i1⟩,o2,i2⟩:=q;rw[h2]at g;refine zU g λx y pi g hx hy Y I=>?_;refine wbm g λpj pe R U c=>?_;subst R;refine j ?_;clear j u;refine hid λu j=>?_;refine iZ h2 λq1 q2 q3 h6 h3 h5 h7=>?_;cases h6;refine ah (iM h5) λsp e3=>?_;refine ah (iM h7) λjd e4=>?_;obtain rfl:=(ek h3).trans (by rw[e3,e4]);refine aO (bG hx) λxn np e1 jb o=>?_;refine aO (bG hy) λyn je e2 jc W=>?_;dsimp only at e1 e2;subst e1 e2;obtain rfl:=eq_of_beq Y;refine j ?_;clear j u;have hn:xn=yn:=by rw[<- (bV o).1,<- (bV W).1]
   subst hn;refine hid λu j=>?_;refine wbb hd λdv y9 hd P hq=>?_;obtain⟨d1,d2⟩:=y9;refine gU hd λn' di a1 t hd B O Q hσ=>?_;refine oT hd λl dj b1 hd Z h T hsz=>?_;cases hd;rw[jM hq]at P;rw[aA Q]at O;rw[aA T]at h;rw[oB Z]at hσ;refine j ?_;clear j u;exact re N a S z o I U c K (cB B) hσ O h P hsz
  |none=>
   rw[h2]at g;refine hid λu j=>?_;refine wbm g λxs pe M i c=>?_;subst M;refine wbb hd λd ρ' hd C hb=>?_;(replace hd:=sp hd;obtain⟨rfl,rfl⟩:=hd)
   refine j ?_;clear j u;exact t7 N f a S z i K c C hb
theorem vS(g:mW sc t v=some ps):oN LE F lam nc k sc (.Assign [t] v pos) ps:=by
 have q:=bC t;unfold mW at g;generalize c5 t=vw at q g;cases vw with
 |name x=>
  refine ah q λh O=>?_;subst O;refine wib g λi g C y=>?_;cases hso:fI sc v with
  |some al=>obtain⟨a,l⟩:=al;rw[hso]at g;exact H.sort sc x h v pos i a l ps C y hso g
  |none=>
   rw[hso]at g;refine omk g λP r u=>?_;subst r;intro p p' Q hd e A env X V κ s a M hl z;refine obk hd λL hd T=>?_;obtain⟨d,p1⟩:=L;(replace hd:=sp hd;obtain⟨rfl,rfl⟩:=hd)
   exact uI FO e a M z C y u T
 |tup ts=>refine bx q λn tp K=>?_;subst K;exact xT FO H g
 |attr o n ap=>
  obtain rfl:=q;refine xP g λi m g y hc N=>?_;refine omk g λP c u=>?_;subst c;obtain⟨x,h,rfl,_,y⟩:=bG y;exact H.attr sc x h n ap v pos i m P y hc N u
 |sub o i=>
  refine ah q λsp J=>?_;subst J;refine iZ g λx pi P b E W u=>?_;subst b;refine aO (bG E) λxn h U z8 y=>?_;subst U;intro p p' Q hd e A env X V κ s a M hl z;refine pJ hd λdv n' di hd Y S f=>?_;refine pJ hd λa1 t l hd Z B R=>?_;refine wbi hd λj hd I hsz=>?_;cases hd;rw[aA Z]at f;rw[cZ R]at B;exact tS (bu FO k).1 a M z y W u (cB S) B f Y I hsz.1 hsz.2
 |_=>exact no g
theorem v9(b:xK sc e=some ps):oN LE F lam nc k sc (.Expr e pos) ps:=by
 intro p p' fl hd ja A env X V κ s a P hl z;have Q:=(bu FO k).1;refine wbi b λm M N j=>?_;clear b;obtain rfl:=eF N;clear N;obtain⟨o,n,apos,args,I⟩:=m;dsimp only at M j;by_cases hp:(n==("pop":Str)&&args.isEmpty)=true
 ·obtain⟨i,u,rfl⟩:=om ((if_pos hp).symm.trans M);refine hid λJ v=>?_;obtain⟨h1,h2⟩:=ba hp;obtain⟨x,E,rfl,_,u⟩:=bG u;obtain rfl:=eq_of_beq h1;obtain rfl:=List.isEmpty_iff.mp h2;obtain⟨⟨d,p1⟩,f,hd⟩:=ob hd;(replace hd:=sp hd;obtain⟨rfl,rfl⟩:=hd)
  refine v ?_;clear v J;exact yf a P z u j f
 ·refine wib ((if_neg hp).symm.trans M) λe1 b B K=>?_;obtain rfl:=eq_of_beq B;obtain rfl:=b0 K;clear hp B K M
  case _=>
   cases hsub:lw o with
   |some q=>
    rw[hsub]at b;refine hid λJ v=>?_;refine iZ b λi pi pe T u L y=>?_;subst T;obtain⟨sp,rfl⟩:=iM hsub;obtain⟨qo,qi⟩:=q;obtain⟨x,E,ex,_,O⟩:=bG u;dsimp only at ex L;subst ex;refine gU hd λn' t l di hd c C U Z=>?_;refine gU hd λdm m' d t2 hd h Y S g=>?_;refine wbi hd λl2 hd r hsz=>?_;cases hd;rw[cZ U]at C;rw[cZ r]at g;rw[j3 Y]at h;refine v ?_;clear v J;exact o8 Q a P z O j L y (cB c) C Z h S g hsz
   |none=>
    rw[hsub]at b;refine hid λJ v=>?_;refine wbm b λi pe W u y=>?_;subst W;obtain⟨x,E,rfl,_,u⟩:=bG u;refine gU hd λR n' t2 l2 hd f c g r=>?_;obtain⟨d,p1⟩:=R;obtain⟨hsz,hd⟩:=oi hd;(replace hd:=sp hd;obtain⟨rfl,rfl⟩:=hd)
    rw[cZ r]at g;refine v ?_;clear v J;exact tZ Q a P z u j y f (cB c) g hsz
theorem wz(h2:sB LE F lam nc k):ExT LE F lam nc (k+1) λw=>True:=by
 intro kt sc st ps p p' O _ j hd g A env X V κ s a m hl z;refine bc (bu FO k) λIH IT SR=>?_;cases kt with
 |zero=>exact no j
 |succ kt=>
 cases st with
 |Assign B v pos=>
  cases B with
  |nil=>exact no j
  |cons t B=>
   cases B with
   |nil=>exact vS FO H (show mW sc t v=some ps from j) p p' O hd g A env X V κ s a m hl z
   |cons t2 B=>
    refine wbm j λxs pe U je h=>?_;subst U;refine obk hd λd hd L=>?_;(replace hd:=sp hd;obtain⟨rfl,rfl⟩:=hd)
    exact rI IH g a m z je h L
 |Expr e pos=>exact v9 FO H (show xK sc e=some ps from j) p p' O hd g A env X V κ s a m hl z
 |If c x y pos=>
  refine iZ j λpc pa M Y hc ha hb=>?_;subst Y;refine wbb hd λdc b hd Q jf=>?_;refine wpAny_If (Wm (wpAny_toks (IT p.σ 60 sc _ pc p.ρ dc b hc Q jf A env X κ s a m z.al)) (λr s1 q=>?_) λw w f=>f.2);refine bc q λt1 I R=>?_;subst R;have C:=z.gr I (Nt z.al.pos t1);cases r with
  |true=>
   rw[if_pos rfl]at hd ⊢;exact Wm (h2 kt sc _ pa p p' O ha hd g A env X V κ s1 a m hl C) (λf s2 e=>.pre I t1 C.hP e) λw w f=>f
  |false=>
   rw[if_neg Bool.false_ne_true]at hd ⊢;exact Wm (h2 kt sc _ M p p' O hb hd g A env X V κ s1 a m hl C) (λf s2 e=>.pre I t1 C.hP e) λw w f=>f
 |For t i b Z pos=>
  replace j:=oi (show(if Z.isEmpty=true then _ else none)=some ps from j);obtain⟨J,j⟩:=j;obtain rfl:=List.isEmpty_iff.mp J;cases hu:hH sc t i b with
  |some u=>
   rw[hu]at j;(replace j:=si j;subst j)
   exact H.unesc sc t i b pos u hu p p' O hd g A env X V κ s a m hl z
  |none=>
   rw[hu]at j;refine wbi j λjh j E hc=>?_;obtain⟨tp,xs⟩:=jh;obtain⟨jb,jg⟩:=ba hc;refine wbm j λji M jd S l=>?_;subst jd;refine wbi hd λds hd N fW=>?_;refine zr SR g a m z E ((bo jb).imp id bn) (List.all_eq_true.mp jg) S N (λd ja=>Option.isSome_iff_exists.mp (List.all_eq_true.mp fW d ja)) ?_ hd;intro p1 p2 f2 X' V' κ' s' n z';exact h2 kt sc _ M p1 p2 f2 l n g A env X' V' κ' s' a m hl z'
 |While c b Z pos=>
  replace j:=oi (show(if Z.isEmpty=true then _ else none)=some ps from j);obtain⟨J,j⟩:=j;obtain rfl:=List.isEmpty_iff.mp J;refine wbm j λpc M jc hc l=>?_;subst jc;refine vm IT a m z hc ?_ hd;intro p1 p2 f2 X' V' κ' s' n z';exact h2 kt sc _ M p1 p2 f2 l n g A env X' V' κ' s' a m hl z'
 |Return o pos=>
  refine obk j λe j P=>?_;subst P;refine omk j λpe T h=>?_;subst T;refine omk hd λd e L=>?_;cases e;exact zE IH a m z h L
 |Break pos=>
  (replace j:=si j;subst j)
  (replace hd:=sp hd;obtain⟨rfl,rfl⟩:=hd)
  rw[arm_exec_Break];exact Wb (wpAny_standAt (Wp ⟨V,κ,.refl z,trivial⟩))
 |Try b K Z fb pos=>
  replace j:=oi (show(if(!K.isEmpty&&Z.isEmpty&&fb.isEmpty)=true then _ else none)=some ps from j);refine au j λhc j=>?_;refine wa2 hc λh1 h4 h3=>?_;refine omk j λM W l=>?_;subst W;obtain rfl:=List.isEmpty_iff.mp h3;obtain rfl:=List.isEmpty_iff.mp h4;cases K with
  |nil=>exact nf h1
  |cons h0 K=>
  refine wpAny_Try_except (Wm (h2 kt sc _ M p p' O l hd g A env X V κ s a m hl z) (λf s1 e=>?_) λw w f=>f.elim);cases f with
  |next=>exact wpAny_execs_nil e
  |_=>exact e
 |_=>exact no j
end
theorem tz(g:FOk F nc)(H:∀k,y4 LE F lam nc k):∀k,(ExT LE F lam nc k λu=>True)/\sB LE F lam nc k:=by
 intro k;induction k with
 |zero=>exact⟨λu u u u u u u u u hd=>by(exact no hd),λu u u u u u u u hd=>by(exact no hd)⟩
 |succ k j=>exact⟨wz g (H k) j.2,uA j.1 j.2⟩
end
theorem aT.through(r:aT R as bs):∀{j:List γ},bs.mapM f=some j->(∀a b e,R a b->f b=some e->e∈j->R' a e)->aT R' as j:=by
 induction r with
 |nil=>intro j g _;obtain rfl:=mn g;exact .nil
 |cons a b y=>
  intro j g H;refine mck g λe t q m u=>?_;clear g;subst u;exact .cons (H _ _ _ a q (.head _)) (y m λa b e h1 h2 z=>H a b e h1 h2 (.tail _ z))
section
variable{h h':Heap}{X X' Y Y':Addr->Prop}{κ κ':List Addr}{v:Value}{d:PV}
theorem Rep.dropC(H:∀b o,¬X b->h.get? b=some o->h'.get? b=some o/\¬X' b)(r:Rep h X κ v d):∀(n:Nat),aH n d=true->Rep h' X' κ' v d:=by
 induction r with
 |none=>exact λu u=>.none
 |bool b=>exact λu u=>.bool b
 |int i t=>exact λu u=>.int i t
 |str l t=>exact λu u=>.str l t
 |tupleC m g hl r z=>
  intro n j;cases n with
  |zero=>exact nf j
  |succ n=>exact .tupleC (H _ _ g m).1 (H _ _ g m).2 hl λi v d q y=>z i v d q y n (bK j _ (List.mem_of_getElem? y))
 |listC m g hl r z=>
  intro n j;cases n with
  |zero=>exact nf j
  |succ n=>exact .listC (H _ _ g m).1 (H _ _ g m).2 hl λi v d q y=>z i v d q y n (bK j _ (List.mem_of_getElem? y))
 |dictC m ho x g hl k r z=>
  intro n j;cases n with
  |zero=>exact nf j
  |succ n=>exact .dictC (H _ _ g m).1 ho x (H _ _ g m).2 hl k λi v d q y=>z i v d q y n (bK j _ (List.mem_of_getElem? y))
 |objC hd m hc f e g c hl k r z=>
  intro n j;cases n with
  |zero=>exact nf j
  |succ n=>exact .objC hd (H _ _ g m).1 hc f (H _ _ c e).1 (H _ _ g m).2 (H _ _ c e).2 hl k λi v d q y=>z i v d q y n (bK j _ (List.mem_of_getElem? y))
 |fn p=>exact λu u=>.fn p
 |cell k=>intro n j;cases n<;>exact nf j
theorem aT.dropC(H:∀b o,¬X b->h.get? b=some o->h'.get? b=some o/\¬X' b)(n:Nat)(r:aY h X κ vs ds)(g:∀e∈ds,aH n e=true):aY h' X' κ' vs ds:=
 .of r.len λi a b m j=>(r.idx i a b m j).dropC H n (g _ (List.mem_of_getElem? j))
theorem Top.avoid(t:Top Y h X κ v d)(u:∀b o,v=.ref b->¬Y b->h.get? b=some o->¬Y' b/\∀dx o2,o.dict=some dx->¬Y dx->h.get? dx=some o2->¬Y' dx):Top Y' h X κ v d:=by
 cases d with
 |tuple l=>obtain⟨_,_,_,rfl,j,m,r⟩:=t;exact⟨_,_,_,rfl,j,(u _ _ rfl m j).1,r⟩
 |list l=>obtain⟨_,_,_,rfl,j,m,r⟩:=t;exact⟨_,_,_,rfl,j,(u _ _ rfl m j).1,r⟩
 |dict l=>obtain⟨_,_,_,rfl,j,ho,c,m,r⟩:=t;exact⟨_,_,_,rfl,j,ho,c,(u _ _ rfl m j).1,r⟩
 |obj l=>obtain⟨_,_,_,_,_,rfl,hd,j,hc,e,g,z,y,r⟩:=t;have q:=u _ _ rfl z j;exact⟨_,_,_,_,_,rfl,hd,j,hc,e,g,q.1,q.2 _ _ hd y g,r⟩
 |_=>exact t
theorem Rep.freeze(T:dL h X κ σ)(H:∀b o,¬X b->h.get? b=some o->¬X' b)(hκ:∀a∈κ,¬X' a/\∀o dx,h.get? a=some o->o.dict=some dx->¬X' dx):
 ∀(n m:Nat) {v:Value} {d d':PV},Rep h X κ v d->Internal.freeze σ n d=some d'->aH m d'=true->Rep h X' κA v d':=by
 intro n;induction n with
 |zero=>intro m v d d' r j;exact no j
 |succ n R=>
  intro m v d d' r j hc;refine obk (show Option.bind _ _=some d' from j) λd1 j z=>?_;have t:Top X' h X κ v d1:=by
   by_cases y:∃i,d=.cell i
   ·refine ah y λi L=>?_;subst L;refine af (kU z) λx I s=>?_;subst s;refine af r.inv λa O E=>?_;subst O;refine(T.at_ i x a I E).avoid λb o e u ho=>?_;cases e;have q:=hκ _ (List.mem_of_getElem? E);exact⟨q.1,λdx F hd u u=>q.2 o dx ho hd⟩
   ·rw[mP z λi e=>y ⟨i,e⟩];exact r.inv.avoid λb o u hb ho=>⟨H b o hb ho,λdx F u J h2=>H dx F J h2⟩
  have S:∀{q:PV},m=0->aH m q=true->cC q=Option.none/\iw q=Option.none/\eP q=Option.none/\lD q=Option.none:=λe hq=>by
   subst e;refine wa4 hq λz5 h2 h3 h4 Q=>?_;exact⟨Option.isNone_iff_eq_none.mp h3,Option.isNone_iff_eq_none.mp h2,Option.isNone_iff_eq_none.mp h4,Option.isNone_iff_eq_none.mp Q⟩
  cases d1 with
  |list l=>
   refine omk j λU L g=>?_;subst L;obtain⟨a,vs,k,rfl,K,c,M⟩:=t;cases m with
   |zero=>cases(S rfl hc).1
   |succ m=>exact .list K c (M.through g λa b e r p P=>R m r p (bK hc _ P))
  |tuple l=>
   refine omk j λU s g=>?_;subst s;obtain⟨a,vs,k,rfl,K,c,M⟩:=t;cases m with
   |zero=>cases(S rfl hc).2.1
   |succ m=>exact .tuple K c (M.through g λa b e r p P=>R m r p (bK hc _ P))
  |dict l=>
   refine omk j λU O g=>?_;subst O;obtain⟨a,o,kvs,rfl,K,ho,N,c,M⟩:=t;cases m with
   |zero=>cases(S rfl hc).2.2.1
   |succ m=>
    refine .dict K ho N c (M.through g λa b e r p P=>?_);refine omk p λd2 W h2=>?_;subst W;exact⟨r.1,R m r.2 h2 (bK hc _ P)⟩
  |obj l=>
   refine omk j λU Z g=>?_;subst Z;obtain⟨x,dx,ox,en,k,rfl,hd,K,y,hn,J,c,B,M⟩:=t;cases m with
   |zero=>cases(S rfl hc).2.2.2
   |succ m=>
    refine .obj hd K y hn J c B (M.through g λa b e r p P=>?_);refine omk p λd2 C h2=>?_;subst C;exact⟨r.1,R m r.2 h2 (bK hc _ P)⟩
  |none=>(replace j:=si j;subst j);obtain rfl:=t;exact .none
  |bool b=>(replace j:=si j;subst j);obtain rfl:=t;exact .bool b
  |int i=>(replace j:=si j;subst j);obtain⟨t,rfl⟩:=t;exact .int i t
  |str l=>(replace j:=si j;subst j);obtain⟨t,rfl⟩:=t;exact .str l t
  |fn f=>(replace j:=si j;subst j);refine af t λa A j=>?_;subst A;exact .fn j
  |cell i=>(replace j:=si j;subst j);cases m<;>exact nf hc
end
theorem iV(j:Str->Option NameKind):∀(g:List (Str×Value)) (m:Str->Option Value) (n:Str),(∀b∈g,b.1≠n)->bindL j g m n=m n
 |[],m,n,_=>rfl
 |(k,v)::r,m,n,h=>by
  unfold bindL;rw[iV j r _ n λb u=>h b (.tail _ u)];split
  ·have:n≠k:=λe=>h (k,v) (.head _) e.symm;simp[this]
  ·rfl
theorem iT(j:Str->Option NameKind):∀(g:List (Str×Value)) (m:Str->Option Value) (n:Str),(∀b∈g,b.1≠n)->bindC j g m n=m n
 |[],m,n,_=>rfl
 |(k,v)::r,m,n,h=>by
  unfold bindC;rw[iT j r _ n λb u=>h b (.tail _ u)];split
  ·rfl
  ·have:n≠k:=λe=>h (k,v) (.head _) e.symm;simp[this]
section
variable{A:Around}{s s₁ s':Shared}{X:Addr->Prop}{κ:List Addr}
theorem sV(j:Str->Option NameKind):∀(ps:List Nat) (vs:List Value) (ds:List PV) (m u:Str->Option Value),ps.Nodup->(∀x∈ps,x<nms.length)->aY h X κ vs ds->ps.length=ds.length->∀x d,(ps.zip ds).lookup x=some d->
 x∈ps/\∃v,Rep h X κ v d/\(j (nm x)=some .local->bindL j ((ps.map nm).zip vs) m (nm x)=some v)/\(j (nm x)≠some .local->bindC j ((ps.map nm).zip vs) u (nm x)=some v):=by
 intro ps;induction ps with
 |nil=>intro vs ds m u _ _ _ _ x d h;exact no h
 |cons p ps K=>
  intro vs ds m u n z r hl x d h;cases ds with
  |nil=>injection hl
  |cons e ds=>
  refine hid λi q=>?_;refine aO r.inv λv vs k a b=>?_;subst k;refine au (List.nodup_cons.mp n) λJ f=>?_;refine q ?_;clear q i;by_cases hx:x=p
  ·clear n;subst hx;have hd:e=d:=by simpa [List.lookup]using h
   subst hd;have t:∀b∈(ps.map nm).zip vs,b.1≠nm x:=λb P e=>by
    refine af (List.mem_map.mp (List.of_mem_zip P).1) λy l o=>?_;have:=m8 (z y (.tail _ l)) (z x (.head _)) (o.trans e);exact J (this▸l)
   refine⟨.head _,v,a,λg=>?_,λg=>?_⟩
   ·show bindL j ((nm x,v)::(ps.map nm).zip vs) m (nm x)=_;unfold bindL;rw[iV j _ _ _ t,if_pos g];simp
   ·show bindC j ((nm x,v)::(ps.map nm).zip vs) u (nm x)=_;unfold bindC;rw[iT j _ _ _ t,if_neg g];simp
  ·have c:(x==p)=false:=by simpa using hx
   clear n a J hx;refine hid λi q=>?_;simp only[List.zip_cons_cons,List.lookup,c]at h;obtain⟨h1,M,r,O,L⟩:=K vs ds (if j (nm p)=some .local then λy=>if y=nm p then some v else m y else m) (if j (nm p)=some .local then u else λy=>if y=nm p then some v else u y) f (λy l=>z y (.tail _ l)) b (Nat.succ.inj hl) x d h;refine q ?_;clear q i;exact⟨.tail _ h1,M,r,λg=>by show bindL j ((nm p,v)::(ps.map nm).zip vs) m (nm x)=_;unfold bindL;exact O g,λg=>by show bindC j ((nm p,v)::(ps.map nm).zip vs) u (nm x)=_;unfold bindC;exact L g⟩
noncomputable def frV(env:Env):List Addr:=env.locals::env.scope.names.filterMap λq=>env.cells.lookup q.1
theorem hJ(h:b∈frV env):b=env.locals\/∃n,env.cells.lookup n=some b:=by
 rcases List.mem_cons.mp h with h|h
 ·exact .inl h
 ·refine af (List.mem_filterMap.mp h) λq g j=>?_;exact .inr ⟨_,j⟩
structure lE(fd:FnD)(a:Addr)(o:Obj)(fn:FuncData)(body:List Stmt):Prop where
 at_:G.h0.get? a=some o
 data:o.data=.func fn
 body_:fn.body=.stmts body
 tr:kg 60 fn.scope body=some fd.body
 clo:fn.closure=[]
 code:G.h0.CodeRec fn.code fn.qualname
 bind:∀vals:List Value,vals.length=fd.params.length->bindArgs fn ⟨vals,[]⟩=pure ((fd.params.map nm).zip vals)
 par:∀x∈fd.params,x<nms.length/\aW fn.scope (nm x)=true
 nd:fd.params.Nodup
 kind:fn.scope.kind=.function
 co:fn.scope.isCoroutine=false
 gen:fn.scope.isGenerator=false
 free:ScF fn.scope
 glob:fn.globals=mainGlobals
 bui:fn.builtins=builtinsNs
 nms:∀x∈fn.scope.names,fn.scope.names.lookup x.1=some x.2
variable[aI]
section
variable{s₀:Shared}{σ:List Sto}{W:List Addr}
theorem lu(S:St X s₀.heap)(hp:G.z<=s.toks)(K:∃h tk,s={s₀ with heap:=h,toks:=tk})(N:∀b o,s₀.heap.get? b=some o->s.heap.get? b=some o)(hW:∀b∈W,s₀.heap.get? b=none/\∃o,s.heap.get? b=some o)
 (T:dL s.heap (λb=>X b\/b∈W) κ σ) (c1:∀a∈κ,a∈W) (c2:∀a∈κ,∀o dx,s.heap.get? a=some o->o.dict=some dx->dx∈W) (c3:κ.Nodup) (c4:∀a∈κ,∀o dx,s.heap.get? a=some o->o.dict=some dx->dx∉κ/\∀b∈κ,b≠a->∀B,s.heap.get? b=some B->B.dict=none)
 (D:lE fd a o fn body) (C:env=callEnvC fn s.heap.objs.size a)
 (I:InCallC s env.locals (bindL env.kindOf ((fd.params.map nm).zip vs) λu=>none) env.cells (bindC env.kindOf ((fd.params.map nm).zip vs) λu=>none) s₁) (jg:s.toks<=s₁.toks)
 (r:aY s.heap (λb=>X b\/b∈W) κ vs args) (Y:fd.params.length=args.length) :
 Fz (λb=>X b\/b∈frV env++W) (frV env++W) (aW fn.scope) env κ σ (fd.params.zip args).reverse s₁:=by
 have R:env.locals=s.heap.objs.size:=by rw[C];rfl
 have H:env.scope=fn.scope:=by rw[C];rfl
 have p:env.cells=cellsFrom (s.heap.objs.size+1) fn.scope.names []:=by rw[C];rfl
 have l:∀n,env.kindOf n=fn.scope.names.lookup n:=λn=>by rw[C];rfl
 refine hid λgG F=>?_;refine bx K λh0 jf jd=>?_;clear K;subst jd;refine cb I.done λM tk ja E=>?_;subst ja;refine F ?_;clear F gG;have L:∀b o,s₀.heap.get? b=some o->M.get? b=some o:=λb o e=>E b o (N b o e);have hV:∀b∈frV env,h0.objs.size<=b:=λb g=>by
  rcases hJ g with rfl|⟨n,hm⟩
  ·rw[R];exact Nr _
  ·have:=I.above n b (mem_of_lookup hm);rw[R]at this;exact Nat.le_of_lt this
 have i:∀b∈frV env,h0.get? b=none:=λb g=>Heap.get?_none_of_le (hV b g);have fresh:∀b∈frV env++W,s₀.heap.get? b=none:=λb g=>by
  rcases List.mem_append.mp g with g|g
  ·cases e:s₀.heap.get? b with
   |none=>rfl
   |some o=>have:=N b o e;rw[show({s₀ with heap:=h0,toks:=jf}:Shared).heap.get? b=h0.get? b from rfl,i b g]at this;exact no this
  ·exact(hW b g).1
 have nX:∀b∈frV env++W,¬X b:=λb g J=>by refine ah (S.ex b J) λo ho=>?_;rw[fresh b g]at ho;exact no ho
 have jc:∀b o,¬X b->s₀.heap.get? b=some o->M.get? b=some o/\¬(X b\/b∈frV env++W):=λb o J e=>⟨L b o e,λh=>h.elim J λh=>by rw[fresh b h]at e;exact no e⟩
 have mv:∀b o,¬(X b\/b∈W)->h0.get? b=some o->M.get? b=some o/\¬(X b\/b∈frV env++W):=λb o J e=>⟨E b o e,λh=>h.elim (λh=>J (.inl h)) λh=>(List.mem_append.mp h).elim (λh=>by rw[i b h]at e;exact no e) λh=>J (.inr h)⟩
 have hP:∀{b},b∈frV env++W->b≠G.P:=λg e=>nX _ g (e▸S.xp);have k:∀n c,env.cells.lookup n=some c->c∈frV env:=λn c h=>List.mem_cons_of_mem _ (List.mem_filterMap.mpr ⟨(n,.cell),by rw[H];exact cO _ _ _ _ (mem_of_lookup (p▸h)),h⟩);have q:∀n c,env.cells.lookup n=some c->c∈frV env++W:=λn c h=>List.mem_append_left _ (k n c h);have r':aY M (λb=>X b\/b∈frV env++W) κ vs args:=r.repMove mv λu u e=>e;have Q:M.Ns env.locals _:=I.toInCall.ns;have ex:∀b∈frV env++W,∃o,M.get? b=some o:=λb g=>by
  rcases List.mem_append.mp g with g|g
  ·rcases hJ g with rfl|⟨n,hm⟩
   ·refine qj Q λo jl ji e jk=>?_;exact⟨o,e⟩
   ·refine af (I.cell n b hm) λo ho jj=>?_;exact⟨o,ho⟩
  ·refine ah ((hW b g).2) λo ho=>?_;exact⟨o,E b o ho⟩
 have t:∀n,env.kindOf n=some .cell->∃c,env.cells.lookup n=some c:=λn h=>by
  rw[l]at h;refine ah (bl fn.scope.names (h0.objs.size+1) n (mem_of_lookup h)) λc hc=>?_;exact⟨c,p▸hc⟩
 have T':dL M (λb=>X b\/b∈frV env++W) κ σ:=⟨T.len,λn x a h1 h2=>(T.at_ n x a h1 h2).move mv E⟩
 have U:∀a∈W,∃o,h0.get? a=some o:=λa ha=>(hW a ha).2;have nW:∀b,b∈frV env->b∉W:=λb g hw=>by refine ah (U b hw) λo ho=>?_;rw[i b g]at ho;exact no ho
 have up:∀a∈κ,∀o,M.get? a=some o->h0.get? a=some o:=λa ha o e=>by
  refine ah (U a (c1 a ha)) λB jb=>?_;have:=E a B jb;rw[e]at this;(replace this:=si this;subst this);exact jb
 have al:Al {s₀ with heap:=M,toks:=tk} (λb=>X b\/b∈frV env++W) κ σ env (fd.params.zip args).reverse:=by
  refine⟨⟨λb o e=>L _ _ (S.base b o e),λb o e=>(jc b o (S.low b o e) (S.base b o e)).2,λb g=>?_,.inl S.xp,GxOk.tabMove _ _ _ _ (λb o u J e=>jc b o J e) (λo e=>L _ _ e) S.tab⟩,T',?_,Nt hp jg⟩
  ·rcases g with g|g
   ·refine ah (S.ex b g) λo ho=>?_;exact⟨o,L _ _ ho⟩
   ·exact ex b g
  ·refine⟨by rw[H];exact D.kind,by rw[C];exact D.glob,by rw[C];exact D.bui,hP (List.mem_append_left _ (.head _)),λn h=>?_,_,Q,λx d hl=>?_⟩
   ·rcases h with h|h
    ·refine ah (t n h) λc hc=>?_;exact⟨c,hc,hP (q n c hc),_,I.cell n c hc⟩
    ·rw[l]at h;exact absurd h (D.free n)
   ·have Z:((fd.params.zip args).map (·.1)).Nodup:=by rw[List.map_fst_zip ((Ne0 Y))];exact D.nd
    have je:(fd.params.zip args).lookup x=some d:=by
     have:=kZ (m:=[]) Z x;simp only[List.append_nil]at this;rw[<- this];exact hl
    refine hid λgG F=>?_;obtain⟨J,v,rv,q1,q2⟩:=sV env.kindOf fd.params vs args (λu=>none) (λu=>none) D.nd (λy hy=>(D.par y hy).1) r' Y x d je;refine F ?_;clear F gG;refine⟨(D.par x J).1,v,rv,?_⟩;have j:=(D.par x J).2;unfold aW at j;simp only[Bool.or_eq_true,beq_iff_eq]at j;rcases j with j|j
    ·left;rw[l];exact⟨j,q1 (by rw[l];exact j)⟩
    ·right
     obtain⟨c,hc⟩:=t (nm x) (by rw[l];exact j);refine⟨.inl (by rw[l];exact j),c,hP (q _ c hc),hc,?_⟩;have:=I.cell (nm x) c hc;rw[q2 (by rw[l,j];decide)]at this;exact this
 have f:Fm s₀ X (frV env++W) (aW fn.scope) env κ σ (fd.params.zip args).reverse {s₀ with heap:=M,toks:=tk}:=by
  refine⟨⟨M,tk,rfl⟩,λb o u e=>L b o e,fresh,S.ex,S.xp,al,List.mem_append_left _ (.head _),λn O=>?_,λn n' c O h1 h2=>name_of_addr I.apart (mem_of_lookup h1) (mem_of_lookup h2),λn c h e=>?_,λn c h=>⟨hP (q n c h),let⟨o,ho,_⟩:=I.cell n c h;⟨o,ho⟩⟩,λa h=>⟨λe=>nW _ (e▸.head _) (c1 a h),λn c hc e=>nW _ (k n c hc) (e▸c1 a h)⟩,λa h o dx h1 h2=>?_⟩
  ·unfold aW at O;simp only[Bool.or_eq_true,beq_iff_eq]at O;rcases O with O|O
   ·exact .inl (by rw[l];exact O)
   ·obtain⟨c,hc⟩:=t n (by rw[l];exact O);exact .inr ⟨by rw[l];exact O,c,_,q n c hc,hc,I.cell n c hc⟩
  ·have:=I.above n c (mem_of_lookup h);rw[e]at this;exact Nat.lt_irrefl _ this
  ·have hd:=c2 a h o dx (up a h o h1) h2;exact⟨λe=>nW _ (e▸.head _) hd,λn c hc e=>nW _ (k n c hc) (e▸hd)⟩
 exact Fz.of0 f ⟨q,λa h=>List.mem_append_right _ (c1 a h),λa h o dx h1 h2=>List.mem_append_right _ (c2 a h o dx (up a h o h1) h2),c3,λa h o dx h1 h2=>let⟨q1,q2⟩:=c4 a h o dx (up a h o h1) h2;⟨q1,λb g jh B h3=>q2 b g jh B (up b g B h3)⟩⟩
end
omit [aI] in
theorem AOk.deep(a:AOk (n+1) A)(env:Env):AOk n (A.deeper env):=by
 refine⟨a.hd,?_,?_⟩
 ·have:=a.dp;exact Nm (Nat.add_le_add_right (arA (m:=1) (by decide)) 20) this
 ·have:=a.un;exact Nm (Nat.add_le_add_right (arA (m:=3) (by decide)) 500) this
theorem wx{F:Nat->List PV->Option PV}{nc:Nat}{LE:Env->Prop}{fd:FnD}{a:Addr}{o:Obj}{K:FuncData}{body:List Stmt}(D:lE fd a o K body)(i:G.h0.NoLimit)
 (B:sB LE F (fd.f==(105:Nat)) nc 60) (U:∀L b,(fd.f==(105:Nat))=true->LE (callEnvC K L b)) {args:List PV} {d:PV} (Z:cS F fd args=some d)
 {vs:List Value} (ak:AOk (nc+1) A) (S:St X s.heap) (N:G.z<=s.toks) (r:aY s.heap X κ vs args) :
 wpAny (model prog w) A (call (.ref a) vs) (Pt X κ s d) No s:=by
 refine wib Z λy5 Z hc O=>?_;obtain⟨fl,p'⟩:=y5;have J:∀d∈args,aH 8 d=true:=List.all_eq_true.mp hc.2;have m:fd.params.length=args.length:=hc.1;have M:vs.length=fd.params.length:=by rw[r.len];exact m.symm
 have j:∀b o,G.h0.get? b=some o->s.heap.get? b=some o:=S.base;refine wpAny_call (codeAny_call_function (body:=body) (Nat.lt_trans (by have:=ak.dp;exact Nm (Nt (Nat.le_add_right _ _) (Nat.le_add_right _ _)) this:A.depth<990) (by decide)) (S.base _ _ D.at_) D.data D.co D.gen D.body_ (D.code.keeps j) ?_);rw[D.bind vs M,D.clo];have g:∀x∈(fd.params.map nm).zip vs,K.scope.names.lookup x.1=some .local\/(K.scope.names.lookup x.1=some .cell/\((cellsFrom (s.heap.objs.size+1) K.scope.names []).lookup x.1).isSome=true):=λx O=>by
  refine af (List.mem_map.mp (List.of_mem_zip O).1) λy hy ja=>?_;have:=(D.par y hy).2;rw[<- ja];unfold aW at this;simp only[Bool.or_eq_true,beq_iff_eq]at this;rcases this with h|h
  ·exact .inl h
  ·refine ah (bl K.scope.names (s.heap.objs.size+1) (nm y) (mem_of_lookup h)) λc hc=>?_;exact .inr ⟨h,by rw[hc];rfl⟩
 refine Wp (wpAny_with_toks (Nr s.toks) (wpAny_newFunctionEnv_cells D.kind g λenv H s₁ I p=>?_));have k:env=callEnvC K s.heap.objs.size a:=H;refine⟨(i.keeps j).keeps I.toInCall.keep,codeAny_func ?_⟩;have z:=lu (s₀:=s) (s:=s) (W:=[]) (κ:=[]) (σ:=[]) S N ⟨s.heap,s.toks,rfl⟩ (λu u e=>e) nofun ⟨rfl,nofun⟩ nofun nofun List.nodup_nil nofun D k I p (r.dropC (λb o t e=>⟨e,λh=>h.elim t nofun⟩) 8 J) m;have R:env.scope=K.scope:=by rw[k];rfl
 have fresh:∀b,(b=env.locals\/∃n,env.cells.lookup n=some b)->s.heap.get? b=none:=λb t=>by
  have P:env.locals=s.heap.objs.size:=by rw[k];rfl
  clear i N r hc J m M j g H p;rcases t with rfl|⟨n,t⟩
  ·exact Heap.get?_none_of_le (by rw[P];exact Nr _)
  ·have:=I.above n b (mem_of_lookup t);exact Heap.get?_none_of_le (by rw[P]at this;exact Nat.le_of_lt this)
 refine cb I.done λh₁ tk Q Y=>?_;refine Wm (B 60 K.scope body fd.body ⟨(fd.params.zip args).reverse,[]⟩ p' fl D.tr O D.free (A.deeper env) env _ (frV env++[]) [] s₁ (ak.deep env) R (λh=>k▸U _ _ h) z) (λf s₂ q=>?_) λu u f=>f.elim;refine cb q λV' κ' C fr=>?_;have l:∀b∈V',s.heap.get? b=none:=λb t=>by
  rcases C.new b t with h|h
  ·exact fresh b (hJ ((List.mem_append.mp h).elim id nofun))
  ·clear D i B U ak N r hc J m M j g H I p k R q;cases e:s.heap.get? b with
   |none=>rfl
   |some o=>
    have:s₁.heap.get? b=some o:=by rw[Q];exact Y b o e
    rw[h]at this;exact no this
 have nX:∀b∈V',¬X b:=λb t O=>by refine ah (S.ex b O) λo ho=>?_;rw[l b t]at ho;exact no ho
 have gr:Gr X s s₂:=by
  refine bx C.kp.1 λh2 t2 e2=>?_;refine⟨h2,t2,by rw[e2,Q],λb o t e=>?_,?_⟩
  ·have h1:s₁.heap.get? b=some o:=by rw[Q];exact Y b o e
   have:=C.kp.2 b o (λh=>by rw[fresh b (hJ ((List.mem_append.mp h).elim id nofun))]at e;exact no e) t h1;rw[e2]at this;exact this
  ·have:=C.z.al.S.tab;rw[e2]at this;exact GxOk.tabMove _ _ _ _ (λb o u O e=>⟨e,λh=>O (.inl (.inl h))⟩) (λu e=>e) this
 have jb:∀b o,¬((X b\/b∈frV env++[])\/b∈V')->s₂.heap.get? b=some o->¬X b:=λb o t u h=>t (.inl (.inl h));clear D i B U ak S N r hc O J m M j g H I p k R fresh Q Y q l;cases fl with
 |next=>
  obtain rfl:=cJ fr;(replace Z:=si Z;subst Z)
  exact⟨gr,.none⟩
 |brk=>exact no Z
 |ret dv=>
  refine af (eV fr) λv E rv=>?_;subst E;refine wbi Z λd' hg hf jc=>?_;(replace hg:=si hg;subst hg)
  refine⟨gr,Rep.freeze C.z.al.T jb (λb t=>⟨nX b (C.z.c.pk b t),λo dx h1 h2=>nX dx (C.z.c.pd b t o dx h1 h2)⟩) 10 8 rv hf jc⟩
end
section
variable{A:Around}{s₀ s s₁ s':Shared}{X:Addr->Prop}{κ:List Addr}{σ:List Sto}{W:List Addr}[aI]
theorem pU{F:Nat->List PV->Option PV}{nc:Nat}{LE:Env->Prop}{fd:FnD}{a:Addr}{o:Obj}{fn:FuncData}{body:List Stmt}(D:lE fd a o fn body)(M:G.h0.NoLimit)(P:(fd.f==(105:Nat))=false)
 (hm:makesIn G.K G.C=true) (hi:findIn G.K (.ref G.C) "__init__"=some (some (.ref a))) (hf:typeIn G.K (.ref a)=some (.type "function"))
 (B:sB LE F false nc 60) {args:List PV} {d:PV} (hr:mU F fd args=some d)
 {vs:List Value} (ak:AOk (nc+1) A) (S:St X s.heap) (hp:G.z<=s.toks) (r:aY s.heap X κ vs args) :
 wpAny (model prog w) A (call (.ref G.C) vs) (Pt X κ s d) No s:=by
 refine oik hr λhr hc=>?_;rw[P]at hr;refine obk hr λy1 hr E=>?_;obtain⟨fl,p'⟩:=y1;have Z:∀d∈args,aH 8 d=true:=List.all_eq_true.mp hc.2;have J:fd.params.length=(PV.cell 0::args).length:=by rw[hc.1];rfl
 have X0:G.K.In s.heap:=fu S;obtain⟨hh,g,dr,t,os⟩:=s;refine wpAny_call (make_core (makes_of X0 hm) (looks_findIn X0 hi) (λje=>bind_fn X0 je hf) (.inl rfl) ?_);generalize hsI:(⟨(hh.push PySem.W.emptyDict).push (instObj G.C hh.objs.size),g,dr,t,os⟩:Shared)=sI;have R:(hh.push PySem.W.emptyDict).get? hh.objs.size=some PySem.W.emptyDict:=Heap.get?_push_size _ rfl;have i:(hh.push PySem.W.emptyDict).objs.size=hh.objs.size+1:=Heap.size_push ..;have gx:sI.heap.get? (hh.objs.size+1)=some (instObj G.C hh.objs.size):=by
  rw[<- hsI,<- i];exact Heap.get?_push_size _ rfl
 have Y:sI.heap.get? hh.objs.size=some (dictOf [] 0):=by
  rw[<- hsI];exact Hp _ R
 have l:∀b o,hh.get? b=some o->sI.heap.get? b=some o:=λb o e=>by rw[<- hsI];exact Hp _ (Hp _ e)
 have k:∀b,hh.objs.size<=b->hh.get? b=none:=λb j=>Heap.get?_none_of_le j;have hW:∀b∈[hh.objs.size+1,hh.objs.size],hh.get? b=none/\∃o,sI.heap.get? b=some o:=λb j=>by
  clear P hm hi hf X0 R i;rcases List.mem_cons.mp j with rfl|j
  ·exact⟨k _ (Nat.le_succ _),_,gx⟩
  ·rw[List.mem_singleton.mp j];exact⟨k _ (Nr _),_,Y⟩
 have mv:∀b o,¬X b->hh.get? b=some o->sI.heap.get? b=some o/\¬(X b\/b∈[hh.objs.size+1,hh.objs.size]):=λb o E e=>⟨l b o e,λh=>h.elim E λh=>by rw[(hW b h).1]at e;exact no e⟩
 have r1:aY sI.heap (λb=>X b\/b∈[hh.objs.size+1,hh.objs.size]) [hh.objs.size+1] (.ref (hh.objs.size+1)::vs) (.cell 0::args):=.cons (.cell rfl) (r.dropC mv 8 Z);have T:dL sI.heap (λb=>X b\/b∈[hh.objs.size+1,hh.objs.size]) [hh.objs.size+1] [.obj []]:=by
  refine⟨rfl,λn x b h1 h2=>?_⟩;clear P hm hi hf Z X0 R i mv;cases n with
  |zero=>
   simp at h1 h2;subst h1 h2;exact .obj (dx:=hh.objs.size) rfl gx rfl rfl Y .nil
  |succ n=>simp at h1
 have Q:(Value.ref (hh.objs.size+1)::vs).length=fd.params.length:=by rw[J,List.length_cons,r.len,List.length_cons]
 have v:∀b o,G.h0.get? b=some o->sI.heap.get? b=some o:=λb o e=>l b o (S.base b o e);refine codeAny_call_function (body:=body) (Nat.lt_trans (by have:=ak.dp;show A.depth+1<990;exact Nm (Na (Nat.le_add_right _ _) (by decide:1<=20)) this) (by decide)) (v _ _ D.at_) D.data D.co D.gen D.body_ (D.code.keeps v) ?_;rw[D.bind _ Q,D.clo];have p:∀x∈(fd.params.map nm).zip (Value.ref (hh.objs.size+1)::vs),fn.scope.names.lookup x.1=some .local\/(fn.scope.names.lookup x.1=some .cell/\((cellsFrom (sI.heap.objs.size+1) fn.scope.names []).lookup x.1).isSome=true):=λx E=>by
  refine af (List.mem_map.mp (List.of_mem_zip E).1) λy hy jh=>?_;have:=(D.par y hy).2;rw[<- jh];unfold aW at this;simp only[Bool.or_eq_true,beq_iff_eq]at this;rcases this with h|h
  ·exact .inl h
  ·refine ah (bl fn.scope.names (sI.heap.objs.size+1) (nm y) (mem_of_lookup h)) λc hc=>?_;exact .inr ⟨h,by rw[hc];rfl⟩
 refine Wp (wpAny_with_toks (Nr sI.toks) (wpAny_newFunctionEnv_cells D.kind p λenv he s₁ I N=>?_));have U:env=callEnvC fn sI.heap.objs.size a:=he;refine⟨(M.keeps v).keeps I.toInCall.keep,codeAny_func ?_⟩;have H:sI.toks=t:=by rw[<- hsI]
 have z:=lu (s₀:=⟨hh,g,dr,t,os⟩) (s:=sI) (W:=[hh.objs.size+1,hh.objs.size]) S (by rw[H];exact hp) ⟨sI.heap,t,by rw[<- hsI]⟩ l hW T (λb j=>by rw[List.mem_singleton.mp j];exact .head _)
  (λb j o dx h1 h2=>by rw[List.mem_singleton.mp j,gx]at h1;(replace h1:=si h1;subst h1);(replace h2:=si h2;subst h2);exact .tail _ (.head _)) (by simp)
  (λb j o dx h1 h2=>by
   rw[List.mem_singleton.mp j,gx]at h1;(replace h1:=si h1;subst h1);(replace h2:=si h2;subst h2);refine⟨λh=>absurd (List.mem_singleton.mp h) (Nat.ne_of_lt (Nat.lt_succ_self _)),λc hc jj=>absurd ((List.mem_singleton.mp hc).trans (List.mem_singleton.mp j).symm) jj⟩) D U I N r1 J
 have jb:env.scope=fn.scope:=by rw[U];rfl
 refine cb I.done λh₁ tk e₁ jd=>?_;have O:sI.heap.objs.size=hh.objs.size+1+1:=by rw[<- hsI];show((hh.push _).push _).objs.size=_;rw[Heap.size_push,Heap.size_push]
 have fresh:∀b∈frV env++[hh.objs.size+1,hh.objs.size],hh.get? b=none:=λb j=>by
  have ja:env.locals=sI.heap.objs.size:=by rw[U];rfl
  rcases List.mem_append.mp j with j|j
  ·clear M P hm hi hf hc Z J hp r X0 R i gx Y mv r1 Q v p he N U H;rcases hJ j with rfl|⟨n,j⟩
   ·exact k _ (by rw[ja,O];lia)
   ·have:=I.above n b (mem_of_lookup j);rw[ja,O]at this;exact k _ (Nat.le_of_lt (Nat.lt_trans (Nat.lt_succ_of_lt (Nat.lt_succ_self _)) this))
  ·exact(hW b j).1
 have jc:AOk nc ((A.under (.builtin "type.__call__" ⟨.ref G.C::vs,[]⟩)).deeper env):=by
  refine⟨ak.hd,?_,?_⟩
  ·have:=ak.dp;exact Nm (Nat.add_le_add_right (arA (m:=2) (by decide)) 20) this
  ·have:=ak.un;exact Nm (Nat.add_le_add_right (arA (m:=4) (by decide)) 500) this
 refine Wm (B 60 fn.scope body fd.body ⟨(fd.params.zip (.cell 0::args)).reverse,[.obj []]⟩ p' fl D.tr E D.free _ env _ (frV env++[hh.objs.size+1,hh.objs.size]) [hh.objs.size+1] s₁ jc jb (λh=>nomatch h) z) (λf s₂ q=>?_) λu u f=>f.elim;refine cb q λV' κ' go fr=>?_;have L:∀b∈V',hh.get? b=none:=λb j=>by
  rcases go.new b j with h|h
  ·exact fresh b h
  ·clear D M P hm hi hf B ak hc Z J hp r X0 R i gx Y k hW mv r1 Q v p he I N U H jb O jc q;cases e:hh.get? b with
   |none=>rfl
   |some o=>
    have:s₁.heap.get? b=some o:=by rw[e₁];exact jd b o (l b o e)
    rw[h]at this;exact no this
 have nX:∀b∈V',¬X b:=λb j E=>by refine ah (S.ex b E) λo ho=>?_;rw[L b j]at ho;exact no ho
 have gr:Gr X ⟨hh,g,dr,t,os⟩ s₂:=by
  refine bx go.kp.1 λh2 t2 e2=>?_;refine⟨h2,t2,by rw[e2,e₁,<- hsI],λb o j e=>?_,?_⟩
  ·have h1:s₁.heap.get? b=some o:=by rw[e₁];exact jd b o (l b o e)
   have:=go.kp.2 b o (λh=>by rw[fresh b h]at e;exact no e) j h1;rw[e2]at this;exact this
  ·have:=go.z.al.S.tab;rw[e2]at this;exact GxOk.tabMove _ _ _ _ (λb o u E e=>⟨e,λh=>E (.inl (.inl h))⟩) (λu e=>e) this
 have ji:∀b o,¬((X b\/b∈frV env++[hh.objs.size+1,hh.objs.size])\/b∈V')->s₂.heap.get? b=some o->¬X b:=λb o j u h=>j (.inl (.inl h));clear D M P hm hi hf B ak hc E Z J S hp r X0 hsI R i gx Y l k hW mv r1 Q v p he I N U H jb e₁ jd O fresh jc q L;cases fl with
 |next=>
  obtain rfl:=cJ fr;refine wbi hr λd' hg jf jk=>?_;(replace hg:=si hg;subst hg)
  have jg:κ'[0]?=some (hh.objs.size+1):=go.kx 0 _ rfl;exact⟨rfl,gr,Rep.freeze go.z.al.T ji (λb j=>⟨nX b (go.z.c.pk b j),λo dx h1 h2=>nX dx (go.z.c.pd b j o dx h1 h2)⟩) 10 8 (.cell jg) jf jk⟩
 |brk=>exact no hr
 |ret dv=>exact no hr
structure Ac(LE:Env->Prop)(fns:List FnD):Prop where
 lim:G.h0.NoLimit
 at_:∀fd∈fns,fd.f≠(86:Nat)->fd.f≠(85:Nat)->∃a o fn body,G.fnv fd.f=some a/\lE fd a o fn body/\((fd.f==(105:Nat))=true->∀L b,LE (callEnvC fn L b))
 init:∀fd∈fns,fd.f=(86:Nat)->∃a o fn body,lE fd a o fn body/\findIn G.K (.ref G.C) "__init__"=some (some (.ref a))/\typeIn G.K (.ref a)=some (.type "function")
 makes:makesIn G.K G.C=true
 wfn:G.fnv cV=some G.C
noncomputable def xA(LE:Env->Prop):Prop:=∀F nc lam k,2<=nc->FOk F nc->y4 LE F lam nc k
theorem s8(hz:1<=G.z){x:Env->Prop}{fns:List FnD}(v:Ac x fns)(H:xA x):∀n,FOk (bp fns n) (n+2):=by
 intro n;induction n with
 |zero=>exact⟨λu=>hz,λf args d u h=>by exact no h⟩
 |succ n t=>
  refine⟨λu=>hz,λf args d u h=>?_⟩;unfold bp at h;by_cases hf:f=(85:Nat)
  ·refine obk ((if_pos hf).symm.trans h) λfd h1 g=>?_;refine hid λe q=>?_;subst hf;have j:=List.mem_of_find?_eq_some g;have y:fd.f=(86:Nat):=by simpa using List.find?_some g
   refine z0 (v.init fd j y) λa o J body D K O=>?_;refine q ?_;clear q e;refine⟨G.C,v.wfn,λA X κ s vs p S l r=>?_⟩;exact pU D v.lim (by rw[y];decide +kernel) v.makes K O ((tz t (λk=>H _ _ false k (Nat.le_add_left 2 n) t) 60).2) h1 p S l r
  ·refine au (oe ((if_neg hf).symm.trans h)) λi h=>?_;refine hid λe q=>?_;refine obk h λfd h g=>?_;have j:=List.mem_of_find?_eq_some g;have m:fd.f=f:=by simpa using List.find?_some g
   obtain⟨a,o,J,body,c,D,M⟩:=v.at_ fd j (by rw[m];exact i) (by rw[m];exact hf);refine q ?_;clear q e;refine⟨a,by rw[<- m];exact c,λA X κ s vs p S l r=>?_⟩;exact wx D v.lim ((tz t (λk=>H _ _ _ k (Nat.le_add_left 2 n) t) 60).2) (λL b hl=>M hl L b) h p S l r
end
end
section
open PyProof.Rows PySem PySem.Builtin PySem.Builtin.ObjectAttr PySem.Calls PySem.W
structure nH:Prop where
 st:findIn G.K (.ref G.C) "__setattr__"=some (some (.builtin "object.__setattr__"))
 over:plainOver G.K G.C=true
 taker:∀n,cj.contains n=true->takerIn G.K G.C n=some none
section
variable{A:Around}{s s₁ s':Shared}{X:Addr->Prop}{V:List Addr}{own:Str->Bool}{κ:List Addr}{σ:List Sto}{env:Env}[aI]
 {F:Nat->List PV->Option PV} {nc k kt:Nat} {sc:Scope} {d:PV} {p p':PS'}
omit [aI] in
theorem uK:∀{j:List DictEntry},getL name j=some none->putL name hsh key v j=j++[⟨hsh,key,v⟩]/\(j.any (·.key.isStr name))=false/\(j.any (·.refKey))=false:=by
 intro j h;have h1:j.find? (·.key.isStr name)=none:=by
  unfold getL at h;split at h
  ·cases h
  ·rename_i e;exact e
 have h2:(j.any (·.refKey))=false:=by
  unfold getL at h;rw[h1]at h;dsimp only at h;split at h
  ·exact no h
  ·rename_i e;exact Bool.eq_false_iff.mpr e
 have g:(j.any (·.key.isStr name))=false:=by
  rw[List.any_eq_false];intro x u;have:=List.find?_eq_none.mp h1 x u;simpa using this
 refine⟨?_,g,h2⟩;clear h h1 h2;induction j with
 |nil=>rfl
 |cons e j m=>
  simp only[List.any_cons,Bool.or_eq_false_iff]at g;show(if e.key.isStr name=true then _ else _)=_;rw[if_neg (by rw[g.1];decide),m g.2];rfl
theorem vz(e:nH)(r:G.K.In s.heap)(I:InstAt s.heap x ox G.C (some (dictOf es n)))(hd:ox.dict=some dx)(hD:s.heap.get? dx=some (dictOf es n))
 (z:cj.contains name=true) (hl:getL name es=some none) (hz:es.length<=500)
 (h:∀h' hsh t,Heap.SameBut dx s.heap h'->h'.get? dx=some (dictOf (es++[⟨hsh,.str name t,v⟩]) (n+1))->R (.ok (.ret .none)) {s with heap:=h',toks:=s.toks+1}) :
 codeAny (model prog w) A (.call (.builtin "object.__setattr__") ⟨[.ref x,.str name tk,v],[]⟩) R s:=by
 refine hid λy m=>?_;refine bc (uK (hsh:=PyData.keyHash w.params name) (key:=.str name s.toks) (v:=v) hl) λf J M=>?_;refine m ?_;clear m y;refine osa_open r I e.over (e.taker name z) λb=>?_;refine hid λy m=>?_;refine af (any_some (ObjOk.hasD)) λcd hc q=>?_;obtain⟨i,u,P,-⟩:=I;obtain⟨O,L,o,l⟩:=ox;refine m ?_;clear m y;dsimp only at u hd;subst u hd;refine Wb (Wp (Wb (Wb (wpAny_loadPart i (Wb ((looks_clsIn r hc).here ?_))))));rw[q];refine Wp (a:=some dx) (Wb (Wp (Wb ?_)));unfold nsSet;refine Wb (Wb (wpAny_askSetting (Wp (Wb (wpAny_mkText (Wb (wpAny_loadPart hD ?_)))))));dsimp only[dictOf];have c:(!es.toArray.any (·.key.isStr name)&&es.toArray.any (·.refKey))=false:=by
  rw[<- Array.any_toList,<- Array.any_toList];simp only[List.toList_toArray];rw[M,Bool.and_false]
 rw[aRefKeyMayBeTheName_at,c];have j:Obj.putName name (PyData.keyHash w.params name) (.str name s.toks) v (dictOf es n)=dictOf (es++[⟨PyData.keyHash w.params name,.str name s.toks,v⟩]) (n+1):=by
  rw[putName_dict,f];unfold putN;rw[J];rfl
 have g:(s.heap.update dx (Obj.putName name (PyData.keyHash w.params name) (.str name s.toks) v)).get? dx=some (dictOf (es++[⟨PyData.keyHash w.params name,.str name s.toks,v⟩]) (n+1)):=by
  rw[<- j];exact Heap.get?_update_self _ hD (by rw[j];rfl)
 refine wpAny_updatePart hD ?_;refine Wb (wpAny_lookBehind g (pastItsLine_dict (by rw[List.size_toArray,sizeLine_eq];simp;exact Nt hz (Nat.le_add_left _ _))) ?_);exact Wp (h _ _ _ (Heap.SameBut.update ..) g)
theorem n0(m:nH)(g:G.K.In s.heap)(I:InstAt s.heap x ox G.C (some (dictOf es n)))(hd:ox.dict=some dx)(hD:s.heap.get? dx=some (dictOf es n))
 (j:cj.contains name=true) (hl:getL name es=some none) (hz:es.length<=500)
 (h:∀h' hsh t,Heap.SameBut dx s.heap h'->h'.get? dx=some (dictOf (es++[⟨hsh,.str name t,v⟩]) (n+1))->Q () {s with heap:=h',toks:=s.toks+2}) :
 wpAny (model prog w) A (setAttr (.ref x) name v) Q E s:=
 set_plain g I m.st (vz (s:={s with toks:=s.toks+1}) m g I hd hD j hl hz λh' hsh t a b=>h h' hsh t a b)
theorem sa(SK:nH)(IH:EvT F nc k)(a:AOk nc A)(hs:env.scope=sc)(z:Fz X V own env κ p.σ p.ρ s)(hi:idOf x=some i)(ja:cj.contains at_=true)(hm:idOf at_=some m)
 (ht:tr 60 sc e=some pe) (hd:ev F p.σ k pe p.ρ=some d) (hx:b8 p.ρ i=some (.cell n)) (hσ:p.σ[n]?=some (.obj l)) (hsz:l.length<=100) (jd:l.lookup m=none) :
 wpAny (model prog w) A (exec (.Assign [.Attribute (.Name x np) at_ ap] e pos) env) (Ex X V own env κ s {p with σ:=p.σ.set n (.obj (l++[(m,d)]))} .next) No s:=by
 refine au (bV hm) λO je=>?_;subst O;refine plainObj_wpAny_Assign_Attribute (cy IH ht hd a hs z λv s₁ g₁ P jc r₁=>Wm (wpAny_toks (eA P.al.S P.al.R hi hx)) (λov H ⟨Y,Q,r₂⟩=>?_) λu u f=>f.2) (by cases e<;>rfl);have y:=P.gr Q (Nt P.al.pos Y);have rv:=P.al.rep Q r₁;refine af r₂.inv λq C hk=>?_;subst C
 ·obtain⟨_,dx,L,es,vn,ea,g,r,hc,Z,E,_,_,rf⟩:=y.al.T.at_ n _ q hσ hk;have j:=List.mem_of_getElem? hk;cases ea
  ·
   rcases k5 je rf with⟨h1,h2⟩|⟨v',d',h1,h2,h⟩
   ·have W:dx∈V:=y.c.pd q j L dx r g;have jg:X dx:=y.vx dx W;refine n0 SK (fu y.al.S) (nh g r hc Z E) g E ja h2 (by rw[rf.len];exact Nt hsz (Nat.le_add_left _ _)) λh' hsh t J M=>?_;have U:q≠dx:=λe=>(y.c.p2 q j L dx r g).1 (e▸j);have B:h'.get? q=some L:=(J.2 q U).trans r;have K:∀b o,¬X b->H.heap.get? b=some o->h'.get? b=some o:=λb o N e=>(J.2 b (λx=>N (x▸jg))).trans e;have jb:=(List.getElem?_eq_some_iff.mp hσ).1;obtain⟨z',kp⟩:=y.mut (x':=.obj (l++[(m,d)])) (tk:=H.toks+2) jb hk J W (y.f.kd q j L dx r g).1 (y.f.kd q j L dx r g).2
     (λb N jf=>⟨λe=>(y.c.p2 q j L dx r g).1 (e▸N),λo dy h I e=>by rw[(y.c.p2 q j L dx r g).2 b N jf o h]at I;exact no I⟩) ⟨_,M⟩
     (λo' h dy I=>⟨o',by rw[B]at h;(replace h:=si h;subst h);exact r,I⟩) (.obj g B hc Z M ((rf.keepsF K).snoc ⟨⟨_,rfl⟩,rv.keeps K⟩)) (Nat.le_add_right _ _)
    exact .pre (g₁.trans Q) (Nt jc Y) y.hP (.next (.stay (p:={p with σ:=p.σ.set n (.obj (l++[(m,d)]))}) z' kp (by show H.toks<=H.toks+2;exact Nat.le_add_right _ _)))
   ·rw[jd]at h1;exact no h1
end
end
section
open PyProof.Rows PySem PySem.Calls PySem.W
theorem lZ(k:Int)(d:PV):∀l,(nL k d l).Perm ((k,d)::l):=by
 intro l;induction l with
 |nil=>exact .refl _
 |cons q r g=>
  obtain⟨j,e⟩:=q;show(if k<j then _ else _:List (Int×PV)).Perm _;split
  ·exact .refl _
  ·exact(List.Perm.cons _ g).trans (.swap ..)
theorem oD(k:Int)(d:PV):∀l,l.Pairwise (λp q:Int×PV=>p.1<=q.1)->(nL k d l).Pairwise λp q=>p.1<=q.1:=by
 intro l;induction l with
 |nil=>intro _;exact List.pairwise_singleton ..
 |cons q r u=>
  intro h;obtain⟨j,e⟩:=q;refine au (List.pairwise_cons.mp h) λh1 h2=>?_;show List.Pairwise _ (if k<j then _ else _:List (Int×PV));split
  ·rename_i m;refine List.pairwise_cons.mpr ⟨λp g=>?_,h⟩;rcases List.mem_cons.mp g with rfl|g
   ·exact Int.le_of_lt m
   ·exact Int.le_trans (Int.le_of_lt m) (h1 p g)
  ·rename_i m;refine List.pairwise_cons.mpr ⟨λp g=>?_,u h2⟩;rcases List.mem_cons.mp ((lZ k d r).mem_iff.mp g)with rfl|g
   ·exact Int.not_lt.mp m
   ·exact h1 p g
theorem uQ(l:List (Int×PV)):(f5 l).Perm l/\(f5 l).Pairwise λp q=>p.1<=q.1:=by
 have:∀(l acc:List (Int×PV)),acc.Pairwise (λp q=>p.1<=q.1)->(l.foldl (λacc p=>nL p.1 p.2 acc) acc).Perm (l++acc)/\(l.foldl (λacc p=>nL p.1 p.2 acc) acc).Pairwise λp q=>p.1<=q.1:=by
  intro l;induction l with
  |nil=>intro acc h;exact⟨.refl _,h⟩
  |cons p r j=>
   intro acc h;refine au (j (nL p.1 p.2 acc) (oD _ _ _ h)) λh1 h2=>?_;exact⟨h1.trans (((lZ p.1 p.2 acc).append_left r).trans List.perm_middle),h2⟩
 have q:=this l [] .nil;rw[List.append_nil]at q;exact q
theorem r9{α β:Type}{R:α->β->Prop}{as u:List α}(h:u.Perm as):∀g,aT R as g->∃j,j.Perm g/\aT R u j:=by
 induction h with
 |nil=>intro g r;exact⟨g,.refl _,r⟩
 |cons x _ t=>
  intro g r;cases r with
  |cons q r=>
   refine af (t _ r) λj h1 h2=>?_;exact⟨_,.cons _ h1,.cons q h2⟩
 |swap x y l=>
  intro g r;cases r with
  |cons q r=>
   cases r with
   |cons c r=>exact⟨_,.swap ..,.cons c (.cons q r)⟩
 |trans _ _ v z=>
  intro g r;refine af (z _ r) λj h1 h2=>?_;refine af (v _ h2) λm d e=>?_;exact⟨m,d.trans h1,e⟩
theorem uJ{α β γ:Type}{R:α->β->Prop}{as:List α}{j:List β}(h:aT R as j):∀ks:List γ,aT (λp q=>p.1=q.1/\R p.2 q.2) (ks.zip as) (ks.zip j):=by
 induction h with
 |nil=>intro ks;cases ks<;>exact .nil
 |cons q _ g=>
  intro ks;cases ks with
  |nil=>exact .nil
  |cons k ks=>exact .cons ⟨rfl,q⟩ (g ks)
theorem pY:∀{l:List (Int×β)},(l.map (·.1)).Nodup->∀a∈l,∀b∈l,a.1=b.1->a=b:=by
 intro l;induction l with
 |nil=>intro _ a h;cases h
 |cons p r u=>
  intro h a v b m e;refine au (List.nodup_cons.mp h) λh1 h2=>?_;rcases List.mem_cons.mp v with g|g
  ·rcases List.mem_cons.mp m with j|j
   ·exact g.trans j.symm
   ·exact absurd (List.mem_map.mpr ⟨b,j,by rw[<- e,g]⟩) h1
  ·rcases List.mem_cons.mp m with j|j
   ·exact absurd (List.mem_map.mpr ⟨a,g,by rw[e,j]⟩) h1
   ·exact u h2 a g b j e
theorem rt{α β:Type}{R:α->β->Prop}{P:Int->Int->Prop}{ps:List (Int×α)}{j:List (Int×β)}(h:aT (λp q=>p.1=q.1/\R p.2 q.2) ps j):(ps.Pairwise λp q=>P p.1 q.1)->(j.Pairwise λp q=>P p.1 q.1)/\aT R (ps.map (·.2)) (j.map (·.2)):=by
 have key:ps.map (·.1)=j.map (·.1)/\aT R (ps.map (·.2)) (j.map (·.2)):=by
  induction h with
  |nil=>exact⟨rfl,.nil⟩
  |cons q _ g=>exact⟨by rw[List.map_cons,List.map_cons,q.1,g.1],.cons q.2 g.2⟩
 refine λh=>⟨?_,key.2⟩
 rw[<- List.pairwise_map (R:=P)]at h ⊢;rw[<- key.1];exact h
theorem pD{R:Value->PV->Prop}{kz:List Int}{vs out:List Value}{ds:List PV}(h:KskOut false kz vs out)(r:aT R vs ds)(z:kz.length=ds.length)(g:kz.Nodup):aT R out ((f5 (kz.zip ds)).map (·.2)):=by
 refine bd h λps q j i=>?_;subst j;refine af (r9 q _ (uJ r kz)) λt h1 h2=>?_;refine au (rt (P:=(·<= ·)) h2 (i.imp λh=>h)) λd l=>?_;refine au (uQ (kz.zip ds)) λm u=>?_;have e:t=f5 (kz.zip ds):=by
  refine List.Perm.eq_of_pairwise (λa b v c x y=>?_) d u (h1.trans m.symm);exact pY (by rw[List.map_fst_zip ((Ne0 z))];exact g) a (h1.mem_iff.mp v) b (m.mem_iff.mp c) (Int.le_antisymm x y)
 rw[<- e];exact l
structure qP(LE:Env->Prop)(q:Str):Prop where
 tab:G.tab=vN q G.P
 le:∀env,LE env->∃c,env.code=.ref c/\CodeHd G.h0 c G.P/\env.qual++("<lambda>":Str)=q
 bm:G.h0.BuiltinsAt G.mg G.P
 lim:G.h0.NoLimit
 gP:mainGlobals≠G.P
theorem Gr.poke[GxOk](g:Gr X s s')(d:s.heap.get? b=none)(y:X b)(r:b≠G.P)(v:Heap.SameBut b s'.heap h')(tk:Nat):Gr X s {s' with heap:=h',toks:=tk}:=by
 refine aO g λh1 t m z l=>?_;clear g;subst m;exact⟨h',tk,rfl,λc o hc e=>(v.2 c λq=>by subst q;rw[d]at e;exact no e).trans (z c o hc e),GxOk.tabMove _ _ _ _ (λc o u j e=>⟨(v.2 c λq=>j (q▸y)).trans e,j⟩) (λo e=>(v.2 _ (Ne.symm r)).trans e) l⟩
section
variable{A:Around}{s s₁ s':Shared}{X Y:Addr->Prop}{κ:List Addr}{σ:List Sto}{env:Env}{ρ:ar}{a kS:Addr}
 {vs:List Value} {kz:List Int} {R:PySem.Fin->Shared->Prop} [aI]
structure Srt(X:Addr->Prop)(s:Shared)(a kS:Addr):Prop where
 xa:X a
 xk:X kS
 pa:a≠G.P
 pk:kS≠G.P
 a0:s.heap.get? a=none
 k0:s.heap.get? kS=none
 ne:kS≠a
theorem ou(C:Srt X s a kS){st:SortSt}{keys:Array Value}{e t:Nat}(g:Gr X s s')(f:s'.heap.get? kS=some (seqObj "list" keys e))(k:s'.heap.get? a=some (seqObj "list" #[] t))
 (v:IntsAre keys.toList kz) (l:kz.length=vs.length) (y:vs.length<64) (d:(arrOf st).Perm (keys.zip vs.toArray)) (p:SortedTo (arrOf st) (arrOf st).size) (z:failedOf st=none)
 (h:∀s'' out c,Gr X s s''->s''.heap.get? a=some (seqObj "list" out c)->KskOut false kz vs out.toList->R (.done (.ret .none)) s'') :
 wpAny (model prog w) A (ksk_tail a false t (.ref kS) st) R No s':=by
 have hsz:keys.size=vs.length:=by
  have h1:=v.length;rw[Array.length_toList]at h1;lia
 have m:((arrOf st).map (·.2)).size=vs.length:=by rw[Array.size_map,d.size_eq,Array.size_zip,hsz,List.size_toArray,Nat.min_self]
 have r:=Heap.SameBut.update s'.heap kS (Obj.mapSeq λu=>(#[]:Array Value));have j:=(r.2 a C.ne.symm).trans k;have i:=Heap.SameBut.update (s'.heap.update kS (Obj.mapSeq λu=>(#[]:Array Value))) a (Obj.mapSeq λu=>(arrOf st).map (·.2));unfold ksk_tail;try dsimp only
 refine Wb (listUpdate_at f rfl ?_ (by rw[hsz,sizeLine_eq];exact Nt (Nat.le_of_lt y) (Nat.le_add_left _ _)) (Nat.zero_le _));refine Wb (wpAny_letGo ?_);refine Wb (seqEpoch_at j rfl ?_);refine Wb (listUpdate_at j rfl ?_ (Nat.zero_le _) (Nt (Ne0 m) (by rw[sizeLine_eq];exact Nt (Nat.le_of_lt y) (Nat.le_add_left _ _))));rw[z];simp only[bne_self_eq_false,Bool.false_eq_true,if_false];have ho:KskOut false kz vs ((arrOf st).map (·.2)).toList:=ksk_out (b:=false) v d p;have n:=g.poke C.k0 C.xk C.pk r s'.toks;have o:=n.poke C.a0 C.xa C.pa i s'.toks;have q:=get?_update_seq j λu=>(arrOf st).map (·.2);exact Wp (h _ _ _ o q ho)
theorem vo(C:Srt X s a kS)(g:Gr X s s')(b:s'.heap.get? kS=some (seqObj "list" keys e))(l:s'.heap.get? a=some (seqObj "list" #[] e1))
 (m:IntsAre keys.toList kz) (z:kz.length=vs.length) (q:vs.length<64)
 (h:∀y out c,Gr X s y->y.heap.get? a=some (seqObj "list" out c)->KskOut false kz vs out.toList->R (.done (.ret .none)) y) :
 wpAny (model prog w) A (ksk_end a false vs.toArray e1 (.ref kS) keys) R No s':=by
 have hsz:keys.size=vs.length:=by
  have h1:=m.length;rw[Array.length_toList]at h1;lia
 have r:(keys.zip vs.toArray).size=vs.length:=by rw[Array.size_zip,hsz,List.size_toArray,Nat.min_self]
 unfold ksk_end;dsimp only[Bool.false_eq_true,if_false];by_cases h2:vs.toArray.size<2
 ·rw[if_pos h2,if_pos h2];refine Wb (Wp ?_);rw[StateT.run_pure];refine Wb (Wp ?_);try dsimp only
  refine ou C g b l m z q (Array.Perm.refl _) (λi j d f=>?_) rfl h;have t:j<(keys.zip vs.toArray).size:=f;rw[r]at t;rw[List.size_toArray]at h2;have:i=j:=by lia
  clear d f t;subst this;exact Int.le_refl _
 ·rw[if_neg h2,if_neg h2];rw[List.size_toArray]at h2;rw[ksk_kind m (by rw[hsz];exact(Nat.le_of_not_lt h2))];refine Wb (Wp ?_);refine Wb (Wm (wpS_sortRuns (a₀:=keys.zip vs.toArray) (st:=SortSt.mk' oneType' (keys.zip vs.toArray) #[] 7 none)
   (Q:=λu v=>(arrOf v).Perm (keys.zip vs.toArray)/\failedOf v=none/\SortedTo (arrOf v) (keys.zip vs.toArray).size)
   (ksk_intKeys m) ⟨Array.Perm.refl _,rfl,rfl,rfl⟩ (by rw[r];exact(Nat.le_of_not_lt h2)) (by rw[r];exact q) λv p o x=>⟨p,o,x⟩) ?_ λu u e=>e)
  rintro⟨⟨⟩,v⟩ y ⟨rfl,k,n,J⟩
  try dsimp only
  exact ou C g b l m z q k (by rw[k.size_eq];exact J) n h
theorem uV(C:Srt X s a kS)(g:Gr X s s')(W:s'.heap.get? kS=some (seqObj "list" #[] 0))(F:s'.heap.get? a=some (seqObj "list" #[] e1))(q:kz.length=vs.length)(l:vs.length<64)
 (J:∀(i:Nat) (v:Value) (k:Int),vs[i]?=some v->kz[i]?=some k->∀m,Gr X s m->s'.toks<=m.toks->(∃o,m.heap.get? a=some o)->(∃o,m.heap.get? kS=some o)->
  wpAny (model prog w) A (call f [v]) (λr n=>Gr X m n/\∃t,r=.int k t) No m)
 (h:∀s'' out c,Gr X s s''->s''.heap.get? a=some (seqObj "list" out c)->KskOut false kz vs out.toList->R (.done (.ret .none)) s'') :
 wpAny (model prog w) A (ksk_rest a f false vs.toArray e1 (.ref kS)) R No s':=by
 unfold ksk_rest;refine Wb (wpAny_rule ?_);rw[List.forIn_toArray];refine Wb (ksk_fold (λi m=>Gr X s m/\s'.toks<=m.toks/\m.heap.get? a=some (seqObj "list" #[] e1)/\∃b e,m.heap.get? kS=some (seqObj "list" b e)/\IntsAre b.toList (kz.take i)) vs 0 s'
  ⟨g,Nr _,F,#[],0,W,by simpa using IntsAre.nil⟩ ?step ?done)
 case step=>
  rintro j x m M ⟨K,S,d,b,e,z,y⟩
  simp only[Nat.zero_add]at y ⊢;have hj:j<vs.length:=(List.getElem?_eq_some_iff.mp M).1;obtain⟨k,hkj⟩:∃k,kz[j]?=some k:=⟨_,List.getElem?_eq_getElem (by lia)⟩
  have hz:b.size<=vs.length:=by
   have h1:=y.length;rw[Array.length_toList,List.length_take]at h1;exact Nt (Ne0 h1) (Nt (Nat.min_le_right _ _) (Ne0 q))
  refine Wb (wpAny_attempt (Wm (wpAny_toks (J j x k M hkj m K S ⟨_,d⟩ ⟨_,z⟩)) (λv n Z=>?_) λu u Q=>Q.2.elim));refine hid λE O=>?_;obtain⟨H,L,t,rfl⟩:=Z;refine O ?_;clear O E;try dsimp only
  refine aO (id L) λh2 tk2 P p B=>?_;have T:n.heap.get? kS=some (seqObj "list" b e):=by rw[P];exact p kS _ C.pk z
  have I:n.heap.get? a=some (seqObj "list" #[] e1):=by rw[P];exact p a _ C.pa d
  have U:=Heap.SameBut.update n.heap kS (Obj.mapSeq (·.push (.int k t)));have N:kz.take (j+1)=kz.take j++[k]:=by rw[List.take_add_one,hkj];simp
  refine Wb (listUpdate_at T rfl ?_ (by rw[sizeLine_eq];exact Nt (Nt hz (Nat.le_of_lt l)) (by decide)) (Nt (Ne0 (Array.size_push ..)) (by rw[sizeLine_eq];exact Nm (Nt hz (Nat.le_of_lt l)) (by decide))));refine Wp ⟨rfl,(K.trans L).poke C.k0 C.xk C.pk U n.toks,Nt S H,(U.2 a C.ne.symm).trans I,b.push (.int k t),_,get?_update_seq T (·.push (.int k t)),?_⟩;rw[N,Array.toList_push];exact ksk_snoc y
 case done=>
  rintro m ⟨K,_,d,b,e,z,y⟩
  rw[show kz.take (0+vs.length)=kz from List.take_of_length_le (Nt (Ne0 q) (Nat.le_add_left _ _))]at y;try dsimp only
  exact Wb (listItems_at z rfl (vo C K z d y q l h))
theorem o7(S:St X s.heap)(hl:s.heap.IsList l vs.toArray)(n:kz.length=vs.length)(j:vs.length<64)
 (x:∀(W:List Addr),(∀b∈W,s.heap.get? b=none)->∀(i:Nat) (v:Value) (k:Int),vs[i]?=some v->kz[i]?=some k->∀M,Gr (λb=>X b\/b∈W) s M->s.toks<=M.toks->(∀b∈W,∃o,M.heap.get? b=some o)->
  wpAny (model prog w) A.in1.in1 (call (.ref q) [v]) (λr I=>Gr (λb=>X b\/b∈W) M I/\∃t,r=.int k t) No M)
 (h:∀a f out c,Gr X s f->s.heap.get? a=none->f.heap.get? a=some (seqObj "list" out c)->KskOut false kz vs out.toList->Q (.ref a) f) :
 wpAny (model prog w) A (call (.builtin "sorted") [.ref l] [(Str.ofString "key",.ref q)]) Q No s:=by
 refine call_function_entry_kw kind_sorted plain_sorted entry_sorted (ksk_s1 _ _) ?_;unfold Builtin.«sorted»;refine Wb (m:=checkCount "sorted" 1 1 _) (Wp ?_);refine Wb (collect_list hl ?_ (by rw[sizeLine_eq];exact Nt (Nat.le_of_lt j) (Nat.le_add_left _ _)));refine Wb (wpAny_newList ?_ (by rw[sizeLine_eq];exact Nt (Nat.le_of_lt j) (Nat.le_add_left _ _)));generalize hh0:(s.heap.push (seqObj "list" #[] 0)).update s.heap.objs.size (Obj.mapSeq (·++vs.toArray))=h0;have hsz:h0.objs.size=s.heap.objs.size+1:=by rw[<- hh0,Heap.size_update,size_push']
 have k0:∀b o,s.heap.get? b=some o->h0.get? b=some o:=λb o e=>by
  have C:=Nat.ne_of_lt (Heap.lt_size e);rw[<- hh0,Heap.get?_update_ne _ _ _ _ C];exact Hp _ e
 show wpAny _ _ _ _ _ {s with heap:=h0.push (seqObj "list" vs.toArray 0)};have y:(h0.push (seqObj "list" vs.toArray 0)).get? h0.objs.size=some (seqObj "list" vs.toArray 0):=Heap.get?_push_size _ rfl;refine Wb (wpAny_holding (wpAny_call_entry_kw slot_list_sort ⟨_,y,rfl⟩ entry_list_sort ?body (ksk_l1 _ _)));show wpAny (model prog w) A.in1.in1 (Builtin.«list.sort» ⟨[.ref h0.objs.size],[(Str.ofString "key",.ref q)]⟩) _ _ _;rw[ksk_t1];unfold ksk_tree;have T:=Heap.SameBut.update (h0.push (seqObj "list" vs.toArray 0)) h0.objs.size (Obj.mapSeq λu=>(#[]:Array Value));have p:=get?_update_seq y λu=>(#[]:Array Value)
 generalize hh1:(h0.push (seqObj "list" vs.toArray 0)).update h0.objs.size (Obj.mapSeq λu=>(#[]:Array Value))=h1 at T p;have z:h1.objs.size=s.heap.objs.size+2:=by rw[<- hh1,Heap.size_update,size_push',hsz]
 have B:∀b o,s.heap.get? b=some o->h1.get? b=some o:=λb o e=>(T.2 b (by rw[hsz];exact Nat.ne_of_lt (Nat.lt_succ_of_lt (Heap.lt_size e)))).trans (Hp _ (k0 b o e));refine Wb (listItems_at y rfl ?_);refine Wb (listUpdate_at y rfl ?_ (by rw[List.size_toArray,sizeLine_eq];exact Nt (Nat.le_of_lt j) (Nat.le_add_left _ _)) (Nat.zero_le _));rw[hh1];refine Wb (seqEpoch_at p rfl ?_);refine Wb (wpAny_newTuple ?_ (by show vs.length<=_;rw[sizeLine_eq];exact Nt (Nat.le_of_lt j) (Nat.le_add_left _ _)));refine Wb (wpAny_newList ?_ (Nat.zero_le _));refine wpAny_holding ?_;have fresh:∀b,s.heap.objs.size<=b->s.heap.get? b=none:=λb K=>Heap.get?_none_of_le K;have d:(h1.push (seqObj "tuple" vs.toArray 0)).objs.size=s.heap.objs.size+3:=by rw[size_push',z]
 have J:G.P<s.heap.objs.size:=by refine ah (S.ex _ S.xp) λo ho=>?_;exact Heap.lt_size ho
 have O:∀b∈[h0.objs.size,(h1.push (seqObj "tuple" vs.toArray 0)).objs.size],s.heap.get? b=none:=λb K=>by
  clear hl hh0 k0 y hh1 T z;rcases List.mem_cons.mp K with rfl|K
  ·exact fresh _ (by rw[hsz];exact Nat.le_succ _)
  ·rw[List.mem_singleton.mp K];exact fresh _ (by rw[d];exact Nat.le_add_right _ _)
 have kk:∀b o,s.heap.get? b=some o->((h1.push (seqObj "tuple" vs.toArray 0)).push (seqObj "list" #[] 0)).get? b=some o:=λb o e=>Hp _ (Hp _ (B b o e));refine uV (X:=λb=>X b\/b∈[h0.objs.size,(h1.push (seqObj "tuple" vs.toArray 0)).objs.size]) (s:=s) (kz:=kz)
  ⟨.inr (.head _),.inr (.tail _ (.head _)),Nat.ne_of_gt (by rw[hsz];exact Nat.lt_succ_of_lt J),Nat.ne_of_gt (by rw[d];exact Nl J (Nat.le_add_right _ _)),O _ (.head _),O _ (.tail _ (.head _)),Nat.ne_of_gt (by rw[d,hsz];exact Nat.add_lt_add_left (by decide) _)⟩
  ⟨_,s.toks,rfl,λb o u e=>kk b o e,GxOk.tabMove _ _ _ _ (λb o u U e=>⟨kk b o e,λh=>h.elim U λh=>by rw[O b h]at e;exact no e⟩) (λo e=>kk _ o e) S.tab⟩
  (Heap.get?_push_size _ rfl) (Hp _ (Hp _ p)) n j
  (λi v k F Z M g t H N=>x _ O i v k F Z M g t λb K=>by
   clear S hl n j x hh0 hsz k0 y hh1 T p z B fresh d J kk F t;rcases List.mem_cons.mp K with rfl|K
   ·exact H
   ·rw[List.mem_singleton.mp K];exact N)
  λf out c g ho L=>⟨_,rfl,Wp ⟨_,rfl,h _ f out c ?_ (O _ (.head _)) ho L⟩⟩
 refine aO g λh' tk E Z ht=>?_;clear S hl n j x hh0 hsz k0 y hh1 T p z B fresh d J O kk g ho L;subst E;exact⟨h',tk,rfl,Z,GxOk.tabMove _ _ _ _ (λb o u U e=>⟨e,λh=>U (.inl h)⟩) (λu e=>e) ht⟩
end
theorem j4:∀(r:List (Str×NameKind)) (n:Nat) (acc:List (Str×Addr)),r.all (λq=>q.2 != .cell)=true->cellsFrom n r acc=acc:=by
 intro r;induction r with
 |nil=>intro n acc _;rfl
 |cons q r j=>
  intro n acc h;obtain⟨x,k⟩:=q;refine bak (show((k != .cell)&&r.all _)=true from h) λh1 h2=>?_;unfold cellsFrom;rw[if_neg (by intro e;rw[eq_of_beq e]at h1;exact nf h1)];exact j n acc h2
theorem j5:∀(r:List (Str×NameKind)) (h:Heap),r.all (λq=>q.2 != .cell)=true->pushCells h r=h:=by
 intro r;induction r with
 |nil=>intro h _;rfl
 |cons q r j=>
  intro h g;obtain⟨x,k⟩:=q;refine bak (show((k != .cell)&&r.all _)=true from g) λh1 h2=>?_;unfold pushCells;rw[if_neg (by intro e;rw[eq_of_beq e]at h1;exact nf h1)];exact j h h2
theorem g8(h:eS p l=true):∃r,l=(p,.cell)::r/\r.all (λq=>q.2 != .cell)=true:=by
 cases l with
 |nil=>exact nf h
 |cons q r=>
  refine wa2 h λh1 h2 j=>?_;obtain⟨x,k⟩:=q;clear h;obtain rfl:=eq_of_beq h1;obtain rfl:=eq_of_beq h2;exact⟨r,rfl,j⟩
section
variable{M:Model}{A:Around}{E:Value->Shared->Prop}{s:Shared}
theorem d4{scope:Scope}{g:Addr}{cl:List (Str×Addr)}{p:Str}{v:Value}{qual:Str}{m:Option Addr}{code:Value}{j:Addr}{Q:Env->Shared->Prop}
 (x:scope.kind=.function) (hc:eS p scope.names=true)
 (h:∀h',(∀b o,s.heap.get? b=some o->h'.get? b=some o)->h'.Ns s.heap.objs.size (λu=>none)->h'.IsCell (s.heap.objs.size+1) (some v)->
  Q (newEnv scope s.heap.objs.size g ((p,s.heap.objs.size+1)::cl) qual m code none j) {s with heap:=h'}) :
 wpAny M A (newFunctionEnv scope g cl [(p,v)] qual m code none j) Q E s:=by
 refine af (g8 hc) λr t n=>?_;simp only[newFunctionEnv,Option.isSome_none,Bool.false_eq_true,if_false];refine Wb (wpAny_alloc ?_);refine Wb (wpAny_layCells _ (λname kind l=>by cases q:kind==NameKind.cell<;>simp[q]) _ _ _ _ ?_);generalize hh:s.heap.push {cls:=.type "frame",data:=.dict #[]}=h1;have hsz:h1.objs.size=s.heap.objs.size+1:=by rw[<- hh,Heap.size_push]
 have k:∀b o,s.heap.get? b=some o->h1.get? b=some o:=λb o e=>by rw[<- hh];exact Hp _ e
 have f:h1.Ns s.heap.objs.size λu=>none:=by rw[<- hh];exact Heap.Ns.new s.heap (.type "frame")
 have i:cellsFrom h1.objs.size scope.names cl=(p,s.heap.objs.size+1)::cl:=by
  rw[t];unfold cellsFrom;rw[if_pos (by rfl),j4 _ _ _ n,hsz]
 have hpc:pushCells h1 scope.names=h1.push {cls:=.type "cell",data:=.cell none}:=by
  rw[t];unfold pushCells;rw[if_pos (by rfl),j5 _ _ n]
 rw[i,hpc];have y:(h1.push {cls:=.type "cell",data:=.cell none}).IsCell (s.heap.objs.size+1) none:=⟨_,by rw[<- hsz];exact Heap.get?_push_size _ rfl,rfl⟩
 rw[List.forIn_cons];refine Wb (Wb (Wb (wpAny_storeName_cell (c:=s.heap.objs.size+1) x (by show scope.names.lookup p=_;rw[t];simp[List.lookup]) (by simp[List.lookup]) y λh' d z=>?_)));refine Wp ?_;dsimp only;rw[List.forIn_nil];refine Wp (Wp (h h' (λb o e=>?_) ((f.push _).sameBut z (Nat.ne_of_lt (Nat.lt_succ_self _))) d));exact(z.2 b (Nat.ne_of_lt (Nat.lt_succ_of_lt (Heap.lt_size e)))).trans (Hp _ (k b o e))
end
section
variable{A:Around}{s s':Shared}{X:Addr->Prop}{W:List Addr}{κ:List Addr}{σ:List Sto}{env:Env}{ρ:ar}[aI]
theorem Al.more(al:Al s X κ σ env ρ)(g:Gr (λb=>X b\/b∈W) s s')(U:s.toks<=s'.toks)(H:∀b∈W,s.heap.get? b=none)(O:∀b∈W,∃o,s'.heap.get? b=some o):Al s' (λb=>X b\/b∈W) κ σ env ρ:=by
 refine aO g λh' tk k j L=>?_;clear g;subst k;have K:∀b o,¬X b->s.heap.get? b=some o->b≠G.P:=λb o z u e=>z (e▸al.S.xp);have p:∀b o,¬X b->s.heap.get? b=some o->h'.get? b=some o/\¬(X b\/b∈W):=λb o z e=>⟨j b o (K b o z e) e,λh=>h.elim z λh=>by rw[H b h]at e;exact no e⟩
 refine⟨⟨λb o e=>j b o (K b o (al.S.low b o e) (al.S.base b o e)) (al.S.base b o e),λb o e=>(p b o (al.S.low b o e) (al.S.base b o e)).2,λa y=>?_,.inl al.S.xp,L⟩,
  ⟨al.T.len,λn x a h1 h2=>(al.T.at_ n x a h1 h2).moveG p (λu u e=>e) λb u o e hc=>⟨j _ _ (ci al.S.tab e hc) e,λdx u N J f=>j _ _ (ci al.S.tab J f) J⟩⟩,?_,Nt al.pos U⟩
 ·rcases y with y|y
  ·by_cases e:a=G.P
   ·subst e;refine af (GxOk.tabEx _ _ L) λo e I=>?_;exact⟨o,e⟩
   ·refine ah (al.S.ex a y) λo ho=>?_;exact⟨o,j a o e ho⟩
  ·exact O a y
 ·obtain⟨a,b,c,l,Y,m,B,C⟩:=al.R;refine⟨a,b,c,l,λn i=>let⟨c,h1,h2,v,o,Z,F⟩:=Y n i;⟨c,h1,h2,v,o,j c o h2 Z,F⟩,m,B.at' λo e=>j _ o l e,λx d e=>?_⟩;obtain⟨t,v,r,hc⟩:=C x d e;exact⟨t,v,r.move p λu u e=>e,hc.imp id λ⟨q,c,hc,hl,o,ho,hd⟩=>⟨q,c,hc,hl,o,j c o hc ho,hd⟩⟩
theorem vB(al:Al s X κ σ env ρ)(K:gJ scope env.scope=true)(hc:eS p scope.names=true)(U:idOf p=some pi)
 (I:∀n c,(n,c)∈cl->env.cells.lookup n=some c/\(n,NameKind.free)∈scope.names) (Y:∀n,(n,NameKind.free)∈scope.names->∃c,cl.lookup n=some c)
 {qual:Str} {f:Addr} {code:Value} {h':Heap} (r:Rep s.heap X κ v d) (hk:∀b o,s.heap.get? b=some o->h'.get? b=some o) (ja:h'.Ns s.heap.objs.size λu=>none) (g:h'.IsCell (s.heap.objs.size+1) (some v)) :
 Al {s with heap:=h'} X κ σ (newEnv scope s.heap.objs.size mainGlobals ((p,s.heap.objs.size+1)::cl) qual (some f) code none builtinsNs) ((pi,d)::aj (fh scope) ρ):=by
 have i:Al {s with heap:=h'} X κ σ env ρ:=al.gr (.kept al.S.tab hk) al.pos;refine bc (eg K) λO fW t=>?_;refine af (g8 hc) λrn a Q=>?_;refine au (bV U) λC H=>?_;clear K hc U;subst C;have L:G.P<s.heap.objs.size:=by refine ah (al.S.ex _ al.S.xp) λo ho=>?_;exact Heap.lt_size ho
 have l:∀n,(n,NameKind.free)∈scope.names->n≠nm pi/\∃c,cl.lookup n=some c/\env.cells.lookup n=some c:=λn k=>by
  refine⟨λe=>?_,?_⟩
  ·have:=fW _ k;rw[e,a]at this;simp[List.lookup]at this
  ·refine ah (Y n k) λc h1=>?_;exact⟨c,h1,(I n c (mem_of_lookup h1)).1⟩
 have z:∀n c,n≠nm pi->cl.lookup n=some c->((nm pi,s.heap.objs.size+1)::cl).lookup n=some c:=λn c k h=>by
  rw[List.lookup,show(n==nm pi)=false by simpa using k];exact h
 have y:((nm pi,s.heap.objs.size+1)::cl).lookup (nm pi)=some (s.heap.objs.size+1):=by simp[List.lookup]
 have cP:s.heap.objs.size+1≠G.P:=Nat.ne_of_gt (Nat.lt_succ_of_lt L);refine⟨i.S,i.T,⟨O,rfl,rfl,Nat.ne_of_gt L,λn h=>?_,_,ja,λx dx e=>?_⟩,al.pos⟩
 ·rcases h with h|h
  ·have j:(n,NameKind.cell)∈scope.names:=mem_of_lookup h;rw[a]at j;rcases List.mem_cons.mp j with j|j
   ·cases j;exact⟨_,y,cP,_,g⟩
   ·have:=List.all_eq_true.mp Q _ j;exact nf this
  ·have j:(n,NameKind.free)∈scope.names:=mem_of_lookup h;obtain⟨k,c,h1,h2⟩:=l n j;refine af (i.R.cl n (t n j)) λc' J h4=>?_;rw[h2]at J;(replace J:=si J;subst J);exact⟨c,z n c k h1,h4⟩
 ·by_cases hx:x=pi
  ·subst hx;rw[show((x,d)::aj (fh scope) ρ).lookup x=some d by simp[List.lookup]]at e;(replace e:=si e;subst e)
   exact⟨H,v,r.keeps λb o u e=>hk b o e,.inr ⟨.inl (by show scope.names.lookup _=_;rw[a];simp[List.lookup]),_,cP,y,g⟩⟩
  ·rw[List.lookup,show(x==pi)=false by simpa using hx]at e;refine au (dW _ _ _ e) λh1 h2=>?_;refine af (List.mem_filterMap.mp h2) λy7 j hi=>?_;obtain⟨n,kk⟩:=y7;refine au (List.mem_filter.mp j) λj N=>?_;obtain rfl:=eq_of_beq N;refine au (bV hi) λF B=>?_;refine hid λgG gF=>?_;subst F;obtain⟨k,c,J,h4⟩:=l _ j;refine gF ?_;clear gF gG;refine af i.R.vars λm z9 hv=>?_;obtain⟨_,v',r',q⟩:=hv x dx h1;refine⟨B,v',r',.inr ?_⟩;rcases q with⟨q,_⟩|⟨_,c',q1,Z,q3⟩
   ·rcases t _ j with h|h
    ·rw[show env.kindOf (nm x)=env.scope.names.lookup (nm x)from rfl,h]at q;cases q
    ·rw[show env.kindOf (nm x)=env.scope.names.lookup (nm x)from rfl,h]at q;cases q
   ·rw[h4]at Z;(replace Z:=si Z;subst Z);exact⟨.inr (fW _ j),c,q1,z _ c k J,q3⟩
theorem uW(hz:1<=G.z)(x:G.h0.NoLimit)(a:AOk 1 A)(al:Al s X κ σ env ρ){scope:Scope}{p:Str}{ap:Pos}{Q:Nat}{body:Expr}{H:PE}(K:gJ scope env.scope=true)(hc:eS p scope.names=true)(B:idOf p=some Q)(l:p=("part":Str)){cl:List (Str×Addr)}
 (T:∀n c,(n,c)∈cl->env.cells.lookup n=some c/\(n,NameKind.free)∈scope.names) (J:∀n,(n,NameKind.free)∈scope.names->∃c,cl.lookup n=some c)
 {q:Str} {f:Addr} {o:Obj} {C:Addr} {I Z:Value} (ho:s.heap.get? f=some o) (L:o.data=.func (kla_fn "<lambda>" q ⟨[],[⟨p,none,ap⟩],none,[],[],none,[]⟩ body scope cl I (.ref C) Z)) (P:s.heap.CodeRec (.ref C) q)
 (ht:tr 60 scope body=some H) {k:Nat} {v:Value} {d:PV} {i:Int} (hd:ev (λy y=>none) σ k H ((Q,d)::aj (fh scope) ρ)=some (.int i)) (r:Rep s.heap X κ v d) :
 wpAny (model prog w) A (call (.ref f) [v]) (λu s'=>Gr X s s'/\∃t,u=.int i t) No s:=by
 refine hid λgG N=>?_;have b:=K;simp only[gJ,Bool.and_eq_true,Bool.not_eq_true']at b;obtain⟨⟨⟨⟨m,_⟩,_⟩,j⟩,O⟩:=b;refine N ?_;clear N gG;refine wpAny_call (kla_callFunE (Nat.lt_trans (by have:=a.dp;exact Nat.lt_of_add_right_lt this:A.depth<990) (by decide)) ho L O j rfl P ?_);have hb:bindArgs (kla_fn "<lambda>" q ⟨[],[⟨p,none,ap⟩],none,[],[],none,[]⟩ body scope cl I (.ref C) Z) ⟨[v],[]⟩=pure [(p,v)]:=by
  clear ho L P O j;subst l;kernel_rfl
 rw[hb];refine Wp (d4 (eq_of_beq m) hc λh' F Y g=>⟨(x.keeps al.S.base).keeps F,kla_codeExpr ?_⟩);have FO:FOk (λy y=>none) 0:=⟨λy=>hz,λf args d y h=>by exact no h⟩
 have R:=vB al K hc B T J (qual:=q++".<locals>.") (f:=f) (code:=.ref C) r F Y g;refine Wm ((bu FO k).1 σ 60 scope body H _ _ ht hd _ _ X κ _ (a.deep _) rfl R) (λu s2 e=>?_) λy y f=>f.elim;refine ah e.2.inv λt U=>?_;clear hz x a K hc B l T J ho L P ht hd r O j m hb Y g FO R;subst U;exact⟨(Gr.kept (tk:=s.toks) al.S.tab F).trans e.1,t,rfl⟩
end
section
variable{A:Around}{s s':Shared}{X:Addr->Prop}{V W:List Addr}{κ:List Addr}{σ:List Sto}{env:Env}{ρ:ar}[aI]{LE:Env->Prop}{q:Str}
noncomputable abbrev fV(p:Str)(ap:Pos):Arguments:=⟨[],[⟨p,none,ap⟩],none,[],[],none,[]⟩
structure nR(q:Str)(env:Env)(p:Str)(ap:Pos)(body:Expr)(scope:Scope)(h:Heap)(f:Addr)(cl:List (Str×Addr))(pm ctv:Value)(c':Addr)(o oc:Obj)(vs:Array Value)(t:Tok):Prop where
 ho:h.get? f=some o
 od:o.data=.func (kla_fn "<lambda>" q (fV p ap) body scope cl pm (.ref c') ctv)
 fP:f≠G.P
 cP:c'≠G.P
 hc:h.get? c'=some oc
 cd:oc.data=.fields vs
 v1:vs[1]?=some (.str q t)
 cl1:∀n c,(n,c)∈cl->env.cells.lookup n=some c/\(n,NameKind.free)∈scope.names
 cl2:∀n,(n,NameKind.free)∈scope.names->∃c,cl.lookup n=some c
theorem uM(K:qP LE q)(ja:LE env)(al:Al s X κ σ env ρ)(H:gJ scope env.scope=true)
 (h:∀f cl J j m o z vs t s',Gr X s s'->s.toks<=s'.toks->nR q env p ap body scope s'.heap f cl J j m o z vs t->Q (.ref f) s') :
 wpAny (model prog w) A (eval (.Lambda (fV p ap) body scope ke) env) Q No s:=by
 refine bd (K.le env ja) λc y jc hq=>?_;have ht:=al.S.tab;rw[K.tab]at ht;refine bd ht λps N l hw=>?_;obtain⟨cl,U,cl1,cl2⟩:=fY (env:=env) scope λn hn=>by
  refine af (al.R.cl n ((eg H).2.2 n hn)) λc hc jd=>?_;exact⟨c,hc⟩
 have M:s.heap.BuiltinsAt G.mg G.P:=by
  refine AN K.bm λbm o h1 h2 h3 h4 h5 h6=>?_;exact⟨bm,o,h1,h2,h3,h4,al.S.base _ _ h5,h6⟩
 have x:G.P<s.heap.objs.size:=Heap.lt_size N;have C:=jc.keeps (al.S.base);have hg:=(GlOk.gns).keeps al.S.base;suffices key:wpAny (model prog w) A (eval (.Lambda (fV p ap) body scope ke) env) (λu s'=>∃f cl J j m o z vs t,u=.ref f/\Gr X s s'/\nR q env p ap body scope s'.heap f cl J j m o z vs t) No s by
  refine Wm (wpAny_toks key) (λu s' e=>?_) λv v f=>f.2;refine hid λI a=>?_;obtain⟨tk,f,cl,J,j,m,o,z,vs,t,rfl,g,L⟩:=e;refine a ?_;clear a I;exact h f cl J j m o z vs t s' g tk L
 refine kla_eval rfl ?_;rw[hq];have nX:∀b,s.heap.objs.size<=b->¬X b:=λb hb E=>by
  refine ah (al.S.ex b E) λo ho=>?_;exact absurd (Heap.lt_size ho) (Nat.not_lt.mpr hb)
 rcases hw with Y|⟨m,z,vs,t,hf,r,je,d,hd,B⟩
 ·refine kla_makeFunction U al.R.glob hg y C N l Y K.gP M λm j h' tk E i O Z jb=>?_;refine hid λI a=>?_;refine zh Z λc2 z vs t e d hd B=>?_;cases e;refine a ?_;clear a I;have r:m≠G.P:=Nat.ne_of_gt (Nl x i);have hsz:s.heap.objs.size<=h'.objs.size:=Nt i (Nat.le_of_lt O);have tb:G.tab X (h'.push (kla_obj "<lambda>" q (fV p ap) body scope cl ((G.mg "__name__").getD .none) m j)):=by
   rw[K.tab];refine⟨_,Hp _ jb,?_,.inr ⟨m,z,vs,t,?_,r,nX _ i,Hp _ d,hd,B⟩⟩
   ·rw[Array.toList_append];exact TriplesOk_snoc _ _ _ _ l
   ·rw[Array.toList_append];exact codeAmong_snoc _ l Y
  exact⟨_,cl,_,j,m,_,z,vs,t,rfl,⟨_,tk,rfl,λb o hb e=>Hp _ (E b o hb e),tb⟩,⟨Heap.get?_push_size _ rfl,rfl,Nat.ne_of_gt (Nl x hsz),r,Hp _ d,hd,B,cl1,cl2⟩⟩
 ·refine kla_makeFunctionHit U al.R.glob hg y C N l hf M λj h' tk hk hsz=>?_;have T:∀b o,s.heap.get? b=some o->(h'.push {cls:=.type "function",data:=.func (kla_fn "<lambda>" q (fV p ap) body scope cl ((G.mg "__name__").getD .none) (.ref m) j)}).get? b=some o:=λb o e=>Hp _ (hk b o e);exact⟨_,cl,_,j,m,_,z,vs,t,rfl,Gr.kept (tk:=tk) al.S.tab T,⟨Heap.get?_push_size _ rfl,rfl,Nat.ne_of_gt (Nl x hsz),r,T _ _ d,hd,B,cl1,cl2⟩⟩
omit [aI] in
theorem nR.gr(L:nR q env p ap body scope s.heap f cl pm ctv c' o oc vs t)(g:Gr Y s s'):
 nR q env p ap body scope s'.heap f cl pm ctv c' o oc vs t:=by
 refine aO g λh' tk j u m=>?_;clear g m;subst j;exact⟨u _ _ L.fP L.ho,L.od,L.fP,L.cP,u _ _ L.cP L.hc,L.cd,L.v1,L.cl1,L.cl2⟩
variable{F:Nat->List PV->Option PV}{nc k:Nat}{sc:Scope}{p p':PS'}{fl:Fl}
theorem y0(K:qP LE q)(hz:1<=G.z)(FO:FOk F nc)(hn:2<=nc)(hv:isV sc x=true)(hi:idOf x=some i)(jq:fI sc v=some (ae,l))(H:pB sc i ae l=some ps):
 oN LE F lam nc k sc (.Assign [.Name x np] v pos) ps:=by
 intro p p' fl hd jt A env X V κ s a hs hl z;refine qj (m9 jq) λsp kp m B hg=>?_;subst B;refine hid λgG gF=>?_;replace H:=oi H;refine au H λhc H=>?_;refine wa3 hc λJ jn c g=>?_;replace c:=of_decide_eq_true c;replace g:=eq_of_beq g;refine iZ H λpa pi pb jj C jp jf=>?_;subst jj;refine oT hd λd0 ds ks jl hd0 ja I jr=>?_;refine bc jr λh5 jh E=>?_;clear hd;rw[bN ja]at hd0;clear ja;refine obk hd0 λda je ji=>?_;cases jl;refine gF ?_;clear gF gG;subst E;have jc:ks.length=ds.length:=be I;have IH:=(bu FO k).1;refine wpAny_Assign_Name (Wm (wpAny_toks (Q:=λu s₁=>Gr X s s₁/\Rep s₁.heap X κ u (.list ((f5 (ks.zip ds)).map (·.2)))) ?_) (λu s₁ q=>iq jt hv hi (Rhs.plain z q.2.1 (z.gr q.2.1 (Nt z.al.pos q.1)) q.1 q.2.2)) λw w f=>f.2) rfl;have hb:=GlOk.blt "sorted" (by decide);show wpAny _ _ (do callWith m (<- eval (.Name "sorted" sp) env) [] (backTo m (starEach [ae] env)) (backToKw m (keywordEach [⟨some "key",.Lambda (fV l.p l.ap) l.body l.sc l.pos,kp⟩] env))) _ _ _;refine Wb (gh z.al.S z.al.R (hs▸hg) (by decide +kernel) hb.1 hb.2 ?_);have Z:=dC (gv C) [] env;refine callWith_kw (et IH a hs m [ae] [pa] [da] s _ (aw C rfl) (aw ji rfl) z.al λjy s₁ g₁ M r₁=>kws_cons ?_) (by rw[Z];rfl) (by rw[Z];rfl);rw[c];refine uM K (hl rfl) M (hs▸J) λf cl pm ma c' o oc vs t s₂ g₂ tk2 L=>kws_nil ?_;refine af r₁.inv1 λu jb jg=>?_;subst jb;show wpAny _ _ (call (.builtin "sorted") [u] [(Str.ofString "key",.ref f)]) _ _ _;have d:=M.gr g₂ (Nt M.pos tk2);obtain⟨la,jk,n,rfl,js,_,rl⟩:=aC d.T (M.rep g₂ jg) je;have jd:jk.length=ds.length:=rl.len;refine o7 d.S ⟨_,js,rfl,n,rfl⟩ (kz:=ks) (by rw[jc,jd]) (by rw[jd];exact Nm h5 (by decide)) (λW hW j v kk ju jx s₃ P t₃ ex=>?_) λad s₃ out cc P jo jm N=>?_
 ·refine af (rl.getV ju) λdj jw rj=>?_;refine af (iy I j dj jw) λy hy r=>?_;rw[jx]at r;(replace r:=si r;subst r);refine obk hy λdk r U=>?_;rw[aA r]at U;have jv:=d.more P t₃ hW ex;have O:=L.gr P;have r₃:Rep s₃.heap (λb=>X b\/b∈W) κ v dj:=by
   refine aO P λh' tk Y hk jz=>?_;subst Y;exact rj.move (λb o hx e=>⟨hk b o (λq=>hx (q▸d.S.xp)) e,λh=>h.elim hx λh=>by rw[hW b h]at e;exact no e⟩) λw w e=>e
  exact uW (A:=A.in1.in1) hz K.lim ⟨a.hd,(by have:=a.dp;show A.depth+10*1+20<990;exact Nm (Nat.add_le_add_right (Nat.add_le_add_left (Nat.mul_le_mul_left 10 (Nat.le_of_succ_le hn)) _) 20) this),(by have:=a.un;show A.units+1+1+100*1+500<9900;exact Nm (Nt (Nat.add_le_add_left (by decide:602<=700) _) (Nat.add_le_add_right (Nat.add_le_add_left (Nat.mul_le_mul_left 100 hn) _) 500)) this)⟩ jv (hs▸J) jn jp g O.cl1 O.cl2 O.ho O.od ⟨c',oc,vs,t,rfl,O.hc,O.cd,O.v1⟩ jf U r₃
 ·have hX:¬X ad:=λhx=>by refine ah (d.S.ex ad hx) λo ho=>?_;rw[jo]at ho;exact no ho
  refine⟨g₁.trans (g₂.trans P),.list (vs:=out.toList) (n:=cc) (by rw[jm];rfl) hX (pD N (P.repL d.S.xp rl) jc jh)⟩
end
end
section
open PyProof.Rows PySem PySem.Builtin PySem.Calls PySem.W
structure ZS(z TI TO i1 i2 l1:Addr)(xs:Array Value)(y:Str)(t:Tok)(f0:Value)(k:Nat)(h:Heap):Prop where
 hz:IsZip h z TI TO f0
 hTI:IsPair h TI (.ref i1) (.ref i2)
 hTO:∃a b,IsPair h TO a b
 h1:h.IsListIter i1 l1 k
 h2:h.IsStrIter i2 "str_ascii_iterator" y t k
 hl:h.IsList l1 xs
section
variable{A:Around}{E:Value->Shared->Prop}{s:Shared}{z TI TO i1 i2 l1:Addr}{xs:Array Value}{y:Str}{t:Tok}{k:Nat}
theorem kB{h h':Heap}(q:h.IsStrIter a ty x t i)(e:∀o,h.get? a=some o->h'.get? a=some o):h'.IsStrIter a ty x t i:=let⟨o,ho,r⟩:=q;⟨o,e o ho,r⟩
theorem wC(D:ZipApart z TI TO i1 i2 l1 l1)(Z:ZS z TI TO i1 i2 l1 xs y t .none k s.heap)(hx:xs[k]?=some x)(hy:y.cps[k]?=some c)
 (hQ:∀h',ZS z TI TO i1 i2 l1 xs y t (rawInt s.heap.objs.size) (k+1) h'->IsPair h' s.heap.objs.size x (.str ⟨#[c]⟩ s.toks)->(∀c o,c≠z->c≠TO->c≠i1->c≠i2->s.heap.get? c=some o->h'.get? c=some o)->
  Q (some (.ref s.heap.objs.size)) {s with heap:=h',toks:=s.toks+1}) :
 wpAny (model prog w) A (pyNext (.ref z)) Q E s:=by
 obtain⟨hz,hTI,⟨a,b,hTO⟩,h1,h2,J⟩:=Z;have hT:s.TypeIs (.ref z) "zip":=⟨_,hz,rfl⟩
 unfold pyNext;refine Wb (wpAny_attempt (wpAny_callSpecial?_slot (name:=Str.ofString "__next__") hT F.slot_zip_next (wpAny_call_entry F.slot_zip_next hT F.entry_zip_next ?_ (F.args_zip_next_1 _))));show wpAny _ _ (field (.ref z) 2 >>= _) _ _ _;refine Wb (wpAny_field hz rfl (x:=.bool false) rfl ?_);refine Wb (wpAny_field hz rfl (x:=.ref TI) rfl ?_);refine Wb (wpAny_seqItems hTI rfl ?_);refine Wb ?_;unfold Builtin.SmallTypes.ownedTupleIsFree;refine Wb (wpAny_field hz rfl (x:=.none) rfl (Wp ?_));simp only[if_true];refine Wb (wpAny_rule ?_);refine Wb (wpAny_field hz rfl (x:=.ref TO) rfl ?_);refine Wb (wpAny_setField_rec hz (by simp) λh₁ C g=>?_);refine Wb ?_;simp only[List.zipIdx_cons,List.zipIdx_nil,List.forIn_cons,List.forIn_nil];refine Wb (Wb (wpAny_onRaise ?_));refine Wb (wpAny_nextOf_list_item (h1.extBut g.extBut D.i1z) (J.extBut g.extBut D.l1z) hx λh₂ Y q=>Wp ?_);have i:IsPair h₂ TO a b:=q.extBut _ _ D.TOi1 (g.extBut _ _ D.TOz hTO);refine Wb (wpAny_seqItems i rfl ?_);refine Wb (wpAny_updateSeq_pair i λh₃ M v=>?_);refine Wb (wpAny_letGo (Wp ?_));refine Wb (Wb (wpAny_onRaise ?_));refine Wb (wpAny_nextOf_ascii_item (((h2.extBut g.extBut D.i2z).extBut q.extBut D.i12.symm).extBut v.extBut D.TOi2.symm) hy λh₄ U r=>Wp ?_);have d:IsPair h₄ TO x b:=r.extBut _ _ D.TOi2 M;refine Wb (wpAny_seqItems d rfl ?_);refine Wb (wpAny_updateSeq_pair d λm j u=>?_);replace j:IsPair m TO x (.str ⟨#[c]⟩ s.toks):=j;refine Wb (wpAny_letGo (Wp (Wp ?_)));refine Wb (wpAny_seqItems j rfl ?_);refine Wb (wpAny_newTuple ?_);have hsz:m.objs.size=s.heap.objs.size:=by rw[u.1,r.1,v.1,q.1,g.1]
 have h:∀c o,c≠TO->c≠i1->c≠i2->h₁.get? c=some o->m.get? c=some o:=λc o S B W e=>u.extBut _ _ S (r.extBut _ _ W (v.extBut _ _ S (q.extBut _ _ B e)));have K:IsZip m z TI TO .ellipsis:=h _ _ D.TOz.symm D.i1z.symm D.i2z.symm C;have I:m.IsListIter i1 l1 (k+1):=((Y.extBut v.extBut D.TOi1.symm).extBut r.extBut D.i12).extBut u.extBut D.TOi1.symm;have N:m.IsStrIter i2 "str_ascii_iterator" y t (k+1):=U.extBut u.extBut D.TOi2.symm;have l:z<m.objs.size:=Heap.lt_size K;refine Wb ?_;unfold Builtin.SmallTypes.ownedTupleHandOut;have H:IsZip (m.push {cls:=.type "tuple",data:=.seq #[x,.str ⟨#[c]⟩ s.toks]}) z TI TO .ellipsis:=Hp _ K;refine Wb (wpAny_setField_rec H (by simp) λh₇ ja O=>?_);refine wpAny_setField_rec ja (by simp) λP n f=>?_;have R:∀c o,c≠z->m.get? c=some o->P.get? c=some o:=λc o L e=>f.extBut _ _ L (O.extBut _ _ L (Hp _ e));have p:IsPair P m.objs.size x (.str ⟨#[c]⟩ s.toks):=f.extBut _ _ (Nat.ne_of_gt l) (O.extBut _ _ (Nat.ne_of_gt l) (Heap.get?_push_size _ rfl));rw[hsz]at n p;refine Wp ⟨_,rfl,Wp ?_⟩;rw[hsz];have T:∀c o,c≠z->c≠TO->c≠i1->c≠i2->s.heap.get? c=some o->P.get? c=some o:=λc o L S B W e=>R c o L (h c o S B W (g.extBut _ _ L e));exact hQ P ⟨n,T _ _ D.TIz D.TITO D.TIi1 D.TIi2 hTI,⟨_,_,R _ _ D.TOz j⟩,I.at λo e=>R _ o D.i1z e,kB N λo e=>R _ o D.i2z e,J.at λo e=>T _ o D.l1z D.l1TO D.l1i1 D.l1i2 e⟩ p T
theorem yM(hh:A.handled=none)(D:ZipApart z TI TO i1 i2 l1 l1)(Z:ZS z TI TO i1 i2 l1 xs y t .none k s.heap)(l:xs[k]?=none\/(∃x,xs[k]?=some x)/\y.cps[k]?=none)
 (U:∀h' e,(∀c o,c≠z->c≠TO->c≠i1->c≠i2->s.heap.get? c=some o->h'.get? c=some o)->(∃o,h'.get? e=some o/\o.cls=.type "StopIteration")->E (.ref e) {s with heap:=h'}) :
 wpAny (model prog w) A (Builtin.«zip.__next__» ⟨[.ref z],[]⟩) Q E s:=by
 refine hid λC R=>?_;obtain⟨hz,hTI,⟨a,b,hTO⟩,h1,h2,i⟩:=Z;refine R ?_;clear R C;show wpAny _ _ (field (.ref z) 2 >>= _) _ _ _;refine Wb (wpAny_field hz rfl (x:=.bool false) rfl ?_);refine Wb (wpAny_field hz rfl (x:=.ref TI) rfl ?_);refine Wb (wpAny_seqItems hTI rfl ?_);refine Wb ?_;unfold Builtin.SmallTypes.ownedTupleIsFree;refine Wb (wpAny_field hz rfl (x:=.none) rfl (Wp ?_));simp only[if_true];refine Wb (wpAny_rule ?_);refine Wb (wpAny_field hz rfl (x:=.ref TO) rfl ?_);refine Wb (wpAny_setField_rec hz (by simp) λN p g=>?_);refine Wb ?_;simp only[List.zipIdx_cons,List.zipIdx_nil,List.forIn_cons,List.forIn_nil];refine Wb (Wb (wpAny_onRaise ?_));rcases l with L|⟨⟨x,L⟩,W⟩
 ·refine Wb (wpAny_nextOf_list_end hh (h1.extBut g.extBut D.i1z) (i.extBut g.extBut D.l1z) L λO e m M=>?_);refine af M λoe j q=>?_;have K:IsZip O z TI TO .ellipsis:=m _ _ D.i1z.symm p;have d:e≠z:=λx=>by subst x;rw[K]at j;(replace j:=si j;subst j);simp at q
  refine wpAny_setField_rec K (by simp) λT u v=>U T e (λc o h u P u x=>v.extBut _ _ h (m _ _ P (g.extBut _ _ h x))) ⟨oe,v.extBut _ _ d j,q⟩
 ·refine Wb (wpAny_nextOf_list_item (h1.extBut g.extBut D.i1z) (i.extBut g.extBut D.l1z) L λO F m=>Wp ?_);have r:IsPair O TO a b:=m.extBut _ _ D.TOi1 (g.extBut _ _ D.TOz hTO);refine Wb (wpAny_seqItems r rfl ?_);refine Wb (wpAny_updateSeq_pair r λT S v=>?_);refine Wb (wpAny_letGo (Wp ?_));refine Wb (Wb (wpAny_onRaise ?_));refine Wb (wpAny_nextOf_ascii_end hh (((h2.extBut g.extBut D.i2z).extBut m.extBut D.i12.symm).extBut v.extBut D.TOi2.symm) W λI e J M=>?_);refine af M λoe j q=>?_;have f:IsZip I z TI TO .ellipsis:=J _ _ D.i2z.symm (v.extBut _ _ D.TOz.symm (m.extBut _ _ D.i1z.symm p));have d:e≠z:=λx=>by subst x;rw[f]at j;(replace j:=si j;subst j);simp at q
  refine wpAny_setField_rec f (by simp) λY u n=>U Y e (λc o h H P B x=>n.extBut _ _ h (J _ _ B (v.extBut _ _ H (m.extBut _ _ P (g.extBut _ _ h x))))) ⟨oe,n.extBut _ _ d j,q⟩
theorem vC(hh:A.handled=none)(D:ZipApart z TI TO i1 i2 l1 l1)(Z:ZS z TI TO i1 i2 l1 xs y t .none k s.heap)(j:xs[k]?=none\/(∃x,xs[k]?=some x)/\y.cps[k]?=none)
 (v:∀h',(∀c o,c≠z->c≠TO->c≠i1->c≠i2->s.heap.get? c=some o->h'.get? c=some o)->Q none {s with heap:=h'}) :
 wpAny (model prog w) A (pyNext (.ref z)) Q E s:=by
 have g:s.TypeIs (.ref z) "zip":=⟨_,Z.hz,rfl⟩
 unfold pyNext;refine Wb (wpAny_attempt (wpAny_callSpecial?_slot (name:=Str.ofString "__next__") g F.slot_zip_next
  (wpAny_call_entry F.slot_zip_next g F.entry_zip_next (yM hh D Z j λh' e m u=>?_) (F.args_zip_next_1 _))))
 refine af u λo ho hc=>?_;refine Wb (wpAny_isInstance (T:="StopIteration") (b:=true) ⟨o,ho,hc⟩ isSubtype_stop ?_);exact Wp (v _ m)
theorem Ar{elts:List Expr}{r:Nat}{pos:Pos}{T:Addr}{Q:Unit->Shared->Prop}(D:ZipApart z TI TO i1 i2 l1 l1)(Z:ZS z TI TO i1 i2 l1 xs y t (rawInt T) k s.heap)
 (q:∀h',ZS z TI TO i1 i2 l1 xs y t .none k h'->Heap.SameBut z s.heap h'->Q () {s with heap:=h'}) :
 wpAny (model prog w) A (letOwnedTupleGo (.Tuple elts r pos) (.ref z) (.ref T)) Q E s:=by
 refine hid λv u=>?_;obtain⟨hz,hTI,⟨a,b,hTO⟩,h1,h2,m⟩:=Z;refine u ?_;clear u v;exact wpAny_letOwnedTupleGo_zip hz λh' g j=>q h' ⟨g,j.extBut _ _ D.TIz hTI,⟨a,b,j.extBut _ _ D.TOz hTO⟩,h1.extBut j.extBut D.i1z,h2.extBut j.extBut D.i2z,m.extBut j.extBut D.l1z⟩ j
end
noncomputable abbrev vW(h:Heap)(l1:Addr):Heap:=h.push {cls:=.type "list_iterator",data:=.fields #[.ref l1,.int 0 0]}
noncomputable abbrev vK(h:Heap)(l1:Addr)(y:Str)(t:Tok):Heap:=(vW h l1).push {cls:=.type "str_ascii_iterator",data:=.fields #[.str y t,.int 0 0]}
noncomputable abbrev vF(h:Heap)(l1:Addr)(y:Str)(t:Tok):Heap:=(vK h l1 y t).push {cls:=.type "tuple",data:=.seq #[.ref h.objs.size,.ref (vW h l1).objs.size]}
noncomputable abbrev wE(h:Heap)(l1:Addr)(y:Str)(t:Tok):Heap:=(vF h l1 y t).push {cls:=.type "tuple",data:=.seq #[.none,.none]}
noncomputable abbrev pt(h:Heap)(l1:Addr)(y:Str)(t:Tok):Heap:=(wE h l1 y t).push {cls:=.type "zip",data:=.fields #[.none,.bool false,.bool false,.ref (vK h l1 y t).objs.size,.ref (vF h l1 y t).objs.size]}
set_option maxHeartbeats 4000000 in
theorem ng(j:Addr)(y:Str)(t:Tok)(xs:Array Value)(e:y.cps.all (·< 128)=true):
 Meets (Builtin.«zip.__new__» ⟨[.type "zip",.ref j,.str y t],[]⟩) (λu R s=>s.heap.IsList j xs/\
  R (.ok (.ret (.ref (wE s.heap j y t).objs.size))) {s with heap:=pt s.heap j y t}):=
 .of_wp λprog w A R s h=>by
  obtain⟨l,g,d,tk,c⟩:=s;refine au h λq h=>?_;have r:=sub_zip;have m:Heap.IsList (Shared.heap ⟨l,g,d,tk,c⟩) j xs:=q;have v:∀{Q:Value->Shared->Prop} {E:Value->Shared->Prop} {s:Shared},Q (.ref s.heap.objs.size) {s with heap:=s.heap.push {cls:=.type "str_ascii_iterator",data:=.fields #[.str y t,.int 0 0]}}->wpAny (model prog w) A.in1 (pyIter (.str y t)) Q E s:=λi=>wpAny_pyIter_ascii e i;wp_walk using wpAny_pyIter_list m,v
  exact⟨_,rfl,h⟩
section
variable{A:Around}{E:Value->Shared->Prop}{s:Shared}
theorem ol{y:Str}(b:y.cps.all (·< 128)=true)(j:s.heap.IsList l1 xs)
 (h:∀h',ZS (s.heap.objs.size+4) (s.heap.objs.size+2) (s.heap.objs.size+3) s.heap.objs.size (s.heap.objs.size+1) l1 xs y t .none 0 h'->(∀c o,s.heap.get? c=some o->h'.get? c=some o)->Q (.ref (s.heap.objs.size+4)) {s with heap:=h'}) :
 wpAny (model prog w) A (call (.type "zip") [.ref l1,.str y t]) Q E s:=by
 refine callType_new F.called_zip (by decide) (F.typeCall_zip_2 _ _) (F.newCall_zip_2 _ _) (λz=>F.args_object_init_3 z _ _) F.entry_zip_new (ng l1 y t xs b) ⟨j,?_⟩;have v:(vW s.heap l1).objs.size=s.heap.objs.size+1:=Heap.size_push ..;have m:(vK s.heap l1 y t).objs.size=s.heap.objs.size+2:=by rw[Heap.size_push,v]
 have g:(vF s.heap l1 y t).objs.size=s.heap.objs.size+3:=by rw[Heap.size_push,m]
 have r:(wE s.heap l1 y t).objs.size=s.heap.objs.size+4:=by rw[Heap.size_push,g]
 have u:(pt s.heap l1 y t).get? (wE s.heap l1 y t).objs.size=some _:=Heap.get?_push_size _ rfl;have i:(pt s.heap l1 y t).get? (vF s.heap l1 y t).objs.size=some _:=Hp _ (Heap.get?_push_size _ rfl);have q:(pt s.heap l1 y t).get? (vK s.heap l1 y t).objs.size=some _:=Hp _ (Hp _ (Heap.get?_push_size _ rfl));have l:(pt s.heap l1 y t).get? (vW s.heap l1).objs.size=some _:=Hp _ (Hp _ (Hp _ (Heap.get?_push_size _ rfl)));have f:(pt s.heap l1 y t).get? s.heap.objs.size=some _:=Hp _ (Hp _ (Hp _ (Hp _ (Heap.get?_push_size _ rfl))));have d:∀c o,s.heap.get? c=some o->(pt s.heap l1 y t).get? c=some o:=λc o x=>Hp _ (Hp _ (Hp _ (Hp _ (Hp _ x))));show _/\_;rw[m,g,r]at u;rw[v,m]at q;rw[g]at i;rw[v]at l;rw[r];exact⟨⟨_,u,rfl⟩,h _ ⟨u,q,⟨_,_,i⟩,⟨_,f,rfl,rfl⟩,⟨_,l,rfl,rfl⟩,j.at λo e=>d _ o e⟩ d⟩
end
section
variable{A:Around}{s s' s₁:Shared}{X:Addr->Prop}{V:List Addr}{κ:List Addr}{σ:List Sto}{env:Env}{ρ:ar}{own:Str->Bool}[aI]
 {F:Nat->List PV->Option PV} {nc k:Nat} {sc:Scope} {p p':PS'}
noncomputable def kL(env:Env)(x:Str)(v:Value)(h:Heap):Prop:=env.kindOf x=some .local/\∃m,h.Ns env.locals m/\m x=some v
omit [aI] in
theorem kL.gr(H:kL env x v s.heap)(al:Al s X κ σ env ρ)(g:Gr X s s'):kL env x v s'.heap:=by
 refine hid λz y=>?_;refine aO g λh' tk j q u=>?_;clear g u;subst j;obtain⟨h1,m,h2,r⟩:=H;refine y ?_;clear y z;exact⟨h1,m,h2.at' λo e=>q _ o al.R.loc e,r⟩
theorem yP(IH:∀k,EvT F nc k)(hz:1<=G.z)(h:ScF sc)(a:AOk nc A)(hs:env.scope=sc){np ap jb xp yp B b2 c1 c2 cp pos:Pos}(Y:idOf pn=some pi)(n:isV sc pn=true)(hx:idOf xn=some xi)(hy:idOf yn=some yi)
 (o:isV sc xn=true) (r:(ap.endLine==cp.line)=true) (z:Fz X V (aW sc) env κ σ ρ s)
 (ep:ρ.lookup pi=some (.str t')) (ex:ρ.lookup xi=some (.str wd)) (H:kL env yn (.str ⟨#[c]⟩ tok) s.heap) (h0:0<tok) (C:tok<s.toks) (J:wd.length<=1000)
 (hr:kc ([38]++wd++[59]) [c] t'=some y) :
 wpAny (model prog w) A (exec (.Assign [.Name pn np] (.Call (.Attribute (.Name pn jb) "replace" ap) [.BinOp (.BinOp (.Constant (.str "&") k1 c1) .Add (.Name xn xp) B) .Add (.Constant (.str ";") k2 c2) b2,.Name yn yp] [] cp) pos) env)
  (Ex X V (aW sc) env κ s ⟨(pi,.str y)::ρ,σ⟩ .next) No s:=by
 refine wpAny_Assign_Name (Wm (wpAny_toks (Q:=λu K=>Gr X s K/\Rep K.heap X κ u (.str y)) (E:=No) ?_) (λu K q=>iq (p':=⟨ρ,σ⟩) h n Y (Rhs.plain (p:=⟨ρ,σ⟩) z q.2.1 (z.gr q.2.1 (Nt z.al.pos q.1)) q.1 q.2.2)) λj j f=>f.2) rfl;refine wpAny_Call_method_lateS rfl rfl r (Wm (wpAny_toks (eA z.al.S z.al.R Y ep)) (λu K q=>?_) λj j f=>f.2);refine bc q λM N r₁=>?_;have g:=z.al.gr N (Nt z.al.pos M);refine ah (fO r₁) λt I=>?_;subst I;refine⟨"str","str.replace",PySem.F.plainAttrs_str,PySem.F.slot_str_replace,PySem.F.type_str_replace,typeIs_str _ _ _,(λb e=>nomatch e),?_⟩;refine callWith_builtin_kwB rfl rfl (evalArgs_plain ?_);show wpAny _ _ (spliced ((false,eval (.BinOp (.BinOp (.Constant (.str "&") k1 c1) .Add (.Name xn xp) B) .Add (.Constant (.str ";") k2 c2) b2) env)::(false,eval (.Name yn yp) env)::[])) _ _ _;unfold spliced;have T:tr 60 sc (.BinOp (.Constant (.str "&") k1 c1) .Add (.Name xn xp) B)=some (.bin .Add (.cstr [38]) (.var xi)):=by
  show(some (PE.cstr [38])).bind (λa=>(kJ sc xn).map λb=>PE.bin .Add a b)=_;unfold kJ;rw[if_pos o,hx];rfl
 have O:ev F σ 2 (.bin .Add (.cstr [38]) (.var xi)) ρ=some (.str ([38]++wd)):=by
  show(rs σ (some (PV.str [38]))).bind (λx=>(rs σ (b8 ρ xi)).bind λy=>tC .Add x y)=_;rw[show b8 ρ xi=some (.str wd)from ex];show(if[38].length+wd.length<=ag then _ else _)=_;rw[if_pos (by show 1+wd.length<=100000;lia)]
 refine Wb (wpAny_BinOp (Wm (wpAny_toks (IH 2 σ 60 sc _ _ ρ _ T O A env X κ K a hs g)) (λu i q=>?_) λj j f=>f.2));refine bc q λL U r₂=>?_;refine ah (fO r₂) λt2 Z=>?_;subst Z;have d:=g.gr U (Nt g.pos L);have HB:=(H.gr z.al N).gr g U;refine wpAny_Constant_str ?_;have l:¬(⟨([38]++wd).toArray⟩:Str).length=0:=by simp[Str.length]
 refine P.add_str ?_;rw[if_neg (by simpa using l),if_neg (by decide)];have eo:(⟨([38]++wd).toArray⟩:Str)++Str.ofString ";"=⟨([38]++wd++[59]).toArray⟩:=Str.ext' (by rw[Str.cps_append];simp;rfl);rw[eo];refine⟨by simp only[Str.length,List.size_toArray,sizeLine_eq,List.length_append,List.length_cons,List.length_nil];exact Nt (Nat.succ_le_succ (Nat.add_le_add_left J 1)) (by decide),?_⟩;dsimp only[Bool.false_eq_true,if_false];refine Wb (Wp (Wb (wpAny_holding ?_)));unfold spliced;clear IH h a hs Y n hx o r z ep ex H J g r₁ T O r₂ l eo;refine hid λgG gF=>?_;obtain⟨hyl,rfl⟩:yi<nms.length/\nm yi=yn:=let q:=bV hy;⟨q.2,q.1⟩;obtain⟨hk,m,ja,hm⟩:=HB;refine gF ?_;clear gF gG;refine Wb (wpAny_Name (wpAny_loadName_local d.R.kind hk ja hm ?_) (cL _ (ft hyl)).1);dsimp only[Bool.false_eq_true,if_false];refine Wb (Wp (Wb (wpAny_holding ?_)));delta spliced;refine Wp (Wp (Wp ?_));have jc:1<=i.toks:=Nt hz d.pos;have W:tok<i.toks:=Nl C (Nt M L);have hS:St X ({i with toks:=i.toks+1+1}:Shared).heap:=d.S;have e1:([c]:List Nat).toArray=#[c]:=rfl;have key:=qZ (A:=A) (κ:=κ) (X:=X) (t:=t) (u:=i.toks+1) (v:=tok) (s:={i with toks:=i.toks+1+1}) hS hr (Nat.succ_ne_zero _) (Nat.ne_of_gt h0) (Nat.ne_of_gt (Nat.lt_succ_of_lt W));exact Wm key (λv s₃ q=>⟨N.trans (U.trans ((Gr.tok d.S.tab _).trans q.1)),q.2⟩) λj j f=>f
noncomputable def nz(x y pp:Nat)(t:List Nat)(ρ:ar):Option (List Nat×Nat)->ar
 |none=>(pp,.str t)::ρ
 |some q=>(y,.str [q.2])::(x,.str q.1)::(pp,.str t)::ρ
omit [aI] in
theorem ct(h:x≠y):List.lookup x ((y,d)::ρ)=ρ.lookup x:=by rw[List.lookup,show(x==y)=false by simpa using h]
omit [aI] in
theorem eh:List.lookup x ((x,d)::ρ)=some d:=by rw[List.lookup,show(x==x)=true by simp]
omit [aI] in
theorem sH(h1:x≠pp)(h2:y≠pp)(o:Option (List Nat×Nat)):(nz x y pp t ρ o).lookup pp=some (.str t):=by
 cases o with
 |none=>exact eh
 |some q=>exact(ct h2.symm).trans ((ct h1.symm).trans eh)
omit [aI] in
theorem q8(o:Option (List Nat×Nat))(q:List Nat×Nat)(h1:x≠pp)(h2:y≠pp):∀z d,(nz x y pp t ρ (some q)).lookup z=some d->((y,PV.str [q.2])::(x,PV.str q.1)::nz x y pp t ρ o).lookup z=some d:=by
 intro z d h;by_cases e1:z=y
 ·clear h1 h2;subst e1;exact eh.trans (eh.symm.trans h)
 ·rw[ct e1];replace h:=(ct e1).symm.trans h;by_cases e2:z=x
  ·clear h1 h2;subst e2;exact eh.trans (eh.symm.trans h)
  ·rw[ct e2];replace h:=(ct e2).symm.trans h;clear h1 h2;cases o with
   |none=>exact h
   |some r=>exact(ct e1).trans ((ct e2).trans h)
omit [aI] in
theorem tj(o:Option (List Nat×Nat))(h1:x≠pp)(h2:y≠pp):∀z d,(nz x y pp t' ρ o).lookup z=some d->((pp,PV.str t')::nz x y pp t ρ o).lookup z=some d:=by
 intro z d h;by_cases e:z=pp
 ·subst e;rw[sH h1 h2]at h;exact eh.trans h
 ·rw[ct e];clear h1 h2;cases o with
  |none=>exact(ct e).trans ((ct e).symm.trans h)
  |some q=>
   show List.lookup z ((y,_)::(x,_)::(pp,_)::ρ)=_;replace h:List.lookup z ((y,_)::(x,_)::(pp,_)::ρ)=some d:=h;by_cases e1:z=y
   ·subst e1;exact eh.trans (eh.symm.trans h)
   ·rw[ct e1]at h ⊢;by_cases e2:z=x
    ·subst e2;exact eh.trans (eh.symm.trans h)
    ·rw[ct e2,ct e]at h;rw[ct e2,ct e];exact h
end
inductive UnB(sc:Scope)(x y p:Nat):List Stmt->Prop
 |mk (np np2 ap xp yp b1 b2 c1 c2 cp pos:Pos) (k1 k2:Nat) (hp:idOf (nm p)=some p) (hx:idOf (nm x)=some x) (hy:idOf (nm y)=some y) (hpv:isV sc (nm p)=true) (hxv:isV sc (nm x)=true) (hyv:isV sc (nm y)=true) (hl:(ap.endLine==cp.line)=true) :
  UnB sc x y p [.Assign [.Name (nm p) np] (.Call (.Attribute (.Name (nm p) np2) "replace" ap) [.BinOp (.BinOp (.Constant (.str "&") k1 c1) .Add (.Name (nm x) xp) b1) .Add (.Constant (.str ";") k2 c2) b2,.Name (nm y) yp] [] cp) pos]
inductive UnS(sc:Scope)(u:lg):Expr->Expr->List Stmt->Prop
 |mk {b:List Stmt} (xp yp tp zp ap pa ps mp pb cp:Pos) (n ka ks kb:Nat) (av sp bs:Str) (hg:isG sc "zip"=true) (hl:(ap.endLine==mp.line)=true) (ha:u.a=av.cps.toList) (hs:sp.cps.toList=[u.sep]) (hb:u.b=bs.cps.toList) (hB:UnB sc u.x u.y u.p b) :
  UnS sc u (.Tuple [.Name (nm u.x) xp,.Name (nm u.y) yp] n tp) (.Call (.Name "zip" zp) [.Call (.Attribute (.Constant (.str av) ka pa) "split" ap) [.Constant (.str sp) ks ps] [] mp,.Constant (.str bs) kb pb] [] cp) b
theorem d8(h:bO sc e=some i):∃p,e=.Name (nm i) p/\isV sc (nm i)=true/\idOf (nm i)=some i:=by
 refine aO (bG h) λx p j u m=>?_;clear h;subst j;refine au (bV m) λg v=>?_;subst g;exact⟨p,rfl,u,m⟩
theorem p0{st:Stmt}(h:u2 st=some tv):∃p,st=.Assign [tv.1] tv.2 p:=by
 cases st with
 |Assign j v p=>
  refine omk h λt e h1=>?_;rw[b0 h1,<- e];exact⟨p,rfl⟩
 |_=>exact no h
theorem mS{b:List Stmt}(h:nD sc x y b=some p):UnB sc x y p b:=by
 refine hid λE s=>?_;refine pJ h λst tv p' h g c L=>?_;refine wbi h λm h S hc=>?_;refine wa2 hc λT ho hl=>?_;refine xP h λN q h j f R=>?_;refine wbi h λr h Z hd=>?_;refine wa2 hd λK n J=>?_;refine bx (bP (eq_of_beq K)) λB c1 o=>?_;refine bx (bP (eq_of_beq J)) λQ I M=>?_;refine bd (d8 (eq_of_beq n)) λxp ex t z=>?_;refine bd (d8 (eq_of_beq f)) λyp e d u=>?_;refine bd (d8 (eq_of_beq ho)) λA a P U=>?_;refine bd (d8 L) λF W v l=>?_;refine ah (iz R) λC Y=>?_;refine ah (iz Z) λH O=>?_;refine ah (p0 c) λpos i=>?_;have k:=eF S;rw[ek j,a,eq_of_beq T,Y,O,o,M,ex,e]at k;rw[k,W]at i;rw[i]at g;have g:=b0 g;(replace h:=si h;subst h)
 refine s ?_;rw[g];exact .mk _ _ _ _ _ _ _ _ _ _ _ _ _ l z u v t d hl
theorem nu(h:hH sc t i b=some u):UnS sc u t i b/\qA sc u=true:=by
 refine hid λs v=>?_;refine wbi h λu' e h g=>?_;cases e;refine v ?_;clear v s;refine⟨?_,g⟩;clear g;refine hid λs v=>?_;refine obk h λts h z=>?_;refine bx (iC z) λn tp a=>?_;refine gU h λI x y c h r O L hc=>?_;refine oik h λh hz=>?_;refine bak hz λhz P=>?_;refine oT h λN E m h j f A o=>?_;refine bak o λo hl=>?_;refine oT h λM sq sp h T q k hsz=>?_;refine omk h λp e d=>?_;refine bd (d8 O) λxp ex C B=>?_;refine bd (d8 L) λyp Z Y F=>?_;refine af (fx hz) λzp H U=>?_;refine bx (bP f) λkb pb W=>?_;refine bx (bP T) λQ pa S=>?_;refine bx (bP k) λks ps R=>?_;have J:=eF A;rw[b0 q,S,eq_of_beq o,R]at J;have K:=er hc;rw[ek j,H,List.isEmpty_iff.mp P,J,W]at K;rw[ek r,ex,Z]at a;have d:=mS d;have h1:sp.cps.size=1:=eq_of_beq hsz;refine v ?_;rw[a,K,<- e];refine .mk _ _ _ _ _ _ _ _ _ _ _ _ _ _ M sp E U hl rfl ?_ rfl d;obtain⟨⟨l⟩⟩:=sp;match l,h1 with
 |[c],_=>rfl
theorem rr(c:Nat):∀(l:List Nat),aB c l≠[]/\∀w∈aB c l,w.length<=l.length:=by
 intro l;induction l with
 |nil=>exact⟨nofun,λw h=>by rw[List.mem_singleton.mp h];exact Nr _⟩
 |cons x r j=>
  show(if x=c then _ else _:List (List Nat))≠[]/\∀w∈(if x=c then _ else _:List (List Nat)),_;by_cases hx:x=c
  ·rw[if_pos hx];refine⟨nofun,λw h=>?_⟩;rcases List.mem_cons.mp h with rfl|h
   ·exact Nat.zero_le _
   ·exact Nat.le_succ_of_le (j.2 w h)
  ·rw[if_neg hx];cases hs:aB c r with
   |nil=>exact absurd hs j.1
   |cons v vs=>
    rw[hs]at j;refine⟨nofun,λw h=>?_⟩;rcases List.mem_cons.mp h with rfl|h
    ·exact Nat.succ_le_succ (j.2 v (.head _))
    ·exact Nat.le_succ_of_le (j.2 w (.tail _ h))
noncomputable def uT(ws:List (List Nat×Nat)):Nat->Option (List Nat×Nat)
 |0=>none
 |i+1=>ws[i]?
noncomputable def Ao(t:List Nat)(q:List Nat×Nat):Option (List Nat):=kc ([38]++q.1++[59]) [q.2] t
section
variable{A:Around}{s s' s₁ s₂ sb:Shared}{X:Addr->Prop}{V V' wr:List Addr}{κ κ':List Addr}{σ:List Sto}{env:Env}{ρ ρ':ar}{own:Str->Bool}[aI]
 {F:Nat->List PV->Option PV} {nc k:Nat} {sc:Scope} {p p' q:PS'}
theorem Lo.sub'(l:Lo X V wr own env κ s₂ V' κ' ⟨ρ',σ⟩ s')(h:∀x d,ρ.lookup x=some d->ρ'.lookup x=some d):Lo X V wr own env κ s₂ V' κ' ⟨ρ,σ⟩ s':=⟨l.sub,l.new,l.pre,l.kp,l.tk,l.z.sub h⟩
theorem Go.sub'(l:Go X V own env κ s V' κ' ⟨ρ',σ⟩ s')(h:∀x d,ρ.lookup x=some d->ρ'.lookup x=some d):Go X V own env κ s V' κ' ⟨ρ,σ⟩ s':=⟨l.sub,l.new,l.pre,l.kp,l.tk,l.z.sub h⟩
omit [aI] in
theorem ZS.keep{h h':Heap}(Z:ZS z TI TO i1 i2 l1 xs y t f0 k h)(H:∀b,b∈[z,TI,TO,i1,i2]\/b=l1->∀o,h.get? b=some o->h'.get? b=some o):ZS z TI TO i1 i2 l1 xs y t f0 k h':=by
 refine hid λg j=>?_;obtain⟨hz,hTI,⟨a,b,hTO⟩,h1,h2,hl⟩:=Z;refine j ?_;clear j g;exact⟨H _ (.inl (.head _)) _ hz,H _ (.inl (.tail _ (.head _))) _ hTI,⟨a,b,H _ (.inl (.tail _ (.tail _ (.head _)))) _ hTO⟩,h1.at λo e=>H _ (.inl (.tail _ (.tail _ (.tail _ (.head _))))) o e,kB h2 λo e=>H _ (.inl (.tail _ (.tail _ (.tail _ (.tail _ (.head _)))))) o e,hl.at λo e=>H _ (.inr rfl) o e⟩
theorem p9(hh:A.handled=none)(z:Fz X V own env κ σ ρ s){r:List Nat}(i:s.heap.IsTuple T #[.str ⟨r.toArray⟩ tw,.str ⟨#[c]⟩ tok])
 (l:x<nms.length) (d:y<nms.length) (j:own (nm x)=true) (v:own (nm y)=true) (t:env.kindOf (nm y)=some .local) :
 wpAny (model prog w) A (assign (.Tuple [.Name (nm x) xp,.Name (nm y) yp] n tp) env (.ref T)) (λu s'=>Fz X V own env κ σ ((y,.str [c])::(x,.str r)::ρ) s'/\Kp V s s'/\s.toks<=s'.toks/\kL env (nm y) (.str ⟨#[c]⟩ tok) s'.heap) No s:=by
 refine wpAny_assign_Tuple hh i rfl rfl λh' m=>?_;have K:∀b o,s.heap.get? b=some o->h'.get? b=some o:=λb o e=>m b o (Nat.ne_of_lt (Heap.lt_size e)) e;have g:Gr X s {s with heap:=h'}:=Gr.kept (tk:=s.toks) z.al.S.tab K;have O:=z.gr g z.al.pos;refine wpAny_assignInOrder_more (wpAny_assign_Name (Wm (O.store l j (.str r tw)) (λu W q=>?_) λu u f=>f));refine bc q λa R L=>?_;refine wpAny_assignInOrder_more (wpAny_assign_Name (Wm (a.storeK d v (.str [c] tok)) (λu U q=>?_) λu u f=>f));refine nk q λh M P J=>?_;exact Wp ⟨h,(Kp.of_gr g).trans (R.trans M),Nt L P,t,J t⟩
theorem vL(ma:1<=G.z)(FO:FOk F nc){LE:Env->Prop}{lam:Bool}{t i:Expr}{b:List Stmt}{pos:Pos}{u:lg}(hu:hH sc t i b=some u):oN LE F lam nc k sc (.For t i b [] pos) (.unesc u.x u.y u.p u.a u.sep u.b):=by
 intro p p' fl hd ji A env X V κ s a hs hl z;have IH:=λk=>(bu FO k).1;obtain⟨hU,jo⟩:=nu hu;clear hu;refine hid λJ r=>?_;refine gU hd λd0 t0 tf q je hd0 jt jk hq=>?_;clear hd;rw[bE jt]at hd0;clear jt;(replace je:=sp je;obtain⟨rfl,rfl⟩:=je)
 refine wa5 jo λM R jd C jm O=>?_;replace M:u.x≠u.p:=by simpa using M
 replace R:u.y≠u.p:=by simpa using R
 replace O:env.kindOf (nm u.y)=some .local:=by subst hs;exact eq_of_beq O
 replace C:=of_decide_eq_true C;refine r ?_;clear r J jo;refine hid λJ r=>?_;replace jd:u.x≠u.y:=by simpa using jd
 obtain⟨x,y,pp,U,sep,T⟩:=u;refine r ?_;clear r J;dsimp only at *;cases hU with
 |mk xp yp tp zp ap pa ps mp pb cp n ka ks kb av sp bs hg jh ha I g hB=>
 dsimp only at ha I g hB;cases hB with
 |mk np uf mx my ue b1 b2 c1 c2 mw mv k1 k2 mg jr jv jn jl ms mo=>
 have md:(("split":Str)==("replace":Str))=false:=by decide +kernel
 have h1:tr 60 sc (.Call (.Attribute (.Constant (.str av) ka pa) "split" ap) [.Constant (.str sp) ks ps] [] mp)=some (.meth (.cstr U) 110 [.cstr [sep]]):=by
  have e1:tr 59 sc (.Constant (.str av) ka pa)=some (.cstr av.cps.toList):=rfl;have e2:[Expr.Constant (.str sp) ks ps].mapM (tr 59 sc)=some [.cstr sp.cps.toList]:=rfl;have e3:idOf "split"=some 110:=by decide +kernel
  show i9 (tr 59 sc) (.Constant (.str av) ka pa) "split" ap [.Constant (.str sp) ks ps] mp=some (.meth (.cstr U) 110 [.cstr [sep]]);unfold i9;rw[if_pos (by rw[jh];rfl),e1];dsimp only[Option.bind_some,md,Bool.false_eq_true,if_false];rw[e2,e3,ha,<- I];rfl
 have h2:ev F p.σ 3 (.meth (.cstr U) 110 [.cstr [sep]]) p.ρ=some (.list ((aB sep U).map .str)):=by
  show(if U.length<=ag then some (PV.list ((aB sep U).map .str))else none)=_;rw[if_pos (Nt C (by decide))]
 have h3:tr 60 sc (.Constant (.str bs) kb pb)=some (.cstr T):=by rw[g];rfl
 have ja:(⟨T.toArray⟩:Str).cps.all (·< 128)=true:=by rw[<- Array.all_toList];exact jm
 refine wpAny_For (wpAny_with_toks (Nr s.toks) (Wm (x5 (k:=3) (kt:=60) (IH 3) a hs z.al (id:="zip") hg rfl (by decide +kernel) (aw h1 (aw h3 rfl)) h2 (show ev F p.σ 3 (.cstr T) p.ρ=some (.str T)from rfl) (Q:=λxv s₁=>s.toks<=s₁.toks->wpAny (model prog w) A (pyIter xv) _ _ s₁) λuv vv K gb mz ru rv=>?_) (λj j q=>q) λj j f=>f.elim)) λx=>rfl;refine hid λJ r=>?_;obtain⟨l1,vs,n1,rfl,jb,ml,rl⟩:=ru.inv;obtain⟨tb,rfl⟩:=rv.inv;refine r ?_;clear r J;have jp:(aB sep U).length=vs.length:=by rw[rl.len,List.length_map]
 generalize hws:(aB sep U).zip T=ws at jk hq;have hN:ws.length=min vs.length T.length:=by rw[<- hws,List.length_zip,jp]
 refine ol ja ⟨_,jb,rfl,n1,rfl⟩ λh₂ Z hk mf=>wpAny_pyIter_zip Z.hz ?_;have N:l1<K.heap.objs.size:=Heap.lt_size jb;have D:=zipApart_new N N;have fr:∀b∈[K.heap.objs.size+4,K.heap.objs.size+2,K.heap.objs.size+3,K.heap.objs.size,K.heap.objs.size+1],K.heap.get? b=none:=λb g=>by
  refine Heap.get?_none_of_le ?_;simp only[List.mem_cons,List.not_mem_nil,or_false]at g;rcases g with rfl|rfl|rfl|rfl|rfl
  ·exact Nat.le_add_right _ 4
  ·exact Nat.le_add_right _ 2
  ·exact Nat.le_add_right _ 3
  ·exact Nr _
  ·exact Nat.le_add_right _ 1
 generalize K.heap.objs.size+4=zz at Z D fr ⊢;generalize K.heap.objs.size+2=TI at Z D fr ⊢;generalize K.heap.objs.size+3=TO at Z D fr ⊢;generalize K.heap.objs.size+1=i2 at Z D fr ⊢;generalize K.heap.objs.size=i1 at Z D fr ⊢;have jc:∀{f0:Value} {k:Nat} {h:Heap},ZS zz TI TO i1 i2 l1 vs.toArray ⟨T.toArray⟩ tb f0 k h->∀b∈[zz,TI,TO,i1,i2],∃o,h.get? b=some o:=λZ b g=>by
  refine hid λJ r=>?_;obtain⟨a1,a2,⟨_,_,a3⟩,⟨_,a4,_⟩,⟨_,a5,_⟩,_⟩:=Z;refine r ?_;clear r J;simp only[List.mem_cons,List.not_mem_nil,or_false]at g;rcases g with rfl|rfl|rfl|rfl|rfl
  ·exact⟨_,a1⟩
  ·exact⟨_,a2⟩
  ·exact⟨_,a3⟩
  ·exact⟨_,a4⟩
  ·exact⟨_,a5⟩
 have L:Ls X V [zz,TI,TO,i1,i2] (aW sc) env κ p s K {K with heap:=h₂}:=⟨z,gb,mf,⟨_,_,rfl⟩,hk,fr,jc Z,Nr _⟩
 have mu:G.P∉[zz,TI,TO,i1,i2]:=L.xwr z.al.S.xp;have E:∀{h h':Heap},(∀c o,c≠zz->c≠TO->c≠i1->c≠i2->h.get? c=some o->h'.get? c=some o)->∀b o,b∉[zz,TI,TO,i1,i2]->h.get? b=some o->h'.get? b=some o:=λH b o g e=>by
  simp only[List.mem_cons,List.not_mem_nil,or_false,not_or]at g;exact H b o g.1 g.2.2.1 g.2.2.2.1 g.2.2.2.2 e
 refine codeAny_forLoop_any (λm s'=>∃i V' κ' t,i<=ws.length/\m=ws.length+1 - i/\(ws.drop i).foldlM Ao t=some tf/\ZS zz TI TO i1 i2 l1 vs.toArray ⟨T.toArray⟩ tb .none i s'.heap/\Lo X V [zz,TI,TO,i1,i2] (aW sc) env κ {K with heap:=h₂} V' κ' ⟨nz x y pp t p.ρ (uT ws i),p.σ⟩ s') ?_ (ws.length+1) ⟨0,V,κ,t0,Nat.zero_le _,rfl,jk,Z,Lo.sub' (ρ':=p.ρ) L.start λz d h=>?_⟩
 ·intro m s' hm;refine hid λJ r=>?_;obtain⟨i,V',κ',t,js,rfl,hl,Zi,lo⟩:=hm;refine r ?_;clear r J;by_cases hlt:i<ws.length
  ·have ud:i<vs.length:=Nl hlt (Nt (Ne0 hN) (Nat.min_le_left _ _));refine hid λJ r=>?_;have uc:i<T.length:=Nl hlt (Nt (Ne0 hN) (Nat.min_le_right _ _));have jj:ws.drop i=ws[i]::ws.drop (i+1):=List.drop_eq_getElem_cons hlt;have B:(aB sep U)[i]?=some ws[i].1/\T[i]?=some ws[i].2:=List.getElem?_zip_eq_some.mp (by rw[hws];exact List.getElem?_eq_getElem hlt);have ju:uT ws (i+1)=some ws[i]:=List.getElem?_eq_getElem hlt;rw[jj]at hl;generalize ws[i]=wc at hl B ju;obtain⟨Y,c⟩:=wc;rw[List.foldlM_cons]at hl;obtain⟨t1,mi,jz⟩:=ob hl;obtain⟨v,hv,mt⟩:=rl.get (b:=PV.str Y) (i:=i) (by rw[List.getElem?_map,B.1];rfl);obtain⟨tw,rfl⟩:=mt.inv;refine r ?_;clear r J;have me:Y.length<=1000:=Nt ((rr sep U).2 Y (List.mem_of_getElem? B.1)) C;refine wC D Zi (x:=.str ⟨Y.toArray⟩ tw) (c:=c) (by simpa using hv) (by simpa using B.2) λh1 Z1 hT jf=>Ar D Z1 λh2 Z2 jy=>?_;have mr:s'.heap.objs.size≠zz:=Nat.ne_of_gt (Heap.lt_size Zi.hz);have mb:∀b o,b∉[zz,TI,TO,i1,i2]->s'.heap.get? b=some o->h2.get? b=some o:=λb o g e=>(jy.2 b λq=>g (q▸.head _)).trans (E jf b o g e);have l:=lo.touch L (tk:=s'.toks+1) mb (jc Z2) (Nat.le_succ _);have mh:h2.IsTuple s'.heap.objs.size #[.str ⟨Y.toArray⟩ tw,.str ⟨#[c]⟩ s'.toks]:=⟨_,(jy.2 _ mr).trans hT,rfl,_,rfl⟩
   refine Wm (p9 (n:=n) (xp:=xp) (yp:=yp) (tp:=tp) a.hd l.z mh (bV jr).2 (bV jv).2 (fF ji jl) (fF ji ms) O) (λj s3 q3=>?_) λj j f=>f.elim;refine hid λJ r=>?_;obtain⟨z3,jg,t3,H3⟩:=q3;refine r ?_;clear r J;have jx:Lo X V [zz,TI,TO,i1,i2] (aW sc) env κ {K with heap:=h₂} V' κ' ⟨nz x y pp t p.ρ (some (Y,c)),p.σ⟩ s3:=by
    refine⟨l.sub,l.new,l.pre,⟨?_,λb o g hp e=>?_⟩,Nt l.tk t3,z3.sub (q8 _ (Y,c) M R)⟩
    ·obtain⟨a1,a2,a3⟩:=l.kp.1;refine hid λJ r=>?_;obtain⟨b1,b2,b3⟩:=jg.1;refine r ?_;clear r J;exact⟨b1,b2,by rw[b3,a3]⟩
    ·exact jg.2 b o (λh=>(lo.new b h).elim (λh=>g (List.mem_append_right _ h)) λh=>by rw[h]at e;exact no e) hp (l.kp.2 b o g hp e)
   have W:∀b,b∈[zz,TI,TO,i1,i2]\/b=l1->b∉V'/\b≠G.P:=λb g=>by
    rcases g with hw|rfl
    ·exact⟨λh=>lo.vwr L h hw,λh=>mu (h▸hw)⟩
    ·obtain⟨_,h3,h4,_⟩:=l.old L ml jb;exact⟨h3,h4⟩
   have Z3:=Z2.keep λb g o e=>jg.2 b o (W b g).1 (W b g).2 e;rw[arm_execs_cons];refine Wb (Wm (yP (ρ:=nz x y pp t p.ρ (some (Y,c))) (σ:=p.σ) IH ma ji a hs mg jn jr jv jl mo jx.z (sH M R _) ((ct jd).trans eh) H3 (Nt ma lo.z.al.pos) (Nl (Nat.lt_succ_self _) t3) me mi) (λf s4 q4=>?_) λj j f=>f.elim);refine hid λJ r=>?_;obtain⟨V'',κ'',go,mj⟩:=q4;obtain rfl:=cJ mj;refine r ?_;clear r J;have Z4:=Z3.keep λb g o e=>go.kp.2 b o (W b g).1 (W b g).2 e;have jw:=jx.go (jc Z3) L (go.sub' (tj (some (Y,c)) M R));rw[<- ju]at jw;exact wpAny_execs_nil ⟨ws.length+1 - (i+1),xD js,i+1,V'',κ'',t1,hlt,rfl,jz,Z4,jw⟩
  ·have mq:i=ws.length:=xG js hlt;subst mq;rw[List.drop_length]at hl;(replace hl:=si hl;subst hl)
   refine vC a.hd D Zi ?_ λh1 jf=>?_
   ·rcases Nat.lt_or_ge ws.length vs.length with h|h
    ·refine .inr ⟨⟨_,Array.getElem?_eq_getElem (by simpa using h)⟩,Array.getElem?_eq_none (by simp only[List.size_toArray];lia)⟩
    ·exact .inl (Array.getElem?_eq_none (by simpa using h))
   ·have e:uT ws ws.length=some q:=by
     rw[List.getLast?_eq_getElem?]at hq;cases hn:ws.length with
     |zero=>rw[hn]at hq;rw[List.length_eq_zero_iff.mp hn]at hq;exact no hq
     |succ n=>rw[hn]at hq;exact hq
    have jq:=(lo.finish L (h':=h1) (tk:=s'.toks) (E jf) (Nr _)).1;rw[e]at jq;exact wpAny_execs_nil (.next jq)
 ·by_cases e:z=pp
  ·subst e;exact hd0.trans (eh.symm.trans h)
  ·exact(ct e).symm.trans h
end
section
variable[aI]
theorem wg(hz:1<=G.z){M:Env->Prop}{q:Str}(K:qP M q)(T:nH):xA M:=by
 intro F C lam k U o;refine⟨λsc x S v pos i a l ps Z y g h=>y0 K hz o U Z y g h,λsc x S n ap v pos i m B y hc W h=>?_,λsc t i b pos u Y=>vL hz o Y⟩;intro p p' E hd P A env X V κ s a R hl z;refine pJ hd λd c t O J e L=>?_;refine wbi O λl f r j=>?_;clear hd O;(replace f:=sp f;obtain⟨rfl,rfl⟩:=f)
 rw[qb r]at L;exact sa T (bu o k).1 a R z y hc W h J (cB e) L j.1 (Option.isNone_iff_eq_none.mp j.2)
end
theorem jZ:∀{l:List α},(∀m∈l,f m=g m)->l.filterMap f=l.filterMap g:=by
 intro l;induction l with
 |nil=>intro _;rfl
 |cons a l j=>intro h;rw[List.filterMap_cons,List.filterMap_cons,h a (.head _),j λm u=>h m (.tail _ u)]
theorem ui:∀(j:List Str) (vs:List β),j.Nodup->vs.length=j.length->j.filterMap (λn=>((j.zip vs).lookup n).map λv=>(n,v))=j.zip vs/\∀n∈j,((j.zip vs).lookup n).isNone=false:=by
 intro j;induction j with
 |nil=>intro vs _ _;exact⟨by simp,nofun⟩
 |cons n j q=>
  intro vs t hl;cases vs with
  |nil=>injection hl
  |cons v vs=>
   refine au (List.nodup_cons.mp t) λh1 h2=>?_;refine au (q vs h2 (Nat.succ.inj hl)) λr d=>?_;have y:∀m∈j,(m==n)=false:=λm g=>by simp only[beq_eq_false_iff_ne,ne_eq];rintro rfl;exact h1 g
   have u:∀m∈j,((n,v)::j.zip vs).lookup m=(j.zip vs).lookup m:=λm g=>by rw[List.lookup,y m g]
   have z:((n,v)::j.zip vs).lookup n=some v:=by rw[List.lookup,show(n==n)=true by simp]
   refine⟨?_,λm g=>?_⟩
   ·rw[List.zip_cons_cons,List.filterMap_cons,z];show(n,v)::_=_;congr 1;exact(jZ λm g=>by rw[u m g]).trans r
   ·rw[List.zip_cons_cons];clear q t hl h1 h2 r y;rcases List.mem_cons.mp g with rfl|g
    ·rw[z];rfl
    ·rw[u m g];exact d m g
theorem pz{g:FuncData}{j:List Value}(h1:g.params.posonlyargs=[])(h2:g.params.vararg=none)(r:g.params.kwonlyargs=[])(d:g.params.kwarg=none)(q:g.defaults=.none)
 (z:g.params.args.map (·.arg)=ns) (t:ns.Nodup) (hl:j.length=ns.length):bindArgs g ⟨j,[]⟩=pure (ns.zip j):=by
 refine au (ui ns j t hl) λu y=>?_;obtain⟨x,a,⟨K,m,S,O,T,P,s⟩,a4,L,J,M,R,U,e,p,k,o,b,i⟩:=g;dsimp only at h1 h2 r d q z;subst h1 h2 r d q z;generalize hns:m.map (·.arg)=ns at t hl u y;refine(if_neg (c:=(decide (j.length>(m.map (·.arg)).length)&&true)=true) ?_).trans ?_
 ·rw[hns,hl,decide_eq_false (Nat.lt_irrefl _)];exact Bool.false_ne_true
 refine(if_neg ?_).trans ?_
 ·dsimp only[List.map_nil,List.nil_append,Option.getD_none];rw[hns,show([]:List Value).drop _=[]from List.drop_nil];show¬(!(List.filter _ (ns.take ns.length)).isEmpty)=true;rw[List.take_length,List.filter_eq_nil_iff.mpr λn h=>by show¬(List.lookup n (ns.zip j)).isNone=true;rw[y n h];decide];decide
 refine Eq.trans (congrArg (λl=>forIn l _ _ >>= _) ((congrArg (List.zip _) (List.drop_nil:List.drop _ ([]:List Value)=[])).trans List.zip_nil_right)) ?_;subst hns;refine congrArg (pure (f:=Sem)) (?_:List.filterMap (λn=>Option.map (λv=>(n,v)) (List.lookup n ((m.map (·.arg)).zip j))) (m.map (·.arg)++[])=_);rw[List.append_nil,u]
noncomputable def s5(fd:FnD)(d:sr):Bool:=
 d.params.posonlyargs.isEmpty&&d.params.vararg.isNone&&d.params.kwonlyargs.isEmpty&&d.params.kwarg.isNone&&d.params.args.map (·.arg)==fd.params.map nm&&decide fd.params.Nodup&&
  fd.params.all (λx=>decide (x<nms.length)&&aW d.scope (nm x))&&d.scope.kind==.function&&!d.scope.isCoroutine&&!d.scope.isGenerator&&d.scope.names.all (λx=>x.2 != .free&&d.scope.names.lookup x.1==some x.2)&&decide (fd.params.map nm).Nodup
theorem yd:(k9.map λd=>kg 60 d.scope d.body)=fns.map λfd=>some fd.body:=by kernel_rfl
theorem chk_all:(fns.zip k9).all (λp=>s5 p.1 p.2)=true:=by decide +kernel
theorem rz(h:Heap):(aR h).In h:=by
 intro a o e;have key:∀as:List Addr,(as.filterMap λa=>(h.get? a).map λo=>(a,o)).lookup a=some o->h.get? a=some o:=by
  intro as;induction as with
  |nil=>intro h;exact no h
  |cons b r j=>
   intro e;rw[List.filterMap_cons]at e;cases q:h.get? b with
   |none=>rw[q]at e;exact j e
   |some ob=>
    rw[q]at e;replace e:List.lookup a ((b,ob)::_)=some o:=e;rw[List.lookup]at e;cases hb:a==b with
    |true=>rw[hb]at e;(replace e:=si e;subst e);rw[eq_of_beq hb];exact q
    |false=>rw[hb]at e;exact j e
 exact key uB e
noncomputable def LE1(env:Env):Prop:=env.code=.ref 172/\env.qual=("_law_line":Str)++".<locals>."
theorem gS{α β:Type}[BEq α][LawfulBEq α]:∀{l:List (α×β)} {a:α} {b:β},l.lookup a=some b->(a,b)∈l:=by
 intro l;induction l with
 |nil=>intro a b hh;exact no hh
 |cons p r j=>
  intro a b hh;obtain⟨x,y⟩:=p;rw[List.lookup]at hh;cases e:a==x with
  |true=>rw[e]at hh;(replace hh:=si hh;subst hh);rw[eq_of_beq e];exact .head _
  |false=>rw[e]at hh;exact .tail _ (j hh)
section
variable{hh:Heap}{w:World}
theorem ck(j:b≠170)(e:hh.get? b=some o):(dN [170] hh).get? b=some o:=by
 rw[eb,if_neg (by simpa using j)];exact e
theorem fG(e:(dN [170] hh).get? b=some o):b≠170/\hh.get? b=some o:=by
 rw[eb]at e;split at e
 ·exact no e
 ·rename_i j;exact⟨by simpa using j,e⟩
theorem rg{hh h':Heap}(H:∀b o,b≠P->¬X b->hh.get? b=some o->h'.get? b=some o/\¬X' b)(v:∀o,hh.get? P=some o->h'.get? P=some o)(t:vN q P X hh):vN q P X' h':=by
 refine bd t λps h1 h2 z=>?_;refine⟨ps,v _ h1,h2,z.imp id ?_⟩;rintro⟨j,o,vs,t,y,g,u,m,r,d⟩
 exact⟨j,o,vs,t,y,g,(H j o g u m).2,(H j o g u m).1,r,d⟩
section
variable(O:kA hh=lf w)
include O
theorem kG:xl hh=true/\t5 hh=true/\tP (aR hh)=true/\cr.all (λp=>fnB hh p.2)=true/\exB hh=true:=by
 have e:zN hh=true:=congrArg (·.1) O;refine wa4 e λh1 h2 m j g=>?_;exact⟨h1,h2,m,j,g⟩
theorem gz:hh.isNs mainGlobals=true/\hh.isNs builtinsNs=true/\hh.noLimitOk=true/\(hh.get? 1).isSome=true/\gX (hh.nsMap mainGlobals "NT_OFFSET")=some 256/\gX (hh.nsMap mainGlobals "ENDMARKER")=some 0/\
 (∀i a,rH i=some a->dJ i=false->hh.nsMap mainGlobals (nm i)=some (.ref a))/\(∀x∈yE,hh.nsMap mainGlobals (Str.ofString x)=none/\hh.nsMap builtinsNs (Str.ofString x)=some (.builtin x))/\
 (∀x∈yr,hh.nsMap mainGlobals (Str.ofString x)=none/\hh.nsMap builtinsNs (Str.ofString x)=some (.type x))/\hh.nsMap mainGlobals "EXACT_TOKEN_TYPES"=some (.ref 81):=by
 refine hid λu m=>?_;have e:=(kG O).1;refine wa6 e λe y c v k r g=>?_;refine wa3 e λh1 h2 z d=>?_;refine m ?_;clear m u;refine⟨h1,h2,z,d,eq_of_beq y,eq_of_beq c,λi a t l=>?_,λx j=>?_,λx j=>?_,eq_of_beq g⟩
 ·rcases bo (List.all_eq_true.mp v _ (gS t))with q|q
  ·rw[l]at q;exact nf q
  ·exact eq_of_beq q
 ·refine bak (List.all_eq_true.mp k x j) λa b=>?_;exact⟨Option.isNone_iff_eq_none.mp a,eq_of_beq b⟩
 ·refine bak (List.all_eq_true.mp r x j) λa b=>?_;exact⟨Option.isNone_iff_eq_none.mp a,eq_of_beq b⟩
end
end
theorem jX(e:gX o=some i):∃t,o=some (.int i t):=by
 cases o with
 |none=>exact no e
 |some v=>cases v<;>cases e;exact⟨_,rfl⟩
theorem pP(e:oa o=some i):∃t,o=some (.str i t):=by
 cases o with
 |none=>exact no e
 |some v=>cases v<;>cases e;exact⟨_,rfl⟩
theorem A2(O:kA hh=lf w):GxOk:=⟨λhh h' X m H g t=>rg H g t,by
 refine ah (Option.isSome_iff_exists.mp (gz O).2.2.2.1) λo ho=>?_;exact⟨o,ck (by decide) ho⟩,λhh X t=>let⟨ps,j,_⟩:=t;⟨_,j,rfl⟩⟩
theorem Ay(O:kA hh=lf w):GlOk:=by
 obtain⟨u,t,d,a4,z,v,r,m,y,g⟩:=gz O;refine{toGxOk:=A2 O,gns:=(Heap.Ns.of_isNs u).at' λo e=>ck (by decide) e,bns:=(Heap.Ns.of_isNs t).at' λo e=>ck (by decide) e,gint:=λx i e=>?_,gfn:=r,fnvLt:=λi a e=>?_,gesc:=λi e=>?_,blt:=λx e=>?_,bty:=λx e=>?_}
 ·have j:=gS e;simp only[ow,List.mem_cons,List.not_mem_nil,or_false,Prod.mk.injEq]at j;rcases j with⟨rfl,rfl⟩|⟨rfl,rfl⟩
  ·exact jX z
  ·exact jX v
 ·have:((85,76)::cr.tail).all (λp=>decide (p.1<nms.length))=true:=by decide +kernel
  exact of_decide_eq_true (List.all_eq_true.mp this _ (gS e))
 ·have q:(List.range nms.length).all (λi=>!hZ.contains (nm i)||(rH i).isSome)=true:=by decide +kernel
  by_cases hi:i<nms.length
  ·rcases bo (List.all_eq_true.mp q i (List.mem_range.mpr hi))with q|q
   ·rw[e]at q;exact nf q
   ·exact Option.isSome_iff_exists.mp q
  ·rw[s7 hi]at e;have:hZ.contains Str.empty=false:=by decide +kernel
   rw[this]at e;exact nf e
 ·exact m x (by simp only[Bool.or_eq_true,beq_iff_eq]at e;simp only[yE,List.mem_cons,List.not_mem_nil,or_false];rcases e with((e|e)|e)|e<;>simp[e])
 ·exact y x (by simp only[Bool.or_eq_true,beq_iff_eq]at e;simp only[yr,List.mem_cons,List.not_mem_nil,or_false];rcases e with((e|e)|e)|e<;>simp[e])
section
variable{hh:Heap}{w:World}
set_option tactic.hygienic true in
theorem vr(e:fnB hh a=true):∃o j,hh.get? a=some o/\o.data=.func j/\j.closure=[]/\j.globals=mainGlobals/\j.builtins=builtinsNs/\j.defaults=.none/\hh.CodeRec j.code j.qualname:=by
 unfold fnB at e;split at e
 ·rename_i o ho;split at e
  ·rename_i j v;refine wa4 e λh1 h2 y q g=>?_;refine⟨o,j,ho,v,List.isEmpty_iff.mp h1,eq_of_beq h2,eq_of_beq y,eq_of_beq q,?_⟩;unfold qF at g;split at g
   ·rename_i u hc;split at g
    ·rename_i z m;split at g
     ·rename_i vs hd;refine ah (pP (eq_of_beq g)) λt r=>?_;exact⟨u,z,vs,t,hc,m,hd,r⟩
     ·exact nf g
    ·exact nf g
   ·exact nf g
  ·exact nf e
 ·exact nf e
set_option tactic.hygienic true in
theorem wh(e:fnI hh a=some d):∀o j,hh.get? a=some o->o.data=.func j->j.params=d.params/\j.body=.stmts d.body/\j.scope=d.scope:=by
 intro o j ho g;unfold fnI at e;rw[ho]at e;dsimp only at e;rw[g]at e;dsimp only at e;split at e
 ·rename_i b m;(replace e:=si e;subst e);exact⟨rfl,m,rfl⟩
 ·exact no e
theorem qH(e:rH i=some a)(j:i≠85):(i,a)∈cr:=by
 have:=gS e;rcases List.mem_cons.mp this with q|q
 ·cases q;exact absurd rfl j
 ·exact List.mem_of_mem_tail q
theorem sT(v:∃o,hh.get? 170=some o/\o.data=.fields #[])(r:hh.CodeRec c q):(dN [170] hh).CodeRec c q:=by
 refine zh r λa o vs t u j g m=>?_;refine⟨a,o,vs,t,u,ck ?_ j,g,m⟩;rintro rfl
 refine af v λy h1 h2=>?_;rw[h1]at j;(replace j:=si j;subst j);rw[h2]at g;cases g;exact no m
section
variable(O:kA hh=lf w)
include O
theorem xd(j:(i,a)∈cr):∃o fn,hh.get? a=some o/\o.data=.func fn/\fn.closure=[]/\fn.globals=mainGlobals/\fn.builtins=builtinsNs/\fn.defaults=.none/\hh.CodeRec fn.code fn.qualname:=vr (List.all_eq_true.mp (kG O).2.2.2.1 _ j)
theorem dX:(∃o fn,hh.get? 173=some o/\o.data=.func fn/\fn.code=.ref 172/\fn.qualname=("_law_line":Str))/\CodeHd (dN [170] hh) 172 170/\hh.get? 170=some (tabObj #[])/\(dN [170] hh).BuiltinsAt (hh.nsMap mainGlobals) 170:=by
 refine hid λgG gF=>?_;have e:=(kG O).2.1;refine bak e λe h5=>?_;refine bak e λe h4=>?_;refine bak e λe h3=>?_;refine bak e λh1 h2=>?_;refine gF ?_;clear gF gG;refine⟨?_,?_,?_,?_⟩
 ·clear O e;split at h1
  ·rename_i o ho;split at h1
   ·rename_i fn hf;refine bak h1 λa b=>?_;exact⟨o,fn,ho,hf,eq_of_beq a,eq_of_beq b⟩
   ·exact nf h1
  ·exact nf h1
 ·clear O e h1;split at h2
  ·rename_i o ho;refine bak h2 λhc h2=>?_;split at h2
   ·rename_i vs hd;refine hid λgG gF=>?_;refine bak h2 λh2 g6=>?_;refine bak h2 λh2 g5=>?_;refine bak h2 λh2 g4=>?_;refine bak h2 λh2 g3=>?_;refine bak h2 λg1 g2=>?_;refine ah (Option.isSome_iff_exists.mp g3) λx3 g3=>?_;refine ah (pP g3) λt3 g3=>?_;refine ah (Option.isSome_iff_exists.mp g4) λx4 g4=>?_;refine ah (jX g4) λt4 g4=>?_;refine ah (Option.isSome_iff_exists.mp g6) λx6 g6=>?_;refine ah (jX g6) λt6 g6=>?_;refine gF ?_;clear gF gG;split at g5
    ·rename_i b hb;exact⟨o,vs,x3,t3,x4,t4,b,x6,t6,ck (by decide) ho,eq_of_beq hc,hd,eq_of_beq g1,eq_of_beq g2,Option.some.inj g3,Option.some.inj g4,hb,Option.some.inj g6,by decide⟩
    ·exact nf g5
   ·exact nf h2
  ·exact nf h2
 ·clear O e h1 h2;split at h3
  ·rename_i o ho;refine hid λgG gF=>?_;refine bak h3 λh3 g4=>?_;refine bak h3 λh3 g3=>?_;refine bak h3 λg1 g2=>?_;obtain⟨oc,od,oda,osl⟩:=o;refine gF ?_;clear gF gG;split at g4
   ·rename_i vs hd;dsimp only at hd g1 g2 g3;subst hd;rw[ho,eq_of_beq g1,Option.isNone_iff_eq_none.mp g2,Array.isEmpty_iff.mp g3,Array.isEmpty_iff.mp g4]
   ·exact nf g4
  ·exact nf h3
 ·clear O e h3 h1 h2;split at h4
  ·rename_i o ho;refine bak h4 λh4 g3=>?_;refine bak h4 λg1 g2=>?_;split at g3
   ·rename_i hd;exact⟨4,o,eq_of_beq h5,by decide,by decide,by decide,ck (by decide) ho,eq_of_beq g1,eq_of_beq g2,hd⟩
   ·exact nf g3
  ·exact nf h4
end
end
section
variable(O:kA hh=lf w)
include O
theorem fR:hasDictIn (aR hh) 76=true/\(∀n,cj.contains n=true->(plainGet (aR hh) 76 n=true/\findIn (aR hh) (.ref 76) n=some none)/\takerIn (aR hh) 76 n=some none)/\
 (∀i a,(i,a)∈cr.drop 1->dJ i=true->plainGet (aR hh) 76 (nm i)=true/\findIn (aR hh) (.ref 76) (nm i)=some (some (.ref a))/\isFn (aR hh) (.ref a)=true)/\
 readsIn (aR hh) 76 (.type "type")=true/\lz [32] (findCls (aR hh) (.ref 76) (.type "type") "S")=true/\lz [9] (findCls (aR hh) (.ref 76) (.type "type") "T")=true/\keepIn (aR hh) (.ref 76)=true/\makesIn (aR hh) 76=true/\
 findIn (aR hh) (.ref 76) "__init__"=some (some (.ref 31))/\typeIn (aR hh) (.ref 31)=some (.type "function")/\findIn (aR hh) (.ref 76) "__setattr__"=some (some (.builtin "object.__setattr__"))/\plainOver (aR hh) 76=true:=by
 have e:=(kG O).2.2.1;refine wa6 e λe o l c y u v=>?_;refine wa5 e λr t z p k x=>?_;refine⟨r,λn b=>?_,λi a f d=>?_,p,k,x,o,l,eq_of_beq c,eq_of_beq y,eq_of_beq u,v⟩
 ·refine wa2 (List.all_eq_true.mp t n (by simpa using b)) λg j m=>?_;exact⟨⟨g,eq_of_beq j⟩,eq_of_beq m⟩
 ·rcases bo (List.all_eq_true.mp z _ f)with q|q
  ·rw[d]at q;exact nf q
  ·refine wa2 q λg j m=>?_;exact⟨g,eq_of_beq j,m⟩
theorem qx:(aR hh).In (dN [170] hh):=by
 have e:aR hh=aR (dN [170] hh):=jZ λa j=>by
  have:∀a∈uB,a∉[170]:=by decide
  rw[eb,if_neg (this a j)]
 rw[e];exact rz _
theorem Aj:FnOk:=by
 refine{toGlOk:=Ay O,fnObj:=λi a e y=>?_,clsAt:=λa e=>?_,clsCall:=λ{A s pos args Q} z g v=>?_}
 ·refine aO (xd O (qH e y)) λo m h1 h2 r=>?_;refine⟨o,m,ck ?_ h1,h2⟩;rintro rfl
  rw[(dX O).2.2.1]at h1;(replace h1:=si h1;subst h1);injection h2
 ·exact(Option.some.inj e).symm
 ·have key:wpAny (model prog w) A (evalArgs (.ref 76) true args []) (λas j=>(aR hh).In j.heap/\wpAny (model prog w) A (call (.ref 76) ([]++as.pos) as.kw) Q No j) No s:=Wm v (λas j q=>⟨λa o e=>q.1 _ _ (qx O a o e),q.2⟩) λu u f=>f;exact callWith_of (P:=λh'=>(aR hh).In h') (by rw[g];rfl) (keeps_K (fR O).2.2.2.2.2.2.1) key
set_option tactic.hygienic true in
theorem lM(e:lz s c=true):∃t,c=some (.val (.str ⟨s.toArray⟩ t)):=by
 unfold lz at e;split at e
 ·rename_i x t;refine⟨t,?_⟩;rw[<- eq_of_beq e]
 ·exact nf e
theorem zy:ObjOk:=by
 refine Ag (fR O) λu b c r k y o=>?_;refine ah (lM O k) λt z=>?_;refine ah (lM O y) λf v=>?_;refine{toFnOk:=Aj O,kin:=qx O,hasD:=u,getOk:=λn d=>(b n d).1,meth:=λi a m e=>?_,clsN:=(gz O).2.2.2.2.2.2.1 85 76 rfl rfl,clsST:=⟨_,t,f,r,z,v⟩};have j:i≠85:=by rintro rfl;exact nf m
 have l:=qH e j;have g:(i,a)∈cr.drop 1:=by
  rcases List.mem_cons.mp l with q|q
  ·cases q;exact nf m
  ·exact q
 exact⟨j,c i a g m⟩
end
theorem sC(m:a∈uB)(e:hh.get? a=some o):(aR hh).lookup a=some o:=by
 have key:∀as:List Addr,a∈as->(as.filterMap λa=>(hh.get? a).map λo=>(a,o)).lookup a=some o:=by
  intro as;induction as with
  |nil=>intro q;cases q
  |cons b r j=>
   intro q;rw[List.filterMap_cons];by_cases hb:a=b
   ·subst hb;rw[e];show List.lookup a ((a,o)::_)=_;rw[List.lookup,show(a==a)=true by simp]
   ·have g:a∈r:=(List.mem_cons.mp q).resolve_left hb;cases hq:hh.get? b with
    |none=>exact j g
    |some ob=>
     show List.lookup a ((b,ob)::_)=_;rw[List.lookup,show(a==b)=false by simpa using hb];exact j g
 exact key uB m
theorem vH(s:Str)(x:List Nat):(s==⟨x.toArray⟩)=(s.cps.toList==x):=by
 obtain⟨l⟩:=s;obtain⟨l⟩:=l;rw[jB];exact(Bool.decide_eq_true (b:=l==x))▸(by simp:decide (l=x)=decide ((l==x)=true))
theorem yo:∀{j:List DictEntry} {tab:List (String×Int)},j.map (λe=>(e.hash,oa (some e.key),gX (some e.val)))=tab.map (λp=>(PyData.keyHash P (Str.ofString p.1),some (Str.ofString p.1),some p.2))->tab.all (λp=>(Str.ofString p.1).cps.toList==p.1.toList.map Char.toNat)=true->
 KeysLit P j/\(j.any (·.refKey)=false)/\∀x:List Nat,match(tab.map λp=>(p.1.toList.map Char.toNat,p.2)).lookup x with
  |some i=>∃e t,j.find? (·.key.isStr ⟨x.toArray⟩)=some e/\e.val=.int i t
  |none=>j.find? (·.key.isStr ⟨x.toArray⟩)=none:=by
 intro j;induction j with
 |nil=>
  intro tab e _;cases tab with
  |nil=>exact⟨trivial,rfl,λx=>rfl⟩
  |cons p r=>injection e
 |cons e j y=>
  intro tab q f;cases tab with
  |nil=>injection q
  |cons p r=>
   refine hid λz v=>?_;refine au (List.cons.inj q) λh1 h2=>?_;refine au (Prod.mk.inj h1) λhh h1=>?_;refine au (Prod.mk.inj h1) λg m=>?_;refine bak (show((Str.ofString p.1).cps.toList==p.1.toList.map Char.toNat&&r.all _)=true from f) λd l=>?_;refine bc (y h2 l) λb k n=>?_;refine ah (pP g) λt g=>?_;refine ah (jX m) λu m=>?_;refine v ?_;clear v z;replace g:=Option.some.inj g;replace m:=Option.some.inj m;refine⟨⟨⟨_,t,g,hh⟩,b⟩,?_,λx=>?_⟩
   ·rw[List.any_cons,k];rw[Bool.or_false];unfold DictEntry.refKey;rw[g]
   ·have c:e.key.isStr ⟨x.toArray⟩=(p.1.toList.map Char.toNat==x):=by
     rw[g];show(Str.ofString p.1==⟨x.toArray⟩)=_;rw[vH,eq_of_beq d]
    rw[List.map_cons,List.lookup,List.find?_cons,c];cases hx:(p.1.toList.map Char.toNat==x)with
    |true=>
     have:(x==p.1.toList.map Char.toNat)=true:=by rw[eq_of_beq hx];simp
     rw[this];exact⟨e,u,rfl,m⟩
    |false=>
     have:(x==p.1.toList.map Char.toNat)=false:=by
      rw[beq_eq_false_iff_ne]at hx ⊢;exact hx.symm
     rw[this];exact n x
section
variable(O:kA hh=lf w)
include O
theorem AE:aI:=by
 have j:=(kG O).2.2.2.2;have g:exI hh=nQ.map λp=>(PyData.keyHash w.params (Str.ofString p.1),some (Str.ofString p.1),some p.2):=congrArg (·.2.2) O;unfold exB at j;unfold exI at g;cases ho:hh.get? 81 with
 |none=>rw[ho]at j;exact nf j
 |some o=>
  rw[ho]at j g;dsimp only at j g;refine wa2 j λh1 h2 v=>?_;obtain⟨f,od,m,z⟩:=o;dsimp only at h1 h2 v g;clear j;cases m with
  |dict u n=>
   dsimp only at g;obtain rfl:=eq_of_beq h1;obtain rfl:=Option.isNone_iff_eq_none.mp h2;obtain rfl:=Array.isEmpty_iff.mp v;have y:(aR hh).lookup 81=some ⟨.type "dict",none,.dict u n,#[]⟩:=sC (by decide) ho;refine bc (yo g (by decide +kernel)) λc k b=>?_;refine{toObjOk:=zy O,ex:=⟨81,u,n,(gz O).2.2.2.2.2.2.2.2.2,by decide,y,c,λx=>?_⟩};have q:=b x;show∃r,nsIn (aR hh) 81 ⟨x.toArray⟩=some r/\_;unfold nsIn;rw[y];dsimp only;rw[show exT=nQ.map λp=>(p.1.toList.map Char.toNat,p.2)from rfl];cases hl:(nQ.map λp=>(p.1.toList.map Char.toNat,p.2)).lookup x with
   |some i=>
    rw[hl]at q;refine cb q λe t l d=>?_;rw[l];exact⟨_,rfl,t,by rw[d]⟩
   |none=>
    rw[hl]at q;dsimp only at q;rw[q,k];exact⟨_,rfl,rfl⟩
  |_=>exact absurd (show true=false from congrArg List.isEmpty g) (by decide)
theorem zA:nH:=⟨(fR O).2.2.2.2.2.2.2.2.2.2.1,(fR O).2.2.2.2.2.2.2.2.2.2.2,λn j=>((fR O).2.1 n j).2⟩
theorem xg:(dN [170] hh).NoLimit:=by
 refine af (Heap.NoLimit.of_ok (gz O).2.2.1) λmc j e=>?_;exact⟨mc,j.at' λo e=>ck (by decide) e,e⟩
theorem zX:qP LE1 Am:=by
 refine nk (dX O) λv g u m=>?_;exact⟨rfl,λenv j=>⟨172,j.1,g,by rw[j.2];rfl⟩,m,xg O,show mainGlobals≠170 by decide⟩
theorem sW(v:fd∈fns):∃a d,(fd.f,a)∈cr/\fnI hh a=some d/\kg 60 d.scope d.body=some fd.body/\s5 fd d=true:=by
 refine ah (List.mem_iff_getElem?.mp v) λi u=>?_;have h1:fns.map (·.f)=cr.map (·.1):=by decide
 have h2:cr.map (λp=>fnI hh p.2)=k9.map some:=congrArg (·.2.1) O;have j:=congrArg (·[i]?) h1;have m:=congrArg (·[i]?) h2;have g:=congrArg (·[i]?) yd;simp only[List.getElem?_map,u,Option.map_some]at j m g;cases q:cr[i]? with
 |none=>rw[q]at j;injection j
 |some p=>
  cases q2:k9[i]? with
  |none=>rw[q2]at g;exact no g
  |some d=>
   rw[q]at j m;rw[q2]at m g;refine⟨p.2,d,?_,Option.some.inj m,Option.some.inj g,List.all_eq_true.mp chk_all (fd,d) (List.mem_of_getElem? (i:=i) (List.getElem?_zip_eq_some.mpr ⟨u,q2⟩))⟩;rw[show fd.f=p.1 from Option.some.inj j];exact List.mem_of_getElem? q
theorem ux{fd:FnD}(R:(fd.f,a)∈cr)(T:fnI hh a=some d)(S:kg 60 d.scope d.body=some fd.body)(hc:s5 fd d=true):∃o m,hh.get? a=some o/\o.data=.func m/\lE fd a o m d.body:=by
 refine hid λs r=>?_;refine AF (xd O R) λo m ho y U L K i M=>?_;refine bc (wh T o m ho y) λv p2 g=>?_;refine bak hc λhc j=>?_;replace j:=of_decide_eq_true j;refine wa6 hc λhc k b B C q u=>?_;refine wa4 hc λc Z p A P=>?_;refine r ?_;clear r s;have t:=(dX O).2.2.1;have J:a≠170:=by rintro rfl;rw[t]at ho;(replace ho:=si ho;subst ho);injection y
 have par:∀x∈fd.params,x<nms.length/\aW m.scope (nm x)=true:=λx z=>by
  refine bak (List.all_eq_true.mp b x z) λW h=>?_;exact⟨of_decide_eq_true W,by rw[g];exact h⟩
 have nd:fd.params.Nodup:=of_decide_eq_true k;refine⟨o,m,ho,y,ck J ho,y,p2,by rw[g];exact S,U,sT ⟨_,t,rfl⟩ M,λe Y=>pz (by rw[v];exact List.isEmpty_iff.mp c) (by rw[v];exact Option.isNone_iff_eq_none.mp Z) (by rw[v];exact List.isEmpty_iff.mp p) (by rw[v];exact Option.isNone_iff_eq_none.mp A) i (by rw[v];exact eq_of_beq P) j (by rw[List.length_map];exact Y),par,nd,by rw[g];exact eq_of_beq B,by rw[g];exact bn C,by rw[g];exact bn q,λn l=>?_,L,K,λx z=>?_⟩
 ·rw[g]at l;have:=List.all_eq_true.mp u _ (mem_of_lookup l);exact nf ((ba this).1)
 ·rw[g]at z ⊢;exact eq_of_beq (ba (List.all_eq_true.mp u x z)).2
theorem xS:Ac LE1 fns:=by
 refine au (dX O) λs K=>?_;refine nV s λM J l x e k=>?_;obtain⟨_,_,_,_,_,_,_,h,c,c10,_⟩:=fR O;refine⟨xg O,λfd v h1 h2=>?_,λfd v h1=>?_,h,rfl⟩
 ·refine nV (sW O v) λa d j r y m=>?_;refine aO (ux O j r y m) λo t ho g D=>?_;have z:rH fd.f=some a:=by
   have q:cr.all (λp=>p.1==86||rH p.1==some p.2)=true:=by decide
   rcases bo (List.all_eq_true.mp q _ j)with q|q
   ·exact absurd (eq_of_beq q) h1
   ·exact eq_of_beq q
  refine⟨a,o,t,d.body,z,D,λi L b=>?_⟩;have n:fd.f=105:=eq_of_beq i;rw[n]at z;have u:a=173:=(Option.some.inj z).symm;subst u;rw[l]at ho;(replace ho:=si ho;subst ho);rw[x]at g;cases g;exact⟨e,by show J.qualname++".<locals>."=_;rw[k]⟩
 ·refine nV (sW O v) λa d j r y m=>?_;refine aO (ux O j r y m) λo t ho g D=>?_;have u:a=31:=by
   have q:cr.all (λp=>p.1 != 86||p.2==31)=true:=by decide
   rcases bo (List.all_eq_true.mp q _ j)with q|q
   ·rw[h1]at q;exact nf q
   ·exact eq_of_beq q
  subst u;exact⟨31,o,t,d.body,D,c,c10⟩
theorem uH{g:Shared}(m:∀b o,hh.get? b=some o->g.heap.get? b=some o)(Y:1<=g.toks)(hl:g.heap.get? l=some (du vs n))(Z:IntsAre vs ns)(W:l≠170)
 (a:AOk 10 A) (s:bp fns 8 109 [.list (ns.map .int)]=some (.bool true)):wpAny (model prog w) A (call (.ref 193) [.ref l]) (λv s'=>v=.bool true/\(∃h' tk,s'={g with heap:=h',toks:=tk})/\OldK g.heap s'.heap) No g:=by
 have:=AE O;have z:=(dX O).2.2.1;refine au (s8 (Nr 1) (xS O) (wg (Nr 1) (zX O) (zA O)) 8) λd h=>?_;refine af (h 109 _ _ (by decide +kernel) s) λR y j=>?_;have L:R=193:=(Option.some.inj y).symm;clear d y this;subst L;have S:St (λb=>b=170) g.heap:=by
  refine⟨λb o e=>m _ _ (fG e).2,λb o e=>(fG e).1,λb e=>⟨tabObj #[],by rw[show b=170 from e];exact m _ _ z⟩,rfl,#[],m _ _ z,trivial,.inl rfl⟩
 have r:aY g.heap (λb=>b=170) [] [.ref l] [.list (ns.map .int)]:=by
  refine .cons (.list hl W ?_) .nil;clear s hl j h;induction Z with
  |nil=>exact .nil
  |cons i t _ T=>exact .cons (.int i t) T
 refine Wm (j A (λb=>b=170) [] g _ a S Y r) (λv s' q=>?_) λu u f=>f;refine au q λJ K=>?_;refine hid λU x=>?_;obtain⟨h',tk,rfl,k,ps,p,_⟩:=J;refine x ?_;clear x U;have C:=(dX O).2.1.keeps λb o e=>m _ _ (fG e).2;have M:CodeHd h' 172 170:=(dX O).2.1.keeps λb o e=>k b o (fG e).1 (m _ _ (fG e).2);exact⟨K.inv,⟨h',tk,rfl⟩,(OldK.refl g.heap).step_table (c₀:=172) (c:=172) (P:=170) (ps₀:=#[]) (ps:=#[]) (more:=ps) (C.tab (m _ _ z)) (C.tab (m _ _ z)) (M.tab (by rw[Array.empty_append];exact p)) (λb o B e=>k b o B e) (by decide)⟩
end
theorem wy(c:Cx):PC c:=zb (λO u u u u u u j y hl m v a g=>uH O j y hl m v a g) c
end
end Mine.Internal
namespace Mine.Internal.Q
section
open PySem
section
variable{F:Nat->List PV->Option PV}{σ:List Sto}{k:Nat}{ρ ρ':ar}
theorem aa(h:ρ.lookup x=some d):ev F σ (k+1) (.var x) ρ=some d:=h
theorem aG(g:ev F σ k a ρ=some x)(m:res σ x=some x')(j:ev F σ k b ρ=some y)(u:res σ y=some y')(h:tC op x' y'=some d):
 ev F σ (k+1) (.bin op a b) ρ=some d:=by
 show(rs σ (ev F σ k a ρ)).bind (λx=>(rs σ (ev F σ k b ρ)).bind λy=>tC op x y)=_;rw[g,j,rs,rs,Option.bind_some,Option.bind_some,m,u];exact h
theorem gW(hc:ev F σ k c ρ=some (.bool t))(g:t=true->ev F σ k a ρ=some d)(j:t=false->ev F σ k b ρ=some d):ev F σ (k+1) (.ite c a b) ρ=some d:=by
 show(ev F σ k c ρ).bind _=_;rw[hc];clear hc;cases t
 ·exact j rfl
 ·exact g rfl
theorem w8(j:ev F σ k a ρ=some (.bool t)):ev F σ (k+1) (.not a) ρ=some (.bool !t):=by
 show(ev F σ k a ρ).bind _=_;rw[j];rfl
theorem fi{j:List PE}(h:j.mapM (λe=>ev F σ k e ρ)=some l):ev F σ (k+1) (.list j) ρ=some (.list l):=by
 show(j.mapM λe=>ev F σ k e ρ).map _=_;rw[h];rfl
theorem dg{j:List PE}(h:j.mapM (λe=>ev F σ k e ρ)=some l):ev F σ (k+1) (.tuple j) ρ=some (.tuple l):=by
 show(j.mapM λe=>ev F σ k e ρ).map _=_;rw[h];rfl
theorem az(g:ev F σ k a ρ=some x)(j:ev F σ k b ρ=some y)(h:cU σ op x y=some t):ev F σ (k+1) (.cmp a [op] [b]) ρ=some (.bool t):=by
 show(ev F σ k a ρ).bind (λd=>nM (λe=>ev F σ k e ρ) σ d [op] [b])=_;rw[g];show(ev F σ k b ρ).bind _=_;rw[j];show(cU σ op x y).bind _=_;rw[h];rfl
theorem aX(g:ev F σ k a ρ=some x)(m:res σ x=some x')(u:ev F σ k i ρ=some j)(h:gq x' j=some d):ev F σ (k+1) (.sub a i) ρ=some d:=by
 show(rs σ (ev F σ k a ρ)).bind (λd=>(ev F σ k i ρ).bind λj=>gq d j)=_;rw[g,u,rs,Option.bind_some,m];exact h
theorem cE(j:ev F σ k a ρ=some x)(g:res σ x=some (.obj l))(h:l.lookup n=some d):ev F σ (k+1) (.attr a n) ρ=some d:=by
 show(rs σ (ev F σ k a ρ)).bind _=_;rw[j,rs,Option.bind_some,g];exact h
theorem bH{args:List PE}(j:args.mapM (λe=>ev F σ k e ρ)=some as)(h:F f as=some d):ev F σ (k+1) (.call f args) ρ=some d:=by
 show(args.mapM λe=>ev F σ k e ρ).bind _=_;rw[j];exact h
theorem gd(j:ev F σ k a ρ=some x)(g:res σ x=some x')(h:sZ x'=some d):ev F σ (k+1) (.len a) ρ=some d:=by
 show(rs σ (ev F σ k a ρ)).bind sZ=_;rw[j,rs,Option.bind_some,g];exact h
theorem na(j:ev F σ k a ρ=some x)(g:res σ x=some x')(h1:ik x'=some l)(h:k7 l=some m):ev F σ (k+1) (.max1 a) ρ=some (.int m):=by
 show(rs σ (ev F σ k a ρ)).bind _=_;rw[j,rs,Option.bind_some,g,Option.bind_some,h1,Option.bind_some,h];rfl
theorem oZ(m:ev F σ k a ρ=some (.int i))(g:ev F σ k b ρ=some (.int j)):ev F σ (k+1) (.max2 a b) ρ=some (.int (if j>i then j else i)):=by
 show(ev F σ k a ρ).bind (λx=>(aN x).bind λi=>(ev F σ k b ρ).bind λy=>(aN y).map λj=>PV.int (if j>i then j else i))=_;rw[m,g];rfl
theorem cI{args:List PE}(j:ev F σ k a ρ=some x)(g:args.mapM (λe=>ev F σ k e ρ)=some as)(h:j8 F σ x n as=some d):ev F σ (k+1) (.meth a n args) ρ=some d:=by
 show(ev F σ k a ρ).bind (λd=>(args.mapM λe=>ev F σ k e ρ).bind λas=>j8 F σ d n as)=_;rw[j,g];exact h
theorem bA(j:ev F σ k a ρ=some x)(g:res σ x=some x')(hl:evO (λe=>ev F σ k e ρ) lo=some l)(hh:evO (λe=>ev F σ k e ρ) hi=some h)
 (m:evO (λe=>ev F σ k e ρ) st=some s) (hd:slP x' l h s=some d):ev F σ (k+1) (.slice a lo hi st) ρ=some d:=by
 show(rs σ (ev F σ k a ρ)).bind (λv=>(evO (λe=>ev F σ k e ρ) lo).bind λl=>(evO (λe=>ev F σ k e ρ) hi).bind λh=>(evO (λe=>ev F σ k e ρ) st).bind λs=>slP v l h s)=_;rw[j,hl,hh,m,rs,Option.bind_some,g];exact hd
theorem w4(j:ev F σ k a ρ=some x)(g:res σ x=some (.list l))(hl:l.length<=ag):ev F σ (k+1) (.tup a) ρ=some (.tuple l):=by
 show(rs σ (ev F σ k a ρ)).bind _=_;rw[j,rs,Option.bind_some,g];show(if l.length<=ag then _ else _)=_;rw[if_pos hl]
theorem bM(h:cA (λe=>ev F σ k e ρ) isAnd es=some d):ev F σ (k+1) (.boolop isAnd es) ρ=some d:=h
theorem bW(h:f e=some d):cA f isAnd [e]=some d:=h
theorem ni(h:f e=some (.bool isAnd))(h2:cA f isAnd (e'::r)=some d):cA f isAnd (e::e'::r)=some d:=by
 show(f e).bind _=_;rw[h];show(if isAnd=isAnd then _ else _)=_;rw[if_pos rfl];exact h2
theorem eU(h:f e=some (.bool a))(h2:a=true->cA f true (e'::r)=some (.bool b)):cA f true (e::e'::r)=some (.bool (a&&b)):=by
 show(f e).bind _=_;rw[h];clear h;cases a
 ·rfl
 ·exact h2 rfl
theorem Ad(h:f e=some (.bool a))(h2:a=false->cA f false (e'::r)=some (.bool b)):cA f false (e::e'::r)=some (.bool (a||b)):=by
 show(f e).bind _=_;rw[h];clear h;cases a
 ·exact h2 rfl
 ·rfl
theorem mm0:([]:List PE).mapM f=some []:=rfl
theorem mm{f:PE->Option PV}{e:PE}{r:List PE}{d:PV}{l:List PV}(h1:f e=some d)(h2:r.mapM f=some l):(e::r).mapM f=some (d::l):=aw h1 h2
noncomputable def iX(F:Nat->List PV->Option PV)(σ:List Sto)(k:Nat)(elt:PE)(tp:Bool)(xs:List Nat)(ifs:List PE)(ρ:ar)(d:PV):Option (List PV):=
 iW (λe ρ=>ev F σ k e ρ) (λρ'=>(ev F σ k elt ρ').map λd=>[d]) tp xs ifs ρ d
theorem b4{xs:List Nat}(g:(xs.all λx=>(ρ.lookup x).isNone)=true)(m:a6 tp xs d ρ=some ρ')(j:ev F σ k elt ρ'=some y):iX F σ k elt tp xs [] ρ d=some [y]:=by
 show(if _ then(a6 tp xs d ρ).bind _ else none)=_;rw[if_pos g,m];show(ev F σ k elt ρ').map _=_;rw[j];rfl
theorem c6{xs:List Nat}(j:(xs.all λx=>(ρ.lookup x).isNone)=true)(g:a6 tp xs d ρ=some ρ')(hc:ev F σ k c ρ'=some (.bool b))(m:b=true->ev F σ k elt ρ'=some y):
 iX F σ k elt tp xs [c] ρ d=some (if b=true then[y]else[]):=by
 show(if _ then(a6 tp xs d ρ).bind _ else none)=_;rw[if_pos j,g];show((ev F σ k c ρ').bind _).bind _=_;rw[hc];clear j g hc;cases b
 ·rfl
 ·show(ev F σ k elt ρ').map _=_;rw[m rfl];rfl
theorem br{α β γ:Type}{f:β->Option γ}{emb:α->β}{h:α->γ}:∀{l:List α},(∀x∈l,f (emb x)=some (h x))->(l.map emb).mapM f=some (l.map h):=by
 intro l;induction l with
 |nil=>intro _;rfl
 |cons a l g=>intro hh;exact aw (hh a (.head _)) (g λx j=>hh x (.tail _ j))
theorem tA{α:Type}{g m:PE}{tp:Bool}{xs keep:List Nat}{j:List PE}{l:List α}{emb:α->PV}{h:α->List PV}(v:aQ F σ true k m ρ=some (l.map emb))
 (u:∀x∈l,iX F σ k g tp xs j (aj keep ρ) (emb x)=some (h x)) (hl:(l.map h).flatten.length<=ag):ev F σ (k+1) (.comp g [(tp,xs)] [m] [j] keep) ρ=some (.list (l.map h).flatten):=by
 show((aQ F σ true k m ρ).bind λl=>(l.mapM (iX F σ k g tp xs j (aj keep ρ))).map List.flatten).bind _=_;rw[v,Option.bind_some,br u];show(if(l.map h).flatten.length<=ag then _ else _)=_;rw[if_pos hl]
theorem hM(g:α->β)(l:List α):(l.map λx=>[g x]).flatten=l.map g:=by
 induction l with
 |nil=>rfl
 |cons a l j=>exact congrArg (g a::·) j
theorem mF(p:α->Bool)(g:α->β)(l:List α):(l.map λx=>if p x=true then[g x]else[]).flatten=(l.filter p).map g:=by
 induction l with
 |nil=>rfl
 |cons a l j=>
  rw[List.map_cons,List.flatten_cons,j,List.filter_cons];cases p a<;>rfl
theorem cf{α:Type}{j m:PE}{tp:Bool}{xs keep:List Nat}{l:List α}{emb g:α->PV}(u:aQ F σ true k m ρ=some (l.map emb))
 (v:∀x∈l,iX F σ k j tp xs [] (aj keep ρ) (emb x)=some [g x]) (hl:l.length<=ag):ev F σ (k+1) (.comp j [(tp,xs)] [m] [[]] keep) ρ=some (.list (l.map g)):=by
 rw[<- hM g l];exact tA u v (by rw[hM,List.length_map];exact hl)
theorem d3{α:Type}{j m c:PE}{tp:Bool}{xs keep:List Nat}{l:List α}{emb g:α->PV}{p:α->Bool}(v:aQ F σ true k m ρ=some (l.map emb))
 (u:∀x∈l,iX F σ k j tp xs [c] (aj keep ρ) (emb x)=some (if p x=true then[g x]else[])) (hl:l.length<=ag):ev F σ (k+1) (.comp j [(tp,xs)] [m] [[c]] keep) ρ=some (.list ((l.filter p).map g)):=by
 rw[<- mF p g l];exact tA v u (by rw[mF,List.length_map];exact Nt (List.length_filter_le ..) hl)
theorem i8{α β:Type}{v r q:PE}{tp u:Bool}{xs ys keep:List Nat}{g j:List PE}{l:List α}{emb:α->PV}{m:α->List β}{emb2:β->PV}{h:α->β->List PV}{ρs:α->ar}
 (i:aQ F σ true k r ρ=some (l.map emb)) (c:(xs.all λx=>((aj keep ρ).lookup x).isNone)=true) (b:∀x∈l,a6 tp xs (emb x) (aj keep ρ)=some (ρs x)) (t:∀x∈l,eG (λe=>ev F σ k e (ρs x)) g=some true)
 (h2:∀x∈l,aQ F σ true k q (ρs x)=some ((m x).map emb2)) (d:∀x∈l,∀y∈m x,iX F σ k v u ys j (ρs x) (emb2 y)=some (h x y)) (hl:(l.map λx=>((m x).map (h x)).flatten).flatten.length<=ag) :
 ev F σ (k+1) (.comp v [(tp,xs),(u,ys)] [r,q] [g,j] keep) ρ=some (.list (l.map λx=>((m x).map (h x)).flatten).flatten):=by
 show((aQ F σ true k r ρ).bind λl=>(l.mapM (iW (λe ρ=>ev F σ k e ρ) (λρ'=>(aQ F σ true k q ρ').bind λl=>(l.mapM (iX F σ k v u ys j ρ')).map List.flatten) tp xs g (aj keep ρ))).map List.flatten).bind _=_;rw[i,Option.bind_some,br (h:=λx=>((m x).map (h x)).flatten) (by
  intro x z;show(if _ then(a6 tp xs (emb x) (aj keep ρ)).bind _ else none)=_;rw[if_pos c,b x z,Option.bind_some,t x z,Option.bind_some,if_pos rfl];show(aQ F σ true k q (ρs x)).bind _=_;rw[h2 x z,Option.bind_some,br (d x z)];rfl)]
 show(if(l.map λx=>((m x).map (h x)).flatten).flatten.length<=ag then _ else _)=_;rw[if_pos hl]
theorem aF(j:aQ F σ al (k+1) e ρ=(ev F σ k e ρ).bind λd=>if al||(aZ d).isNone then(res σ d).bind items else none)(m:ev F σ k e ρ=some d)(v:(al||(aZ d).isNone)=true)(u:res σ d=some d')(g:items d'=some l):aQ F σ al (k+1) e ρ=some l:=by
 rw[j,m,Option.bind_some,if_pos v,u];exact g
theorem yj(j:ev F σ k e ρ=some (.list l)):aQ F σ al (k+1) (.enum e) ρ=some (uL l):=by
 show qd (ev F σ k e ρ)=_;rw[j];rfl
theorem fN(g:ev F σ k e ρ=some (.int j))(m:j.natAbs<1000000):aQ F σ al (k+1) (.range none e) ρ=some ((List.range j.toNat).map λ(i:Nat)=>PV.int i):=by
 show(ev F σ k e ρ).bind _=_;rw[g];show(if j.natAbs<1000000 then _ else _)=_;rw[if_pos m]
theorem ld(m:ev F σ k e ρ=some (.int i))(g:ev F σ k e' ρ=some (.int j))(u:i.natAbs<1000000)(v:j.natAbs<1000000):aQ F σ al (k+1) (.range (some e) e') ρ=some (rng i (j - i)):=by
 show(ev F σ k e ρ).bind _=_;rw[m];show(ev F σ k e' ρ).bind _=_;rw[g];show(if i.natAbs<1000000/\j.natAbs<1000000 then _ else _)=_;rw[if_pos ⟨u,v⟩]
end
section
variable{F:Nat->List PV->Option PV}{lam:Bool}{k:Nat}{s s':PS'}
theorem ao(h:exS F lam k st s=some (.next,s'))(h2:aU F lam k r s'=q):aU F lam (k+1) (st::r) s=q:=by
 show(exS F lam k st s).bind _=_;rw[h];exact h2
theorem bT(h:exS F lam k st s=some (.ret d,s')):aU F lam (k+1) (st::r) s=some (.ret d,s'):=by
 show(exS F lam k st s).bind _=_;rw[h];rfl
theorem aE:aU F lam (k+1) [] s=some (.next,s):=rfl
theorem dd(h:ev F s.σ k e s.ρ=some d):exS F lam (k+1) (.ret e) s=some (.ret d,s):=by
 show(ev F s.σ k e s.ρ).map _=_;rw[h];rfl
theorem mQ(j:evR F k s e=(ev F s.σ k e s.ρ).map λd=>(d,s))(h:ev F s.σ k e s.ρ=some d):evR F k s e=some (d,s):=by
 rw[j,h];rfl
theorem an(j:evR F k s e=(ev F s.σ k e s.ρ).map λd=>(d,s))(h:ev F s.σ k e s.ρ=some d):exS F lam (k+1) (.assign x e) s=some (.next,s.bind x d):=by
 show(evR F k s e).bind _=_;rw[mQ j h];rfl
theorem og:exS F lam (k+1) (.assign x .newList) s=some (.next,(s.add (.list [])).bind x (.cell s.σ.length)):=rfl
theorem aM(hc:ev F s.σ k c s.ρ=some (.bool t))(g:t=true->aU F lam k a s=q)(j:t=false->aU F lam k b s=q):exS F lam (k+1) (.ite c a b) s=q:=by
 show(ev F s.σ k c s.ρ).bind _=_;rw[hc];clear hc;cases t
 ·exact j rfl
 ·exact g rfl
theorem hF(j:aQ F s.σ false k src s.ρ=some l)(hl:∀d∈l,(a6 tup xs d []).isSome=true)(h:cQ (aU F lam k body) tup xs l s=q):
 exS F lam (k+1) (.forS tup xs src body) s=q:=by
 show(aQ F s.σ false k src s.ρ).bind _=_;rw[j];show(if l.all (λd=>(a6 tup xs d []).isSome)=true then _ else none)=_;rw[if_pos (List.all_eq_true.mpr hl)];exact h
theorem bX{fd:FnD}{args:List PV}(m:fd.params.length=args.length)(g:args.all (aH 8)=true)(h:aU F (fd.f==(105:Nat)) 60 fd.body ⟨(fd.params.zip args).reverse,[]⟩=some (.ret d,s'))(j:freeze s'.σ 10 d=some d')(u:aH 8 d'=true):cS F fd args=some d':=by
 show(if _ then(aU F (fd.f==(105:Nat)) 60 fd.body ⟨(fd.params.zip args).reverse,[]⟩).bind xI else none)=_;rw[if_pos ⟨m,g⟩,h];show(freeze s'.σ 10 d).bind m7=_;rw[j];show(if aH 8 d'=true then _ else _)=_;rw[if_pos u]
theorem eE(I:List β->PS'->Prop)(l:List β)
 (g:∀pre d j s,l=pre++d::j->I pre s->∃ρ s',a6 tup xs (emb d) s.ρ=some ρ/\body {s with ρ:=norm ρ}=some (.next,s')/\I (pre++[d]) s') (s:PS') (h0:I [] s) :
  ∃s',cQ body tup xs (l.map emb) s=some (.next,s')/\I l s':=by
 have u:∀(j pre:List β) (s:PS'),l=pre++j->I pre s->∃s',cQ body tup xs (j.map emb) s=some (.next,s')/\I l s':=by
  intro j;induction j with
  |nil=>intro pre s e h;rw[List.append_nil]at e;exact⟨s,rfl,e▸h⟩
  |cons d j v=>
   intro pre s e h;refine aO (g pre d j s e h) λρ s' h1 h2 h3=>?_;obtain⟨m,z,y⟩:=v (pre++[d]) s' (by rw[e,List.append_assoc];rfl) h3;refine⟨m,?_,y⟩;show(a6 tup xs (emb d) s.ρ).bind _=_;rw[h1,Option.bind_some,h2];exact z
 exact u l [] s rfl h0
theorem bt{ks:List Nat}(h:ks.contains x=true):∀ρ:ar,(aj ks ρ).lookup x=ρ.lookup x:=by
 intro ρ;induction ρ with
 |nil=>rfl
 |cons p r j=>
  obtain⟨y,d⟩:=p;show List.lookup x (List.filter _ ((y,d)::r))=_;rw[List.filter_cons,List.lookup];by_cases hy:x=y
  ·subst hy;rw[if_pos h,List.lookup,beq_self_eq_true]
  ·have g:(x==y)=false:=by simpa using hy
   rw[g];clear h hy;split
   ·rw[List.lookup,g];exact j
   ·exact j
theorem bB(ρ:ar):aj [] ρ=[]:=by
 induction ρ with
 |nil=>rfl
 |cons p r j=>exact j
theorem bw{ks:List Nat}(h:ks.contains x=false):∀ρ:ar,(aj ks ρ).lookup x=none:=by
 intro ρ;induction ρ with
 |nil=>rfl
 |cons p r j=>
  obtain⟨y,d⟩:=p;show List.lookup x (List.filter _ ((y,d)::r))=_;rw[List.filter_cons];split
  ·rename_i hc;have g:(x==y)=false:=by
    refine Bool.eq_false_iff.mpr λe=>?_;rw[eq_of_beq e,hc]at h;injection h
   rw[List.lookup,g];exact j
  ·exact j
end
noncomputable def pvN(n:Nat):PV:=.int n
noncomputable def pvL(l:List Nat):PV:=.list (l.map pvN)
theorem fA[DecidableEq α](j:∀a b,eqB (emb a) (emb b)=decide (a=b)):∀l m:List α,jF (l.map emb) (m.map emb)=decide (l=m):=by
 intro l;induction l with
 |nil=>intro m;cases m<;>rfl
 |cons a l g=>
  intro m;cases m with
  |nil=>rfl
  |cons b m=>
   show(eqB (emb a) (emb b)&&jF (l.map emb) (m.map emb))=_;rw[j,g];by_cases h1:a=b<;>by_cases h2:l=m<;>simp[h1,h2]
theorem c0(a b:Nat):eqB (pvN a) (pvN b)=decide (a=b):=by
 show decide ((a:Int)=(b:Int))=_;simp[Int.ofNat_inj]
theorem yX(l m:List Nat):eqB (pvL l) (pvL m)=decide (l=m):=fA c0 l m
theorem im{α:Type}{emb:α->PV}{n:Nat}(h:∀a,ai n (emb a)=true)(l:List α):ai (n+1) (.list (l.map emb))=true:=by
 show(l.map emb).all (ai n)=true;rw[List.all_eq_true];intro d hd;refine af (List.mem_map.mp hd) λa g j=>?_;clear hd g;subst j;exact h a
theorem bz{α:Type}{emb:α->PV}{n:Nat}(h:∀a,aH n (emb a)=true)(l:List α):aH (n+1) (.list (l.map emb))=true:=by
 show(l.map emb).all (aH n)=true;rw[List.all_eq_true];intro d hd;refine af (List.mem_map.mp hd) λa g j=>?_;clear hd g;subst j;exact h a
theorem el(n:Nat)(l:List Nat):ai (n+1) (pvL l)=true:=im (λa=>by cases n<;>rfl) l
theorem eC(n:Nat)(l:List Nat):aH (n+1) (pvL l)=true:=bz (λa=>by cases n<;>rfl) l
noncomputable def code(v:Nat):Int:=if v=1 then 20 else if v=2 then 21 else if v=3 then 27 else 18
noncomputable def ns5:List Nat:=[0,1,2,3,4]
noncomputable def bj(t:Nat->Nat->Nat):PV:=.list (ns5.map λa=>.list (ns5.map λb=>.int (code (t a b))))
theorem lt5{P:Nat->Prop}(h0:P 0)(h1:P 1)(h2:P 2)(g:P 3)(j:P 4)(k:Nat)(m:k<5):P k:=
 Nat.casesOn (motive:=λk=>k<5->P k) k (λu=>h0) (λk=>Nat.casesOn (motive:=λk=>k+1<5->P (k+1)) k (λu=>h1) (λk=>Nat.casesOn (motive:=λk=>k+2<5->P (k+2)) k (λu=>h2) (λk=>Nat.casesOn (motive:=λk=>k+3<5->P (k+3)) k (λu=>g)
  (λk=>Nat.casesOn (motive:=λk=>k+4<5->P (k+4)) k (λu=>j) (λk h=>absurd h (Nat.not_lt_of_le (Nat.le_add_left 5 k))))))) m
theorem cD(f:Nat->PV)(h:a<5):gq (.list (ns5.map f)) (pvN a)=some (f a):=lt5 (P:=λa=>gq (.list (ns5.map f)) (pvN a)=some (f a)) rfl rfl rfl rfl rfl a h
noncomputable def iQ(tie:Nat->Nat->Bool)(one:Nat)(ps:List (List Nat)):List (List Nat):=ps.filter (λp=>!p.any (tie one))++[(ps.filter λp=>p.any (tie one)).flatten++[one]]
noncomputable def ay(tie:Nat->Nat->Bool)(ms:List Nat):List (List Nat):=ms.foldl (λps one=>iQ tie one ps) []
theorem e9(tie:Nat->Nat->Bool)(j:List Nat)(m:Nat):ay tie (j++[m])=iQ tie m (ay tie j):=by rw[ay,List.foldl_append];rfl
theorem l9(p:List α->Bool):∀ps:List (List α),((ps.filter λx=>!p x).flatten++(ps.filter p).flatten).Perm ps.flatten:=by
 intro ps;induction ps with
 |nil=>exact .refl _
 |cons a ps j=>
  rw[List.filter_cons,List.filter_cons,List.flatten_cons];cases p a
  ·exact((List.append_assoc ..).symm▸j.append_left a:_)
  ·exact((List.perm_append_comm_assoc ..).trans (j.append_left a))
theorem gO{α:Type}{P:List α->Prop}(h0:P [])(h1:∀l a,P l->P (l++[a])):∀l,P l:=by
 have m:∀j pre:List α,P pre->P (pre++j):=by
  intro j;induction j with
  |nil=>intro pre h;rw[List.append_nil];exact h
  |cons a j g=>
   intro pre h;have q:=g (pre++[a]) (h1 pre a h);rwa [List.append_assoc]at q
 exact λl=>m l [] h0
theorem b7(tie:Nat->Nat->Bool)(j:List Nat):(ay tie j).flatten.Perm j:=by
 refine gO (P:=λj=>(ay tie j).flatten.Perm j) (.refl _) (λj m g=>?_) j;rw[e9,iQ,List.flatten_append,List.flatten_singleton,<- List.append_assoc];exact((l9 (λp=>p.any (tie m)) _).trans g).append_right [m]
theorem g7(tie:Nat->Nat->Bool)(j:List Nat):∀p∈ay tie j,p≠[]:=by
 refine gO (P:=λj=>∀p∈ay tie j,p≠[]) (λp h=>nomatch h) (λj m g=>?_) j;rw[e9,iQ];intro p u;rcases List.mem_append.mp u with h|h
 ·exact g p (List.mem_filter.mp h).1
 ·clear g u;obtain rfl:=List.mem_singleton.mp h;exact List.append_ne_nil_of_right_ne_nil _ (by simp)
theorem lW(tie:Nat->Nat->Bool)(j:List Nat):(ay tie j).length<=j.length:=by
 have e:=(b7 tie j).length_eq;rw[<- e];have:∀ps:List (List Nat),(∀p∈ps,p≠[])->ps.length<=ps.flatten.length:=by
  intro ps;induction ps with
  |nil=>intro _;exact Nr _
  |cons p ps g=>
   intro h;have h1:=g λq m=>h q (.tail _ m);have h2:0<p.length:=List.length_pos_iff.mpr (h p (.head _));rw[List.flatten_cons,List.length_append,List.length_cons];exact w9 h1 h2
 exact this _ (g7 tie j)
theorem kW{tie:Nat->Nat->Bool}{m:Nat}(ps:List (List Nat))(p:List Nat)(g:p∈ps):((ps.filter λp=>p.any (tie m)).any λq=>decide (q=p))=p.any (tie m):=by
 rw[Bool.eq_iff_iff,List.any_eq_true];constructor
 ·rintro⟨q,j,e⟩
  obtain rfl:=of_decide_eq_true e;exact(List.mem_filter.mp j).2
 ·intro h;exact⟨p,List.mem_filter.mpr ⟨g,h⟩,decide_eq_true rfl⟩
theorem ro(c:Int)(j:List Int):fX (.int c) (j.map .int)=some (j.any λy=>decide (y=c)):=by
 have h:(ai 8 (.int c)&&(j.map PV.int).all (ai 8))=true:=by
  show(true&&_)=true;rw[Bool.true_and,List.all_eq_true];intro d hd;refine af (List.mem_map.mp hd) λi m g=>?_;clear hd m;subst g;rfl
 rw[fX,if_pos h,List.any_map];rfl
theorem sF(p:List Nat)(ps:List (List Nat)):fX (pvL p) (ps.map pvL)=some (ps.any λq=>decide (q=p)):=by
 have h:(ai 8 (pvL p)&&(ps.map pvL).all (ai 8))=true:=by
  rw[el,Bool.true_and,List.all_eq_true];intro d hd;refine af (List.mem_map.mp hd) λi g j=>?_;clear hd g;subst j;exact el ..
 rw[fX,if_pos h,List.any_map];congr 2;funext q
 exact yX q p
theorem gA(σ:List Sto)(p:List Nat):cU σ .NotEq (pvL p) (.list [])=some (!p.isEmpty):=by
 show(if(true:Bool)=true then(eqP (pvL p) (.list [])).map (!·)else none)=_;rw[if_pos rfl];show((if ai 9 (pvL p)&&ai 9 (.list [])then some (eqB (pvL p) (.list []))else none):Option Bool).map _=_;rw[el];cases p<;>rfl
theorem qU(p:Nat->Bool)(l:List Nat):(!(l.filter p).isEmpty)=l.any p:=by
 induction l with
 |nil=>rfl
 |cons a l j=>
  rw[List.filter_cons,List.any_cons];cases p a
  ·exact j
  ·rfl
structure Ah(t:Nat->Nat->Nat)(ties:List Int)(tie:Nat->Nat->Bool)(pre:List Nat)(s:PS'):Prop where
 now:∃X,s.ρ.lookup 49=some X/\res s.σ X=some (.list ((ay tie pre).map pvL))/\(pre≠[]->aZ X=none/\X=.list ((ay tie pre).map pvL))
 tab:s.ρ.lookup 37=some (bj t)
 tie:s.ρ.lookup 48=some (.tuple (ties.map .int))
theorem qa(F:Nat->List PV->Option PV)(lam:Bool)(t:Nat->Nat->Nat)(j:List Int)(tie:Nat->Nat->Bool)(o:∀a b,(j.any λy=>decide (y=code (t a b)))=tie a b)
 (L:List Nat) (R:∀m∈L,m<5) (hl:L.length<=5) (pre:List Nat) (m:Nat) (f:List Nat) (r:L=pre++m::f) (s:PS') (X:PV) (P:s.ρ.lookup 49=some X) (O:res s.σ X=some (.list ((ay tie pre).map pvL)))
 (S:s.ρ.lookup 37=some (bj t)) (h:s.ρ.lookup 48=some (.tuple (j.map .int))) (M:s.ρ.lookup 45=some (pvN m)) :
 aU F lam 57 [.assign 50 (.comp (.var 51) [(false,[51])] [.var 49] [[.cmp (.comp (.var 13) [(false,[13])] [.var 51] [[.cmp (.sub (.sub (.var 37) (.var 45)) (.var 13)) [.In] [.var 48]]] [45,37,48]) [.NotEq] [.list []]]] [45,37,48]),.assign 49 (.bin (.Add) (.comp (.var 51) [(false,[51])] [.var 49] [[.cmp (.var 51) [.NotIn] [.var 50]]] [50]) (.list [.bin (.Add) (.comp (.var 13) [(false,[51]),(false,[13])] [.var 50,.var 51] [[],[]] []) (.list [.var 45])]))] s
  = some (.next,(s.bind 50 (.list (((ay tie pre).filter λp=>p.any (tie m)).map pvL))).bind 49 (.list ((ay tie (pre++[m])).map pvL))):=by
 have v:pre.length<=5:=by rw[r,List.length_append]at hl;exact Nat.le_of_add_right_le hl
 have c:(ay tie pre).length<=5:=Nt (lW ..) v;have n:∀p∈ay tie pre,∀x∈p,x<5:=λp z x J=>R x (by
  rw[r];exact List.mem_append_left _ ((b7 tie pre).mem_iff.mp (List.mem_flatten.mpr ⟨p,z,J⟩)))
 have l:∀p∈ay tie pre,p.length<=5:=λp z=>Nt (List.Sublist.length_le (List.sublist_flatten_of_mem z)) ((b7 tie pre).length_eq▸v);have k:((ay tie pre).filter λp=>p.any (tie m)).flatten.length<=5:=by
  have q:=(l9 (λp=>p.any (tie m)) (ay tie pre)).length_eq;rw[List.length_append,(b7 tie pre).length_eq]at q;exact Nt (Nat.le_add_left _ _) (Nt (Ne0 q) v)
 have K:m<5:=R m (by rw[r];simp);have i:ev F s.σ 55 (.comp (.var 51) [(false,[51])] [.var 49] [[.cmp (.comp (.var 13) [(false,[13])] [.var 51] [[.cmp (.sub (.sub (.var 37) (.var 45)) (.var 13)) [.In] [.var 48]]] [45,37,48]) [.NotEq] [.list []]]] [45,37,48]) s.ρ=some (.list (((ay tie pre).filter λp=>p.any (tie m)).map pvL)):=by
  refine d3 (emb:=pvL) (aF rfl (aa P) rfl O rfl) (λp z=>?_) (Nt c (by decide));refine c6 (ρ':=(51,pvL p)::aj [45,37,48] s.ρ) (b:=p.any (tie m)) (by rw[List.all_cons,bw rfl];rfl) rfl (az (x:=pvL (p.filter (tie m))) (y:=.list []) ?_ rfl ?_) (λu=>rfl)
  ·refine d3 (emb:=pvN) (g:=pvN) (aF rfl (aa (d:=pvL p) rfl) rfl rfl rfl) (λx J=>?_) (Nt (l p z) (by decide));refine c6 (ρ':=(13,pvN x)::aj [45,37,48] ((51,pvL p)::aj [45,37,48] s.ρ)) (by rw[List.all_cons,bw rfl];rfl) rfl (az (x:=.int (code (t m x))) (y:=.tuple (j.map .int)) ?_ ?_ ?_) (λu=>rfl)
   ·refine aX (aX (aa (d:=bj t) ?_) rfl (aa (d:=pvN m) ?_) (cD _ K)) rfl (aa (d:=pvN x) rfl) (cD _ (n p z x J))
    ·exact(bt rfl _).trans ((bt rfl _).trans S)
    ·exact(bt rfl _).trans ((bt rfl _).trans M)
   ·exact aa ((bt rfl _).trans ((bt rfl _).trans h))
   ·exact(ro _ _).trans (congrArg some (o m x))
  ·rw[gA,qU]
 refine ao (an rfl i) (ao (an rfl ?_) aE);rw[e9,iQ,List.map_append];refine aG (x:=.list (((ay tie pre).filter λp=>!p.any (tie m)).map pvL)) (y:=.list [pvL (((ay tie pre).filter λp=>p.any (tie m)).flatten++[m])]) ?_ rfl (fi (mm (aG (x:=pvL ((ay tie pre).filter λp=>p.any (tie m)).flatten) (y:=.list [pvN m]) ?_ rfl (fi (mm (aa M) mm0)) rfl ?_) mm0)) rfl ?_
 ·refine d3 (emb:=pvL) (aF rfl (aa (d:=X) P) rfl O rfl) (λp z=>?_) (Nt c (by decide));refine c6 (ρ':=(51,pvL p)::aj [50] ((50,.list (((ay tie pre).filter λp=>p.any (tie m)).map pvL))::s.ρ)) (by rw[List.all_cons,bw rfl];rfl) rfl (az (x:=pvL p) (aa rfl) (aa rfl) ?_) (λu=>rfl);show(fX (pvL p) (((ay tie pre).filter λp=>p.any (tie m)).map pvL)).map _=_;rw[sF,kW _ _ z];rfl
 ·have e:((((ay tie pre).filter λp=>p.any (tie m))).map λp=>(p.map λx=>[pvN x]).flatten).flatten=((ay tie pre).filter λp=>p.any (tie m)).flatten.map pvN:=by
   rw[List.map_flatten];congr 1;refine List.map_congr_left λp u=>?_;exact hM pvN p
  rw[pvL,<- e];refine i8 (emb:=pvL) (emb2:=pvN) (m:=λp=>p) (ρs:=λp=>[(51,pvL p)]) (aF rfl (aa rfl) rfl rfl rfl) (by rw[bB];rfl) (λp u=>by rw[bB];rfl) (λu u=>rfl) (λp u=>aF rfl (aa (d:=pvL p) rfl) rfl rfl rfl) (λp u x u=>b4 (ρ':=[(13,pvN x),(51,pvL p)]) rfl rfl rfl) ?_;rw[e,List.length_map];exact Nt k (by decide)
 ·show(if(List.map pvN _).length+1<=ag then _ else _)=_;rw[if_pos (by rw[List.length_map];exact Nt (Nat.add_le_add_right k 1) (by decide)),pvL,List.map_append];rfl
 ·show(if(List.map pvL _).length+1<=ag then _ else _)=_;rw[if_pos (by
   rw[List.length_map];exact Nt (Nat.add_le_add_right (Nt (List.length_filter_le ..) c) 1) (by decide))]
  rfl
theorem pf(σ:List Sto)(n:Nat)(l:List Nat):freeze σ (n+2) (pvL l)=some (pvL l):=by
 show((l.map pvN).mapM (freeze σ (n+1))).map _=_;rw[br (f:=freeze σ (n+1)) (h:=pvN) (λx u=>rfl)];rfl
theorem fq(t:Nat->Nat->Nat):aH 8 (bj t)=true:=rfl
theorem gj{α:Type}{emb:α->PV}{σ:List Sto}{n:Nat}(h:∀a,freeze σ n (emb a)=some (emb a))(l:List α):freeze σ (n+1) (.list (l.map emb))=some (.list (l.map emb)):=by
 show((l.map emb).mapM (freeze σ n)).map _=_;rw[br (h:=emb) (λx u=>h x)];rfl
theorem tc(F:Nat->List PV->Option PV)(t:Nat->Nat->Nat)(j:List Int)(tie:Nat->Nat->Bool)(g:∀a b,(j.any λy=>decide (y=code (t a b)))=tie a b)
 (v:List Nat) (n:∀m∈v,m<5) (hl:v.length<=5) (l:v≠[]):cS F yU [pvL v,bj t,.tuple (j.map .int)]=some (.list ((ay tie v).map pvL)):=by
 obtain⟨s',h1,h2⟩:=eE (body:=aU F (yU.f==(105:Nat)) 57 _) (tup:=false) (xs:=[45]) (emb:=pvN) (Ah t j tie) v (λpre m q s e z=>by
  refine bd z.now λX c J x=>?_;refine⟨_,_,rfl,qa F _ t j tie g v n hl pre m q e _ X ((ac _ _).trans c) J ((ac _ _).trans z.tab) ((ac _ _).trans z.tie) ((ac _ _).trans rfl),⟨⟨_,rfl,rfl,λu=>⟨rfl,rfl⟩⟩,(ac _ _).trans z.tab,(ac _ _).trans z.tie⟩⟩)
  ⟨[(49,.cell 0),(48,.tuple (j.map .int)),(37,bj t),(47,pvL v)],[.list []]⟩ ⟨⟨_,rfl,rfl,λh=>(h rfl).elim⟩,rfl,rfl⟩
 refine bd h2.now λX c k o=>?_;clear g n hl h2 k;obtain rfl:=(o l).2;refine bX (s':=s') rfl ?_ (ao (og) (ao (hF (aF rfl (aa rfl) rfl rfl rfl) ?_ h1) (bT (dd (aa c))))) (gj (λp=>pf ..) _) (bz (λp=>eC ..) _)
 ·rw[List.all_cons,eC,List.all_cons,fq];show((j.map PV.int).all (aH 7)&&true)=true;rw[Bool.and_true,List.all_eq_true];intro d hd;refine af (List.mem_map.mp hd) λi K r=>?_;subst r;rfl
 ·intro d _;rfl
section
variable{F:Nat->List PV->Option PV}{lam:Bool}{k:Nat}{s s':PS'}
theorem pZ(j:x≠y)(g:evR F k s a=(ev F s.σ k a s.ρ).map λd=>(d,s))(m:evR F k s b=(ev F s.σ k b s.ρ).map λd=>(d,s))(h1:ev F s.σ k a s.ρ=some d)(h2:ev F s.σ k b s.ρ=some e):
 exS F lam (k+1) (.tupAssign [x,y] [a,b]) s=some (.next,{s with ρ:=(y,e)::(x,d)::s.ρ}):=by
 show((evR F k s a).bind λq=>((evR F k q.2 b).bind λq=>(pE F k q.2 []).map λt=>(q.1::t.1,t.2)).map λt=>(q.1::t.1,t.2)).bind _=_;rw[mQ g h1,Option.bind_some,mQ m h2];show(if 2=2/\[x,y].Nodup/\2<=10 then _ else _)=_;rw[if_pos ⟨rfl,by simp[j],by decide⟩];rfl
end
noncomputable def pX{α:Type}(key:α->Nat)(p:α):List α->List α
 |[]=>[p]
 |q::r=>if key p<key q then p::q::r else q::pX key p r
noncomputable def eK{α:Type}(key:α->Nat)(l:List α):List α:=l.foldl (λacc p=>pX key p acc) []
theorem sK(key:α->Nat)(emb:α->PV)(p:α)(l:List α):nL (key p) (emb p) (l.map λq=>((key q:Int),emb q))=(pX key p l).map λq=>((key q:Int),emb q):=by
 induction l with
 |nil=>rfl
 |cons q l j=>
  show(if(key p:Int)<(key q:Int)then _ else _)=List.map _ (if key p<key q then _ else _);by_cases h:key p<key q
  ·rw[if_pos h,if_pos (Int.ofNat_lt.mpr h)];rfl
  ·rw[if_neg h,if_neg (by simp[h]),j];rfl
theorem sn(key:α->Nat)(emb:α->PV)(l:List α):f5 (l.map λq=>((key q:Int),emb q))=(eK key l).map λq=>((key q:Int),emb q):=by
 refine gO (P:=λl=>f5 (l.map λq=>((key q:Int),emb q))=(eK key l).map λq=>((key q:Int),emb q)) rfl (λl a j=>?_) l;rw[f5,eK,List.map_append,List.foldl_append,List.foldl_append];rw[f5,eK]at j;rw[j];exact sK ..
theorem rP(key:α->Nat)(p:α)(l:List α):(pX key p l).Perm (p::l):=by
 induction l with
 |nil=>exact .refl _
 |cons q l j=>
  show(if key p<key q then _ else _:List α).Perm _;split
  ·exact .refl _
  ·exact(j.cons q).trans (List.Perm.swap ..)
theorem gp(key:α->Nat)(l:List α):(eK key l).Perm l:=by
 refine gO (P:=λl=>(eK key l).Perm l) (.refl _) (λl a j=>?_) l;rw[eK,List.foldl_append];rw[eK]at j;exact(rP ..).trans ((j.cons a).trans (List.perm_append_singleton ..).symm)
noncomputable def jI(t:Nat->Nat->Nat)(a b:Nat):Bool:=t a b==1||t a b==2||t a b==3
noncomputable def fH(t:Nat->Nat->Nat)(a b:Nat):Bool:=!(t a b==1||t a b==2)
noncomputable def mY(t:Nat->Nat->Nat)(ms:List Nat)(way:Bool)(p:List Nat):Nat:=(ms.filter λo=>t o (p.headD 0)==cond way 2 1).length
structure xq where
 parts:List (List Nat)
 sign:Nat
noncomputable def km(t:Nat->Nat->Nat)(ms:List Nat):Bool:=ms.all λo=>t (ms.headD 0) o==3
noncomputable def ax(t:Nat->Nat->Nat)(ms:List Nat)(way:Bool):xq:=
 if km t ms=true then⟨ms.map λm=>[m],27⟩
 else if 1<(ay (jI t) ms).length then⟨ay (jI t) ms,cond way 19 18⟩
 else if 1<(ay (fH t) ms).length then⟨eK (mY t ms way) (ay (fH t) ms),cond way 21 20⟩
 else⟨ms.map λm=>[m],cond way 19 18⟩
noncomputable def kD(sep:Nat):List (List Nat)->List Nat
 |[]=>[]
 |x::r=>if r.isEmpty then x else x++sep::kD sep r
noncomputable def soft(sign:Nat):Bool:=sign==18||sign==19
noncomputable def jK(inner:Bool)(sign:Nat)(x:List Nat):List Nat:=if inner&&!soft sign then 7::x++[8]else x
noncomputable def a9(t:Nat->Nat->Nat):Nat->List Nat->Bool->Bool->List Nat
 |0,_,_,_=>[]
 |k+1,ms,way,inner=>if ms.length=1 then[256+ms.headD 0]else jK inner (ax t ms way).sign (kD (ax t ms way).sign ((ax t ms way).parts.map λp=>a9 t k p (!way) true))
noncomputable def bQ(c:Nat):List Nat:=if c=18 then[124]else if c=19 then[38]else if c=27 then[61,61]else if c=20 then[60]else if c=21 then[62]else if c=7 then[40]else[41]
theorem pG(c:Nat):(bQ c).length<=2:=by
 unfold bQ;repeat' split
 all_goals decide
noncomputable def cv(names:List (List Nat))(c:Nat):List Nat:=if 256<=c then 34::names.getD (c - 256) []++[34]else bQ c
noncomputable def aq(names:List (List Nat))(l:List Nat):List Nat:=l.flatMap (cv names)
theorem kR(names:List (List Nat))(sep:Nat):∀l:List (List Nat),aq names (kD sep l)=bq (cv names sep) (l.map (aq names)):=by
 intro l;induction l with
 |nil=>rfl
 |cons x r j=>
  cases r with
  |nil=>rfl
  |cons y r=>
   show aq names (x++sep::kD sep (y::r))=aq names x++cv names sep++bq _ (List.map _ (y::r));rw[<- j,aq,List.flatMap_append,List.flatMap_cons,<- List.append_assoc];rfl
noncomputable def eW(w:Bool):PV:=.int (cond w 1 0)
theorem rW(v:Nat):(decide (code v=27))=(v==3):=by
 unfold code;split
 ·subst v;rfl
 ·split
  ·subst v;rfl
  ·split
   ·subst v;rfl
   ·rename_i h;simp[h]
theorem uG(v:Nat)(w:Bool):decide (code v=20+cond w 1 0)=(v==cond w 2 1):=by
 unfold code;split
 ·subst v;cases w<;>rfl
 ·split
  ·subst v;cases w<;>rfl
  ·split
   ·subst v;cases w<;>rfl
   ·cases w<;>simp_all
theorem len_ok(l:List PV)(h:l.length<=ag):sZ (.list l)=some (.int l.length):=by
 show(if l.length<=ag then _ else _)=_;rw[if_pos h]
theorem pK(σ:List Sto)(p:List Nat):cU σ .Eq (pvL p) (.list [])=some p.isEmpty:=by
 show((if ai 9 (pvL p)&&ai 9 (.list [])then some (eqB (pvL p) (.list []))else none):Option Bool)=_;rw[el];cases p<;>rfl
theorem tL(p:Nat->Bool)(l:List Nat):(l.filter λx=>!p x).isEmpty=l.all p:=by
 induction l with
 |nil=>rfl
 |cons a l j=>
  rw[List.filter_cons,List.all_cons];cases p a
  ·rfl
  ·exact j
theorem tm{s:PS'}{k x p:Nat}{a:PE}{body:PE}{keep:List Nat}{α:Type}{l:List α}{emb:α->PV}{key:α->Nat}(y:ev F s.σ k a s.ρ=some (.list (l.map emb)))(hl:l.length<=5)(m:(l.map key).Nodup)
 (v:∀q∈l,ev (λu u=>none) s.σ k body ((p,emb q)::aj keep s.ρ)=some (.int (key q))):exS F true (k+1) (.sortS x a p body keep) s=some (.next,s.bind x (.list ((eK key l).map emb))):=by
 show(rs s.σ (ev F s.σ k a s.ρ)).bind _=_;rw[y];show((l.map emb).mapM λd=>(ev (λu u=>none) s.σ k body ((p,d)::aj keep s.ρ)).bind aN).bind _=_;rw[br (h:=λq=>(key q:Int)) (λq z=>by rw[v q z];rfl)];show(if(l.map emb).length<=5/\(l.map λq=>(key q:Int)).Nodup/\true=true then _ else _)=_;have hz:∀l:List α,(l.map λq=>(key q:Int)).zip (l.map emb)=l.map λq=>((key q:Int),emb q):=by
  intro l;induction l with
  |nil=>rfl
  |cons a l g=>exact congrArg (_::·) g
 have j:(l.map λq=>(key q:Int)).Nodup:=by
  have:(l.map λq=>(key q:Int))=(l.map key).map Int.ofNat:=by rw[List.map_map];rfl
  rw[this];exact List.Pairwise.map _ (λa b h e=>h (Int.ofNat.inj e)) m
 rw[if_pos ⟨by rw[List.length_map];exact hl,j,rfl⟩,hz,sn,List.map_map];rfl
noncomputable def qk(t:Nat->Nat->Nat)(ms:List Nat)(way:Bool):Prop:=(ax t ms way).sign=cond way 21 20->((ay (fH t) ms).map (mY t ms way)).Nodup
structure Av(t:Nat->Nat->Nat)(names:List (List Nat))(way inner:Bool)(sh:xq)(s:PS'):Prop where
 parts:s.ρ.lookup 49=some (.list (sh.parts.map pvL))
 sign:s.ρ.lookup 30=some (.str (bQ sh.sign))
 tab:s.ρ.lookup 37=some (bj t)
 names:s.ρ.lookup 32=some (.list (names.map .str))
 way:s.ρ.lookup 52=some (eW way)
 inner:s.ρ.lookup 53=some (.bool inner)
 sto:s.σ=[]
theorem zg(t:Nat->Nat->Nat)(a b:Nat):(([20,21,27]:List Int).any λy=>decide (y=code (t a b)))=jI t a b:=by
 delta jI code;generalize t a b=v;split
 ·subst v;rfl
 ·split
  ·subst v;rfl
  ·split
   ·subst v;rfl
   ·simp_all
theorem zY(t:Nat->Nat->Nat)(a b:Nat):(([18,27]:List Int).any λy=>decide (y=code (t a b)))=fH t a b:=by
 delta fH code;generalize t a b=v;split
 ·subst v;rfl
 ·split
  ·subst v;rfl
  ·split
   ·subst v;rfl
   ·simp_all
theorem ta(F:Nat->List PV->Option PV)(t:Nat->Nat->Nat)(names:List (List Nat))(way inner:Bool)(j:List Nat)(R:qk t j way)(s:∀m∈j,m<5)(K:j.Nodup)(hl:j.length<=5)(h2:2<=j.length)(z:PV)(v:PV)
 (c:z=.list ((ay (jI t) j).map pvL)) (i:v=.list ((ay (fH t) j).map pvL)) (ρ:ar)
 (P:ρ=(55,v)::(54,z)::(30,.str (bQ (cond way 19 18)))::(49,.list ((j.map λm=>[m]).map pvL))::[(53,.bool inner),(52,eW way),(32,.list (names.map .str)),(37,bj t),(47,pvL j)]) :
 ∃s',exS F true 56 (.ite (.cmp (.comp (.var 45) [(false,[45])] [.var 47] [[.cmp (.sub (.sub (.var 37) (.sub (.var 47) (.cint 0))) (.var 45)) [.NotEq] [.cint 27]]] [47,37]) [.Eq] [.list []]) [.assign 30 (.cstr [61,61])] [.ite (.cmp (.len (.var 54)) [.Gt] [.cint 1]) [.assign 49 (.var 54)] [.ite (.cmp (.len (.var 55)) [.Gt] [.cint 1]) [.assign 30 (.sub (.cstr [60,62]) (.var 52)),.sortS 49 (.var 55) 51 (.len (.comp (.var 45) [(false,[45])] [.var 47] [[.cmp (.sub (.sub (.var 37) (.var 45)) (.sub (.var 51) (.cint 0))) [.Eq] [.bin (.Add) (.cint 20) (.var 52)]]] [51,37,52])) [47,37,52]] []]]) ⟨ρ,[]⟩=some (.next,s')
  /\Av t names way inner (ax t j way) s':=by
 clear K;subst P;obtain⟨m0,hm0,hh⟩:∃m0,j[0]?=some m0/\j.headD 0=m0:=by
  cases j with
  |nil=>simp at h2
  |cons a r=>exact⟨a,rfl,rfl⟩
 have L:m0<5:=s m0 (List.mem_of_getElem? hm0);have q:∀tie,((ay tie j).map pvL).length<=5:=λtie=>by rw[List.length_map];exact Nt (lW ..) hl
 have f:∀tie,decide (1<(((ay tie j).map pvL).length:Int))=decide (1<(ay tie j).length):=λtie=>by rw[List.length_map];exact decide_eq_decide.mpr (@Int.ofNat_lt 1 _)
 have l:∀k,ev F [] (k+8) (.cmp (.comp (.var 45) [(false,[45])] [.var 47] [[.cmp (.sub (.sub (.var 37) (.sub (.var 47) (.cint 0))) (.var 45)) [.NotEq] [.cint 27]]] [47,37]) [.Eq] [.list []]) ((55,v)::(54,z)::(30,.str (bQ (cond way 19 18)))::(49,.list ((j.map λm=>[m]).map pvL))::[(53,.bool inner),(52,eW way),(32,.list (names.map .str)),(37,bj t),(47,pvL j)])=some (.bool (km t j)):=by
  intro k;refine az (x:=pvL (j.filter λo=>!(t m0 o==3))) (y:=.list []) ?_ rfl ?_
  ·refine d3 (emb:=pvN) (g:=pvN) (aF rfl (aa rfl) rfl rfl rfl) (λo ho=>?_) (Nt hl (by decide));refine c6 (ρ':=[(45,pvN o),(37,bj t),(47,pvL j)]) rfl rfl (az (x:=.int (code (t m0 o))) (aX (aX (aa rfl) rfl (aX (aa rfl) rfl rfl ?_) (cD _ L)) rfl (aa rfl) (cD _ (s o ho))) rfl ?_) (λu=>rfl)
   ·show(idx (j.map pvN).length 0).bind _=_;have:idx (j.map pvN).length 0=some 0:=by
     rw[List.length_map];show(if 0<j.length then some 0 else none)=_;rw[if_pos (by lia)]
    rw[this];show(j.map pvN)[0]?=_;rw[List.getElem?_map,hm0];rfl
   ·show some (!decide (code (t m0 o)=27))=_;rw[rW]
  ·rw[pK,tL,km,hh]
 cases hA:km t j with
 |true=>
  rw[hA]at l;refine⟨_,aM (l _) (λu=>ao (an rfl rfl) aE) (λh=>nomatch h),?_⟩;rw[ax,if_pos hA];exact⟨rfl,rfl,rfl,rfl,rfl,rfl,rfl⟩
 |false=>
  rw[hA]at l;have b:∀k,ev F [] (k+3) (.cmp (.len (.var 54)) [.Gt] [.cint 1]) ((55,v)::(54,z)::(30,.str (bQ (cond way 19 18)))::(49,.list ((j.map λm=>[m]).map pvL))::[(53,.bool inner),(52,eW way),(32,.list (names.map .str)),(37,bj t),(47,pvL j)])=some (.bool (decide (1<(ay (jI t) j).length))):=λk=>
   az (gd (aa rfl) (by rw[c];rfl) (len_ok _ (Nt (q _) (by decide)))) rfl (congrArg some (f _))
  have n:∀k,ev F [] (k+3) (.cmp (.len (.var 55)) [.Gt] [.cint 1]) ((55,v)::(54,z)::(30,.str (bQ (cond way 19 18)))::(49,.list ((j.map λm=>[m]).map pvL))::[(53,.bool inner),(52,eW way),(32,.list (names.map .str)),(37,bj t),(47,pvL j)])=some (.bool (decide (1<(ay (fH t) j).length))):=λk=>
   az (gd (aa rfl) (by rw[i];rfl) (len_ok _ (Nt (q _) (by decide)))) rfl (congrArg some (f _))
  by_cases h3:1<(ay (jI t) j).length
  ·rw[decide_eq_true h3]at b;refine⟨_,aM (l _) (λh=>nomatch h) (λu=>ao (aM (b _) (λu=>ao (an rfl (aa rfl)) aE) (λh=>nomatch h)) aE),?_⟩;rw[ax,if_neg (by rw[hA];decide),if_pos h3];exact⟨congrArg some c,rfl,rfl,rfl,rfl,rfl,rfl⟩
  ·rw[decide_eq_false h3]at b;by_cases h4:1<(ay (fH t) j).length
   ·rw[decide_eq_true h4]at n;have S:∀k,exS F true (k+8) (.sortS 49 (.var 55) 51 (.len (.comp (.var 45) [(false,[45])] [.var 47] [[.cmp (.sub (.sub (.var 37) (.var 45)) (.sub (.var 51) (.cint 0))) [.Eq] [.bin (.Add) (.cint 20) (.var 52)]]] [51,37,52])) [47,37,52])
     ⟨(30,.str (bQ (cond way 21 20)))::(55,v)::(54,z)::(30,.str (bQ (cond way 19 18)))::(49,.list ((j.map λm=>[m]).map pvL))::[(53,.bool inner),(52,eW way),(32,.list (names.map .str)),(37,bj t),(47,pvL j)],[]⟩
     = some (.next,(PS'.bind ⟨(30,.str (bQ (cond way 21 20)))::(55,v)::(54,z)::(30,.str (bQ (cond way 19 18)))::(49,.list ((j.map λm=>[m]).map pvL))::[(53,.bool inner),(52,eW way),(32,.list (names.map .str)),(37,bj t),(47,pvL j)],[]⟩ 49 (.list ((eK (mY t j way) (ay (fH t) j)).map pvL)))):=λk=>by
     refine tm (aa (by rw[<- i];rfl)) (by rw[<- List.length_map pvL];exact q _) (R (by rw[ax,if_neg (by rw[hA];decide),if_neg h3,if_pos h4])) (λp O=>?_);refine bx (List.exists_cons_of_ne_nil (g7 _ _ p O)) λe r J=>?_;subst J;have M:e<5:=s e ((b7 (fH t) j).mem_iff.mp (List.mem_flatten.mpr ⟨_,O,.head _⟩));refine gd (x:=pvL (j.filter λo=>t o e==cond way 2 1)) ?_ rfl ?_
     ·refine d3 (emb:=pvN) (g:=pvN) (aF rfl (aa rfl) rfl rfl rfl) (λo ho=>?_) (Nt hl (by decide));refine c6 (ρ':=[(45,pvN o),(51,pvL (e::r)),(52,eW way),(37,bj t)]) rfl rfl (az (x:=.int (code (t o e))) (y:=.int (20+cond way 1 0)) (aX (aX (aa rfl) rfl (aa rfl) (cD _ (s o ho))) rfl (aX (x:=pvL (e::r)) (d:=pvN e) (aa rfl) rfl rfl ?_) (cD _ M)) rfl ?_) (λu=>rfl)
      ·rfl
      ·show some (decide (code (t o e)=20+cond way 1 0))=_;rw[uG]
     ·exact(len_ok _ (by rw[List.length_map];exact Nt (Nt (List.length_filter_le ..) hl) (by decide))).trans (by rw[List.length_map];rfl)
    refine⟨_,aM (l _) (λh=>nomatch h) (λu=>ao (aM (b _) (λh=>nomatch h) (λu=>ao (aM (n _) (λu=>ao (an (d:=.str (bQ (cond way 21 20))) rfl ?_) (ao (S _) aE)) (λh=>nomatch h)) aE)) aE),?_⟩
    ·cases way<;>rfl
    ·rw[ax,if_neg (by rw[hA];decide),if_neg h3,if_pos h4];exact⟨rfl,rfl,rfl,rfl,rfl,rfl,rfl⟩
   ·rw[decide_eq_false h4]at n;refine⟨_,aM (l _) (λh=>nomatch h) (λu=>ao (aM (b _) (λh=>nomatch h) (λu=>ao (aM (n _) (λh=>nomatch h) (λu=>aE)) aE)) aE),?_⟩;rw[ax,if_neg (by rw[hA];decide),if_neg h3,if_neg h4];exact⟨rfl,rfl,rfl,rfl,rfl,rfl,rfl⟩
theorem lL(names:List (List Nat))(inner:Bool)(sign:Nat)(x:List Nat):aq names (jK inner sign x)=if(inner&&!soft sign)=true then 40::aq names x++[41]else aq names x:=by
 unfold jK;split
 ·show aq names ((7::x)++[8])=_;rw[aq,List.flatMap_append,List.flatMap_cons];rfl
 ·rfl
noncomputable def ri(n:Nat):Nat:=20*n - 4
theorem gl(t:Nat->Nat->Nat)(j:List Nat)(way:Bool):(ax t j way).parts.flatten.Perm j:=by
 have one:(j.map λm=>[m]).flatten=j:=by induction j with|nil=>rfl|cons a l ih=>exact congrArg (a::·) ih
 unfold ax;split
 ·exact .of_eq one
 ·split
  ·exact b7 ..
  ·split
   ·exact(List.Perm.flatten (gp ..)).trans (b7 ..)
   ·exact .of_eq one
theorem kC(t:Nat->Nat->Nat)(u:List Nat)(way:Bool):∀p∈(ax t u way).parts,p≠[]:=by
 have one:∀p∈(u.map λm=>[m]),p≠[]:=λp j=>by
  refine af (List.mem_map.mp j) λm v g=>?_;subst g;simp
 unfold ax;split
 ·exact one
 ·split
  ·exact λp j=>g7 _ _ p j
  ·split
   ·exact λp j=>g7 _ _ p ((gp ..).mem_iff.mp j)
   ·exact one
theorem ic(t:Nat->Nat->Nat)(j:List Nat)(way:Bool)(h:2<=j.length):2<=(ax t j way).parts.length:=by
 unfold ax;split
 ·rw[List.length_map];exact h
 ·split
  ·assumption
  ·split
   ·rw[(gp ..).length_eq];assumption
   ·rw[List.length_map];exact h
theorem oy(ps:List (List Nat))(h:∀p∈ps,p≠[]):ps.length<=ps.flatten.length:=by
 induction ps with
 |nil=>exact Nr _
 |cons p ps j=>
  have h1:=j λq g=>h q (.tail _ g);have h2:0<p.length:=List.length_pos_iff.mpr (h p (.head _));rw[List.flatten_cons,List.length_append,List.length_cons];exact w9 h1 h2
theorem jA(ps:List (List Nat))(h:∀p∈ps,p≠[])(h2:2<=ps.length)(p:List Nat)(m:p∈ps):p.length<ps.flatten.length:=by
 refine bx (List.append_of_mem m) λa b j=>?_;clear m;subst j;have g:∀q∈a++b,q≠[]:=λq u=>h q (by
  rcases List.mem_append.mp u with e|e
  ·exact List.mem_append_left _ e
  ·exact List.mem_append_right _ (.tail _ e))
 have q:=oy (a++b) g;rw[List.length_append]at h2 q;rw[List.flatten_append,List.length_append,List.flatten_cons,List.length_append];rw[List.flatten_append,List.length_append]at q;rw[List.length_cons]at h2;(rw[Nat.add_left_comm];exact Nat.lt_add_of_pos_right (Nl (Nat.lt_of_succ_lt_succ h2) q))
theorem nA(sep:List Nat)(m:sep.length<=2):∀(j:List (List Nat)) ,(bq sep j).length<=(j.map List.length).sum+2*j.length/\(j≠[]->(bq sep j).length+2<=(j.map List.length).sum+2*j.length):=by
 intro j;induction j with
 |nil=>exact⟨Nr _,λh=>(h rfl).elim⟩
 |cons x r g=>
  cases r with
  |nil=>
   have:(bq sep [x]).length=x.length:=rfl;rw[List.map_cons,List.sum_cons,List.map_nil,List.sum_nil,List.length_singleton,this];exact⟨Nat.le_add_right _ _,λu=>Nr _⟩
  |cons y r=>
   have q:=g.2 (by simp);have:(bq sep (x::y::r)).length=x.length+sep.length+(bq sep (y::r)).length:=by
    show(x++sep++bq sep (y::r)).length=_;rw[List.length_append,List.length_append]
   rw[List.map_cons,List.sum_cons,List.length_cons,this];exact⟨by lia,λu=>by lia⟩
theorem oh(f:List Nat->Nat)(ps:List (List Nat))(j:∀p∈ps,p≠[])(h:∀p∈ps,f p<=ri p.length):(ps.map f).sum+4*ps.length<=20*ps.flatten.length:=by
 induction ps with
 |nil=>exact Nr _
 |cons p ps u=>
  have h1:=u (λq g=>j q (.tail _ g)) (λq g=>h q (.tail _ g));have h2:0<p.length:=List.length_pos_iff.mpr (j p (.head _));have m:=h p (.head _);unfold ri at m;rw[List.map_cons,List.sum_cons,List.flatten_cons,List.length_append,List.length_cons];lia
theorem gk(t:Nat->Nat->Nat)(j:List Nat)(way:Bool):(ax t j way).sign∈[27,19,18,21,20]:=by
 unfold ax;cases way<;>(repeat' split)<;>(show _∈_)<;>simp
theorem qX(names:List (List Nat)):∀c∈[27,19,18,21,20],cv names c=bQ c/\cU [] .NotIn (.str (bQ c)) (.str [124,38])=some (!soft c):=by
 intro c hc;simp only[List.mem_cons,List.not_mem_nil,or_false]at hc;rcases hc with rfl|rfl|rfl|rfl|rfl<;>exact⟨rfl,rfl⟩
theorem kT(t:Nat->Nat->Nat)(names:List (List Nat))(l:∀n∈names,n.length<=14):∀(k:Nat) (j:List Nat) (way inner:Bool),j≠[]->j.length<=k->(aq names (a9 t k j way inner)).length<=ri j.length:=by
 intro k;induction k with
 |zero=>intro j _ _ m y;cases j with|nil=>exact(m rfl).elim|cons a r=>simp at y
 |succ k d=>
  intro j way inner m y;show(aq names (if j.length=1 then _ else _)).length<=_;split
  ·rename_i h1;have c:(names.getD (256+j.headD 0 - 256) []).length<=14:=by
    rw[List.getD_eq_getElem?_getD];cases hx:names[256+j.headD 0 - 256]? with
    |none=>exact Nat.zero_le _
    |some x=>exact l x (List.mem_of_getElem? hx)
   have:aq names [256+j.headD 0]=34::names.getD (256+j.headD 0 - 256) []++[34]:=by
    rw[aq,List.flatMap_cons,List.flatMap_nil,List.append_nil,cv,if_pos (by lia)]
   rw[this,h1,List.length_append,List.length_cons,ri];show _+1+1<=_;lia
  ·rename_i h1;have h2:2<=j.length:=by
    have:=List.length_pos_iff.mpr m;lia
   have u:=ic t j way h2;have g:=kC t j way;have q:=(gl t j way).length_eq;have z:=(nA (cv names (ax t j way).sign) ((qX names _ (gk t j way)).1▸pG _) (((ax t j way).parts.map λp=>a9 t k p (!way) true).map (aq names))).2 (by
    intro e;rw[List.map_eq_nil_iff,List.map_eq_nil_iff]at e;rw[e]at u;exact absurd u (by decide))
   rw[<- kR,List.map_map,List.map_map,List.length_map,List.length_map]at z;have i:=oh ((List.length∘aq names)∘λp=>a9 t k p (!way) true) _ g (λp v=>d p (!way) true (g p v) (by
    have:=jA _ g u p v;lia))
   rw[lL];unfold ri;split
   ·rw[List.length_append,List.length_cons,List.length_singleton];lia
   ·lia
section
variable{F:Nat->List PV->Option PV}{lam:Bool}{k:Nat}{s s':PS'}
theorem dF(j:evR F k s e=(ev F s.σ k e s.ρ).map λd=>(d,s))(h:ev F s.σ k e s.ρ=some d)(hc:aV s x=some n)(g:s.σ[n]?=some (.list l))(hl:l.length<=ag):
 exS F lam (k+1) (.append x e) s=some (.next,s.set n (.list (l++[d]))):=by
 show(evR F k s e).bind (λr=>(aV r.2 x).bind λn=>q0 r.2 n r.1)=_;rw[mQ j h,Option.bind_some,hc];show(s.σ[n]?).bind _=_;rw[g];show(if l.length<=ag then _ else _)=_;rw[if_pos hl];rfl
theorem g0(hc:aV s x=some n)(j:s.σ[n]?=some (.list (l++[d])))(hl:(l++[d]).length<=ag):dG s x=some (d,s.set n (.list l)):=by
 unfold dG;rw[hc,Option.bind_some,j,Option.bind_some];show((l++[d]).getLast?).bind _=_;rw[List.getLast?_append,List.getLast?_singleton,Option.some_or,Option.bind_some,if_pos hl,List.dropLast_append_of_ne_nil (by simp)];show some (d,s.set n (.list (l++[])))=_;rw[List.append_nil]
theorem rc(j:ev F s.σ k e s.ρ=some (.tuple [d1,d2]))(hc:aV s x=some n)(h1:ev F s.σ k k1 s.ρ=some (.int a))(g:s.σ[n]?=some (.dict l))
 (h2:ev F (s.σ.set n (.dict (b9 l a d1))) k k2 s.ρ=some (.int b)) (hl:l.length<=ag):exS F lam (k+1) (.setSub2 x k1 k2 e) s=some (.next,s.set n (.dict (b9 (b9 l a d1) b d2))):=by
 show(ev F s.σ k e s.ρ).bind _=_;rw[j];rw[hc];rw[h1];show(s.σ[n]?).bind _=_;rw[g];show(ev F (s.σ.set n (.dict (b9 l a d1))) k k2 s.ρ).bind _=_;rw[h2];show(if l.length<=ag then _ else _)=_;rw[if_pos hl];rfl
end
noncomputable def stk{α:Type}(f:α->PV)(l:List α):List PV:=l.reverse.map f
theorem bD(f:α->PV)(a:α)(l:List α):stk f (a::l)=stk f l++[f a]:=by rw[stk,List.reverse_cons,List.map_append];rfl
theorem dO(f:α->PV)(l:List α):(stk f l).length=l.length:=by rw[stk,List.length_map,List.length_reverse]
noncomputable abbrev DD:=List (Int×PV)
noncomputable def slN(c:Nat):Option Nat:=if c=18\/c=19 then some 2 else if c=20\/c=21\/c=27 then some 1 else if c=8\/c=0 then some 0 else none
noncomputable def d6(c:Nat):Int×Int:=if c=20 then(20,21)else if c=21 then(21,20)else if c=27 then(27,27)else(18,18)
noncomputable def kk(a b:Nat):Int:=5*a+b
noncomputable def h9(c:Nat)(D:DD)(q:Nat×Nat):DD:=b9 (b9 D (kk q.1 q.2) (.int (d6 c).1)) (kk q.2 q.1) (.int (d6 c).2)
noncomputable def f7(l r:List Nat):List (Nat×Nat):=l.flatMap λa=>r.map λb=>(a,b)
noncomputable def dH(c:Nat)(l r:List Nat)(D:DD):DD:=(f7 l r).foldl (h9 c) D
noncomputable def can(c op:Nat):Bool:=match slN c with
 |none=>false
 |some m=>op != 7&&(match slN op with|some n=>decide (m<=n)|none=>false)
structure TS where
 V:List (List Nat)
 S:List Nat
 D:DD
noncomputable def dM(c:Nat):List Nat->List (List Nat)->DD->Option TS
 |[],V,D=>some ⟨V,[],D⟩
 |op::S,V,D=>if can c op=true then(match V with
  |r::l::V=>dM c S ((l++r)::V) (dH op l r D)
  |_=>none)else some ⟨V,op::S,D⟩
noncomputable def dU(T:TS)(c:Nat):Option TS:=(dM c T.S (if 256<=c then[c - 256]::T.V else T.V) T.D).bind λT=>
 if c=8 then(if T.S.isEmpty then none else some ⟨T.V,T.S.tail,T.D⟩)else if c<256/\c≠0 then some ⟨T.V,c::T.S,T.D⟩else some T
noncomputable def fo(D:DD):Prop:=(D.map (·.1)).Nodup/\(∀k∈D.map (·.1),0<=k/\k<25)/\∀p∈D,∃i,p.2=.int i
theorem rL(h:fo D):D.length<=25:=by
 refine bc h λh1 h2 m=>?_;have g:(D.map (·.1)).Perm (((List.range 25).map λ(i:Nat)=>(i:Int)).filter λk=>(D.map (·.1)).contains k):=by
  refine(List.perm_ext_iff_of_nodup h1 (List.Nodup.sublist List.filter_sublist ?_)).mpr λk=>?_
  ·exact List.Pairwise.map _ (λa b h e=>h (Int.ofNat.inj e)) List.nodup_range
  ·rw[List.mem_filter];constructor
   ·intro j;refine⟨List.mem_map.mpr ⟨k.toNat,?_,?_⟩,List.contains_iff_mem.mpr j⟩
    ·have:=h2 k j;rw[List.mem_range];simp[this]
    ·have:=h2 k j;exact Int.toNat_of_nonneg this.1
   ·rintro⟨_,j⟩;exact List.contains_iff_mem.mp j
 have:=g.length_eq;rw[List.length_map]at this;rw[this];refine Nt (List.length_filter_le ..) ?_;rw[List.length_map,List.length_range];exact Nr _
theorem c8{D:DD}:(D.lookup k).isSome=true↔k∈D.map (·.1):=by
 induction D with
 |nil=>exact⟨λh=>(nomatch h),λh=>(nomatch h)⟩
 |cons p r g=>
  obtain⟨j,d⟩:=p;rw[List.lookup,List.map_cons,List.mem_cons];by_cases h:k=j
  ·subst h;rw[beq_self_eq_true];exact⟨λu=>.inl rfl,λu=>rfl⟩
  ·have e:(k==j)=false:=by simpa using h
   rw[e];rw[g];exact⟨.inr,λq=>q.resolve_left h⟩
theorem lH(D:DD)(k:Int)(d:PV):(b9 D k d).map (·.1)=if(D.lookup k).isSome then D.map (·.1)else D.map (·.1)++[k]:=by
 unfold b9;split
 ·rw[List.map_map];refine List.map_congr_left λp u=>?_;show(if p.1=k then(k,d)else p).1=p.1;split
  ·rename_i h;exact h.symm
  ·rfl
 ·rw[List.map_append];rfl
theorem jU(h:fo D)(r:0<=k/\k<25):fo (b9 D k (.int i)):=by
 have m:∀p∈b9 D k (.int i),∃i,p.2=.int i:=by
  unfold b9;split
  ·intro p g;refine af (List.mem_map.mp g) λq d u=>?_;subst u;split
   ·exact⟨_,rfl⟩
   ·exact h.2.2 q d
  ·intro p g;rcases List.mem_append.mp g with q|q
   ·exact h.2.2 p q
   ·clear g;obtain rfl:=List.mem_singleton.mp q;exact⟨_,rfl⟩
 refine⟨?_,?_,m⟩<;>rw[lH]
 ·clear m;split
  ·exact h.1
  ·rename_i y;refine List.nodup_append.mpr ⟨h.1,by simp,λa t b z e=>?_⟩;obtain rfl:=List.mem_singleton.mp z;exact y (c8.mpr (e▸t))
 ·clear m;split
  ·exact h.2.1
  ·intro j v;rcases List.mem_append.mp v with q|q
   ·exact h.2.1 j q
   ·obtain rfl:=List.mem_singleton.mp q;exact r
theorem qc{q:Nat×Nat}(h:fo D)(h1:q.1<5)(h2:q.2<5):fo (h9 c D q):=
 jU (jU h (by unfold kk;exact⟨Int.natCast_nonneg (5*_+_),Int.ofNat_lt.mpr (Nl (Nat.add_lt_add_left h2 _) (Nat.add_le_add_right (Nat.mul_le_mul_left 5 (Nat.le_of_lt_succ h1)) 5))⟩)) (by unfold kk;exact⟨Int.natCast_nonneg (5*_+_),Int.ofNat_lt.mpr (Nl (Nat.add_lt_add_left h1 _) (Nat.add_le_add_right (Nat.mul_le_mul_left 5 (Nat.le_of_lt_succ h2)) 5))⟩)
noncomputable def e7:DD:=[(18,.int 2),(19,.int 2),(20,.int 1),(21,.int 1),(27,.int 1),(8,.int 0),(0,.int 0)]
noncomputable def k8:DD:=[(18,.tuple [.int 18,.int 18]),(19,.tuple [.int 18,.int 18]),(20,.tuple [.int 20,.int 21]),(21,.tuple [.int 21,.int 20]),(27,.tuple [.int 27,.int 27])]
theorem fc(c:Nat):e7.lookup (c:Int)=(slN c).map λn=>.int n:=by
 by_cases h:c<28
 ·have:∀c<28,(e7.lookup ((c:Nat):Int)).map aN=((slN c).map λn=>PV.int n).map aN:=by decide
  have q:=this c h;have:∀c<28,∀d∈e7.lookup ((c:Nat):Int),∃i,d=.int i:=by
   intro c _ d hd;have:∀(l:DD) (k:Int) (d:PV),(∀p∈l,∃i,p.2=.int i)->l.lookup k=some d->∃i,d=.int i:=by
    intro l;induction l with
    |nil=>intro k d _ h;exact no h
    |cons p r u=>
     intro k d m h;obtain⟨j,e⟩:=p;rw[List.lookup]at h;split at h
     ·(replace h:=si h;subst h);exact m _ (.head _)
     ·exact u k d (λp y=>m p (.tail _ y)) h
   exact this e7 c d (by simp[e7]) hd
  have v:=this c h;cases h1:e7.lookup (c:Int)with
  |none=>rw[h1]at q;cases h2:slN c with
   |none=>rfl
   |some n=>rw[h2]at q;exact no q
  |some d=>
   refine ah (v d h1) λi g=>?_;subst g;rw[h1]at q;cases h2:slN c with
   |none=>rw[h2]at q;injection q
   |some n=>rw[h2]at q;cases q;rfl
 ·have z:slN c=none:=by
   unfold slN;rw[if_neg (by lia),if_neg (by lia),if_neg (by lia)]
  rw[z];cases h1:e7.lookup (c:Int)with
  |none=>rfl
  |some d=>
   have:(c:Int)∈e7.map (·.1):=c8.mp (by rw[h1];rfl);simp[e7]at this;lia
structure cu(c:Nat)(V:List (List Nat))(S:List Nat)(D:DD)(s:PS'):Prop where
 r64:s.ρ.lookup 64=some (.dict e7)
 r65:s.ρ.lookup 65=some (.dict k8)
 r66:s.ρ.lookup 66=some (.cell 0)
 r67:s.ρ.lookup 67=some (.cell 1)
 r39:s.ρ.lookup 39=some (.cell 2)
 r68:s.ρ.lookup 68=some (pvN c)
 sto:s.σ=[.list (stk pvL V),.list (stk pvN S),.dict D]
noncomputable def ky(c:Nat)(S:List Nat):Bool:=match S with
 |[]=>false
 |op::_=>can c op
noncomputable def gV(op:Nat):Prop:=op=18\/op=19\/op=20\/op=21\/op=27\/op=7
theorem wD{l:List PV}(h:l.length<=1000):k4 (l++[d]) (.int (-1))=some d:=by
 show(idx (l++[d]).length (-1)).bind _=_;have:idx (l++[d]).length (-1)=some l.length:=by
  unfold idx;rw[List.length_append,List.length_singleton,if_neg (by decide),if_neg (by decide),if_pos (Rat.intCast_le_intCast.mp rfl)];congr 1;exact zt
 rw[this];show(l++[d])[l.length]?=_;rw[List.getElem?_append_right (Nr _),Nat.sub_self];rfl
theorem l4(F:Nat->List PV->Option PV)(k c:Nat)(V:List (List Nat))(S:List Nat)(D:DD)(s:PS')(u:cu c V S D s)(d:∀j∈S,gV j)(hl:S.length<=1000):
 ev F s.σ (k+8) (.boolop true [.cmp (.var 68) [.In] [.var 64],.cmp (.var 67) [.NotEq] [.list []],.cmp (.sub (.var 67) (.neg (.cint 1))) [.NotEq] [.cint 7],.cmp (.sub (.var 64) (.sub (.var 67) (.neg (.cint 1)))) [.GtE] [.sub (.var 64) (.var 68)]]) s.ρ=some (.bool (ky c S)):=by
 obtain⟨ρ,σ⟩:=s;cases(u.sto:σ=_);have q:cU [.list (stk pvL V),.list (stk pvN S),.dict D] .In (pvN c) (.dict e7)=some (slN c).isSome:=by
  show some (e7.lookup (c:Int)).isSome=_;rw[fc];cases slN c<;>rfl
 have z:cU [.list (stk pvL V),.list (stk pvN S),.dict D] .NotEq (.cell 1) (.list [])=some (!S.isEmpty):=by
  refine(show _=cU [] .NotEq (pvL S.reverse) (.list [])from rfl).trans ?_;rw[gA,List.isEmpty_reverse]
 have key:ky c S=((slN c).isSome&&(!S.isEmpty&&ky c S)):=by
  delta ky can;cases S with
  |nil=>cases slN c<;>rfl
  |cons j S=>cases slN c<;>rfl
 rw[key];refine bM (eU (az (aa u.r68) (aa u.r64) q) λh1=>eU (az (aa u.r67) rfl z) λh2=>?_);clear q z key;cases S with
 |nil=>exact nf h2
 |cons j S=>
  have g:∀k,ev F [.list (stk pvL V),.list (stk pvN (j::S)),.dict D] (k+3) (.sub (.var 67) (.neg (.cint 1))) ρ=some (pvN j):=λk=>by
   rw[bD];refine aX (aa u.r67) rfl rfl (wD ?_);rw[dO];exact Nat.le_of_succ_le hl
  refine ah (Option.isSome_iff_exists.mp h1) λm r=>?_;have v:ky c (j::S)=(j != 7&&(match slN j with|some n=>decide (m<=n)|none=>false)):=by
   show can c j=_;delta can;rw[r]<;>rfl
  rw[v];refine eU (az (g _) rfl ?_) λt=>bW ?_
  ·show some (!decide ((j:Int)=7))=_;congr 1;by_cases h:j=7
   ·subst h;rfl
   ·have:¬(j:Int)=7:=Nat.ToInt.of_diseq rfl rfl h;rw[decide_eq_false this];symm;simpa using h
  ·obtain⟨n,hn⟩:∃n,slN j=some n:=by
    rcases d j (.head _)with rfl|rfl|rfl|rfl|rfl|rfl<;>first|exact⟨_,rfl⟩|exact nf t
   rw[hn];refine az (x:=.int n) (y:=.int m) (aX (aa u.r64) rfl (g _) ?_) (aX (aa u.r64) rfl (aa u.r68) ?_) ?_
   ·show e7.lookup (j:Int)=_;rw[fc,hn];rfl
   ·show e7.lookup (c:Int)=_;rw[fc,r];rfl
   ·show some (decide ((m:Int)<=(n:Int)))=_;congr 1;exact decide_eq_decide.mpr Int.ofNat_le
noncomputable def gg(q:Nat×Nat):PV:=.tuple [pvN q.1,pvN q.2]
theorem tu(F:Nat->List PV->Option PV)(σ:List Sto)(k x y a b:Nat)(ρ:ar)(j:ρ.lookup x=some (pvN a))(m:ρ.lookup y=some (pvN b))(g:a<5):ev F σ (k+3) (.bin (.Add) (.bin (.Mult) (.cint 5) (.var x)) (.var y)) ρ=some (.int (kk a b)):=by
 refine aG (x:=.int (5*a)) (y:=pvN b) (aG (x:=.int 5) (y:=pvN a) rfl rfl (aa j) rfl ?_) rfl (aa m) rfl rfl;show(if(5:Int).natAbs<100000000/\(a:Int).natAbs<100000000 then _ else _)=_;rw[if_pos ⟨by decide,Nt g (Nat.le_add_left _ _)⟩]
theorem tR(h:gV op)(j:op≠7):gq (.dict k8) (pvN op)=some (.tuple [.int (d6 op).1,.int (d6 op).2]):=by
 rcases h with rfl|rfl|rfl|rfl|rfl|rfl<;>first|rfl|exact(j rfl).elim
theorem rM(F:Nat->List PV->Option PV)(lam:Bool)(c j:Nat)(V:List (List Nat))(S:List Nat)(D:DD)(l r:List Nat)(hl:∀a∈l,a<5)(f:∀a∈r,a<5)(i:gV j)(h:j≠7)(s:PS')(hD:fo D)(v:cu c V S D s)(z:s.ρ.lookup 30=some (pvN j))(t:s.ρ.lookup 70=some (pvL l))(y:s.ρ.lookup 69=some (pvL r))(x:l.length<=316/\r.length<=316):
 ∃s',exS F lam 50 (.forS true [14,5] (.comp (.tuple [.var 14,.var 5]) [(false,[14]),(false,[5])] [.var 70,.var 69] [[],[]] [69]) [.setSub2 39 (.bin (.Add) (.bin (.Mult) (.cint 5) (.var 14)) (.var 5)) (.bin (.Add) (.bin (.Mult) (.cint 5) (.var 5)) (.var 14)) (.sub (.var 65) (.var 30))]) s=some (.next,s')
  /\cu c V S (dH j l r D) s'/\fo (dH j l r D)/\s'.ρ.lookup 70=some (pvL l)/\s'.ρ.lookup 69=some (pvL r):=by
 have g:∀q∈f7 l r,q.1<5/\q.2<5:=λq o=>by
  refine af (List.mem_flatMap.mp o) λa p o=>?_;refine af (List.mem_map.mp o) λb n K=>?_;clear o;subst K;exact⟨hl a p,f b n⟩
 obtain⟨s',h1,h2⟩:=eE (body:=aU F lam 49 [.setSub2 39 (.bin (.Add) (.bin (.Mult) (.cint 5) (.var 14)) (.var 5)) (.bin (.Add) (.bin (.Mult) (.cint 5) (.var 5)) (.var 14)) (.sub (.var 65) (.var 30))]) (tup:=true) (xs:=[14,5]) (emb:=gg)
  (λpre s=>cu c V S (pre.foldl (h9 j) D) s/\fo (pre.foldl (h9 j) D)/\s.ρ.lookup 70=some (pvL l)/\s.ρ.lookup 69=some (pvL r)/\s.ρ.lookup 30=some (pvN j)) (f7 l r) (λpre q L s k M=>by
   refine oI M λv hD t y z=>?_;obtain⟨p,n⟩:=g q (by rw[k];simp);obtain⟨ρ,σ⟩:=s;clear hl f g k M;cases(v.sto:σ=_);refine⟨_,⟨norm ((5,pvN q.2)::(14,pvN q.1)::ρ),[.list (stk pvL V),.list (stk pvN S),.dict (h9 j (pre.foldl (h9 j) D) q)]⟩,rfl,ao ?_ aE,?_⟩
   ·have U:ev F [.list (stk pvL V),.list (stk pvN S),.dict (pre.foldl (h9 j) D)] 47 (.sub (.var 65) (.var 30)) (norm ((5,pvN q.2)::(14,pvN q.1)::ρ))=some (.tuple [.int (d6 j).1,.int (d6 j).2]):=
     aX (aa ((ac _ _).trans v.r65)) rfl (aa ((ac _ _).trans z)) (tR i h)
    have W:∀σ,ev F σ 47 (.bin (.Add) (.bin (.Mult) (.cint 5) (.var 14)) (.var 5)) (norm ((5,pvN q.2)::(14,pvN q.1)::ρ))=some (.int (kk q.1 q.2)):=λσ=>tu F σ _ 14 5 q.1 q.2 _ ((ac _ _).trans rfl) ((ac _ _).trans rfl) p;have R:∀σ,ev F σ 47 (.bin (.Add) (.bin (.Mult) (.cint 5) (.var 5)) (.var 14)) (norm ((5,pvN q.2)::(14,pvN q.1)::ρ))=some (.int (kk q.2 q.1)):=λσ=>tu F σ _ 5 14 q.2 q.1 _ ((ac _ _).trans rfl) ((ac _ _).trans rfl) n;have T:aV ⟨norm ((5,pvN q.2)::(14,pvN q.1)::ρ),[.list (stk pvL V),.list (stk pvN S),.dict (pre.foldl (h9 j) D)]⟩ 39=some 2:=by
     show((norm _).lookup 39).bind aZ=_;rw[ac];exact(congrArg (·.bind aZ) v.r39:_)
    exact rc U T (W _) rfl (R _) (Nt (rL hD) (by decide))
   ·rw[List.foldl_append];exact⟨⟨(ac _ _).trans v.r64,(ac _ _).trans v.r65,(ac _ _).trans v.r66,(ac _ _).trans v.r67,(ac _ _).trans v.r39,(ac _ _).trans v.r68,rfl⟩,qc hD p n,(ac _ _).trans t,(ac _ _).trans y,(ac _ _).trans z⟩)
  s ⟨v,hD,t,y,z⟩
 refine⟨s',hF (l:=(f7 l r).map gg) ?_ (λd hd=>?_) h1,h2.1,h2.2.1,h2.2.2.1,h2.2.2.2.1⟩
 ·have e:(l.map λa=>(r.map λb=>[gg (a,b)]).flatten).flatten=(f7 l r).map gg:=by
   rw[f7,List.map_flatMap,List.flatMap];congr 1;refine List.map_congr_left λa u=>?_;rw[hM (λb=>gg (a,b)),List.map_map];rfl
  refine aF rfl (d:=.list ((f7 l r).map gg)) ?_ rfl rfl rfl;rw[<- e];refine i8 (emb:=pvN) (emb2:=pvN) (m:=λu=>r) (ρs:=λa=>(14,pvN a)::aj [69] s.ρ) (aF rfl (aa t) rfl rfl rfl) (by rw[List.all_cons,bw rfl];rfl) (λa u=>rfl) (λu u=>rfl) (λa u=>aF rfl (aa (d:=pvL r) ((bt rfl _).trans y)) rfl rfl rfl) (λa u b u=>b4 (ρ':=(5,pvN b)::(14,pvN a)::aj [69] s.ρ) (by rw[List.all_cons];show(Option.isNone ((aj [69] s.ρ).lookup 5)&&_)=_;rw[bw rfl];rfl) rfl (dg (mm (aa rfl) (mm (aa rfl) mm0)))) ?_;rw[e,List.length_map,f7,List.length_flatMap];have:∀l:List Nat,(l.map λa=>(r.map λb=>(a,b)).length).sum<=l.length*r.length:=by
   intro l;clear hl f i h hD v z t y g h1 h2 e;induction l with
   |nil=>exact Nat.zero_le _
   |cons a l O=>rw[List.map_cons,List.sum_cons,List.length_map,List.length_cons,Nat.succ_mul];exact Nt (Ne0 (Nat.add_comm _ _)) (Nat.add_le_add_right O _)
  refine Nt (this l) (Nt (Nat.mul_le_mul x.1 x.2) (by decide))
 ·refine af (List.mem_map.mp hd) λq P J=>?_;clear hl f i h hD v z t y x g h1 h2 hd P;subst J;rfl
noncomputable def ot:List PS:=[.tupAssign [30,69,70] [.pop 67,.pop 66,.pop 66],.forS true [14,5] (.comp (.tuple [.var 14,.var 5]) [(false,[14]),(false,[5])] [.var 70,.var 69] [[],[]] [69]) [.setSub2 39 (.bin (.Add) (.bin (.Mult) (.cint 5) (.var 14)) (.var 5)) (.bin (.Add) (.bin (.Mult) (.cint 5) (.var 5)) (.var 14)) (.sub (.var 65) (.var 30))],.append 66 (.bin (.Add) (.var 70) (.var 69))]
theorem cu.bind(h:cu c V S D s){ρ:ar}(j:∀x,(x=64\/x=65\/x=66\/x=67\/x=39\/x=68)->ρ.lookup x=s.ρ.lookup x)(g:σ=[.list (stk pvL V'),.list (stk pvN S'),.dict D']):cu c V' S' D' ⟨ρ,σ⟩:=
 ⟨(j _ (by simp)).trans h.r64,(j _ (by simp)).trans h.r65,(j _ (by simp)).trans h.r66,(j _ (by simp)).trans h.r67,(j _ (by simp)).trans h.r39,(j _ (by simp)).trans h.r68,g⟩
structure iN(V:List (List Nat))(S:List Nat)(D:DD):Prop where
 sv:V.length<=1000
 ss:S.length<=1000
 mem:∀v∈V,∀a∈v,a<5
 flat:V.flatten.length<=316
 ops:∀op∈S,gV op
 keys:fo D
theorem uP(F:Nat->List PV->Option PV)(lam:Bool)(c j:Nat)(V:List (List Nat))(S:List Nat)(D:DD)(l r:List Nat)(h:j≠7)(hz:iN (r::l::V) (j::S) D)(s:PS')(g:cu c (r::l::V) (j::S) D s):
 ∃s',aU F lam 52 ot s=some (.next,s')/\cu c ((l++r)::V) S (dH j l r D) s'/\iN ((l++r)::V) S (dH j l r D):=by
 have m:l.length+r.length+V.flatten.length<=316:=by
  have:=hz.flat;rw[List.flatten_cons,List.flatten_cons,List.length_append,List.length_append]at this;exact Nt (Ne0 ((congrArg (·+ _) (Nat.add_comm _ _)).trans (Nat.add_assoc _ _ _))) this
 obtain⟨ρ,σ⟩:=s;cases(g.sto:σ=_);have L:exS F lam 51 (.tupAssign [30,69,70] [.pop 67,.pop 66,.pop 66]) ⟨ρ,[.list (stk pvL (r::l::V)),.list (stk pvN (j::S)),.dict D]⟩=some (.next,⟨(70,pvL l)::(69,pvL r)::(30,pvN j)::ρ,[.list (stk pvL V),.list (stk pvN S),.dict D]⟩):=by
  have o:dG ⟨ρ,[.list (stk pvL (r::l::V)),.list (stk pvN (j::S)),.dict D]⟩ 67=some (pvN j,⟨ρ,[.list (stk pvL (r::l::V)),.list (stk pvN S),.dict D]⟩):=g0 (n:=1) (congrArg (·.bind aZ) g.r67:_) (by rw[bD pvN];rfl) (by rw[<- bD,dO];exact Nt hz.ss (by decide));have p2:dG ⟨ρ,[.list (stk pvL (r::l::V)),.list (stk pvN S),.dict D]⟩ 66=some (pvL r,⟨ρ,[.list (stk pvL (l::V)),.list (stk pvN S),.dict D]⟩):=g0 (n:=0) (congrArg (·.bind aZ) g.r66:_) (by rw[bD];rfl) (by rw[<- bD,dO];exact Nt hz.sv (by decide));have M:dG ⟨ρ,[.list (stk pvL (l::V)),.list (stk pvN S),.dict D]⟩ 66=some (pvL l,⟨ρ,[.list (stk pvL V),.list (stk pvN S),.dict D]⟩):=g0 (n:=0) (congrArg (·.bind aZ) g.r66:_) (by rw[bD];rfl) (by rw[<- bD,dO];exact Nt (Nat.le_of_succ_le hz.sv) (by decide));have J:pE F 50 ⟨ρ,[.list (stk pvL (r::l::V)),.list (stk pvN (j::S)),.dict D]⟩ [.pop 67,.pop 66,.pop 66]=some ([pvN j,pvL r,pvL l],⟨ρ,[.list (stk pvL V),.list (stk pvN S),.dict D]⟩):=by
   show((dG _ 67).bind _)=_;rw[o];show(((dG _ 66).bind _).map _)=_;rw[p2];show((((dG _ 66).bind _).map _).map _)=_;rw[M];rfl
  show(pE F 50 _ _).bind _=_;rw[J];rfl
 refine hid λO f=>?_;have t:=hz.mem;refine zq (rM F lam c j V S D l r (t l (.tail _ (.head _))) (t r (.head _)) (hz.ops j (.head _)) h ⟨(70,pvL l)::(69,pvL r)::(30,pvN j)::ρ,[.list (stk pvL V),.list (stk pvN S),.dict D]⟩ hz.keys ⟨g.r64,g.r65,g.r66,g.r67,g.r39,g.r68,rfl⟩ rfl rfl rfl ⟨Nt (Nt (Nat.le_add_right _ _) (Nat.le_add_right _ _)) m,Nt (Nat.le_add_left _ _) (Nt (Nat.le_add_right _ _) m)⟩) λp K z b k e=>?_;obtain⟨ρ2,σ2⟩:=p;cases(z.sto:σ2=_);refine f ?_;clear f O;refine⟨_,ao L (ao K (ao (dF rfl (aG (x:=pvL l) (y:=pvL r) (d:=pvL (l++r)) (aa k) rfl (aa e) rfl ?_) (congrArg (·.bind aZ) z.r66:aV _ 66=some 0) rfl ?_) aE)),z.bind (λu u=>rfl) ?_,?_⟩
 ·show(if(l.map pvN).length+(r.map pvN).length<=ag then _ else _)=_;rw[if_pos (by rw[List.length_map,List.length_map];exact Nt (Nat.le_of_add_right_le m) (by decide)),pvL,List.map_append]
 ·rw[dO];exact Nt (Nat.le_of_succ_le (Nat.le_of_succ_le hz.sv)) (by decide)
 ·rw[bD];rfl
 ·refine⟨Nat.le_of_succ_le hz.sv,Nat.le_of_succ_le hz.ss,λv i=>?_,?_,λj ho=>hz.ops j (.tail _ ho),b⟩
  ·cases i with
   |head=>
    intro a P;rcases List.mem_append.mp P with q|q
    ·exact t l (.tail _ (.head _)) a q
    ·exact t r (.head _) a q
   |tail _ i=>exact t v (.tail _ (.tail _ i))
  ·rw[List.flatten_cons,List.length_append,List.length_append];exact m
theorem b6(h:c s=some false):bS c body (n+1) s=some (.next,s):=by
 show(c s).bind _=_;rw[h];rfl
theorem cm(h:c s=some true)(h2:body s.norm=some (.next,s')):bS c body (n+1) s=bS c body n s':=by
 show(c s).bind _=_;rw[h];show(body s.norm).bind _=_;rw[h2];rfl
theorem cu.norm(h:cu c V S D s):cu c V S D s.norm:=h.bind (λx u=>ac _ x) h.sto
theorem vA(F:Nat->List PV->Option PV)(lam:Bool)(c:Nat)(T:TS):∀(S:List Nat) (V:List (List Nat)) (D:DD) (n:Nat) (s:PS'),dM c S V D=some T->S.length<n->iN V S D->cu c V S D s->
 ∃s',bS (λs=>(ev F s.σ 52 (.boolop true [.cmp (.var 68) [.In] [.var 64],.cmp (.var 67) [.NotEq] [.list []],.cmp (.sub (.var 67) (.neg (.cint 1))) [.NotEq] [.cint 7],.cmp (.sub (.var 64) (.sub (.var 67) (.neg (.cint 1)))) [.GtE] [.sub (.var 64) (.var 68)]]) s.ρ).bind truthy) (aU F lam 52 ot) n s=some (.next,s')
  /\cu c T.V T.S T.D s'/\iN T.V T.S T.D:=by
 intro S;induction S with
 |nil=>
  intro V D n s h m hz g;(replace h:=si h;subst h)
  cases n with
  |zero=>cases m
  |succ n=>exact⟨s,b6 (by rw[l4 F 44 c V [] D s g hz.ops hz.ss];rfl),g,hz⟩
 |cons j S y=>
  intro V D n s h m hz g;cases n with
  |zero=>cases m
  |succ n=>
   have hc:=l4 F 44 c V (j::S) D s g hz.ops hz.ss;have e:dM c (j::S) V D=if can c j=true then(match V with
    |r::l::V=>dM c S ((l++r)::V) (dH j l r D)
    |_=>none)else some ⟨V,j::S,D⟩:=rfl
   rw[e]at h;by_cases hk:can c j=true
   ·rw[if_pos hk]at h;match V,h,hz,g with
    |r::l::V,h,hz,g=>
     have q:j≠7:=by
      rintro rfl
      unfold can at hk;clear e;split at hk<;>exact nf hk
     clear e;refine bd (uP F lam c j V S D l r q hz s.norm g.norm) λz h1 v u=>?_;refine af (y ((l++r)::V) (dH j l r D) n z h (Nat.lt_of_succ_lt_succ m) u v) λs' h2 r2=>?_;refine⟨s',?_,r2⟩;rw[cm (by rw[hc];exact congrArg some hk) h1];exact h2
   ·rw[if_neg hk]at h;clear y m e;(replace h:=si h;subst h)
    exact⟨s,b6 (by rw[hc];exact congrArg some (Bool.eq_false_iff.mpr hk)),g,hz⟩
structure wj(F:Nat->List PV->Option PV):Prop where
 f93:∀i:Int,F 93 [.int i]=some (.bool (decide (i<256)))
 f94:∀i:Int,F 94 [.int i]=some (.bool (decide (256<=i)))
 f95:∀i:Int,F 95 [.int i]=some (.bool (decide (i=0)))
noncomputable def lS(c:Nat):Prop:=gV c\/c=8\/c=0\/(256<=c/\c<261)
theorem rq(F:Nat->List PV->Option PV)(A:wj F)(lam:Bool)(c:Nat)(hc:lS c)(V:List (List Nat))(S:List Nat)(D:DD)(T:TS)(j:dU ⟨V,S,D⟩ c=some T)(hz:iN V S D)(k:V.length<900)(K:S.length<900)(i:V.flatten.length<316)(s:PS')(t:cu c V S D s):
 ∃s',aU F lam 55 [.ite (.call 94 [.var 68]) [.append 66 (.list [.bin (.Sub) (.var 68) (.cint 256)])] [],.whileS (.boolop true [.cmp (.var 68) [.In] [.var 64],.cmp (.var 67) [.NotEq] [.list []],.cmp (.sub (.var 67) (.neg (.cint 1))) [.NotEq] [.cint 7],.cmp (.sub (.var 64) (.sub (.var 67) (.neg (.cint 1)))) [.GtE] [.sub (.var 64) (.var 68)]]) ot,.ite (.cmp (.var 68) [.Eq] [.cint 8]) [.popX 67] [.ite (.boolop true [.call 93 [.var 68],.not (.call 95 [.var 68])]) [.append 67 (.var 68)] []]] s=some (.next,s')
  /\cu c T.V T.S T.D s'/\iN T.V T.S T.D:=by
 obtain⟨z,B,j⟩:=ob j;have H:∃J,exS F lam 54 (.ite (.call 94 [.var 68]) [.append 66 (.list [.bin (.Sub) (.var 68) (.cint 256)])] []) s=some (.next,J)/\cu c (if 256<=c then[c - 256]::V else V) S D J/\iN (if 256<=c then[c - 256]::V else V) S D:=by
  obtain⟨ρ,σ⟩:=s;cases(t.sto:σ=_);have L:ev F [.list (stk pvL V),.list (stk pvN S),.dict D] 53 (.call 94 [.var 68]) ρ=some (.bool (decide (256<=(c:Int)))):=bH (mm (aa t.r68) mm0) (A.f94 c);by_cases h:256<=c
  ·rw[decide_eq_true (Int.toNat_le.mp h)]at L;rw[if_pos h];refine⟨_,aM L (λu=>ao (dF rfl (fi (mm (aG (x:=pvN c) (y:=.int 256) (d:=pvN (c - 256)) (aa t.r68) rfl rfl rfl ?_) mm0)) (congrArg (·.bind aZ) t.r66:aV _ 66=some 0) rfl ?_) aE) (λh=>nomatch h),t.bind (λu u=>rfl) ?_,?_⟩
   ·show some (PV.int ((c:Int) - 256))=some (.int ((c - 256:Nat):Int));rw[Int.ofNat_sub h];rfl
   ·rw[dO];exact Nt hz.sv (by decide)
   ·rw[bD];rfl
   ·refine⟨by rw[List.length_cons];exact Nt k (Nat.le_add_left _ _),hz.ss,λv R=>?_,by rw[List.flatten_cons,List.length_append,List.length_singleton];exact Nat.one_add_le_iff.mpr i,hz.ops,hz.keys⟩;clear k i;cases R with
    |head=>
     intro a ha;obtain rfl:=List.mem_singleton.mp ha;rcases hc with q|q|q|q
     ·unfold gV at q;lia
     ·lia
     ·lia
     ·exact Nat.sub_lt_left_of_lt_add q.1 q.2
    |tail _ R=>exact hz.mem v R
  ·rw[decide_eq_false (by lia)]at L;rw[if_neg h];exact⟨_,aM L (λh=>nomatch h) (λu=>aE),t,hz⟩
 clear hz k i t;refine hid λQ E=>?_;obtain⟨J,Z,P,W⟩:=H;obtain⟨C,e2,m,g⟩:=vA F lam c z S _ D 2000 J B (Nat.lt_trans K (by decide)) W P;refine E ?_;clear E Q;have p2:exS F lam 53 (.whileS (.boolop true [.cmp (.var 68) [.In] [.var 64],.cmp (.var 67) [.NotEq] [.list []],.cmp (.sub (.var 67) (.neg (.cint 1))) [.NotEq] [.cint 7],.cmp (.sub (.var 64) (.sub (.var 67) (.neg (.cint 1)))) [.GtE] [.sub (.var 64) (.var 68)]]) ot) J=some (.next,C):=e2;have Y:z.S.length<=S.length:=by
  have:∀(S:List Nat) (V:List (List Nat)) (D:DD) (T:TS),dM c S V D=some T->T.S.length<=S.length:=by
   intro S;induction S with
   |nil=>intro V D T h;(replace h:=si h;subst h);exact Nr _
   |cons b S I=>
    intro V D T h;have e:dM c (b::S) V D=if can c b=true then(match V with
     |r::l::V=>dM c S ((l++r)::V) (dH b l r D)
     |_=>none)else some ⟨V,b::S,D⟩:=rfl
    rw[e]at h;split at h
    ·match V,h with
     |r::l::V,h=>exact Nat.le_succ_of_le (I _ _ _ h)
    ·(replace h:=si h;subst h);exact Nr _
  exact this _ _ _ _ B
 obtain⟨ρ,σ⟩:=C;cases(m.sto:σ=_);have f:ev F [.list (stk pvL z.V),.list (stk pvN z.S),.dict z.D] 51 (.cmp (.var 68) [.Eq] [.cint 8]) ρ=some (.bool (decide (c=8))):=az (aa m.r68) rfl (by
  show some (decide ((c:Int)=8))=_;congr 1;exact decide_eq_decide.mpr (@Int.ofNat_inj _ 8))
 by_cases h8:c=8
 ·rw[if_pos h8]at j;rw[decide_eq_true h8]at f;obtain⟨O,p,U⟩:=z;cases p with
  |nil=>exact no j
  |cons b p=>
   (replace j:=si j;subst j)
   have N:dG ⟨ρ,[.list (stk pvL O),.list (stk pvN (b::p)),.dict U]⟩ 67=some (pvN b,⟨ρ,[.list (stk pvL O),.list (stk pvN p),.dict U]⟩):=g0 (n:=1) (congrArg (·.bind aZ) m.r67:_) (by rw[bD pvN];rfl) (by rw[<- bD,dO];exact Nt g.ss (by decide));refine⟨_,ao Z (ao p2 (ao (aM f (λu=>ao (s':=⟨ρ,[.list (stk pvL O),.list (stk pvN p),.dict U]⟩) ?_ aE) (λh=>nomatch h)) aE)),m.bind (λu u=>rfl) rfl,⟨g.sv,Nat.le_of_succ_le g.ss,g.mem,g.flat,λo ho=>g.ops o (.tail _ ho),g.keys⟩⟩;show(dG _ 67).bind _=_;rw[N];rfl
 ·rw[if_neg h8]at j;rw[decide_eq_false h8]at f;have M:ev F [.list (stk pvL z.V),.list (stk pvN z.S),.dict z.D] 49 (.boolop true [.call 93 [.var 68],.not (.call 95 [.var 68])]) ρ=some (.bool (decide ((c:Int)<256)&&!decide ((c:Int)=0))):=
   bM (eU (bH (mm (aa m.r68) mm0) (A.f93 c)) (λu=>bW (w8 (bH (mm (aa m.r68) mm0) (A.f95 c)))))
  by_cases h0:c<256/\c≠0
  ·rw[if_pos h0]at j;(replace j:=si j;subst j)
   rw[decide_eq_true (by lia),decide_eq_false (by lia)]at M;refine⟨_,ao Z (ao p2 (ao (aM f (λh=>nomatch h) (λu=>ao (aM M (λu=>ao (dF rfl (aa m.r68) (congrArg (·.bind aZ) m.r67:aV _ 67=some 1) rfl ?_) aE) (λh=>nomatch h)) aE)) aE)),m.bind (λu u=>rfl) ?_,?_⟩
   ·rw[dO];exact Nt g.ss (by decide)
   ·rw[bD];rfl
   ·refine⟨g.sv,by rw[List.length_cons];exact Nm (Nt Y (Nat.le_of_lt K)) (by decide),g.mem,g.flat,λo ho=>?_,g.keys⟩;cases ho with
    |head=>
     rcases hc with q|q|q|q
     ·exact q
     ·exact(h8 q).elim
     ·exact(h0.2 q).elim
     ·lia
    |tail _ ho=>exact g.ops o ho
  ·rw[if_neg h0]at j;(replace j:=si j;subst j)
   rw[show(decide ((c:Int)<256)&&!decide ((c:Int)=0))=false by
    by_cases h1:c<256
    ·have:c=0:=Decidable.byContradiction λh=>h0 ⟨h1,h⟩;subst this;rfl
    ·rw[decide_eq_false (by lia)];rfl]at M
   exact⟨_,ao Z (ao p2 (ao (aM f (λh=>nomatch h) (λu=>ao (aM M (λh=>nomatch h) (λu=>aE)) aE)) aE)),m,g⟩
noncomputable def dT(l:List Nat)(T:TS):Option TS:=l.foldlM dU T
theorem rS(c:Nat):∀(S:List Nat) (V:List (List Nat)) (D:DD) (T:TS),dM c S V D=some T->T.V.length<=V.length/\T.V.flatten.length=V.flatten.length/\T.S.length<=S.length:=by
 intro S;induction S with
 |nil=>intro V D T h;(replace h:=si h;subst h);exact⟨Nr _,rfl,Nr _⟩
 |cons j S m=>
  intro V D T h;have e:dM c (j::S) V D=if can c j=true then(match V with
   |r::l::V=>dM c S ((l++r)::V) (dH j l r D)
   |_=>none)else some ⟨V,j::S,D⟩:=rfl
  rw[e]at h;clear e;split at h
  ·match V,h with
   |r::l::V,h=>
    refine bc (m _ _ _ h) λh1 h2 g=>?_;refine⟨Nat.le_succ_of_le h1,h2.trans ?_,Nat.le_succ_of_le g⟩;rw[List.flatten_cons,List.flatten_cons,List.flatten_cons,List.length_append,List.length_append,List.length_append,List.length_append];omega
  ·(replace h:=si h;subst h);exact⟨Nr _,rfl,Nr _⟩
theorem pu(h:dU A c=some T)(j:A.V.length<=n/\A.V.flatten.length<=n/\A.S.length<=n):T.V.length<=n+1/\T.V.flatten.length<=n+1/\T.S.length<=n+1:=by
 refine obk h λz h y=>?_;refine bc (rS _ _ _ _ _ y) λm u v=>?_;have g:(if 256<=c then[c - 256]::A.V else A.V).length<=n+1/\(if 256<=c then[c - 256]::A.V else A.V).flatten.length<=n+1:=by
  split
  ·exact⟨Nat.succ_le_succ j.1,by rw[List.flatten_cons,List.length_append,List.length_singleton];exact Nt (Ne0 (Nat.add_comm _ _)) (Nat.succ_le_succ j.2.1)⟩
  ·exact⟨Nat.le_succ_of_le j.1,Nat.le_succ_of_le j.2.1⟩
 split at h
 ·split at h
  ·exact no h
  ·(replace h:=si h;subst h);exact⟨Nt m g.1,u▸g.2,by rw[List.length_tail];exact Nt (Nat.sub_le _ _) (Nat.le_succ_of_le (Nt v j.2.2))⟩
 ·split at h
  ·(replace h:=si h;subst h);exact⟨Nt m g.1,u▸g.2,by rw[List.length_cons];exact Nat.succ_le_succ (Nt v j.2.2)⟩
  ·(replace h:=si h;subst h);exact⟨Nt m g.1,u▸g.2,Nat.le_succ_of_le (Nt v j.2.2)⟩
theorem wS(h:∀p∈D,∃i,p.2=.int i):freeze σ (n+2) (.dict D)=some (.dict D):=by
 show(D.mapM λp=>(freeze σ (n+1) p.2).map λd=>(p.1,d)).map _=_;have:∀D:DD,(∀p∈D,∃i,p.2=.int i)->(D.mapM λp=>(freeze σ (n+1) p.2).map λd=>(p.1,d))=some D:=by
  intro D;induction D with
  |nil=>intro _;rfl
  |cons p D g=>
   intro h;refine ah (h p (.head _)) λi j=>?_;refine aw ?_ (g λq m=>h q (.tail _ m));rw[j];obtain⟨k,d⟩:=p;obtain rfl:=j;rfl
 rw[this D h];rfl
theorem wp(F:Nat->List PV->Option PV)(Y:wj F)(l:List Nat)(hc:∀c∈l,lS c)(hl:l.length<=316)(T:TS)(h:dT l ⟨[],[],[]⟩=some T):cS F yw [pvL l]=some (.dict T.D)/\fo T.D:=by
 let I:List Nat->PS'->Prop:=λpre s=>∃A:TS,dT pre ⟨[],[],[]⟩=some A/\(∃c,cu c A.V A.S A.D {s with ρ:=(68,pvN c)::s.ρ})/\iN A.V A.S A.D/\A.V.length<=pre.length/\A.V.flatten.length<=pre.length/\A.S.length<=pre.length;have y:∀pre d j,l=pre++d::j->∃A,dT pre ⟨[],[],[]⟩=some A/\∃B,dU A d=some B/\dT (pre++[d]) ⟨[],[],[]⟩=some B:=by
  intro pre d j e;rw[e,dT,List.foldlM_append]at h;refine obk h λA h2 h1=>?_;rw[List.foldlM_cons]at h2;refine obk h2 λB Z h2=>?_;refine⟨A,h1,B,h2,?_⟩;rw[dT,List.foldlM_append,h1];show(dU A d).bind _=_;rw[h2];rfl
 obtain⟨s',h1,A,t,⟨c,z⟩,hz,_⟩:=eE (body:=aU F (yw.f==(105:Nat)) 55 [.ite (.call 94 [.var 68]) [.append 66 (.list [.bin (.Sub) (.var 68) (.cint 256)])] [],.whileS (.boolop true [.cmp (.var 68) [.In] [.var 64],.cmp (.var 67) [.NotEq] [.list []],.cmp (.sub (.var 67) (.neg (.cint 1))) [.NotEq] [.cint 7],.cmp (.sub (.var 64) (.sub (.var 67) (.neg (.cint 1)))) [.GtE] [.sub (.var 64) (.var 68)]]) ot,.ite (.cmp (.var 68) [.Eq] [.cint 8]) [.popX 67] [.ite (.boolop true [.call 93 [.var 68],.not (.call 95 [.var 68])]) [.append 67 (.var 68)] []]]) (tup:=false) (xs:=[68]) (emb:=pvN) I l (λpre d j s e z=>by
  refine hid λW a=>?_;refine AS z λA t L hz J n K=>?_;refine ah L λc m=>?_;obtain⟨C,r,B,o,q⟩:=y pre d j e;obtain rfl:=si (t.symm.trans r);refine a ?_;clear a W;have g:pre.length+1<=316:=by
   rw[e,List.length_append,List.length_cons]at hl;exact Nt (Nat.add_le_add_left (Nat.succ_le_succ (Nat.zero_le _)) _) hl
  obtain⟨s',U,b,O⟩:=rq F Y _ d (hc d (by rw[e];exact List.mem_append_right _ (.head _))) A.V A.S A.D B o hz (Nm (Nt J (Nat.le_of_lt g)) (by decide)) (Nm (Nt K (Nat.le_of_lt g)) (by decide)) (Nm n g) {s with ρ:=norm ((68,pvN d)::s.ρ)} ⟨(ac _ _).trans m.r64,(ac _ _).trans m.r65,(ac _ _).trans m.r66,(ac _ _).trans m.r67,(ac _ _).trans m.r39,(ac _ _).trans rfl,m.sto⟩;exact⟨_,s',rfl,U,B,q,⟨d,b.bind (λx P=>by rcases P with rfl|rfl|rfl|rfl|rfl|rfl<;>first|rfl|exact b.r68.symm) b.sto⟩,O,by rw[List.length_append];exact pu o ⟨J,n,K⟩⟩)
  ⟨[(39,.cell 2),(67,.cell 1),(66,.cell 0),(65,.dict k8),(64,.dict e7),(61,pvL l)],[.list [],.list [],.dict []]⟩
  ⟨⟨[],[],[]⟩,rfl,⟨0,⟨rfl,rfl,rfl,rfl,rfl,rfl,rfl⟩⟩,⟨Nat.zero_le _,Nat.zero_le _,λv h=>(nomatch h),Nat.zero_le _,λv h=>(nomatch h),⟨.nil,λk h=>(nomatch h),λk h=>(nomatch h)⟩⟩,Nr _,Nr _,Nr _⟩
 cases t.symm.trans h;refine⟨?_,hz.keys⟩;obtain⟨ρ,σ⟩:=s';cases(z.sto:σ=_);refine bX rfl ?_ (ao (an (d:=.dict e7) rfl rfl) (ao (an (d:=.dict k8) rfl rfl) (ao (s':=⟨[(39,.cell 2),(67,.cell 1),(66,.cell 0),(65,.dict k8),(64,.dict e7),(61,pvL l)],[.list [],.list [],.dict []]⟩) rfl (ao (hF (aF rfl (aa rfl) rfl rfl rfl) (λd u=>rfl) h1) (bT (dd (aa z.r39))))))) (wS hz.keys.2.2) ?_
 ·rw[List.all_cons,eC];rfl
 ·show T.D.all (λp=>aH 7 p.2)=true;rw[List.all_eq_true];intro p M;refine ah (hz.keys.2.2 p M) λi R=>?_;rw[R];rfl
noncomputable def fv(p:Nat×List Nat)(d:Nat):List Nat:=if d=p.1 then p.2 else[d]
noncomputable def aP(tab:List (Nat×List Nat))(x:List Nat):List Nat:=tab.foldl (λx p=>x.flatMap (fv p)) x
theorem iL(tab:List (Nat×List Nat))(x:List Nat):aP tab x=x.flatMap λd=>aP tab [d]:=by
 refine(?_:∀(tab:List (Nat×List Nat)) (x:List Nat),aP tab x=x.flatMap λd=>aP tab [d]) tab x;intro tab;induction tab with
 |nil=>intro x;exact(List.flatMap_singleton' x).symm
 |cons p tab j=>
  intro x;show aP tab (x.flatMap (fv p))=x.flatMap λd=>aP tab ([d].flatMap (fv p));rw[j,List.flatMap_assoc];congr 1;funext d
  rw[<- j,List.flatMap_singleton]
theorem jL(tab:List (Nat×List Nat))(d:Nat)(h:∀p∈tab,d≠p.1):aP tab [d]=[d]:=by
 induction tab with
 |nil=>rfl
 |cons p tab j=>
  show aP tab (fv p d++[])=_;rw[fv,if_neg (h p (.head _)),List.append_nil];exact j λq g=>h q (.tail _ g)
theorem uY(c:Nat)(q:List Nat):∀x:List Nat,a8 [c] q 0 x=x.flatMap (fv (c,q)):=by
 intro x;induction x with
 |nil=>rfl
 |cons d x j=>
  show(if(c==d&&true)=true then q++a8 [c] q 0 x else d::a8 [c] q 0 x)=fv (c,q) d++x.flatMap (fv (c,q));rw[j,fv];by_cases h:d=c
  ·clear j;subst h;rw[if_pos rfl,if_pos (by rw[beq_self_eq_true];rfl)]
  ·rw[if_neg h,if_neg (by simp;exact λe=>h e.symm)];rfl
theorem gY(c:Nat):∀x:List Nat,cw [c] x=x.contains c:=by
 intro x;induction x with
 |nil=>rfl
 |cons d x j=>
  show((c==d&&true)||cw [c] x)=_;rw[j,Bool.and_true];rfl
theorem uS(c:Nat)(q:List Nat)(x:List Nat)(h:x.contains c=false):x.flatMap (fv (c,q))=x:=by
 have:x.flatMap (fv (c,q))=x.flatMap λd=>[d]:=by
  rw[List.flatMap,List.flatMap];congr 1;refine List.map_congr_left λd hd=>?_;rw[fv,if_neg];rintro rfl
  rw[List.contains_iff_mem.mpr hd]at h;injection h
 rw[this];exact List.flatMap_singleton' x
noncomputable def yl(p:Nat×List Nat):PS:=.ite (.cmp (.cstr [p.1]) [.In] [.var 17]) [.assign 17 (.repl (.var 17) [p.1] p.2)] []
theorem uo(F:Nat->List PV->Option PV)(m:F 998 []=none)(lam:Bool)(k:Nat)(p:Nat×List Nat)(x:List Nat)(j:x.length<=1000)(v:[p.1]≠p.2)(g:p.2.length<=10)(s:PS')(h:s.ρ.lookup 17=some (.str x)):
 ∃s',exS F lam (k+5) (yl p) s=some (.next,s')/\s'.ρ.lookup 17=some (.str (x.flatMap (fv p))):=by
 have c:ev F s.σ (k+4) (.cmp (.cstr [p.1]) [.In] [.var 17]) s.ρ=some (.bool (x.contains p.1)):=az rfl (aa h) (by
  show some (cw [p.1] x)=_;rw[gY])
 cases hb:x.contains p.1 with
 |false=>
  rw[hb]at c;exact⟨s,aM c (λh=>nomatch h) (λu=>aE),by rw[uS _ _ _ hb];exact h⟩
 |true=>
  rw[hb]at c;refine⟨_,aM c (λu=>ao (an (d:=.str (x.flatMap (fv p))) rfl ?_) aE) (λh=>nomatch h),rfl⟩;show(if(F 998 []).isNone then _ else none)=_;rw[m];show(ev F s.σ _ (.var 17) s.ρ).bind _=_;rw[aa h];show(if _ then some (a8 [p.1] p.2 0 x)else none).map _=_;rw[if_pos ⟨by simp,v,j,g⟩,uY];rfl
theorem wa(F:Nat->List PV->Option PV)(t:F 998 []=none)(lam:Bool)(x0:List Nat)(g:6*x0.length<=1000):∀(tab done:List (Nat×List Nat)) (k:Nat) (s:PS'),
 (∀i ≤ tab.length,∀d,(aP (done++tab.take i) [d]).length<=6)->(∀p∈tab,[p.1]≠p.2/\p.2.length<=10)->s.ρ.lookup 17=some (.str (aP done x0))->
  ∃s',aU F lam (k+7+tab.length) (tab.map yl++[.ret (.var 17)]) s=some (.ret (.str (aP (done++tab) x0)),s'):=by
 have j:∀(f:Nat->List Nat),(∀d,(f d).length<=6)->(x0.flatMap f).length<=1000:=by
  intro f y;refine Nt ?_ g;clear g;induction x0 with
  |nil=>exact Nr _
  |cons d x u=>rw[List.flatMap_cons,List.length_append,List.length_cons];have:=y d;exact xj u this
 intro tab;induction tab with
 |nil=>
  intro done k s _ _ h;rw[List.append_nil];exact⟨s,bT (dd (aa h))⟩
 |cons p tab u=>
  intro done k s hl m h;have h0:=hl 0 (Nat.zero_le _);rw[List.take_zero,List.append_nil]at h0;obtain⟨r,v,h1⟩:=uo F t lam (k+2+tab.length) p (aP done x0) (by rw[iL];exact j _ h0) (m p (.head _)).1 (m p (.head _)).2 s h;have b:(aP done x0).flatMap (fv p)=aP (done++[p]) x0:=by rw[aP,aP,List.foldl_append];rfl
  rw[b]at h1;obtain⟨l,q⟩:=u (done++[p]) k r (λi z d=>by
   have:=hl (i+1) (Nat.succ_le_succ z) d;rw[List.take_succ_cons]at this;rwa [List.append_assoc]) (λq c=>m q (.tail _ c)) h1
  rw[List.append_assoc]at q;refine⟨l,?_⟩;have e:k+2+tab.length+5=k+7+tab.length:=Nat.add_right_comm _ _ _;rw[e]at v;exact ao v q
noncomputable def bU:List Nat:=[38,60,62,34,13,10,9]
noncomputable def vj:Nat×List Nat:=(38,[38,97,109,112,59])
noncomputable def eLt:Nat×List Nat:=(60,[38,108,116,59])
noncomputable def eGt:Nat×List Nat:=(62,[38,103,116,59])
noncomputable def eQ:Nat×List Nat:=(34,[38,113,117,111,116,59])
noncomputable def am(k:Nat):List (Nat×List Nat):=match k with
 |0=>[vj,eLt,eGt]
 |1=>[vj,eLt,eGt,(13,[38,35,120,68,59])]
 |2=>[vj,eLt,eGt,eQ,(13,[38,35,49,51,59]),(10,[38,35,49,48,59]),(9,[38,35,48,57,59])]
 |3=>[vj,eGt,eQ]
 |_=>[vj,eLt,eQ,(9,[38,35,120,57,59]),(10,[38,35,120,65,59]),(13,[38,35,120,68,59])]
theorem dz(tab:List (Nat×List Nat))(h1:∀p∈tab,p.1∈bU)(h2:∀i ≤ tab.length,∀d∈bU,(aP (tab.take i) [d]).length<=6):∀i ≤ tab.length,∀d,(aP ([]++tab.take i) [d]).length<=6:=by
 intro i j d;rw[List.nil_append];by_cases h:d∈bU
 ·exact h2 i j d h
 ·rw[jL]
  ·exact(by decide:1<=6)
  ·rintro p g rfl
   exact h (h1 p (List.mem_of_mem_take g))
theorem kX(F:Nat->List PV->Option PV)(u:F 998 []=none)(fd:FnD)(j:fd.params=[17])(tab:List (Nat×List Nat))(k:Nat)(m:k+9+tab.length=60)(v:fd.body=[.tryS (tab.map yl++[.ret (.var 17)])])(h1:∀p∈tab,p.1∈bU)(h2:∀i ≤ tab.length,∀d∈bU,(aP (tab.take i) [d]).length<=6)
 (g:∀p∈tab,[p.1]≠p.2/\p.2.length<=10) (x:List Nat) (y:6*x.length<=1000):cS F fd [.str x]=some (.str (aP tab x)):=by
 refine ah (wa F u (fd.f==(105:Nat)) x y tab [] k ⟨[(17,.str x)],[]⟩ (dz tab h1 h2) g rfl) λs' h=>?_;refine bX (s':=s') (d:=.str (aP tab x)) (by rw[j];rfl) rfl ?_ rfl rfl;rw[v,j];have e:k+9+tab.length=k+7+tab.length+2:=Eq.symm (Nat.add_right_comm (_+7) _ 2);rw[<- m,e];exact bT (show aU F _ (k+7+tab.length) _ _=_ from h)
theorem yt(F:Nat->List PV->Option PV)(g:F 998 []=none)(x:List Nat)(j:6*x.length<=1000):
 cS F f96 [.str x]=some (.str (aP (am 0) x))/\cS F f99 [.str x]=some (.str (aP (am 1) x))/\cS F f97 [.str x]=some (.str (aP (am 2) x))/\cS F f98 [.str x]=some (.str (aP (am 3) x))/\cS F xL [.str x]=some (.str (aP (am 4) x)):=
 ⟨kX F g f96 rfl (am 0) 48 rfl rfl (by decide) (by decide) (by decide) x j,kX F g f99 rfl (am 1) 47 rfl rfl (by decide) (by decide) (by decide) x j,kX F g f97 rfl (am 2) 44 rfl rfl (by decide) (by decide) (by decide) x j,
  kX F g f98 rfl (am 3) 48 rfl rfl (by decide) (by decide) (by decide) x j,kX F g xL rfl (am 4) 45 rfl rfl (by decide) (by decide) (by decide) x j⟩
noncomputable def ec(k:Nat):List (List Nat):=[[38,97,109,112,59],[38,108,116,59],[38,103,116,59],[38,113,117,111,116,59]]++(if k=1\/k=4 then[[38,35,120,68,59],[38,35,120,65,59],[38,35,120,57,59]]else[[38,35,49,51,59],[38,35,49,48,59],[38,35,48,57,59]])
noncomputable def b5(k:Nat):List PV:=(ec k).map .str
noncomputable def dY(k:Nat):List Nat:=match k with
 |0=>[34,13,10,9]
 |1=>[34,10,9]
 |2=>[]
 |3=>[60,13,10,9]
 |_=>[62]
noncomputable def uz:PE:=.ite (.boolop false [.cmp (.var 30) [.In] [.var 59],.cmp (.var 30) [.NotIn] [.cstr [38,60,62,34,13,10,9]]]) (.var 30) (.sub (.var 58) (.meth (.cstr [38,60,62,34,13,10,9]) 113 [.var 30]))
set_option tactic.hygienic true in
theorem sx(F:Nat->List PV->Option PV)(j k:Nat)(z:k<5)(c:Nat)(ρ:ar)(g:ρ.lookup 30=some (.str [c]))(y:ρ.lookup 59=some (.str (dY k)))(v:ρ.lookup 58=some (.list (b5 k))):
 ev F [] (j+6) uz ρ=some (.str (aP (am k) [c])):=by
 have r:ev F [] (j+5) (.boolop false [.cmp (.var 30) [.In] [.var 59],.cmp (.var 30) [.NotIn] [.cstr [38,60,62,34,13,10,9]]]) ρ=some (.bool ((dY k).contains c||!bU.contains c)):=
  bM (Ad (az (aa g) (aa y) (congrArg some (gY c (dY k)))) (λu=>bW (az (aa g) rfl (congrArg (λb=>some !b) (gY c bU)))))
 by_cases h:c∈bU
 ·refine gW r (λl=>(aa g).trans ?_) (λt=>?_)
  ·congr 2;exact lt5 (P:=λk=>∀c∈bU,((dY k).contains c||!bU.contains c)=true->[c]=aP (am k) [c]) (by decide) (by decide) (by decide) (by decide) (by decide) k z c h l
  ·obtain⟨i,e1,hi⟩:∃i,bg [c] [38,60,62,34,13,10,9]=some i/\i<7:=by
    have:∀c∈bU,(match bg [c] [38,60,62,34,13,10,9]with|some i=>decide (i<7)|none=>false)=true:=by decide
    have q:=this c h;split at q
    ·rename_i i e;exact⟨i,e,of_decide_eq_true q⟩
    ·exact nf q
   have hl:(b5 k).length=7:=by delta b5 ec;split<;>rfl
   have hd:(ec k)[i]?=some (aP (am k) [c]):=by
    have:((bg [c] [38,60,62,34,13,10,9]).bind λi=>(ec k)[i]?)=some (aP (am k) [c]):=lt5 (P:=λk=>∀c∈bU,((dY k).contains c||!bU.contains c)=false->((bg [c] [38,60,62,34,13,10,9]).bind λi=>(ec k)[i]?)=some (aP (am k) [c])) (by decide) (by decide) (by decide) (by decide) (by decide) k z c h t;rw[e1]at this;exact this
   refine aX (aa v) rfl (j:=pvN i) (cI (x:=.str [38,60,62,34,13,10,9]) rfl (mm (aa g) mm0) ?_) ?_
   ·show(bg [c] [38,60,62,34,13,10,9]).map _=_;rw[e1];rfl
   ·show(idx (b5 k).length (i:Int)).bind _=_;have:idx (b5 k).length (i:Int)=some i:=by
     delta idx;rw[hl,if_neg (by lia),if_pos (by lia),if_pos (by lia)];rfl
    rw[this];show((ec k).map PV.str)[i]?=_;rw[List.getElem?_map,hd];rfl
 ·have hc:bU.contains c=false:=by rw[Bool.eq_false_iff];exact λe=>h (List.contains_iff_mem.mp e)
  have m:∀p∈am k,p.1∈bU:=lt5 (P:=λk=>∀p∈am k,p.1∈bU) (by decide) (by decide) (by decide) (by decide) (by decide) k z;rw[jL _ _ (by rintro p d rfl;exact h (m p d))];refine gW r (λu=>aa g) (λh=>?_);rw[hc]at h;simp at h
theorem rA:∀j:List (List Nat),bq [] j=j.flatten:=by
 intro j;induction j with
 |nil=>rfl
 |cons x r g=>
  cases r with
  |nil=>exact(List.append_nil x).symm
  |cons y r=>
   show x++[]++bq [] (y::r)=_;rw[g,List.append_nil];rfl
theorem oM(f:Nat->List Nat)(j:∀d,(f d).length<=6)(x:List Nat):(x.flatMap f).length<=6*x.length:=by
 induction x with
 |nil=>exact Nr _
 |cons d x g=>rw[List.flatMap_cons,List.length_append,List.length_cons];have:=j d;exact xj g this
theorem eu(j:List (List Nat)):(j.map PV.str).mapM bZ=some j:=(br (f:=bZ) (emb:=PV.str) (h:=id) (λu u=>rfl)).trans (by rw[List.map_id])
theorem wK(F:Nat->List PV->Option PV)(k:Nat)(j:k<5)(x:List Nat)(g:6*x.length<=1000):cS F v0 [.str x,pvN k]=some (.str (aP (am k) x)):=by
 have v:∀d,(aP (am k) [d]).length<=6:=lt5 (P:=λk=>∀d,(aP (am k) [d]).length<=6) (λd=>dz (am 0) (by decide) (by decide) 3 (Nr _) d) (λd=>dz (am 1) (by decide) (by decide) 4 (Nr _) d) (λd=>dz (am 2) (by decide) (by decide) 7 (Nr _) d)
  (λd=>dz (am 3) (by decide) (by decide) 3 (Nr _) d) (λd=>dz (am 4) (by decide) (by decide) 6 (Nr _) d) k j
 have z:exS F (v0.f==(105:Nat)) 59 (.assign 58 (.bin (.Add) (.list [.cstr [38,97,109,112,59],.cstr [38,108,116,59],.cstr [38,103,116,59],.cstr [38,113,117,111,116,59]]) (.ite (.cmp (.var 57) [.In] [.tuple [.cint 1,.cint 4]]) (.list [.cstr [38,35,120,68,59],.cstr [38,35,120,65,59],.cstr [38,35,120,57,59]]) (.list [.cstr [38,35,49,51,59],.cstr [38,35,49,48,59],.cstr [38,35,48,57,59]])))) ⟨[(57,pvN k),(56,.str x)],[]⟩=some (.next,⟨[(58,.list (b5 k)),(57,pvN k),(56,.str x)],[]⟩):=
  lt5 (P:=λk=>exS F (v0.f==(105:Nat)) 59 _ ⟨[(57,pvN k),(56,.str x)],[]⟩=some (.next,⟨[(58,.list (b5 k)),(57,pvN k),(56,.str x)],[]⟩)) rfl rfl rfl rfl rfl k j
 have q:ev F [] 57 (.sub (.tuple [.cstr [34,13,10,9],.cstr [34,10,9],.cstr [],.cstr [60,13,10,9],.cstr [62]]) (.var 57)) [(58,.list (b5 k)),(57,pvN k),(56,.str x)]=some (.str (dY k)):=
  lt5 (P:=λk=>ev F [] 57 _ [(58,.list (b5 k)),(57,pvN k),(56,.str x)]=some (.str (dY k))) rfl rfl rfl rfl rfl k j
 have m:ev F [] 55 (.comp uz [(false,[30])] [.var 56] [[]] [59,58]) [(59,.str (dY k)),(58,.list (b5 k)),(57,pvN k),(56,.str x)]=some (.list ((x.map λc=>aP (am k) [c]).map PV.str)):=by
  rw[List.map_map];exact cf (emb:=λc=>.str [c]) (aF rfl (aa rfl) rfl rfl rfl) (λc u=>b4 (ρ':=[(30,.str [c]),(59,.str (dY k)),(58,.list (b5 k))]) rfl rfl (sx F 48 k j c _ rfl rfl rfl)) (by
   have:x.length<=1000:=xQ g;exact Nt this (by decide))
 have y:ev F [] 56 (.meth (.cstr []) 111 [.comp uz [(false,[30])] [.var 56] [[]] [59,58]]) [(59,.str (dY k)),(58,.list (b5 k)),(57,pvN k),(56,.str x)]=some (.str (aP (am k) x)):=by
  refine cI (x:=.str []) rfl (mm m mm0) ?_;show(((x.map λc=>aP (am k) [c]).map PV.str).mapM bZ).bind _=_;rw[eu];show(if _/\_/\_ then _ else _)=_;have hl:=oM _ v x;rw[if_pos ⟨by decide,by rw[List.length_map,List.length_map];exact xQ g,by rw[<- List.length_flatten,<- List.flatMap];exact Nt (Nt hl g) (by decide)⟩,rA,iL];rfl
 exact bX (d:=.str (aP (am k) x)) rfl rfl (ao z (ao (an rfl q) (bT (dd y)))) rfl rfl
noncomputable def vu(F:Nat->List PV->Option PV)(t:Nat->Nat->Nat):Prop:=∀(ties:List Int) (tie:Nat->Nat->Bool),(∀a b,(ties.any λy=>decide (y=code (t a b)))=tie a b)->∀ms:List Nat,(∀m∈ms,m<5)->ms.length<=5->ms≠[]->F 104 [pvL ms,bj t,.tuple (ties.map .int)]=some (.list ((ay tie ms).map pvL))
theorem vg(F:Nat->List PV->Option PV)(t:Nat->Nat->Nat)(names:List (List Nat))(S:∀n∈names,n.length<=14)(H:names.length=5)(I:vu F t)(k:Nat)(j:List Nat)(way inner:Bool)(U:j.length≠1->qk t j way)(K:∀m∈j,m<5)(o:j.Nodup)(hl:j.length<=5)(q:j≠[])(B:j.length<=k+1)
 (E:j.length≠1->∀p∈(ax t j way).parts,(∀m∈p,m<5)->p.Nodup->p.length<=5->p≠[]->p.length<=k->F 105 [pvL p,bj t,.list (names.map .str),eW (!way),.bool true]=some (.str (aq names (a9 t k p (!way) true)))) :
 cS F zZ [pvL j,bj t,.list (names.map .str),eW way,.bool inner]=some (.str (aq names (a9 t (k+1) j way inner))):=by
 have z:[pvL j,bj t,.list (names.map .str),eW way,.bool inner].all (aH 8)=true:=by
  rw[List.all_cons,List.all_cons,List.all_cons,eC,fq,bz (λu=>rfl)];rfl
 by_cases h1:j.length=1
 ·refine ah (List.length_eq_one_iff.mp h1) λm Y=>?_;subst Y;have i:m<names.length:=H▸K m (.head _);obtain⟨w,hw⟩:∃w,names[m]?=some w:=⟨_,List.getElem?_eq_getElem i⟩
  have O:w.length<=14:=S w (List.mem_of_getElem? hw);have e:aq names (a9 t (k+1) [m] way inner)=34::w++[34]:=by
   show aq names [256+m]=_;rw[aq,List.flatMap_cons,List.flatMap_nil,List.append_nil,cv,if_pos (Nat.le_add_right _ _),Nat.add_sub_cancel_left,List.getD_eq_getElem?_getD,hw];rfl
  rw[e];refine bX (s':=⟨_,[]⟩) rfl z (bT ((aM (t:=true) rfl (λu=>bT (dd (d:=.str (34::w++[34])) ?_)) (λh=>nomatch h)))) rfl rfl;have P:k4 (names.map .str) (pvN m)=some (.str w):=by
   show(idx (names.map PV.str).length (m:Int)).bind _=_;have:idx (names.map PV.str).length (m:Int)=some m:=by
    unfold idx;rw[List.length_map,if_neg (by lia),if_pos (by lia),if_pos (by lia)];rfl
   rw[this];show(names.map PV.str)[m]?=_;rw[List.getElem?_map,hw];rfl
  refine aG (x:=.str (34::w)) (y:=.str [34]) (aG (x:=.str [34]) (y:=.str w) rfl rfl (aX (aa rfl) rfl (aX (d:=pvN m) (aa rfl) rfl rfl rfl) P) rfl ?_) rfl rfl rfl ?_
  ·show(if 1+w.length<=ag then _ else _)=_;rw[if_pos (Nt (Nat.add_le_add_left O 1) (by decide))];rfl
  ·show(if(34::w).length+1<=ag then _ else _)=_;have A:(34::w).length+1<=ag:=Nt (Nat.add_le_add_right (Nat.add_le_add_right O 1) 1) (by decide);rw[if_pos A]
 ·replace U:=U h1;refine hid λgG N=>?_;replace E:=E h1;have h2:2<=j.length:=by have:=List.length_pos_iff.mpr q;exact zK h1 this
  refine af (ta F t names way inner j U K o hl h2 _ _ rfl rfl _ rfl) λs' m1 l=>?_;obtain⟨ρ',σ'⟩:=s';cases(l.sto:σ'=[]);have c:=gl t j way;have L:=ic t j way h2;have v:=kC t j way;have s:=oy _ v;have g:=c.length_eq;have hB:∀p∈(ax t j way).parts,(aq names (a9 t k p (!way) true)).length<=ri p.length:=λp r=>kT t names S k p (!way) true (v p r) (by have:=jA _ v L p r;exact xF B g this);refine au (qX names _ (gk t j way)) λM T=>?_;refine N ?_;clear N gG;have a:(bQ (ax t j way).sign).length<=2:=pG _;have ja:=kT t names S (k+1) j way true q B;have e:aq names (a9 t (k+1) j way inner)=if(inner&&!soft (ax t j way).sign)=true then 40::bq (bQ (ax t j way).sign) ((ax t j way).parts.map λp=>aq names (a9 t k p (!way) true))++[41]else bq (bQ (ax t j way).sign) ((ax t j way).parts.map λp=>aq names (a9 t k p (!way) true)):=by
   show aq names (if j.length=1 then _ else _)=_;rw[if_neg h1,lL,kR,M,List.map_map];rfl
  have Z:(bq (bQ (ax t j way).sign) ((ax t j way).parts.map λp=>aq names (a9 t k p (!way) true))).length<=200/\(((ax t j way).parts.map λp=>aq names (a9 t k p (!way) true)).map List.length).sum<=200:=by
   have P:=oh (λp=>(aq names (a9 t k p (!way) true)).length) _ v hB;have Q:=(nA _ a ((ax t j way).parts.map λp=>aq names (a9 t k p (!way) true))).1;rw[List.map_map,List.length_map]at Q;rw[List.map_map];constructor
   ·refine Nt Q (Nt (Nat.add_le_add_right (show _<=(List.map (λp=>(aq names (a9 t k p (!way) true)).length) (ax t j way).parts).sum from Nr _) _) ?_);exact Nt (Nat.add_le_add_left (Nat.mul_le_mul_right _ (by decide)) _) (Nt P (Nt (Nat.mul_le_mul_left 20 (g▸hl)) (by decide)))
   ·refine Nt (show _<=(List.map (λp=>(aq names (a9 t k p (!way) true)).length) (ax t j way).parts).sum from Nr _) ?_;exact Nt (Nat.le_add_right _ _) (Nt P (Nt (Nat.mul_le_mul_left 20 (Nt (Ne0 g) hl)) (by decide)))
  rw[e];have hc:ev F [] 53 (.comp (.call 105 [.var 51,.var 37,.var 32,.bin (.Sub) (.cint 1) (.var 52),.cbool true]) [(false,[51])] [.var 49] [[]] [32,37,52]) ρ'=some (.list (((ax t j way).parts.map λp=>aq names (a9 t k p (!way) true)).map PV.str)):=by
   rw[List.map_map];refine cf (emb:=pvL) (aF rfl (aa l.parts) rfl rfl rfl) (λp r=>?_) (Nt (Nt s (g▸hl)) (by decide));have b:∀m∈p,m∈j:=λm i=>c.mem_iff.mp (List.mem_flatten.mpr ⟨p,r,i⟩);have f:=jA _ v L p r;refine b4 (ρ':=(51,pvL p)::aj [32,37,52] ρ') (by rw[List.all_cons,bw rfl];rfl) rfl (bH (mm (aa rfl) (mm (aa ((bt rfl _).trans l.tab)) (mm (aa ((bt rfl _).trans l.names)) (mm (aG (x:=.int 1) rfl rfl (aa ((bt rfl _).trans l.way)) rfl ?_) (mm rfl mm0))))) (E p r (λm i=>K m (b m i)) ?_ (Nat.le_of_lt (Nl f (Nt (Ne0 g) hl))) (v p r) (xF B g f)))
   ·cases way<;>rfl
   ·exact List.Nodup.sublist (List.sublist_flatten_of_mem r) (c.nodup_iff.mpr o)
  have C:ev F [] 54 (.meth (.var 30) 111 [.comp (.call 105 [.var 51,.var 37,.var 32,.bin (.Sub) (.cint 1) (.var 52),.cbool true]) [(false,[51])] [.var 49] [[]] [32,37,52]]) ρ'=some (.str (bq (bQ (ax t j way).sign) ((ax t j way).parts.map λp=>aq names (a9 t k p (!way) true)))):=by
   refine cI (aa l.sign) (mm hc mm0) ?_;show((((ax t j way).parts.map λp=>aq names (a9 t k p (!way) true)).map PV.str).mapM bZ).bind _=_;rw[eu];show(if _/\_/\_ then _ else _)=_;rw[if_pos ⟨Nt a (by decide),by rw[List.length_map,List.length_map];exact Nt (Nt s (g▸hl)) (by decide),Nt Z.2 (by decide)⟩]
  clear hc e;have c1:ev F [] 58 (.cmp (.len (.var 47)) [.Eq] [.cint 1]) [(53,.bool inner),(52,eW way),(32,.list (names.map .str)),(37,bj t),(47,pvL j)]=some (.bool false):=by
   refine az (x:=.int (j.map pvN).length) (y:=.int 1) (gd (aa rfl) rfl (len_ok _ (by rw[List.length_map];exact Nt hl (by decide)))) rfl ?_;show some (decide (((j.map pvN).length:Int)=1))=_;rw[List.length_map,decide_eq_false (by lia)]
  have c2:ev F [] 57 (.comp (.list [.var 45]) [(false,[45])] [.var 47] [[]] []) [(53,.bool inner),(52,eW way),(32,.list (names.map .str)),(37,bj t),(47,pvL j)]=some (.list ((j.map λm=>[m]).map pvL)):=by
   rw[List.map_map];exact cf (emb:=pvN) (aF rfl (aa rfl) rfl rfl rfl) (λm i=>b4 (ρ':=[(45,pvN m)]) rfl rfl (fi (mm (aa rfl) mm0))) (Nt hl (by decide))
  have c3:ev F [] 57 (.sub (.cstr [124,38]) (.var 52)) [(53,.bool inner),(52,eW way),(32,.list (names.map .str)),(37,bj t),(47,pvL j)]=some (.str (bQ (cond way 19 18))):=by
   cases way<;>rfl
  generalize bq (bQ (ax t j way).sign) ((ax t j way).parts.map λp=>aq names (a9 t k p (!way) true))=J at *;have c7:ev F [] 53 (.ite (.boolop true [.var 53,.cmp (.var 30) [.NotIn] [.cstr [124,38]]]) (.bin (.Add) (.bin (.Add) (.cstr [40]) (.var 17)) (.cstr [41])) (.var 17)) ((17,.str J)::ρ')=some (.str (if(inner&&!soft (ax t j way).sign)=true then 40::J++[41]else J)):=by
   refine gW (t:=inner&&!soft (ax t j way).sign) (bM (eU (aa l.inner) (λu=>bW (az (aa l.sign) rfl T)))) (λW=>?_) (λW=>?_)
   ·rw[if_pos W];refine aG (x:=.str (40::J)) (y:=.str [41]) (aG (x:=.str [40]) (y:=.str J) rfl rfl (aa rfl) rfl ?_) rfl rfl rfl ?_
    ·show(if 1+J.length<=ag then _ else _)=_;rw[if_pos (Nt (Nat.add_le_add_left Z.1 1) (by decide))];rfl
    ·have A:(40::J).length+1<=ag:=Nt (Nat.add_le_add_right (Nat.add_le_add_right Z.1 1) 1) (by decide);show(if(40::J).length+1<=ag then _ else _)=_;rw[if_pos A]
   ·rw[if_neg (by rw[W];decide)];exact aa rfl
  generalize(if(inner&&!soft (ax t j way).sign)=true then 40::J++[41]else J)=R at *;refine bX rfl z (ao (aM c1 (λh=>nomatch h) (λu=>aE)) (ao (pZ (by decide) rfl rfl c2 c3) (ao (pZ (by decide) rfl rfl (bH (mm (aa rfl) (mm (aa rfl) (mm rfl mm0))) (I [20,21,27] (jI t) (zg t) j K hl q)) (bH (mm (aa rfl) (mm (aa rfl) (mm rfl mm0))) (I [18,27] (fH t) (zY t) j K hl q)))
   (ao m1 (ao (an rfl C) (bT (dd c7))))))) rfl rfl
noncomputable def ent(v:List Nat):List Nat:=38::v++[59]
noncomputable def mL(v:List Nat):Prop:=38∉v/\59∉v
noncomputable def txt(cur:Nat->Option (List Nat))(d:Nat):List Nat:=match cur d with
 |none=>[d]
 |some v=>ent v
theorem eN(h:cur d=none):txt cur d=[d]:=by rw[txt,h]
theorem j0(h:cur d=some v):txt cur d=ent v:=by rw[txt,h]
theorem wG:∀(u v r:List Nat),59∉u->59∉v->(u++[59]).isPrefixOf (v++59::r)=decide (u=v):=by
 intro u;induction u with
 |nil=>
  intro v r _ j;cases v with
  |nil=>rfl
  |cons b v=>
   show(59==b&&_)=_;have:(59==b)=false:=by
    refine Bool.eq_false_iff.mpr λe=>j ?_;rw[<- eq_of_beq e];exact .head _
   rw[this];rfl
 |cons a u m=>
  intro v r g j;cases v with
  |nil=>
   show(a==59&&_)=_;have:(a==59)=false:=by
    refine Bool.eq_false_iff.mpr λe=>g ?_;rw[eq_of_beq e];exact .head _
   rw[this];rfl
  |cons b v=>
   show(a==b&&(u++[59]).isPrefixOf (v++59::r))=_;rw[m v r (λh=>g (.tail _ h)) (λh=>j (.tail _ h))];by_cases h:a=b
   ·clear m g j;subst h;rw[beq_self_eq_true];simp
   ·rw[show(a==b)=false by simpa using h];simp[h]
theorem rm(p q:List Nat):∀(l r:List Nat),a8 p q l.length (l++r)=a8 p q 0 r:=by
 intro l;induction l with
 |nil=>intro r;rfl
 |cons a l j=>intro r;exact j r
theorem oP(u:List Nat)(q:List Nat):∀(l r:List Nat),38∉l->a8 (ent u) q 0 (l++r)=l++a8 (ent u) q 0 r:=by
 intro l;induction l with
 |nil=>intro r _;rfl
 |cons a l j=>
  intro r h;show(if(38==a&&_)=true then _ else a::a8 (ent u) q 0 (l++r))=_;have:(38==a)=false:=by
   refine Bool.eq_false_iff.mpr λe=>h ?_;rw[<- eq_of_beq e];exact .head _
  rw[this,if_neg (by simp),j r (λh'=>h (.tail _ h'))];rfl
theorem tQ(u v q r:List Nat)(m:mL u)(g:mL v):a8 (ent u) q 0 (ent v++r)=(if u=v then q else ent v)++a8 (ent u) q 0 r:=by
 have e:ent v++r=38::(v++59::r):=by
  show 38::(v++[59]++r)=_;rw[List.append_assoc];rfl
 rw[e];show(if(38==38&&(u++[59]).isPrefixOf (v++59::r))=true then q++a8 (ent u) q ((ent u).length - 1) (v++59::r)else 38::a8 (ent u) q 0 (v++59::r))=_;rw[wG u v r m.2 g.2];by_cases h:u=v
 ·clear m e;subst h;rw[if_pos (by simp),if_pos rfl];congr 1;have j:u++59::r=(u++[59])++r:=by rw[List.append_assoc];rfl
  rw[j];have y:(ent u).length - 1=(u++[59]).length:=rfl;rw[y,rm]
 ·rw[if_neg (by simp[h]),if_neg h];have j:v++59::r=(v++[59])++r:=by rw[List.append_assoc];rfl
  rw[j,oP]
  ·rfl
  ·intro z;rcases List.mem_append.mp z with q|q
   ·exact g.1 q
   ·exact absurd (List.mem_singleton.mp q) (by decide)
theorem pH(u:List Nat)(e:Nat)(m:mL u)(j:Nat->Option (List Nat)):∀(x:List Nat),(∀d∈x,(j d=none->d≠38)/\(∀v,j d=some v->mL v)/\(j d=some u->d=e))->
 a8 (ent u) [e] 0 (x.flatMap (txt j))=x.flatMap (txt λd=>if j d=some u then none else j d):=by
 intro x;induction x with
 |nil=>intro _;rfl
 |cons d x y=>
  intro h;refine bc (h d (.head _)) λh1 h2 g=>?_;rw[List.flatMap_cons,List.flatMap_cons,<- y λd hd=>h d (.tail _ hd)];cases hc:j d with
  |none=>
   rw[eN hc,eN (show(if j d=some u then none else j d)=none by rw[hc,if_neg (by simp)])];exact oP u [e] [d] _ (by simpa using λq=>h1 hc q.symm)
  |some v=>
   rw[j0 hc,tQ u v [e] _ m (h2 v hc)];by_cases huv:u=v
   ·subst huv;rw[if_pos rfl,eN (show(if j d=some u then none else j d)=none by rw[hc,if_pos rfl]),g hc]
   ·rw[if_neg huv,j0 (v:=v) (show(if j d=some u then none else j d)=some v by rw[hc,if_neg (λq=>huv (Option.some.inj q).symm)])]
noncomputable def fk:List (List Nat×Nat):=[([108,116],60),([103,116],62),([113,117,111,116],34),([35,49,51],13),([35,120,68],13),([35,49,48],10),([35,120,65],10),([35,48,57],9),([35,120,57],9)]
noncomputable def de(k:Nat):List (Nat×List Nat):=match k with
 |0=>[(38,[97,109,112]),(60,[108,116]),(62,[103,116])]
 |1=>[(38,[97,109,112]),(60,[108,116]),(62,[103,116]),(13,[35,120,68])]
 |2=>[(38,[97,109,112]),(60,[108,116]),(62,[103,116]),(34,[113,117,111,116]),(13,[35,49,51]),(10,[35,49,48]),(9,[35,48,57])]
 |3=>[(38,[97,109,112]),(62,[103,116]),(34,[113,117,111,116])]
 |_=>[(38,[97,109,112]),(60,[108,116]),(34,[113,117,111,116]),(9,[35,120,57]),(10,[35,120,65]),(13,[35,120,68])]
theorem ql(l:List (Nat×α))(d:Nat)(h:∀p∈l,d≠p.1):l.lookup d=none:=by
 induction l with
 |nil=>rfl
 |cons p l g=>
  obtain⟨j,w⟩:=p;rw[List.lookup,show(d==j)=false by simpa using h _ (.head _)];exact g λq m=>h q (.tail _ m)
theorem uk(k:Nat)(m:k<5)(x:List Nat):aP (am k) x=x.flatMap (txt λd=>(de k).lookup d):=by
 rw[iL];congr 1;funext d
 by_cases h:d∈bU
 ·exact lt5 (P:=λk=>∀d∈bU,aP (am k) [d]=txt (λd=>(de k).lookup d) d) (by decide) (by decide) (by decide) (by decide) (by decide) k m d h
 ·have g:∀p∈am k,p.1∈bU:=lt5 (P:=λk=>∀p∈am k,p.1∈bU) (by decide) (by decide) (by decide) (by decide) (by decide) k m;have j:∀p∈de k,p.1∈bU:=lt5 (P:=λk=>∀p∈de k,p.1∈bU) (by decide) (by decide) (by decide) (by decide) (by decide) k m;rw[jL _ _ (by rintro p u rfl;exact h (g p u)),txt,ql _ _ (by rintro p u rfl;exact h (j p u))]
noncomputable def jQ(t:List Nat)(q:List Nat×Nat):Option (List Nat):=kc (ent q.1) [q.2] t
theorem l6{x:List Nat}(m:6*x.length<=1000)(j:∀d v,cur d=some v->v.length<=4)(u:List Nat)(e:Nat)(g:mL u)(h:∀d∈x,(cur d=none->d≠38)/\(∀v,cur d=some v->mL v)/\(cur d=some u->d=e)):
 jQ (x.flatMap (txt cur)) (u,e)=some (x.flatMap (txt λd=>if cur d=some u then none else cur d)):=by
 show(if _ then some (a8 (ent u) [e] 0 (x.flatMap (txt cur)))else none)=_;have hl:(x.flatMap (txt cur)).length<=1000:=Nt (oM _ (λd=>by
  cases hc:cur d with
  |none=>rw[eN hc];exact(by decide:1<=6)
  |some v=>
   rw[j0 hc];have:=j d v hc;show((38::v)++[59]).length<=6;rw[List.length_append,List.length_cons,List.length_singleton];simpa using this) x) m
 rw[if_pos ⟨by simp[ent],by simp[ent],hl,(by decide:1<=10)⟩,pH u e g cur x h]
theorem pT(x:List Nat)(k:6*x.length<=1000):∀(L:List (List Nat×Nat)) (j:Nat->Option (List Nat)),(∀p∈L,mL p.1/\p.2≠38)->(∀d v,j d=some v->v.length<=4)->
 (∀d,(j d=none->d≠38)/\(∀v,j d=some v->mL v)/\∀p∈L,j d=some p.1->d=p.2)->
 ∃g:Nat->Option (List Nat),L.foldlM jQ (x.flatMap (txt j))=some (x.flatMap (txt g))/\(∀d v,g d=some v->j d=some v/\∀p∈L,v≠p.1)/\∀d,g d=none->d≠38:=by
 intro L;induction L with
 |nil=>intro j _ _ h;exact⟨j,rfl,λd v m=>⟨m,λp y=>(nomatch y)⟩,λd=>(h d).1⟩
 |cons p L c=>
  intro j t l h;obtain⟨u,e⟩:=p;refine au (t (u,e) (.head _)) λJ f=>?_;have o:=l6 k l u e J λd w=>⟨(h d).1,(h d).2.1,(h d).2.2 (u,e) (.head _)⟩
  have z:∀d v,(if j d=some u then none else j d)=some v->j d=some v/\v≠u:=λd v m=>by
   refine au (oe m) λh1 h2=>?_;exact⟨h2,λq=>h1 (q▸h2)⟩
  have i:∀d,(if j d=some u then none else j d)=none->d≠38:=λd m=>by
   by_cases hc:j d=some u
   ·rw[(h d).2.2 (u,e) (.head _) hc];exact f
   ·rw[if_neg hc]at m;exact(h d).1 m
  refine bd (c (λd=>if j d=some u then none else j d) (λq r=>t q (.tail _ r)) (λd v m=>l d v (z d v m).1) (λd=>⟨i d,λv m=>(h d).2.1 v (z d v m).1,λq r hc=>(h d).2.2 q (.tail _ r) (z d _ hc).1⟩)) λg K h1 h2=>?_;refine⟨g,?_,λd v m=>?_,h2⟩
  ·rw[List.foldlM_cons,o];exact K
  ·refine au (h1 d v m) λs b=>?_;refine au (z d v s) λn a=>?_;refine⟨n,λp y=>?_⟩;cases y with
   |head=>exact a
   |tail _ y=>exact b p y
theorem rX(k:Nat)(j:k<5):∀p∈de k,p.2.length<=4/\mL p.2/\(p.2,p.1)∈fk++[([97,109,112],38)]:=
 lt5 (P:=λk=>∀p∈de k,p.2.length<=4/\(38∉p.2/\59∉p.2)/\(p.2,p.1)∈fk++[([97,109,112],38)]) (by decide) (by decide) (by decide) (by decide) (by decide) k j
theorem dS{α:Type}{l:List (Nat×α)}{d:Nat}{v:α}(h:l.lookup d=some v):(d,v)∈l:=by
 induction l with
 |nil=>exact no h
 |cons p l g=>
  obtain⟨j,w⟩:=p;rw[List.lookup]at h;split at h
  ·rename_i e;(replace h:=si h;subst h);rw[eq_of_beq e];exact .head _
  ·exact .tail _ (g h)
theorem u1(k:Nat)(t:k<5)(x:List Nat)(l:6*x.length<=1000):(fk++[([97,109,112],38)]).foldlM jQ (aP (am k) x)=some x:=by
 rw[uk k t];have r:=rX k t;have y:∀p∈fk++[([97,109,112],38)],∀q∈fk++[([97,109,112],38)],p.1=q.1->p.2=q.2:=by decide
 have z:(de k).lookup 38=some [97,109,112]:=lt5 (P:=λk=>(de k).lookup 38=some [97,109,112]) rfl rfl rfl rfl rfl k t;obtain⟨j,n,h1,h2⟩:=pT x l fk (λd=>(de k).lookup d) (show∀p∈fk,(38∉p.1/\59∉p.1)/\p.2≠38 by decide) (λd v m=>(r _ (dS m)).1)
  (λd=>⟨λc e=>(by subst e;rw[z]at c;injection c),λv m=>(r _ (dS m)).2.1,λp o m=>y _ (r _ (dS m)).2.2 p (List.mem_append_left _ o) rfl⟩)
 have g:∀d v,j d=some v->v=[97,109,112]/\d=38:=λd v m=>by
  refine au (h1 d v m) λi b=>?_;have f:=(r _ (dS i)).2.2;rcases List.mem_append.mp f with q|q
  ·exact(b _ q rfl).elim
  ·clear t r y z h1 i b f;cases List.mem_singleton.mp q;exact⟨rfl,rfl⟩
 rw[List.foldlM_append,n];show(([([97,109,112],38)]:List (List Nat×Nat)).foldlM jQ _)=_;rw[List.foldlM_cons,l6 l (λd v m=>by rw[(g d v m).1];decide) [97,109,112] 38 (show 38∉[97,109,112]/\59∉[97,109,112] by decide) (λd u=>⟨h2 d,λv m=>by rw[(g d v m).1];exact(by decide:38∉[97,109,112]/\59∉[97,109,112]),λm=>(g d _ m).2⟩)];show some _=_;congr 1;have:(txt λd=>if j d=some [97,109,112]then none else j d)=λd=>[d]:=by
  funext d
  refine eN ?_;show(if j d=some [97,109,112]then none else j d)=none;clear t l r y z n h1 h2;cases hc:j d with
  |none=>rw[if_neg (by simp)]
  |some v=>rw[(g d v hc).1,if_pos rfl]
 rw[this];exact List.flatMap_singleton' x
theorem yk{a b n:Nat}(ha:a<=n)(hab:a<=b):Builtin.Str.strSliceIndices (some (a:Int)) (some (b:Int)) 1 n=(List.range (min b n - a)).map λk=>a+k:=by
 have h:Builtin.Str.strSliceIndices (some (a:Int)) (some (b:Int)) 1 n=Builtin.Str.strSliceIndices (some (a:Int)) (some ((min b n:Nat):Int)) 1 n:=by
  have h1:¬((b:Int)<0):=Int.not_ofNat_neg _;have h2:¬(((min b n:Nat):Int)<0):=Int.not_ofNat_neg (min _ _);have e1:max (0:Int) (min (b:Int) (n:Int))=((min b n:Nat):Int):=by omega
  have e2:max (0:Int) (min ((min b n:Nat):Int) (n:Int))=((min b n:Nat):Int):=by rw[Int.min_eq_left (Int.ofNat_le.mpr (Nat.min_le_right _ _))];exact Int.max_eq_right (Int.natCast_nonneg _)
  simp only[Builtin.Str.strSliceIndices,h1,h2,if_false,e1,e2,show((1:Int)>0)=True from by simp,if_true]
 rw[h,StrLaws.strSliceIndices_plain (Nat.le_min_of_le_of_le hab ha) (Nat.min_le_right _ _)]
theorem tH{l:List Nat}(j:a<=l.length)(g:a<=b)(hl:l.length<=ag):slP (.str l) (some (a:Int)) (some (b:Int)) none=some (.str ((l.drop a).take (b - a))):=by
 show(if(none:Option Int)=none then qy l (Builtin.Str.strSliceIndices (some (a:Int)) (some (b:Int)) 1 l.length)else none)=_;rw[if_pos rfl,yk j g];have e:((List.range (min b l.length - a)).map λk=>a+k).filterMap (l[·]?)=(l.drop a).take (b - a):=by
  rw[StrLaws.picks l _ a (Nt (Nat.add_le_add_left (Nat.sub_le_sub_right (Nat.min_le_right _ _) _) _) (Ne0 (Nat.add_sub_of_le j)))];by_cases h:b<=l.length
  ·rw[Nat.min_eq_left h]
  ·rw[Nat.min_eq_right (Nat.le_of_not_ge h),List.take_of_length_le (by rw[List.length_drop];exact Nr _),List.take_of_length_le (by rw[List.length_drop];exact Nat.sub_le_sub_right (Nat.le_of_not_le h) _)]
 unfold qy;rw[e,List.length_map,List.length_range];split
 ·rename_i h;have h0:a=0:=(Nat.sub_sub_self j).symm.trans (Nat.sub_eq_zero_of_le (Nt (Ne0 h.symm) (Nat.sub_le_sub_right (Nat.min_le_right _ _) _)));subst h0;rw[List.drop_zero,List.take_of_length_le (by lia)]
 ·rw[if_pos];refine Nt ?_ hl;rw[List.length_take,List.length_drop];exact Nt (Nat.min_le_right _ _) (Nat.sub_le _ _)
theorem tB(c:Nat)(r:List Nat):∀w:List Nat,c∉w->bg [c] (w++c::r)=some w.length:=by
 intro w;induction w with
 |nil=>
  intro _;show(if(c==c&&true)=true then some 0 else _)=_;rw[beq_self_eq_true];rfl
 |cons d w j=>
  intro h;show(if(c==d&&true)=true then some 0 else(bg [c] (w++c::r)).map (·+ 1))=_;have:(c==d)=false:=by
   refine Bool.eq_false_iff.mpr λe=>h ?_;rw[eq_of_beq e];exact .head _
  rw[this,if_neg (by simp),j λq=>h (.tail _ q)];rfl
noncomputable def exL:List (List Nat×Int):=[([33],54),([33,61],28),([37],24),([37,61],40),([38],19),([38,61],41),([40],7),([41],8),([42],16),([42,42],35),([42,42,61],46),([42,61],38),([43],14),([43,61],36),([44],12),([45],15),([45,61],37),([45,62],51),([46],23),([46,46,46],52),([47],17),([47,47],47),([47,47,61],48),([47,61],39),([58],11),([58,61],53),([59],13),([60],20),([60,60],33),([60,60,61],44),([60,61],29),([61],22),([61,61],27),([62],21),([62,61],30),([62,62],34),([62,62,61],45),([64],49),([64,61],50),([91],9),([93],10),([94],32),([94,61],43),([123],25),([124],18),([124,61],42),([125],26),([126],31)]
theorem t8:exT=exL:=by decide +kernel
structure yc(rest:List Nat)(m:Nat)(c:Nat):Prop where
 pick:∃l:List Nat,([1,2,3]:List Nat).filter (λk=>(exT.lookup (rest.take k)).isSome)=l/\k7 (l.map λ(k:Nat)=>(k:Int))=some (m:Int)
 sym:exT.lookup (rest.take m)=some (c:Int)
noncomputable def fD(c:Nat)(r:List Nat):Prop:=match r with
 |[]=>c=8
 |h::_=>if c=8 then h=41\/h=124\/h=38\/h=61\/h=60\/h=62\/h=13\/h=10 else h=34\/h=40
theorem zk(hc:c=18\/c=19\/c=27\/c=20\/c=21\/c=7\/c=8)(j:fD c r):∃m,yc (bQ c++r) m c/\(m=(bQ c).length\/(r=[]/\m=3)):=by
 have key:∀(rest:List Nat) (m:Nat) (c:Nat),(∃l:List Nat,([1,2,3]:List Nat).filter (λk=>(exL.lookup (rest.take k)).isSome)=l/\k7 (l.map λ(k:Nat)=>(k:Int))=some (m:Int))->exL.lookup (rest.take m)=some (c:Int)->yc rest m c:=λrest m c h1 h2=>⟨by rw[t8];exact h1,by rw[t8];exact h2⟩
 cases r with
 |nil=>cases(j:c=8);exact⟨3,key _ _ _ ⟨_,rfl,rfl⟩ rfl,.inr ⟨rfl,rfl⟩⟩
 |cons h t=>
  by_cases h8:c=8
  ·subst h8;have j:h=41\/h=124\/h=38\/h=61\/h=60\/h=62\/h=13\/h=10:=j;rcases j with rfl|rfl|rfl|rfl|rfl|rfl|rfl|rfl<;>cases t<;>exact⟨1,key _ _ _ ⟨_,rfl,rfl⟩ rfl,.inl rfl⟩
  ·have j:h=34\/h=40:=by
    have q:(if c=8 then _ else _):=j;rwa [if_neg h8]at q
   rcases hc with rfl|rfl|rfl|rfl|rfl|rfl|rfl
   ·rcases j with rfl|rfl<;>cases t<;>exact⟨1,key _ _ _ ⟨_,rfl,rfl⟩ rfl,.inl rfl⟩
   ·rcases j with rfl|rfl<;>cases t<;>exact⟨1,key _ _ _ ⟨_,rfl,rfl⟩ rfl,.inl rfl⟩
   ·rcases j with rfl|rfl<;>exact⟨2,key _ _ _ ⟨_,rfl,rfl⟩ rfl,.inl rfl⟩
   ·rcases j with rfl|rfl<;>cases t<;>exact⟨1,key _ _ _ ⟨_,rfl,rfl⟩ rfl,.inl rfl⟩
   ·rcases j with rfl|rfl<;>cases t<;>exact⟨1,key _ _ _ ⟨_,rfl,rfl⟩ rfl,.inl rfl⟩
   ·rcases j with rfl|rfl<;>cases t<;>exact⟨1,key _ _ _ ⟨_,rfl,rfl⟩ rfl,.inl rfl⟩
   ·exact(h8 rfl).elim
structure nl(text:List Nat)(names:List (List Nat))(p:Nat)(done:List Nat)(s:PS'):Prop where
 text:s.ρ.lookup 60=some (.str text)
 names:s.ρ.lookup 32=some (.list (names.map PV.str))
 place:s.ρ.lookup 23=some (pvN p)
 syms:s.ρ.lookup 61=some (.cell 0)
 sto:s.σ=[.list (done.map pvN)]
noncomputable def xU:List PS:=[.ite (.cmp (.sub (.var 60) (.var 23)) [.Eq] [.cstr [34]]) [.assign 62 (.bin (.Add) (.meth (.var 60) 113 [.cstr [34],.bin (.Add) (.var 23) (.cint 1)]) (.cint 1)),.append 61 (.bin (.Add) (.cint 256) (.meth (.var 32) 113 [.slice (.var 60) (some (.bin (.Add) (.var 23) (.cint 1))) (some (.bin (.Sub) (.var 62) (.cint 1))) none]))] [.assign 62 (.bin (.Add) (.var 23) (.max1 (.comp (.var 63) [(false,[63])] [.tuple [.cint 1,.cint 2,.cint 3]] [[.exIn (.slice (.var 60) (some (.var 23)) (some (.bin (.Add) (.var 23) (.var 63))) none)]] [60,23]))),.append 61 (.exGet (.slice (.var 60) (some (.var 23)) (some (.var 62)) none))],.assign 23 (.var 62)]
theorem qh(h:l[p]?=some c)(hl:l.length<=1000):gq (.str l) (pvN p)=some (.str [c]):=by
 have g:p<l.length:=(List.getElem?_eq_some_iff.mp h).1;show(idx l.length (p:Int)).bind (λj=>(l[j]?).map λc=>PV.str [c])=_;have:idx l.length (p:Int)=some p:=by
  unfold idx;rw[if_neg (by lia),if_pos (by lia),if_pos (by lia)];rfl
 rw[this,Option.bind_some,h];rfl
theorem uE{ρ:ar}(h:ρ.lookup x=some (pvN p)):ev F σ (k+2) (.bin (.Add) (.var x) (.cint 1)) ρ=some (pvN (p+1)):=aG (aa h) rfl rfl rfl rfl
theorem hG(h:E e=some (.int i)):evO E (some e)=some (some i):=by
 show(E e).bind _=_;rw[h];rfl
theorem yv(h:ev F σ k a ρ=some (.str l)):ev F σ (k+1) (.exIn a) ρ=some (.bool (exT.lookup l).isSome):=by
 show(ev F σ k a ρ).bind _=_;rw[h];rfl
theorem wV(h:ev F σ k a ρ=some (.str l))(h2:exT.lookup l=some i):ev F σ (k+1) (.exGet a) ρ=some (.int i):=by
 show(ev F σ k a ρ).bind _=_;rw[h];show(exT.lookup l).map _=_;rw[h2];rfl
theorem uu(F:Nat->List PV->Option PV)(lam:Bool)(k:Nat)(pre w r:List Nat)(names:List (List Nat))(i:Nat)(done:List Nat)(t:34∉w)(q:names.findIdx? (·= w)=some i)(f:names.length<=1000)(text:List Nat)(z:text=pre++(34::w++34::r))(hl:text.length<=1000)(hd:done.length<=1000)(s:PS')(j:nl text names pre.length done s):
 ∃s',aU F lam (k+16) xU s=some (.next,s')/\nl text names (pre.length+w.length+2) (done++[256+i]) s':=by
 obtain⟨ρ,σ⟩:=s;cases(j.sto:σ=_);have m:pre.length+w.length+2<=text.length:=by rw[z,List.length_append,List.length_append,List.length_cons,List.length_cons];lia
 have v:text[pre.length]?=some 34:=by rw[z,List.getElem?_append_right (Nr _),Nat.sub_self];rfl
 have g:text.drop (pre.length+1)=w++34::r:=by rw[z,List.drop_append,List.drop_of_length_le (Nat.le_add_right _ _),Nat.add_sub_cancel_left];rfl
 have c:∀k,ev F [.list (done.map pvN)] (k+3) (.cmp (.sub (.var 60) (.var 23)) [.Eq] [.cstr [34]]) ρ=some (.bool true):=λk=>az (aX (aa j.text) rfl (aa j.place) (qh v hl)) rfl rfl;have e:∀k,ev F [.list (done.map pvN)] (k+5) (.bin (.Add) (.meth (.var 60) 113 [.cstr [34],.bin (.Add) (.var 23) (.cint 1)]) (.cint 1)) ρ=some (pvN (pre.length+w.length+2)):=λk=>by
  refine aG (x:=pvN (w.length+(pre.length+1))) (y:=.int 1) (cI (aa j.text) (mm rfl (mm (uE j.place) mm0)) ?_) rfl rfl rfl ?_
  ·show(if 0<=((pre.length+1:Nat):Int)/\((pre.length+1:Nat):Int).toNat<=text.length then(bg [34] (text.drop ((pre.length+1:Nat):Int).toNat)).map _ else none)=_;rw[if_pos ⟨Int.natCast_nonneg _,Nm (Nt (Nat.le_add_right _ _) (Nat.le_add_right _ _)) m⟩,Int.toNat_natCast,g,tB 34 r w t];rfl
  ·show some (PV.int (((w.length+(pre.length+1):Nat):Int)+1))=some (PV.int ((pre.length+w.length+2:Nat):Int));congr 2;exact congrArg (λn:Nat=>(n:Int)+2) (Nat.add_comm _ _)
 have b:∀k,ev F [.list (done.map pvN)] (k+6) (.bin (.Add) (.cint 256) (.meth (.var 32) 113 [.slice (.var 60) (some (.bin (.Add) (.var 23) (.cint 1))) (some (.bin (.Sub) (.var 62) (.cint 1))) none])) ((62,pvN (pre.length+w.length+2))::ρ)=some (pvN (256+i)):=λk=>by
  refine aG (x:=.int 256) (y:=pvN i) rfl rfl (cI (x:=.list (names.map PV.str)) (aa j.names) (mm (bA (x:=.str text) (d:=.str w) (l:=some ((pre.length+1:Nat):Int)) (h:=some ((pre.length+w.length+1:Nat):Int)) (aa j.text) rfl (hG (uE j.place)) (hG (aG (x:=pvN (pre.length+w.length+2)) (y:=.int 1) (aa rfl) rfl rfl rfl ?_)) rfl ?_) mm0) ?_) rfl rfl
  ·show some (PV.int (((pre.length+w.length+2:Nat):Int) - 1))=some (PV.int ((pre.length+w.length+1:Nat):Int));congr 2;exact Int.sub_eq_iff_eq_add.mpr rfl
  ·rw[tH (Nm (Nt (Nat.le_add_right _ _) (Nat.le_add_right _ _)) m) (by simp) (Nt hl (by decide)),g,show pre.length+w.length+1 - (pre.length+1)=w.length by simp,List.take_left]
  ·show(if(names.map PV.str).length<=ag then((names.map PV.str).mapM bZ).bind _ else none)=_;rw[if_pos (by rw[List.length_map];exact Nt f (by decide)),eu,Option.bind_some,q];rfl
 refine⟨_,ao (aM (c _) (λu=>ao (an rfl (e _)) (ao (dF rfl (b _) (congrArg (·.bind aZ) j.syms:aV _ 61=some 0) rfl ?_) aE)) (λh=>nomatch h)) (ao (an rfl (aa rfl)) aE),⟨j.text,j.names,rfl,j.syms,?_⟩⟩
 ·rw[List.length_map];exact Nt hd (by decide)
 ·rw[List.map_append];rfl
theorem yx(F:Nat->List PV->Option PV)(lam:Bool)(k:Nat)(pre rest:List Nat)(names:List (List Nat))(m c:Nat)(done:List Nat)(p:∃a t,rest=a::t/\a≠34/\a<128)(q:yc rest m c)(text:List Nat)(o:text=pre++rest)(hl:text.length<=1000)(hd:done.length<=1000)(s:PS')(g:nl text names pre.length done s):
 ∃s',aU F lam (k+16) xU s=some (.next,s')/\nl text names (pre.length+m) (done++[c]) s':=by
 obtain⟨ρ,σ⟩:=s;cases(g.sto:σ=_);refine aO p λa t J R O=>?_;subst J;have i:text[pre.length]?=some a:=by rw[o,List.getElem?_append_right (Nr _),Nat.sub_self];rfl
 have z:pre.length<=text.length:=by rw[o,List.length_append];exact Nat.le_add_right _ _
 have v:text.drop pre.length=a::t:=by rw[o,List.drop_left]
 have M:∀k,ev F [.list (done.map pvN)] (k+3) (.cmp (.sub (.var 60) (.var 23)) [.Eq] [.cstr [34]]) ρ=some (.bool false):=λk=>az (aX (aa g.text) rfl (aa g.place) (qh i hl)) rfl (by
  show(if((decide (a<1114112)&&true)&&true)=true then some (decide ([a]=[34]))else none)=_;rw[decide_eq_true (show a<1114112 by lia),decide_eq_false (show¬[a]=[34] by simpa using R)];rfl)
 refine af q.pick λl r n=>?_;have K:∀(j k:Nat) (ρ':ar) (e:PE),ρ'.lookup 60=some (.str text)->ρ'.lookup 23=some (pvN pre.length)->ev F [.list (done.map pvN)] k e ρ'=some (pvN (pre.length+j))->ev F [.list (done.map pvN)] (k+1) (.slice (.var 60) (some (.var 23)) (some e) none) ρ'=some (.str ((a::t).take j)):=λj k ρ' e h60 h23 he=>by
  cases k with
  |zero=>exact no he
  |succ k=>
   refine bA (l:=some (pre.length:Int)) (h:=some ((pre.length+j:Nat):Int)) (aa h60) rfl (hG (aa h23)) (hG he) rfl ?_;rw[tH z (Nat.le_add_right _ _) (Nt hl (by decide)),v,Nat.add_sub_cancel_left]
 have L:∀k,ev F [.list (done.map pvN)] (k+9) (.bin (.Add) (.var 23) (.max1 (.comp (.var 63) [(false,[63])] [.tuple [.cint 1,.cint 2,.cint 3]] [[.exIn (.slice (.var 60) (some (.var 23)) (some (.bin (.Add) (.var 23) (.var 63))) none)]] [60,23]))) ρ=some (pvN (pre.length+m)):=λk=>by
  refine aG (x:=pvN pre.length) (y:=.int m) (aa g.place) rfl (na (x:=.list (l.map pvN)) (l:=l.map λ(k:Nat)=>(k:Int)) ?_ rfl ?_ n) rfl rfl
  ·rw[<- r];refine d3 (l:=[1,2,3]) (emb:=pvN) (aF (d:=.tuple [.int 1,.int 2,.int 3]) rfl rfl rfl rfl rfl) (λj u=>?_) (by decide);refine c6 (ρ':=(63,pvN j)::aj [60,23] ρ) (b:=(exT.lookup ((a::t).take j)).isSome) (by rw[List.all_cons,bw rfl];rfl) rfl ?_ (λu=>rfl);exact yv (K j _ ((63,pvN j)::aj [60,23] ρ) _ ((bt rfl _).trans g.text) ((bt rfl _).trans g.place) (aG (x:=pvN pre.length) (y:=pvN j) (aa ((bt rfl _).trans g.place)) rfl (aa rfl) rfl rfl))
  ·exact br (f:=aN) (h:=λ(k:Nat)=>(k:Int)) (λu u=>rfl)
 have P:∀k,ev F [.list (done.map pvN)] (k+3) (.exGet (.slice (.var 60) (some (.var 23)) (some (.var 62)) none)) ((62,pvN (pre.length+m))::ρ)=some (pvN c):=λk=>by
  exact wV (K m _ ((62,pvN (pre.length+m))::ρ) _ g.text g.place (aa rfl)) q.sym
 refine⟨_,ao (aM (M _) (λh=>nomatch h) (λu=>ao (an rfl (L _)) (ao (dF rfl (P _) (congrArg (·.bind aZ) g.syms:aV _ 61=some 0) rfl ?_) aE))) (ao (an rfl (aa rfl)) aE),⟨g.text,g.names,rfl,g.syms,?_⟩⟩
 ·rw[List.length_map];exact Nt hd (by decide)
 ·rw[List.map_append];rfl
noncomputable def opc(c:Nat):Prop:=c=18\/c=19\/c=27\/c=20\/c=21\/c=7\/c=8
noncomputable def kQ(names:List (List Nat))(e:List Nat):List Nat->Prop
 |[]=>e=[]\/e=[10]\/e=[13,10]
 |c::r=>((256<=c/\c - 256<names.length)\/(opc c/\fD c (aq names r++e)))/\kQ names e r
noncomputable def zo:PE:=.boolop true [.cmp (.var 23) [.Lt] [.len (.var 60)],.cmp (.sub (.var 60) (.var 23)) [.NotIn] [.cstr [13,10]]]
theorem kf(F:Nat->List PV->Option PV)(k:Nat)(text:List Nat)(names:List (List Nat))(p:Nat)(done:List Nat)(hl:text.length<=1000)(s:PS')(j:nl text names p done s):
 ev F s.σ (k+5) zo s.ρ=some (.bool (match text[p]? with|none=>false|some a=>![13,10].contains a)):=by
 obtain⟨ρ,σ⟩:=s;cases(j.sto:σ=_);have g:ev F [.list (done.map pvN)] (k+4) (.cmp (.var 23) [.Lt] [.len (.var 60)]) ρ=some (.bool (decide (p<text.length))):=by
  refine az (y:=.int text.length) (aa j.place) (gd (aa j.text) rfl ?_) ?_
  ·show(if text.length<=ag then _ else _)=_;rw[if_pos (Nt hl (by decide))]
  ·show some (decide ((p:Int)<(text.length:Int)))=_;congr 1;exact decide_eq_decide.mpr Int.ofNat_lt
 cases hx:text[p]? with
 |none=>
  rw[decide_eq_false (by have:=List.getElem?_eq_none_iff.mp hx;exact Nat.not_lt_of_le this)]at g;exact bM (eU (a:=false) (b:=false) g (λh=>nomatch h))
 |some a=>
  rw[decide_eq_true (List.getElem?_eq_some_iff.mp hx).1]at g;exact bM (ni g (bW (az (aX (aa j.text) rfl (aa j.place) (qh hx hl)) rfl (congrArg (λb=>some !b) (gY a [13,10])))))
theorem nl.norm{text:List Nat}{names:List (List Nat)}{p:Nat}{done:List Nat}{s:PS'}(h:nl text names p done s):nl text names p done s.norm:=
 ⟨(ac _ _).trans h.text,(ac _ _).trans h.names,(ac _ _).trans h.place,(ac _ _).trans h.syms,h.sto⟩
theorem tU(h:opc c):∃a t,bQ c=a::t/\a≠34/\a<128/\[13,10].contains a=false/\c<256:=by
 rcases h with rfl|rfl|rfl|rfl|rfl|rfl|rfl<;>exact⟨_,_,rfl,by decide,by decide,rfl,by decide⟩
theorem rC(F:Nat->List PV->Option PV)(lam:Bool)(names:List (List Nat))(W:names.length<=1000)(x:names.Nodup)(B:∀w∈names,34∉w)(e text:List Nat)(hl:text.length<=1000):
 ∀(toks pre done:List Nat) (n:Nat) (s:PS'),kQ names e toks->text=pre++(aq names toks++e)->toks.length<n->done.length+toks.length<=1000->nl text names pre.length done s->
  ∃s',bS (λs=>(ev F s.σ 56 zo s.ρ).bind truthy) (aU F lam 56 xU) n s=some (.next,s')/\s'.ρ.lookup 61=some (.cell 0)/\s'.σ=[.list ((done++toks).map pvN)]:=by
 intro toks;induction toks with
 |nil=>
  intro pre done n s O q v hd z;cases n with
  |zero=>cases v
  |succ n=>
   refine⟨s,b6 ?_,z.syms,by rw[List.append_nil];exact z.sto⟩;rw[kf F 51 text names pre.length done hl s z,q,List.getElem?_append_right (Nr _),Nat.sub_self];rcases(O:e=[]\/e=[10]\/e=[13,10])with rfl|rfl|rfl<;>rfl
 |cons c r S=>
  intro pre done n s O q v hd z;rw[List.length_cons]at v hd;cases n with
  |zero=>cases v
  |succ n=>
   refine au O λh1 h2=>?_;have g:=kf F 51 text names pre.length done hl s z;rw[q,List.getElem?_append_right (Nr _),Nat.sub_self]at g;rcases h1 with⟨hc,T⟩|⟨hc,L⟩
   ·obtain⟨w,hw⟩:∃w,names[c - 256]?=some w:=⟨_,List.getElem?_eq_getElem T⟩
    have y:aq names (c::r)=34::w++34::aq names r:=by
     rw[aq,List.flatMap_cons,cv,if_pos hc,List.getD_eq_getElem?_getD,hw];rw[List.append_assoc];rfl
    rw[y]at q g;have M:text=pre++(34::w++34::(aq names r++e)):=by rw[q,List.append_assoc];rfl
    have H:names.findIdx? (·= w)=some (c - 256):=by
     rw[List.findIdx?_eq_some_iff_getElem];refine⟨T,?_,λj E=>?_⟩
     ·have:=(List.getElem?_eq_some_iff.mp hw).2;rw[this];exact decide_eq_true rfl
     ·have b:=(List.getElem?_eq_some_iff.mp hw).2;rw[Bool.not_eq_true,decide_eq_false];intro Q;exact List.pairwise_iff_getElem.mp x j (c - 256) (Nl E (Nat.le_of_lt T)) T E (Q.trans b.symm)
    refine hid λR i=>?_;refine af (uu F lam 40 pre w (aq names r++e) names (c - 256) done (B w (List.mem_of_getElem? hw)) H W text M hl (Nat.le_of_add_right_le hd) s.norm z.norm) λP U u=>?_;have Y:(pre++(34::w++[34])).length=pre.length+w.length+2:=by rw[List.length_append,List.length_append,List.length_cons,List.length_singleton];exact Int.toNat_natCast _
    rw[<- Y,Nat.add_sub_cancel' hc]at u;obtain⟨s',A,C,Z⟩:=S (pre++(34::w++[34])) (done++[c]) n P h2 (by rw[M,List.append_assoc,List.append_assoc];rfl) (Nat.lt_of_succ_lt_succ v) (by rw[List.length_append,List.length_singleton];exact xt hd) u;refine i ?_;clear i R;refine⟨s',?_,C,by rw[Z,List.append_assoc];rfl⟩;rw[cm (by rw[g];rfl) U];exact A
   ·refine yI (tU hc) λa t l h p o J=>?_;have y:aq names (c::r)=bQ c++aq names r:=by
     rw[aq,List.flatMap_cons,cv,if_neg (Nat.not_le_of_lt J)];rfl
    refine hid λR i=>?_;rw[y,List.append_assoc]at q g;refine af (zk hc L) λm K I=>?_;obtain⟨P,U,u⟩:=yx F lam 40 pre (bQ c++(aq names r++e)) names m c done ⟨a,t++(aq names r++e),by rw[l];rfl,h,p⟩ K text q hl (Nat.le_of_add_right_le hd) s.norm z.norm;refine i ?_;clear i R;have f:(match(bQ c++(aq names r++e))[0]? with|none=>false|some a=>![13,10].contains a)=true:=by
     rw[l];show(![13,10].contains a)=true;rw[o];rfl
    rw[f]at g;rcases I with rfl|⟨k,rfl⟩
    ·have Y:(pre++bQ c).length=pre.length+(bQ c).length:=List.length_append;refine hid λR i=>?_;rw[<- Y]at u;obtain⟨s',A,C,Z⟩:=S (pre++bQ c) (done++[c]) n P h2 (by rw[q,List.append_assoc]) (Nat.lt_of_succ_lt_succ v) (by rw[List.length_append,List.length_singleton];exact xt hd) u;refine i ?_;clear i R;refine⟨s',?_,C,by rw[Z,List.append_assoc];rfl⟩;rw[cm (by rw[g];rfl) U];exact A
    ·have N:r=[]:=by
      clear W x B S O hd z h2 hc L l h p o J y f K;cases r with
      |nil=>rfl
      |cons d r=>
       have:aq names (d::r)=[]:=(List.append_eq_nil_iff.mp k).1;rw[aq,List.flatMap_cons]at this;have b:=(List.append_eq_nil_iff.mp this).1;unfold cv at b;split at b
       ·injection b
       ·unfold bQ at b;repeat' split at b
        all_goals injection b
     clear W x B S O hd z h2 hc L l h p o J y f K;subst N;cases n with
     |zero=>exact absurd v (by simp)
     |succ n=>
      refine⟨P,?_,u.syms,by rw[u.sto]⟩;rw[cm (by rw[g];rfl) U];refine b6 ?_;rw[kf F 51 text names _ _ hl P u];have:text[pre.length+3]?=none:=by
       rw[List.getElem?_eq_none_iff,q,k,List.append_nil,List.length_append];have:=pG c;lia
      rw[this];rfl
theorem yq(F:Nat->List PV->Option PV)(names:List (List Nat))(t:names.length<=1000)(g:names.Nodup)(i:∀w∈names,34∉w)(k:Nat)(c:k<5)(toks e:List Nat)(z:6*(aq names toks++e).length<=1000)(j:kQ names e toks)(v:toks.length<=316):
 cS F wX [.str (aP (am k) (aq names toks++e)),.list (names.map PV.str)]=some (pvL (toks++[0])):=by
 refine hid λl m=>?_;obtain⟨s',h1,h2,q⟩:=rC F (wX.f==(105:Nat)) names t g i e (aq names toks++e) (xQ z) toks [] [] 2000 ⟨[(23,.int 0),(61,.cell 0),(30,.str [38]),(58,.str [97,109,112]),(60,.str (aq names toks++e)),(32,.list (names.map PV.str)),(60,.str (aP (am k) (aq names toks++e)))],[.list []]⟩ j rfl (Nm v (by decide)) (by rw[List.length_nil];lia) ⟨rfl,rfl,rfl,rfl,rfl⟩;refine m ?_;clear m l;have b:exS F (wX.f==(105:Nat)) 59 (.unesc 58 30 60 [108,116,32,103,116,32,113,117,111,116,32,35,49,51,32,35,120,68,32,35,49,48,32,35,120,65,32,35,48,57,32,35,120,57,32,97,109,112] 32 [60,62,34,13,13,10,10,9,9,38]) ⟨[(32,.list (names.map PV.str)),(60,.str (aP (am k) (aq names toks++e)))],[]⟩
  = some (.next,⟨[(30,.str [38]),(58,.str [97,109,112]),(60,.str (aq names toks++e)),(32,.list (names.map PV.str)),(60,.str (aP (am k) (aq names toks++e)))],[]⟩):=by
  show((fk++[([97,109,112],38)]).foldlM jQ (aP (am k) (aq names toks++e))).bind _=_;rw[u1 k c _ z];rfl
 have r:ev F s'.σ 55 (.bin (.Add) (.var 61) (.list [.cint 0])) s'.ρ=some (pvL (toks++[0])):=by
  rw[q];refine aG (x:=.cell 0) (x':=pvL toks) (y:=.list [.int 0]) (aa h2) rfl rfl rfl ?_;show(if(toks.map pvN).length+1<=ag then _ else _)=_;rw[if_pos (by rw[List.length_map];exact Nt (Nat.add_le_add_right v 1) (by decide)),pvL,List.map_append];rfl
 refine bX (d:=pvL (toks++[0])) (s':=s') rfl ?_ (ao b (ao (s':=⟨[(23,.int 0),(61,.cell 0),(30,.str [38]),(58,.str [97,109,112]),(60,.str (aq names toks++e)),(32,.list (names.map PV.str)),(60,.str (aP (am k) (aq names toks++e)))],[.list []]⟩) rfl (ao (s':=s') h1 (bT (dd r))))) (gj (λu=>rfl) _) (bz (λu=>rfl) _);rw[List.all_cons,List.all_cons,bz (λu=>rfl)];rfl
structure c9(r:List Nat):Prop where
 len:1<=r.length/\r.length<=3
 le3:∀n∈r,n<=3
noncomputable def aD(r:List Nat):List Nat:=bq [9] (r.map λn=>repL n [32])
noncomputable def turnR(r:List Nat):List Nat:=r.dropLast.reverse++r.drop (r.length - 1)
theorem wN(h:c9 r):c9 (turnR r):=by
 have g:∀n∈turnR r,n∈r:=λn j=>by
  rcases List.mem_append.mp j with q|q
  ·exact(List.dropLast_sublist r).subset (List.mem_reverse.mp q)
  ·exact List.mem_of_mem_drop q
 refine⟨?_,λn j=>h.le3 n (g n j)⟩;have:=h.len;rw[turnR,List.length_append,List.length_reverse,List.length_dropLast,List.length_drop];simpa using this
theorem wf(F:Nat->List PV->Option PV)(σ:List Sto)(ρ:ar)(k x:Nat)(c:Int)(d:Int)(j:ρ.lookup x=some (.int c))(hc:0<=c/\c<1000000)(hd:0<d/\d<10000):
 ∃n:Nat,n<=3/\ev F σ (k+3) (.bin (.Mod) (.bin (.FloorDiv) (.var x) (.cint d)) (.cint 4)) ρ=some (pvN n):=by
 refine⟨(c / d % 4).toNat,Int.toNat_le.mpr (Int.le_of_lt_add_one (Int.emod_lt_of_pos _ (by decide))),aG (x:=.int (c / d)) (y:=.int 4) (aG (x:=.int c) (y:=.int d) (aa j) rfl rfl rfl ?_) rfl rfl rfl ?_⟩
 ·show((if 0<d/\d<10000/\c.natAbs<1000000000 then some (c / d)else none).map PV.int)=_;rw[if_pos ⟨hd.1,hd.2,Int.ofNat_lt.mp (by rw[Int.natAbs_of_nonneg hc.1];exact Int.lt_trans hc.2 (by decide))⟩];rfl
 ·show((if(0:Int)<4/\(4:Int)<10000 then some (c / d % 4)else none).map PV.int)=_;rw[if_pos (by decide)];show some (PV.int _)=some (PV.int _);congr 2;exact(Int.toNat_of_nonneg (Int.emod_nonneg _ (by decide))).symm
theorem x7(F:Nat->List PV->Option PV)(σ:List Sto)(ρ:ar)(k:Nat)(c:Int)(g:ρ.lookup 21=some (.int c))(hc:0<=c/\c<1000000):
 ∃r,c9 r/\ev F σ (k+8) (.bin (.Add) (.slice (.list [.bin (.Mod) (.bin (.FloorDiv) (.var 21) (.cint 3)) (.cint 4),.bin (.Mod) (.bin (.FloorDiv) (.var 21) (.cint 12)) (.cint 4)]) none (some (.bin (.Mod) (.var 21) (.cint 3))) none) (.list [.bin (.Mod) (.bin (.FloorDiv) (.var 21) (.cint 48)) (.cint 4)])) ρ=some (pvL r):=by
 refine af (wf F σ ρ (k+3) 21 c 3 g hc (by decide)) λa t v=>?_;refine af (wf F σ ρ (k+3) 21 c 12 g hc (by decide)) λb o z=>?_;refine af (wf F σ ρ (k+3) 21 c 48 g hc (by decide)) λd hd u=>?_;have i:ev F σ (k+6) (.bin (.Mod) (.var 21) (.cint 3)) ρ=some (.int (c % 3)):=aG (x:=.int c) (y:=.int 3) (aa g) rfl rfl rfl rfl;have key:∀l:List Nat,(∀n∈l,n<=3)->l.length<=2->slP (.list [pvN a,pvN b]) none (some (c % 3)) none=some (pvL l)->c9 (l++[d])/\ev F σ (k+8) (.bin (.Add) (.slice (.list [.bin (.Mod) (.bin (.FloorDiv) (.var 21) (.cint 3)) (.cint 4),.bin (.Mod) (.bin (.FloorDiv) (.var 21) (.cint 12)) (.cint 4)]) none (some (.bin (.Mod) (.var 21) (.cint 3))) none) (.list [.bin (.Mod) (.bin (.FloorDiv) (.var 21) (.cint 48)) (.cint 4)])) ρ=some (pvL (l++[d])):=by
  intro l hl m e;refine⟨⟨by rw[List.length_append,List.length_singleton];simpa using m,λn j=>?_⟩,aG (x:=pvL l) (y:=.list [pvN d]) (bA (h:=some (c % 3)) (fi (mm v (mm z mm0))) rfl rfl ?_ rfl e) rfl (fi (mm u mm0)) rfl ?_⟩
  ·rcases List.mem_append.mp j with q|q
   ·exact hl n q
   ·clear g hc v z u hl e;obtain rfl:=List.mem_singleton.mp q;exact hd
  ·show(ev F σ (k+6) _ ρ).bind _=_;rw[i];rfl
  ·show(if(l.map pvN).length+1<=ag then _ else _)=_;rw[if_pos (by rw[List.length_map];exact Nt (Nat.add_le_add_right m 1) (by decide)),pvL,List.map_append];rfl
 have f:c % 3=0\/c % 3=1\/c % 3=2:=by lia
 rcases f with h|h|h<;>rw[h]at key
 ·exact⟨_,key [] (λn j=>nomatch j) (by decide) rfl⟩
 ·exact⟨_,key [a] (λn j=>by obtain rfl:=List.mem_singleton.mp j;exact t) (by decide:1<=2) rfl⟩
 ·refine⟨_,key [a,b] (λn j=>?_) (Nr 2) rfl⟩;clear g hc v z hd u i key h;cases j with
  |head=>exact t
  |tail _ j=>obtain rfl:=List.mem_singleton.mp j;exact o
theorem oG{l:List PV}(h:l.length<=1000):k4 (l++[d]) (.int (-1))=some d:=by
 show(idx (l++[d]).length (-1)).bind _=_;have:idx (l++[d]).length (-1)=some l.length:=by
  unfold idx;rw[List.length_append,List.length_singleton,if_neg (by decide),if_neg (by decide),if_pos (Rat.intCast_le_intCast.mp rfl)];congr 1;exact zt
 rw[this];show(l++[d])[l.length]?=_;rw[List.getElem?_append_right (Nr _),Nat.sub_self];rfl
theorem eO(l:List PV)(m:Nat)(u j st:Option Int)(g:st≠some 0)(z:l.length=m)(h:l.length<=ag)(v:List Nat)(y:Builtin.Str.strSliceIndices u j (st.getD 1) m=v):slP (.list l) u j st=some (.list (v.filterMap (l[·]?))):=by
 show(if l.length<=ag then(if st=some 0 then none else some ((Builtin.Str.strSliceIndices u j (st.getD 1) l.length).filterMap (l[·]?))).map PV.list else none)=_;rw[if_pos h,if_neg g,z,y];rfl
theorem wq(F:Nat->List PV->Option PV)(σ:List Sto)(ρ:ar)(k:Nat)(rs:List (List Nat))(r:List Nat)(m:c9 r)(g:ρ.lookup 20=some (.cell 0))(u:σ=[.list (rs.map pvL++[pvL r])])(hl:rs.length<=1000):
 ev F σ (k+8) (.bin (.Add) (.slice (.slice (.sub (.var 20) (.neg (.cint 1))) none (some (.neg (.cint 1))) none) none none (some (.neg (.cint 1)))) (.slice (.sub (.var 20) (.neg (.cint 1))) (some (.neg (.cint 1))) none none)) ρ=some (pvL (turnR r)):=by
 subst u;have j:∀k,ev F [.list (rs.map pvL++[pvL r])] (k+3) (.sub (.var 20) (.neg (.cint 1))) ρ=some (pvL r):=λk=>aX (aa g) rfl rfl (oG (by rw[List.length_map];exact hl));obtain⟨⟨h1,h2⟩,_⟩:=m;match r,h1,h2,j with
 |[a],_,_,j=>exact aG (x:=pvL []) (y:=pvL [a]) (bA (s:=some (-1)) (bA (h:=some (-1)) (j _) rfl rfl rfl rfl (d:=pvL []) rfl) rfl rfl rfl rfl rfl) rfl (bA (l:=some (-1)) (j _) rfl rfl rfl rfl (eO [pvN a] 1 (some (-1)) none none (by decide) rfl (by decide:1<=ag) [0] rfl)) rfl rfl
 |[a,b],_,_,j=>exact aG (x:=pvL [a]) (y:=pvL [b]) (bA (s:=some (-1)) (bA (h:=some (-1)) (j _) rfl rfl rfl rfl (d:=pvL [a]) (eO [pvN a,pvN b] 2 none (some (-1)) none (by decide) rfl (by decide:2<=ag) [0] rfl)) rfl rfl rfl rfl (eO [pvN a] 1 none none (some (-1)) (by decide) rfl (by decide:1<=ag) [0] rfl)) rfl (bA (l:=some (-1)) (j _) rfl rfl rfl rfl (eO [pvN a,pvN b] 2 (some (-1)) none none (by decide) rfl (by decide:2<=ag) [1] rfl)) rfl rfl
 |[a,b,c],_,_,j=>exact aG (x:=pvL [b,a]) (y:=pvL [c]) (bA (s:=some (-1)) (bA (h:=some (-1)) (j _) rfl rfl rfl rfl (d:=pvL [a,b]) (eO [pvN a,pvN b,pvN c] 3 none (some (-1)) none (by decide) rfl (by decide:3<=ag) [0,1] rfl)) rfl rfl rfl rfl (eO [pvN a,pvN b] 2 none none (some (-1)) (by decide) rfl (by decide:2<=ag) [1,0] rfl)) rfl (bA (l:=some (-1)) (j _) rfl rfl rfl rfl (eO [pvN a,pvN b,pvN c] 3 (some (-1)) none none (by decide) rfl (by decide:3<=ag) [2] rfl)) rfl rfl
structure qT(n:Nat)(s:PS'):Prop where
 c20:s.ρ.lookup 20=some (.cell 0)
 rows:∃rs:List (List Nat),s.σ=[.list (rs.map pvL)]/\rs.length=n/\∀r∈rs,c9 r
noncomputable def y3:List PS:=[.assign 22 (.bin (.Add) (.slice (.list [.bin (.Mod) (.bin (.FloorDiv) (.var 21) (.cint 3)) (.cint 4),.bin (.Mod) (.bin (.FloorDiv) (.var 21) (.cint 12)) (.cint 4)]) none (some (.bin (.Mod) (.var 21) (.cint 3))) none) (.list [.bin (.Mod) (.bin (.FloorDiv) (.var 21) (.cint 48)) (.cint 4)])),.append 20 (.ite (.boolop true [.cmp (.bin (.Mod) (.bin (.FloorDiv) (.var 21) (.cint 192)) (.cint 4)) [.Eq] [.cint 3],.cmp (.var 20) [.NotEq] [.list []]]) (.bin (.Add) (.slice (.slice (.sub (.var 20) (.neg (.cint 1))) none (some (.neg (.cint 1))) none) none none (some (.neg (.cint 1)))) (.slice (.sub (.var 20) (.neg (.cint 1))) (some (.neg (.cint 1))) none none)) (.var 22))]
theorem rk(F:Nat->List PV->Option PV)(lam:Bool)(k n:Nat)(b:n<=100)(c:Int)(hc:0<=c/\c<1000000)(s:PS')(y:qT n s)(g:s.ρ.lookup 21=some (.int c)):
 ∃s',aU F lam (k+20) y3 s=some (.next,s')/\qT (n+1) s'/\s'.ρ.lookup 19=s.ρ.lookup 19:=by
 obtain⟨ρ,σ⟩:=s;refine bd y.rows λrs M j t=>?_;cases(M:σ=_);refine af (x7 F [.list (rs.map pvL)] ρ (k+10) c g hc) λr O K=>?_;refine af (wf F [.list (rs.map pvL)] ((22,pvL r)::ρ) (k+10) 21 c 192 g hc (by decide)) λm J o=>?_;have v:cU [.list (rs.map pvL)] .NotEq (.cell 0) (.list [])=some (!rs.isEmpty):=by
  show(if(true:Bool)=true then(eqP (.list (rs.map pvL)) (.list [])).map (!·)else none)=_;rw[if_pos rfl];show((if ai 9 (.list (rs.map pvL))&&ai 9 (.list [])then some (eqB (.list (rs.map pvL)) (.list []))else none):Option Bool).map _=_;rw[im (λp=>el ..)];clear hc g J;cases rs<;>rfl
 have a:ev F [.list (rs.map pvL)] (k+16) (.boolop true [.cmp (.bin (.Mod) (.bin (.FloorDiv) (.var 21) (.cint 192)) (.cint 4)) [.Eq] [.cint 3],.cmp (.var 20) [.NotEq] [.list []]]) ((22,pvL r)::ρ)=some (.bool (decide ((m:Int)=3)&&!rs.isEmpty)):=
  bM (eU (az (k:=k+14) o rfl rfl) (λu=>bW (az (k:=k+14) (aa y.c20) rfl v)))
 have z:∀d,c9 d->ev F [.list (rs.map pvL)] (k+17) (.ite (.boolop true [.cmp (.bin (.Mod) (.bin (.FloorDiv) (.var 21) (.cint 192)) (.cint 4)) [.Eq] [.cint 3],.cmp (.var 20) [.NotEq] [.list []]]) (.bin (.Add) (.slice (.slice (.sub (.var 20) (.neg (.cint 1))) none (some (.neg (.cint 1))) none) none none (some (.neg (.cint 1)))) (.slice (.sub (.var 20) (.neg (.cint 1))) (some (.neg (.cint 1))) none none)) (.var 22)) ((22,pvL r)::ρ)=some (pvL d)->∃s',aU F lam (k+20) y3 ⟨ρ,[.list (rs.map pvL)]⟩=some (.next,s')/\qT (n+1) s'/\s'.ρ.lookup 19=ρ.lookup 19:=λd i x=>
  ⟨(PS'.bind ⟨ρ,[.list (rs.map pvL)]⟩ 22 (pvL r)).set 0 (.list (rs.map pvL++[pvL d])),ao (an rfl K) (ao (dF rfl x (congrArg (·.bind aZ) y.c20:aV _ 20=some 0) rfl (by rw[List.length_map];exact Nt (j▸b) (by decide))) aE),⟨y.c20,rs++[d],by rw[List.map_append];rfl,by rw[List.length_append,j];rfl,λq L=>by
   rcases List.mem_append.mp L with f|f
   ·exact t q f
   ·clear b hc g K J o x L;obtain rfl:=List.mem_singleton.mp f;exact i⟩,rfl⟩
 by_cases ht:(decide ((m:Int)=3)&&!rs.isEmpty)=true
 ·have v:rs≠[]:=λe=>by rw[e]at ht;exact absurd (ba ht).2 (by decide)
  obtain⟨q,l,rfl⟩:∃q l,rs=q++[l]:=⟨rs.dropLast,rs.getLast v,(List.dropLast_concat_getLast v).symm⟩
  have hl:=t l (List.mem_append_right _ (.head _));refine z (turnR l) (wN hl) (gW a (λu=>wq F _ _ (k+8) q l hl y.c20 (by rw[List.map_append];rfl) ?_) (λh=>by rw[ht]at h;injection h));rw[List.length_append,List.length_singleton]at j;exact Nt (Nat.le_succ _) (Nt (Ne0 j) (Nt b (by decide)))
 ·exact z r O (gW a (λh=>(ht h).elim) (λu=>aa rfl))
theorem zG(j:ev F σ k a ρ=some x)(g:res σ x=some x')(h1:ik x'=some l)(h2:wO l=some d):ev F σ (k+1) (.sum a) ρ=some d:=by
 show(rs σ (ev F σ k a ρ)).bind _=_;rw[j,rs,Option.bind_some,g,Option.bind_some,h1];exact h2
theorem vU(j:ev F σ k e ρ=some (.tuple l)):aQ F σ al (k+1) (.enum e) ρ=some (uL l):=by
 show qd (ev F σ k e ρ)=_;rw[j];rfl
theorem rO(h:E e=some (.int i)):evO E (some e)=some (some i):=by
 show(E e).bind _=_;rw[h];rfl
theorem vX{a b:Int}(g:0<=a)(j:b<=60):(if a<b then(b - a+6 - 1) / 6 else 0).toNat<=11:=by split<;>omega
theorem q5(p n:Nat):(Builtin.Str.strSliceIndices (some (p:Int)) (some 60) 6 n).length<=11:=by
 simp only[Builtin.Str.strSliceIndices,sliceRange,List.length_map,List.length_range,show((6:Int)>0)=True from by simp,if_true];exact vX (Int.le_max_left ..) (Int.max_le.mpr ⟨by decide,Int.le_trans (Int.min_le_left ..) (Int.le_refl 60)⟩)
noncomputable def cX(script:List Int)(q:Nat×Int):Int:=q.2+(((Builtin.Str.strSliceIndices (some (q.1:Int)) (some 60) 6 script.length).filterMap (script[·]?)).map (·% 5040)).sum
theorem sQ(l:List Int):0<=(l.map λi:Int=>i % 5040).sum/\(l.map λi:Int=>i % 5040).sum<=5040*(l.length:Int):=by
 induction l with
 |nil=>exact⟨Int.le_refl _,Int.le_refl _⟩
 |cons a l j=>rw[List.map_cons,List.sum_cons,List.length_cons];exact⟨Int.add_nonneg (Int.emod_nonneg _ (by decide)) j.1,by rw[Int.natCast_add,Int.mul_add,Int.add_comm];exact Int.add_le_add j.2 (Int.le_of_lt (Int.emod_lt_of_pos _ (by decide)))⟩
theorem li(f:α->β)(l:List α)(g:List Nat):g.filterMap ((l.map f)[·]?)=(g.filterMap (l[·]?)).map f:=by
 induction g with
 |nil=>rfl
 |cons j g m=>
  rw[List.filterMap_cons,List.filterMap_cons,List.getElem?_map,m];cases l[j]?<;>rfl
theorem vJ(F:Nat->List PV->Option PV)(σ:List Sto)(k:Nat)(g:List Int)(c:g.length<=63)(q:Nat×Int)(ρ:ar)(z:ρ.lookup 18=some (.list (g.map .int)))(v:ρ.lookup 23=some (pvN q.1))(r:ρ.lookup 24=some (.int q.2)):
 ev F σ (k+12) (.bin (.Add) (.var 24) (.sum (.comp (.bin (.Mod) (.var 16) (.cint 5040)) [(false,[16])] [.slice (.var 18) (some (.var 23)) (some (.cint 60)) (some (.cint 6))] [[]] []))) ρ=some (.int (cX g q)):=by
 have m:((Builtin.Str.strSliceIndices (some (q.1:Int)) (some 60) 6 g.length).filterMap (g[·]?)).length<=11:=Nt (List.length_filterMap_le ..) (q5 ..);refine aG (x:=.int q.2) (y:=.int (((Builtin.Str.strSliceIndices (some (q.1:Int)) (some 60) 6 g.length).filterMap (g[·]?)).map (·% 5040)).sum) (aa r) rfl (zG (x:=.list (((Builtin.Str.strSliceIndices (some (q.1:Int)) (some 60) 6 g.length).filterMap (g[·]?)).map λi=>.int (i % 5040))) (l:=((Builtin.Str.strSliceIndices (some (q.1:Int)) (some 60) 6 g.length).filterMap (g[·]?)).map (·% 5040)) ?_ rfl ?_ ?_) rfl rfl
 ·refine cf (emb:=.int) (aF rfl (bA (s:=some 6) (h:=some 60) (l:=some (q.1:Int)) (d:=.list (((Builtin.Str.strSliceIndices (some (q.1:Int)) (some 60) 6 g.length).filterMap (g[·]?)).map .int)) (aa z) rfl (rO (aa v)) rfl rfl ?_) rfl rfl rfl) (λi u=>b4 (ρ':=[(16,.int i)]) (by rw[bB];rfl) (by rw[bB];rfl) (aG (x:=.int i) (y:=.int 5040) rfl rfl rfl rfl rfl)) (Nt m (by decide));rw[eO _ g.length _ _ _ (by decide) (List.length_map ..) (by rw[List.length_map];exact Nt c (by decide)) _ rfl,<- li];rfl
 ·exact br (f:=aN) (emb:=λi=>PV.int (i % 5040)) (h:=(·% 5040)) (λu u=>rfl)
 ·show(if _/\_ then _ else _)=_;rw[if_pos];refine⟨by rw[List.length_map];exact Nt m (by decide),?_⟩;rw[List.all_eq_true];intro i e;refine af (List.mem_map.mp e) λj b t=>?_;clear c z v r m e b;subst t;refine decide_eq_true ?_;exact Int.ofNat_lt.mp (by rw[Int.natAbs_of_nonneg (Int.emod_nonneg _ (by decide))];exact Int.lt_trans (Int.emod_lt_of_pos _ (by decide)) (by decide))
theorem q6(j:List Int)(q:Nat×Int)(g:0<=q.2/\q.2<=1000):0<=cX j q/\cX j q<1000000:=by
 have h1:((Builtin.Str.strSliceIndices (some (q.1:Int)) (some 60) 6 j.length).filterMap (j[·]?)).length<=11:=Nt (List.length_filterMap_le ..) (q5 ..);have h2:=sQ ((Builtin.Str.strSliceIndices (some (q.1:Int)) (some 60) 6 j.length).filterMap (j[·]?));unfold cX;exact⟨Int.add_nonneg g.1 h2.1,Int.lt_of_le_of_lt (Int.add_le_add g.2 (Int.le_trans h2.2 (Int.mul_le_mul_of_nonneg_left (Int.ofNat_le.mpr h1) (by decide)))) (by decide)⟩
noncomputable def eR:List (Nat×Int):=[(0,5),(1,576),(2,96),(3,83),(4,103),(5,16)]
theorem wP(F:Nat->List PV->Option PV)(σ:List Sto)(k:Nat)(r:List Nat)(g:c9 r)(ρ:ar)(u:ρ.lookup 25=some (pvL r)):
 ev F σ (k+8) (.meth (.cstr [9]) 111 [.comp (.bin (.Mult) (.cstr [32]) (.var 26)) [(false,[26])] [.var 25] [[]] []]) ρ=some (.str (aD r)):=by
 have hc:ev F σ (k+7) (.comp (.bin (.Mult) (.cstr [32]) (.var 26)) [(false,[26])] [.var 25] [[]] []) ρ=some (.list ((r.map λn=>repL n [32]).map .str)):=by
  rw[List.map_map];refine cf (emb:=pvN) (aF rfl (aa u) rfl rfl rfl) (λn t=>b4 (ρ':=[(26,pvN n)]) (by rw[bB];rfl) (by rw[bB];rfl) (aG (x:=.str [32]) (y:=pvN n) rfl rfl rfl rfl ?_)) (Nt g.len.2 (by decide));have:=g.le3 n t;show(if(n:Int).natAbs<=1000/\1<=10 then _ else _)=_;rw[if_pos ⟨Nt this (Nat.le_add_left _ _),by decide⟩,Int.toNat_natCast];rfl
 refine cI (x:=.str [9]) rfl (mm hc mm0) ?_;show(((r.map λn=>repL n [32]).map PV.str).mapM bZ).bind _=_;rw[eu];show(if _/\_/\_ then _ else _)=_;have j:∀l:List Nat,(∀n∈l,n<=3)->((l.map λn=>repL n [32]).map List.length).sum<=3*l.length:=by
  intro l;induction l with
  |nil=>intro _;exact Nr _
  |cons n l z=>
   intro h;have h1:=z λm q=>h m (.tail _ q);have h2:(repL n [32]).length=n:=by
    unfold repL;rw[List.length_flatten,List.map_replicate,List.sum_replicate_nat];simp
   have v:=h n (.head _);rw[List.map_cons,List.map_cons,List.sum_cons,List.length_cons];exact Nt (Ne0 (Nat.add_comm _ _)) (Na h1 (Nt (Ne0 h2) v))
 rw[if_pos]
 ·rfl
 ·have:=g.len;refine⟨by decide,by rw[List.length_map,List.length_map];exact Nt this.2 (Nat.le_add_left _ _),Nt (j r g.le3) ?_⟩;exact Nt (Nat.mul_le_mul_left 3 this.2) (by decide)
theorem tO(F:Nat->List PV->Option PV)(j:List Int)(o:j.length<=63):∃(rows:List (List Nat)) (v:Nat),rows.length=5/\(∀r∈rows,c9 r)/\v<1000000/\cS F xO [.list (j.map .int)]=some (.tuple [.list ((rows.map aD).map PV.str),pvN v]):=by
 have p:ev F [] 58 (.comp (.bin (.Add) (.var 24) (.sum (.comp (.bin (.Mod) (.var 16) (.cint 5040)) [(false,[16])] [.slice (.var 18) (some (.var 23)) (some (.cint 60)) (some (.cint 6))] [[]] []))) [(true,[23,24])] [.enum (.tuple [.cint 5,.cint 576,.cint 96,.cint 83,.cint 103,.cint 16])] [[]] [18]) [(18,.list (j.map .int))]=some (.list ((eR.map (cX j)).map .int)):=by
  rw[List.map_map];exact cf (l:=eR) (emb:=λq=>.tuple [pvN q.1,.int q.2]) (vU (l:=[.int 5,.int 576,.int 96,.int 83,.int 103,.int 16]) rfl) (λq u=>b4 (ρ':=[(24,.int q.2),(23,pvN q.1),(18,.list (j.map .int))]) rfl rfl (vJ F [] _ j o q _ rfl rfl rfl)) (by decide)
 have O:∀q∈eR,0<=q.2/\q.2<=1000:=by decide
 have z:∀c∈((eR.take 5).map (cX j)),0<=c/\c<1000000:=λc hc=>by
  refine af (List.mem_map.mp hc) λq P k=>?_;clear o hc;subst k;exact q6 j q (O q (List.mem_of_mem_take P))
 have g:=q6 j (5,16) (by decide);obtain⟨s',h1,y,t⟩:=eE (body:=aU F (xO.f==(105:Nat)) 56 y3) (tup:=false) (xs:=[21]) (emb:=.int) (λpre s=>qT pre.length s/\s.ρ.lookup 19=some (.list ((eR.map (cX j)).map .int))) ((eR.take 5).map (cX j)) (λpre c n s e y=>by
  refine au y λy t=>?_;have m:=congrArg List.length e;rw[List.length_append,List.length_cons]at m;have L:((eR.take 5).map (cX j)).length=5:=rfl;obtain⟨s',R,M,K⟩:=rk F _ 36 pre.length (Nt (Nt (Nat.le_add_right _ _) (Ne0 (m.symm.trans L))) (by decide)) c (z c (by rw[e];exact List.mem_append_right _ (.head _))) {s with ρ:=norm ((21,.int c)::s.ρ)} ⟨(ac _ _).trans y.c20,y.rows⟩ ((ac _ _).trans rfl);exact⟨_,s',rfl,R,by rw[List.length_append];exact M,K.trans ((ac _ _).trans t)⟩) ⟨[(20,.cell 0),(19,.list ((eR.map (cX j)).map .int)),(18,.list (j.map .int))],[.list []]⟩ ⟨⟨rfl,[],rfl,rfl,λr h=>(nomatch h)⟩,rfl⟩
 obtain⟨ρ,σ⟩:=s';refine bd y.rows λrs T hl i=>?_;cases(T:σ=_);have S:ev F [.list (rs.map pvL)] 54 (.comp (.meth (.cstr [9]) 111 [.comp (.bin (.Mult) (.cstr [32]) (.var 26)) [(false,[26])] [.var 25] [[]] []]) [(false,[25])] [.var 20] [[]] []) ρ=some (.list ((rs.map aD).map PV.str)):=by
  rw[List.map_map];exact cf (emb:=pvL) (aF (d:=.cell 0) rfl (aa y.c20) rfl rfl rfl) (λr a=>b4 (ρ':=[(25,pvL r)]) (by rw[bB];rfl) (by rw[bB];rfl) (wP F _ _ r (i r a) _ rfl)) (by rw[hl];exact(by decide:5<=ag))
 have x:ev F [.list (rs.map pvL)] 54 (.sub (.var 19) (.cint 5)) ρ=some (pvN (cX j (5,16)).toNat):=by
  refine aX (aa t) rfl rfl (?_:some (PV.int (cX j (5,16)))=_);congr 2;exact(Int.toNat_of_nonneg g.1).symm
 have J:ev F [.list []] 55 (.slice (.var 19) none (some (.cint 5)) none) [(20,.cell 0),(19,.list ((eR.map (cX j)).map .int)),(18,.list (j.map .int))]=some (.list (((eR.take 5).map (cX j)).map .int)):=
  bA (h:=some 5) (aa rfl) rfl rfl rfl rfl (eO ((eR.map (cX j)).map .int) 6 none (some 5) none (by decide) rfl (by decide:6<=ag) [0,1,2,3,4] rfl)
 have b:aH 7 (.list ((rs.map aD).map PV.str))=true:=bz (λu=>rfl) _;refine⟨rs,(cX j (5,16)).toNat,hl,i,by simp[g],bX (d:=.tuple [.list ((rs.map aD).map PV.str),pvN (cX j (5,16)).toNat]) rfl ?_ (ao (an rfl p) (ao og (ao (hF (aF rfl J rfl rfl rfl) (λd u=>rfl) h1) (bT (dd (dg (mm S (mm x mm0)))))))) ?_ ?_⟩
 ·rw[List.all_cons,bz (λu=>rfl)];rfl
 ·show(([PV.list _,pvN _]:List PV).mapM (freeze _ 9)).map _=_;rw[aw (gj (λu=>rfl) _) (aw rfl rfl)];rfl
 ·show(aH 7 (.list ((rs.map aD).map PV.str))&&true)=true;rw[b];rfl
structure WS where
 cs:List Nat
 b:Nat
 n:Nat
 nt:Nat
noncomputable def gK(l:List Nat)(b:Nat):List Nat:=if l.length<=b then l++repL (b - l.length+1) [0]else l
noncomputable def tD(l:List Nat)(b:Nat):List Nat:=(gK l b).set b ((gK l b).getD b 0+1)
noncomputable def dB(w:WS)(ch:Nat):WS:=if ch=32 then⟨w.cs,w.b+1,w.n+1,w.nt⟩else⟨tD w.cs w.b,0,w.n+1,w.nt+1⟩
structure eq(text:List Nat)(w:WS)(s:PS'):Prop where
 r0:s.ρ.lookup 0=some (.cell 0)
 r2:s.ρ.lookup 2=some (.str [32])
 r3:s.ρ.lookup 3=some (.str [9])
 r5:s.ρ.lookup 5=some (pvN w.b)
 r6:s.ρ.lookup 6=some (pvN w.n)
 r7:s.ρ.lookup 7=some (pvN w.nt)
 raw:s.σ[0]?=some (.obj [(82,.str text)])
 r4:∃m,s.ρ.lookup 4=some (.cell m)/\m≠0/\s.σ[m]?=some (.list (w.cs.map pvN))
noncomputable def yT:List PS:=[.assign 6 (.bin (.Add) (.var 6) (.cint 1)),.assign 7 (.bin (.Add) (.var 7) (.cint 1)),.ite (.cmp (.var 5) [.GtE] [.len (.var 4)]) [.assign 4 (.freshAdd (.var 4) (.bin (.Mult) (.list [.cint 0]) (.bin (.Add) (.bin (.Sub) (.var 5) (.len (.var 4))) (.cint 1))))] [],.setSub 4 (.var 5) (.bin (.Add) (.sub (.var 4) (.var 5)) (.cint 1)),.assign 5 (.cint 0)]
noncomputable def iR:List PS:=[.ite (.cmp (.var 8) [.Eq] [.var 2]) [.assign 6 (.bin (.Add) (.var 6) (.cint 1)),.assign 5 (.bin (.Add) (.var 5) (.cint 1))] [.ite (.cmp (.var 8) [.Eq] [.var 3]) yT [.brk]]]
theorem tT{s:PS'}(j:ev F s.σ k e s.ρ=some d)(hc:aV s x=some n)(u:ev F s.σ k ie s.ρ=some (pvN i))(m:s.σ[n]?=some (.list l))(g:i<l.length)(hl:l.length<=1000):
 exS F lam (k+1) (.setSub x ie e) s=some (.next,s.set n (.list (l.set i d))):=by
 show(ev F s.σ k e s.ρ).bind _=_;rw[j];rw[hc];rw[u];show(s.σ[n]?).bind _=_;rw[m];show(idx l.length (i:Int)).bind _=_;have:idx l.length (i:Int)=some i:=by
  unfold idx;rw[if_neg (by lia),if_pos (by lia),if_pos (by lia)];rfl
 rw[this];show(if l.length<=ag/\(0:Int)<=(i:Int)then _ else _)=_;rw[if_pos ⟨Nt hl (by decide),by lia⟩];rfl
theorem vG{s:PS'}(v:ev F s.σ k a s.ρ=some x)(m:res s.σ x=some (.list g))(u:ev F s.σ k b s.ρ=some (.list j))(hl:g.length+j.length<=ag):
 exS F lam (k+1) (.assign y (.freshAdd a b)) s=some (.next,(s.add (.list (g++j))).bind y (.cell s.σ.length)):=by
 show(Option.bind ((rs s.σ (ev F s.σ k a s.ρ)).bind λx=>(cC x).bind λg=>(rs s.σ (ev F s.σ k b s.ρ)).bind λy=>(cC y).bind λj=>if g.length+j.length<=ag then some (PV.cell s.σ.length,s.add (.list (g++j)))else none) _)=_;rw[v,rs,Option.bind_some,m,u];show(Option.bind (if g.length+j.length<=ag then _ else _) _)=_;rw[if_pos hl];rfl
theorem um(f:α->β)(n:Nat)(l:List α):(repL n l).map f=repL n (l.map f):=by
 unfold repL;rw[List.map_flatten,List.map_replicate]
theorem jR(n:Nat)(a:α):(repL n [a]).length=n:=by
 unfold repL;rw[List.length_flatten,List.map_replicate,List.sum_replicate_nat];simp
theorem lh{ρ:ar}(h:ρ.lookup x=some (pvN p)):ev F σ (k+2) (.bin (.Add) (.var x) (.cint 1)) ρ=some (pvN (p+1)):=aG (aa h) rfl rfl rfl rfl
theorem mJ(h:l[i]?=some d)(hl:l.length<=1000):k4 l (pvN i)=some d:=by
 have j:i<l.length:=(List.getElem?_eq_some_iff.mp h).1;show(idx l.length (i:Int)).bind _=_;have:idx l.length (i:Int)=some i:=by
  unfold idx;rw[if_neg (by lia),if_pos (by lia),if_pos (by lia)];rfl
 rw[this];exact h
theorem vM(F:Nat->List PV->Option PV)(lam:Bool)(k:Nat)(text:List Nat)(w:WS)(s:PS')(j:eq text w s)(g:s.ρ.lookup 8=some (.str [32])):∃s',aU F lam (k+10) iR s=some (.next,s')/\eq text (dB w 32) s':=by
 obtain⟨ρ,σ⟩:=s;have m:∀k,ev F σ (k+2) (.cmp (.var 8) [.Eq] [.var 2]) ρ=some (.bool true):=λk=>az (aa g) (aa j.r2) rfl;exact⟨_,ao (aM (m _) (λu=>ao (an rfl (lh j.r6)) (ao (an rfl (lh j.r5)) aE)) (λh=>nomatch h)) aE,j.r0,j.r2,j.r3,rfl,rfl,j.r7,j.raw,j.r4⟩
theorem ut(F:Nat->List PV->Option PV)(lam:Bool)(k:Nat)(text:List Nat)(w:WS)(d:w.cs.length<=100/\w.b<=100)(s:PS')(g:eq text w s)(K:s.ρ.lookup 8=some (.str [9])):∃s',aU F lam (k+20) iR s=some (.next,s')/\eq text (dB w 9) s':=by
 obtain⟨ρ,σ⟩:=s;refine bd g.r4 λm r J c=>?_;have L:∀k,ev F σ (k+2) (.cmp (.var 8) [.Eq] [.var 2]) ρ=some (.bool false):=λk=>az (aa K) (aa g.r2) rfl;have P:∀k,ev F σ (k+2) (.cmp (.var 8) [.Eq] [.var 3]) ρ=some (.bool true):=λk=>az (aa K) (aa g.r3) rfl;have M:∀k ρ',ρ'.lookup 4=some (.cell m)->ev F σ (k+2) (.len (.var 4)) ρ'=some (.int w.cs.length):=λk ρ' h=>by
  refine gd (aa h) (x':=.list (w.cs.map pvN)) (by show(σ[m]?).map dI=_;rw[c];rfl) ?_;show(if(w.cs.map pvN).length<=ag then _ else _)=_;rw[if_pos (by rw[List.length_map];exact Nt d.1 (by decide)),List.length_map]
 have i:∀k ρ',ρ'.lookup 4=some (.cell m)->ρ'.lookup 5=some (pvN w.b)->ev F σ (k+3) (.cmp (.var 5) [.GtE] [.len (.var 4)]) ρ'=some (.bool (decide (w.cs.length<=w.b))):=λk ρ' h f=>az (aa f) (M _ _ h) (by
  show some (decide ((w.cs.length:Int)<=(w.b:Int)))=_;congr 1;exact decide_eq_decide.mpr Int.ofNat_le)
 have t:∀(ρ':ar) (σ':List Sto) (q:Nat) (z:List Nat) (k:Nat),(∀x,x≠4->ρ'.lookup x=List.lookup x ((7,pvN (w.nt+1))::(6,pvN (w.n+1))::ρ))->ρ'.lookup 4=some (.cell q)->q≠0->σ'[q]?=some (.list (z.map pvN))->σ'[0]?=some (.obj [(82,.str text)])->w.b<z.length->z.length<=1000->z=gK w.cs w.b->
  ∃s',aU F lam (k+10) [.setSub 4 (.var 5) (.bin (.Add) (.sub (.var 4) (.var 5)) (.cint 1)),.assign 5 (.cint 0)] ⟨ρ',σ'⟩=some (.next,s')/\eq text (dB w 9) s':=by
  intro ρ' σ' q z k hl h4 hm0' hm' hraw hb hlen hbump;obtain⟨v,hv⟩:∃v,z[w.b]?=some v:=⟨_,List.getElem?_eq_getElem hb⟩
  have f:ρ'.lookup 5=some (pvN w.b):=(hl 5 (by decide)).trans g.r5;have a:ev F σ' (k+8) (.bin (.Add) (.sub (.var 4) (.var 5)) (.cint 1)) ρ'=some (pvN (v+1)):=aG (x:=pvN v) (y:=.int 1) (aX (x:=.cell q) (x':=.list (z.map pvN)) (aa h4) (by show(σ'[q]?).map dI=_;rw[hm'];rfl) (aa f) (mJ (by rw[List.getElem?_map,hv];rfl) (by rw[List.length_map];exact hlen))) rfl rfl rfl rfl;refine⟨_,ao (tT a (congrArg (·.bind aZ) h4:aV ⟨ρ',σ'⟩ 4=some q) (aa f) hm' (by rw[List.length_map];exact hb) (by rw[List.length_map];exact hlen)) (ao (an rfl rfl) aE),(hl 0 (by decide)).trans g.r0,(hl 2 (by decide)).trans g.r2,(hl 3 (by decide)).trans g.r3,rfl,(hl 6 (by decide)).trans rfl,(hl 7 (by decide)).trans rfl,?_,q,h4,hm0',?_⟩
  ·show(σ'.set q _)[0]?=_;rw[List.getElem?_set_ne hm0'];exact hraw
  ·show(σ'.set q _)[q]?=some (.list ((tD w.cs w.b).map pvN));have j:q<σ'.length:=(List.getElem?_eq_some_iff.mp hm').1;rw[List.getElem?_set_self j,tD,<- hbump,List.map_set,List.getD_eq_getElem?_getD,hv];rfl
 by_cases j:w.cs.length<=w.b
 ·rw[decide_eq_true j]at i;have a:∀k,ev F σ (k+6) (.bin (.Mult) (.list [.cint 0]) (.bin (.Add) (.bin (.Sub) (.var 5) (.len (.var 4))) (.cint 1))) ((7,pvN (w.nt+1))::(6,pvN (w.n+1))::ρ)=some (.list ((repL (w.b - w.cs.length+1) [0]).map pvN)):=λk=>by
   refine aG (x:=.list [.int 0]) (y:=.int ((w.b:Int) - w.cs.length+1)) rfl rfl (aG (x:=.int ((w.b:Int) - w.cs.length)) (y:=.int 1) (aG (x:=pvN w.b) (y:=.int w.cs.length) (aa g.r5) rfl (M _ _ r) rfl rfl) rfl rfl rfl rfl) rfl ?_;show(if((w.b:Int) - w.cs.length+1).natAbs<=1000/\1<=10 then some (PV.list (repL ((w.b:Int) - w.cs.length+1).toNat [.int 0]))else none)=_;rw[if_pos ⟨Nt (Int.natAbs_add_le _ _) (Nt (Nat.add_le_add_right (Nt (Int.natAbs_sub_le _ _) (Na d.2 d.1)) _) (by decide)),by decide⟩,um,show((w.b:Int) - w.cs.length+1).toNat=w.b - w.cs.length+1 by lia];rfl
  have O:gK w.cs w.b=w.cs++repL (w.b - w.cs.length+1) [0]:=by rw[gK,if_pos j]
  have e:(gK w.cs w.b).length=w.b+1:=by rw[O,List.length_append,jR];exact congrArg (·+ 1) (Nat.add_sub_of_le j)
  have l:m<σ.length:=(List.getElem?_eq_some_iff.mp c).1;obtain⟨s',p,o⟩:=t ((4,.cell σ.length)::(7,pvN (w.nt+1))::(6,pvN (w.n+1))::ρ) (σ++[.list (w.cs.map pvN++(repL (w.b - w.cs.length+1) [0]).map pvN)]) σ.length (gK w.cs w.b) (k+5) (λx R=>by
   rw[List.lookup,show(x==4)=false by simpa using R]) rfl (Nat.ne_zero_of_lt l) (by rw[List.getElem?_append_right (Nr _),Nat.sub_self,O,List.map_append];rfl) (by rw[List.getElem?_append_left (Nat.zero_lt_of_lt l)];exact g.raw) (by simp[e]) (Nt (Ne0 e) (Nt (Nat.succ_le_succ d.2) (by decide))) rfl
  exact⟨s',ao (aM (L _) (λh=>nomatch h) (λu=>ao (aM (P _) (λu=>ao (an rfl (lh g.r6)) (ao (an rfl (lh g.r7)) (ao (aM (i _ _ r g.r5) (λu=>ao (vG (aa r) (by show(σ[m]?).map dI=_;rw[c];rfl) (a _) (by rw[List.length_map,List.length_map,jR];exact Nt (show _<=1000 by lia) (by decide))) aE) (λh=>nomatch h)) p))) (λh=>nomatch h)) aE)) aE,o⟩
 ·rw[decide_eq_false j]at i;refine af (t ((7,pvN (w.nt+1))::(6,pvN (w.n+1))::ρ) σ m w.cs (k+5) (λu u=>rfl) r J c g.raw ((Nat.lt_of_not_le j)) (Nt d.1 (Nat.le_add_left _ _)) (by rw[gK,if_neg j])) λs' p o=>?_;exact⟨s',ao (aM (L _) (λh=>nomatch h) (λu=>ao (aM (P _) (λu=>ao (an rfl (lh g.r6)) (ao (an rfl (lh g.r7)) (ao (aM (i _ _ r g.r5) (λh=>nomatch h) (λu=>aE)) p))) (λh=>nomatch h)) aE)) aE,o⟩
noncomputable def chP(c:Nat):PV:=.str [c]
theorem nJ(l:List Nat)(b N:Nat)(h1:l.length<=N)(h2:b<=N):(tD l b).length<=N+1:=by
 rw[tD,List.length_set,gK];split
 ·rw[List.length_append,jR];exact Nat.succ_le_succ (Nt (Nat.add_le_add_left (Nat.sub_le_sub_right h2 _) _) (Ne0 (Nat.add_sub_of_le h1)))
 ·exact Nat.le_succ_of_le h1
theorem eq.at{w:WS}(h:eq text w s)(c:PV):eq text w {s with ρ:=norm ((8,c)::s.ρ)}:=
 ⟨(ac _ _).trans h.r0,(ac _ _).trans h.r2,(ac _ _).trans h.r3,(ac _ _).trans h.r5,(ac _ _).trans h.r6,(ac _ _).trans h.r7,h.raw,by
  refine af h.r4 λm h1 h2=>?_;exact⟨m,(ac _ _).trans h1,h2⟩⟩
theorem sD(F:Nat->List PV->Option PV)(lam:Bool)(k:Nat)(text m:List Nat)(P:m=[]\/∃c r,m=c::r/\c≠32/\c≠9/\c<128):∀(g:List Nat) (w:WS) (N:Nat) (s:PS'),(∀c∈g,c=32\/c=9)->w.cs.length<=N->w.b<=N->N+g.length<=100->eq text w s->
 ∃s',cQ (aU F lam (k+20) iR) false [8] ((g++m).map chP) s=some (.next,s')/\eq text (g.foldl dB w) s':=by
 intro g;induction g with
 |nil=>
  intro w N s _ h1 h2 t q;rcases P with rfl|⟨c,r,rfl,i,p,O⟩
  ·exact⟨s,rfl,q⟩
  ·have o:=q.at (chP c);have l:({s with ρ:=norm ((8,chP c)::s.ρ)}:PS').ρ.lookup 8=some (chP c):=(ac _ _).trans rfl;have J:∀(j x:Nat) (e:Nat) (f:e<128) (K:c≠e),(norm ((8,chP c)::s.ρ)).lookup x=some (.str [e])->ev F s.σ (j+2) (.cmp (.var 8) [.Eq] [.var x]) (norm ((8,chP c)::s.ρ))=some (.bool false):=λj x e f K S=>az (aa l) (aa S) (by
    show(if((decide (c<1114112)&&true)&&((decide (e<1114112)&&true)))=true then some (decide ([c]=[e]))else none)=_;rw[decide_eq_true (show c<1114112 by lia),decide_eq_true (show e<1114112 by lia),decide_eq_false (show¬[c]=[e] by simpa using K)];rfl)
   refine⟨{s with ρ:=norm ((8,chP c)::s.ρ)},?_,o⟩;show(aU F lam (k+20) iR {s with ρ:=norm ((8,chP c)::s.ρ)}).bind _=_;have:aU F lam (k+20) iR {s with ρ:=norm ((8,chP c)::s.ρ)}=some (.brk,{s with ρ:=norm ((8,chP c)::s.ρ)}):=by
    have z:exS F lam (k+19) (.ite (.cmp (.var 8) [.Eq] [.var 2]) [.assign 6 (.bin (.Add) (.var 6) (.cint 1)),.assign 5 (.bin (.Add) (.var 5) (.cint 1))] [.ite (.cmp (.var 8) [.Eq] [.var 3]) yT [.brk]]) {s with ρ:=norm ((8,chP c)::s.ρ)}=some (.brk,{s with ρ:=norm ((8,chP c)::s.ρ)}):=by
     refine aM (J _ 2 32 (by decide) i o.r2) (λh=>nomatch h) (λu=>?_);have a:exS F lam (k+17) (.ite (.cmp (.var 8) [.Eq] [.var 3]) yT [.brk]) {s with ρ:=norm ((8,chP c)::s.ρ)}=some (.brk,{s with ρ:=norm ((8,chP c)::s.ρ)}):=aM (J _ 3 9 (by decide) p o.r3) (λh=>nomatch h) (λu=>rfl);show(exS F lam (k+17) _ _).bind _=_;rw[a];rfl
    show(exS F lam (k+19) _ _).bind _=_;rw[z];rfl
   rw[this];rfl
 |cons c g M=>
  intro w N s hc h1 h2 t q;rw[List.length_cons]at t;have l:({s with ρ:=norm ((8,chP c)::s.ρ)}:PS').ρ.lookup 8=some (chP c):=(ac _ _).trans rfl;have L:∀y,aU F lam (k+20) iR {s with ρ:=norm ((8,chP c)::s.ρ)}=some (.next,y)->eq text (dB w c) y->(dB w c).cs.length<=N+1->(dB w c).b<=N+1->∃s',cQ (aU F lam (k+20) iR) false [8] ((c::g++m).map chP) s=some (.next,s')/\eq text ((c::g).foldl dB w) s':=by
   intro y z v T R;refine af (M (dB w c) (N+1) y (λd hd=>hc d (.tail _ hd)) T R (Nt (Ne0 (Nat.add_right_comm _ _ _)) t) v) λs' a n=>?_;refine⟨s',?_,n⟩;show(aU F lam (k+20) iR {s with ρ:=norm ((8,chP c)::s.ρ)}).bind _=_;rw[z];exact a
  rcases hc c (.head _)with rfl|rfl
  ·refine af (vM F lam (k+10) text w _ (q.at (chP 32)) l) λy z v=>?_;exact L y z v (Nat.le_succ_of_le h1) (Nat.succ_le_succ h2)
  ·refine af (ut F lam k text w ⟨xc h1 t,xc h2 t⟩ _ (q.at (chP 9)) l) λy z v=>?_;exact L y z v (nJ _ _ _ h1 h2) (Nat.zero_le _)
theorem fL{s:PS'}(j:ev F s.σ k e s.ρ=some d)(hc:aV s x=some c)(g:s.σ[c]?=some (.obj l))(hl:l.length<=100)(m:l.lookup n=none):
 exS F lam (k+1) (.setAttr x n e) s=some (.next,s.set c (.obj (l++[(n,d)]))):=by
 show(ev F s.σ k e s.ρ).bind _=_;rw[j];rw[hc];show(s.σ[c]?).bind _=_;rw[g];show(if l.length<=100/\(l.lookup n).isNone=true then _ else _)=_;rw[if_pos ⟨hl,by rw[m];rfl⟩];rfl
noncomputable def bY(lead:List Nat):WS:=lead.foldl dB ⟨[],0,0,0⟩
noncomputable def wsP(text:List Nat)(w:WS):PV:=.obj [(82,.str text),(6,pvN w.n),(7,pvN w.nt),(83,.tuple [.tuple (w.cs.map pvN),pvN w.b]),(84,.bool (decide (w.cs.length<=1)))]
theorem yW(j:List Nat):∀(w:WS) (N:Nat),w.cs.length<=N->w.b<=N->(j.foldl dB w).cs.length<=N+j.length:=by
 induction j with
 |nil=>intro w N h _;exact h
 |cons c j g=>
  intro w N h1 h2;have q:(dB w c).cs.length<=N+1/\(dB w c).b<=N+1:=by
   unfold dB;split
   ·exact⟨Nat.le_succ_of_le h1,Nat.succ_le_succ h2⟩
   ·exact⟨nJ _ _ _ h1 h2,Nat.zero_le _⟩
  have:=g (dB w c) (N+1) q.1 q.2;rw[List.foldl_cons,List.length_cons];exact Nt this (Ne0 (Nat.add_right_comm _ _ _))
theorem so(σ:List Sto)(text:List Nat)(w:WS)(h:σ[0]?=some (.obj [(82,.str text),(6,pvN w.n),(7,pvN w.nt),(83,.tuple [.tuple (w.cs.map pvN),pvN w.b]),(84,.bool (decide (w.cs.length<=1)))])):freeze σ 10 (.cell 0)=some (wsP text w):=by
 have e:freeze σ 9 (.tuple [.tuple (w.cs.map pvN),pvN w.b])=some (.tuple [.tuple (w.cs.map pvN),pvN w.b]):=by
  show(([PV.tuple (w.cs.map pvN),pvN w.b]:List PV).mapM (freeze σ 8)).map _=_;have j:freeze σ 8 (.tuple (w.cs.map pvN))=some (.tuple (w.cs.map pvN)):=by
   show((w.cs.map pvN).mapM (freeze σ 7)).map _=_;rw[br (f:=freeze σ 7) (h:=pvN) (λu u=>rfl)];rfl
  rw[aw j (aw rfl rfl)];rfl
 show((σ[0]?).map dI).bind _=_;rw[h];show(([(82,PV.str text),(6,pvN w.n),(7,pvN w.nt),(83,.tuple [.tuple (w.cs.map pvN),pvN w.b]),(84,.bool (decide (w.cs.length<=1)))]:List (Nat×PV)).mapM λp=>(freeze σ 9 p.2).map λd=>(p.1,d)).map _=_;have q:([(82,.str text),(6,pvN w.n),(7,pvN w.nt),(83,.tuple [.tuple (w.cs.map pvN),pvN w.b]),(84,.bool (decide (w.cs.length<=1)))]:List (Nat×PV)).mapM (λp=>(freeze σ 9 p.2).map λd=>(p.1,d))=some [(82,.str text),(6,pvN w.n),(7,pvN w.nt),(83,.tuple [.tuple (w.cs.map pvN),pvN w.b]),(84,.bool (decide (w.cs.length<=1)))]:=
  aw rfl (aw rfl (aw rfl (aw (congrArg (Option.map λd=>(83,d)) e) (aw rfl rfl))))
 rw[q];rfl
theorem qV(F:Nat->List PV->Option PV)(j g:List Nat)(hl:∀c∈j,c=32\/c=9)(s:j.length<=90)(k:g=[]\/∃c r,g=c::r/\c≠32/\c≠9/\c<128):mU F f86 [.str (j++g)]=some (wsP (j++g) (bY j)):=by
 refine af (sD F (f86.f==(105:Nat)) 34 (j++g) g k j ⟨[],0,0,0⟩ 0 ⟨[(7,.int 0),(6,.int 0),(5,.int 0),(4,.cell 1),(3,.str [9]),(2,.str [32]),(1,.str (j++g)),(0,.cell 0)],[.obj [(82,.str (j++g))],.list []]⟩ hl (Nr _) (Nr _) (by lia) ⟨rfl,rfl,rfl,rfl,rfl,rfl,rfl,1,rfl,by decide,rfl⟩) λs' h1 v=>?_;have t:(bY j).cs.length<=90:=Nt (yW j ⟨[],0,0,0⟩ 0 (Nr _) (Nr _)) (by simpa using s);have v:eq (j++g) (bY j) s':=v;generalize bY j=w at *;obtain⟨ρ,σ⟩:=s';refine bd v.r4 λm q l p=>?_;have h0:0<σ.length:=(List.getElem?_eq_some_iff.mp v.raw).1;have y:∀σ,aV ⟨ρ,σ⟩ 0=some 0:=λσ=>(congrArg (·.bind aZ) v.r0:_)
 have z:∀x,(σ.set 0 x)[m]?=some (.list (w.cs.map pvN)):=λx=>by rw[List.getElem?_set_ne (Ne.symm l)];exact p
 have J:exS F (f86.f==(105:Nat)) 54 (.setAttr 0 6 (.var 6)) ⟨ρ,σ⟩=some (.next,⟨ρ,σ.set 0 (.obj [(82,.str (j++g)),(6,pvN w.n)])⟩):=fL (aa v.r6) (y _) v.raw (by decide:1<=100) rfl;have K:exS F (f86.f==(105:Nat)) 53 (.setAttr 0 7 (.var 7)) ⟨ρ,σ.set 0 (.obj [(82,.str (j++g)),(6,pvN w.n)])⟩=some (.next,⟨ρ,σ.set 0 (.obj [(82,.str (j++g)),(6,pvN w.n),(7,pvN w.nt)])⟩):=by
  refine Eq.trans (fL (aa v.r7) (y _) (List.getElem?_set_self h0) (by decide:2<=100) rfl) ?_;show some (Fl.next,PS'.mk ρ ((σ.set 0 _).set 0 _))=_;rw[List.set_set];rfl
 have o:exS F (f86.f==(105:Nat)) 52 (.setAttr 0 83 (.tuple [.tup (.var 4),.var 5])) ⟨ρ,σ.set 0 (.obj [(82,.str (j++g)),(6,pvN w.n),(7,pvN w.nt)])⟩=some (.next,⟨ρ,σ.set 0 (.obj [(82,.str (j++g)),(6,pvN w.n),(7,pvN w.nt),(83,.tuple [.tuple (w.cs.map pvN),pvN w.b])])⟩):=by
  refine Eq.trans (fL (d:=.tuple [.tuple (w.cs.map pvN),pvN w.b]) (dg (mm (w4 (aa q) (by show((σ.set 0 _)[m]?).map dI=_;rw[z];rfl) (by rw[List.length_map];exact Nt t (by decide))) (mm (aa v.r5) mm0))) (y _) (List.getElem?_set_self h0) (by decide:3<=100) rfl) ?_;show some (Fl.next,PS'.mk ρ ((σ.set 0 _).set 0 _))=_;rw[List.set_set];rfl
 have h:exS F (f86.f==(105:Nat)) 51 (.setAttr 0 84 (.cmp (.len (.var 4)) [.LtE] [.cint 1])) ⟨ρ,σ.set 0 (.obj [(82,.str (j++g)),(6,pvN w.n),(7,pvN w.nt),(83,.tuple [.tuple (w.cs.map pvN),pvN w.b])])⟩=some (.next,⟨ρ,σ.set 0 (.obj [(82,.str (j++g)),(6,pvN w.n),(7,pvN w.nt),(83,.tuple [.tuple (w.cs.map pvN),pvN w.b]),(84,.bool (decide (w.cs.length<=1)))])⟩):=by
  refine Eq.trans (fL (d:=.bool (decide (w.cs.length<=1))) (az (x:=.int w.cs.length) (gd (aa q) (x':=.list (w.cs.map pvN)) (by show((σ.set 0 _)[m]?).map dI=_;rw[z];rfl) (by
   show(if(w.cs.map pvN).length<=ag then _ else _)=_;rw[if_pos (by rw[List.length_map];exact Nt t (by decide)),List.length_map])) rfl (by
   show some (decide ((w.cs.length:Int)<=1))=_;congr 1;exact decide_eq_decide.mpr (@Int.ofNat_le _ 1))) (y _) (List.getElem?_set_self h0) (by decide:4<=100) rfl) ?_
  show some (Fl.next,PS'.mk ρ ((σ.set 0 _).set 0 _))=_;rw[List.set_set];rfl
 have a:aU F (f86.f==(105:Nat)) 60 b86 ⟨[(1,.str (j++g)),(0,.cell 0)],[.obj []]⟩=some (.next,⟨ρ,σ.set 0 (.obj [(82,.str (j++g)),(6,pvN w.n),(7,pvN w.nt),(83,.tuple [.tuple (w.cs.map pvN),pvN w.b]),(84,.bool (decide (w.cs.length<=1)))])⟩):=
  ao (s':=⟨[(1,.str (j++g)),(0,.cell 0)],[.obj [(82,.str (j++g))]]⟩) rfl (ao (s':=⟨[(3,.str [9]),(2,.str [32]),(1,.str (j++g)),(0,.cell 0)],[.obj [(82,.str (j++g))]]⟩) rfl (ao og (ao (s':=⟨[(7,.int 0),(6,.int 0),(5,.int 0),(4,.cell 1),(3,.str [9]),(2,.str [32]),(1,.str (j++g)),(0,.cell 0)],[.obj [(82,.str (j++g))],.list []]⟩) rfl
   (ao (hF (aF (d:=.str (j++g)) rfl rfl rfl rfl rfl) (λd u=>rfl) h1) (ao J (ao K (ao o (ao h aE))))))))
 show(if _ then(aU F (f86.f==(105:Nat)) 60 b86 ⟨[(1,.str (j++g)),(0,.cell 0)],[.obj []]⟩).bind u4 else none)=_;rw[if_pos ⟨rfl,rfl⟩,a];show(freeze _ 10 (.cell 0)).bind m7=_;rw[so _ (j++g) w (List.getElem?_set_self h0)];show(if aH 8 (wsP (j++g) w)=true then _ else _)=_;rw[if_pos];show(true&&(true&&(true&&(((w.cs.map pvN).all (aH 5)&&(true&&true))&&(true&&true)))))=true;have:(w.cs.map pvN).all (aH 5)=true:=by
  rw[List.all_eq_true];intro d hd;refine af (List.mem_map.mp hd) λi L e=>?_;subst e;rfl
 rw[this];rfl
noncomputable def gf(w:WS):Nat:=max (w.cs.length - 1) w.b
noncomputable def ee(w:WS):PV:=.tuple [.tuple (w.cs.map pvN),pvN w.b]
theorem iJ(text:List Nat)(w:WS):aH 8 (wsP text w)=true:=by
 show(true&&(true&&(true&&(((w.cs.map pvN).all (aH 5)&&(true&&true))&&(true&&true)))))=true;have:(w.cs.map pvN).all (aH 5)=true:=by
  rw[List.all_eq_true];intro d hd;refine af (List.mem_map.mp hd) λi g j=>?_;clear hd g;subst j;rfl
 rw[this];rfl
noncomputable def ilN(w:WS)(ts:Nat)(a:Nat)(i:Nat):Nat:=a+(ts+i) / ts*w.cs.getD (ts+i) 0
noncomputable def kP(w:WS)(ts:Nat):Nat:=w.b+ts*((List.range (w.cs.length - ts)).foldl (ilN w ts) 0+w.nt)
noncomputable def eqN(w v:WS):Bool:=decide (w.cs=v.cs)&&decide (w.b=v.b)
theorem t9(w:WS):ai 9 (ee w)=true:=by
 show((w.cs.map pvN).all (ai 7)&&(true&&true))=true;have:(w.cs.map pvN).all (ai 7)=true:=by
  rw[List.all_eq_true];intro d hd;refine af (List.mem_map.mp hd) λi g j=>?_;clear hd g;subst j;rfl
 rw[this];rfl
theorem vD(w v:WS):eqP (ee w) (ee v)=some (eqN w v):=by
 show(if ai 9 (ee w)&&ai 9 (ee v)then some (eqB (ee w) (ee v))else none)=_;rw[t9,t9];show some (jF (w.cs.map pvN) (v.cs.map pvN)&&(eqB (pvN w.b) (pvN v.b)&&true))=_;rw[fA c0,c0,Bool.and_true];rfl
theorem s6(F:Nat->List PV->Option PV)(x y:List Nat)(w v:WS):cS F f89 [wsP x w,wsP y v]=some (.bool (eqN w v)):=
 bX (s':=⟨[(13,wsP y v),(0,wsP x w)],[]⟩) (d:=.bool (eqN w v)) rfl (by rw[List.all_cons,List.all_cons,iJ,iJ];rfl) (bT (dd (az (x:=ee w) (y:=ee v) (cE (aa rfl) rfl rfl) (cE (aa rfl) rfl rfl) (vD w v)))) rfl rfl
structure kH(F:Nat->List PV->Option PV)(o:PV)(L:Nat)(I:Nat->Nat):Prop where
 long:F 87 [o]=some (pvN L)
 ind:∀ts,1<=ts->ts<=4->F 88 [o,pvN ts]=some (pvN (I ts))
 l49:L<=3
theorem n6{w:WS}{ρ:ar}(h:ρ.lookup x=some (wsP t w))(g:n=87\/n=88)(args:List PE)(as:List PV)(j:args.mapM (λe=>ev F σ (k+1) e ρ)=some as)(m:F n (wsP t w::as)=some d):ev F σ (k+2) (.meth (.var x) n args) ρ=some d:=by
 refine cI (aa h) j ?_;rcases g with rfl|rfl<;>exact m
noncomputable def cY(I J:Nat->Nat)(ts:Nat):PV:=.tuple [pvN ts,pvN (I ts),pvN (J ts)]
noncomputable def zW(op:CmpOp):List PS:=[.ite (.cmp (.meth (.var 0) 88 [.var 15]) [op] [.meth (.var 13) 88 [.var 15]]) [.append 14 (.tuple [.var 15,.meth (.var 0) 88 [.var 15],.meth (.var 13) 88 [.var 15]])] []]
theorem uj(F:Nat->List PV->Option PV)(fd:FnD)(R:CmpOp)(p:Nat->Nat->Bool)(W:∀σ a b,cU σ R (pvN a) (pvN b)=some (p a b))(t:fd.params=[0,13])(o:fd.body=[.assign 6 (.bin (.Add) (.max2 (.meth (.var 0) 87 []) (.meth (.var 13) 87 [])) (.cint 1)),.assign 14 (.newList),.forS false [15] (.range (some (.cint 1)) (.bin (.Add) (.var 6) (.cint 1))) (zW R),.ret (.var 14)])
 (x y:List Nat) (w v:WS) (L M:Nat) (I J:Nat->Nat) (h1:kH F (wsP x w) L I) (h2:kH F (wsP y v) M J) :
 cS F fd [wsP x w,wsP y v]=some (.list ((((List.range (max L M+1)).map (1 + ·)).filter λz=>p (I z) (J z)).map (cY I J))):=by
 have c:=h1.l49;have n:=h2.l49;have E:ev F [] 58 (.bin (.Add) (.max2 (.meth (.var 0) 87 []) (.meth (.var 13) 87 [])) (.cint 1)) [(13,wsP y v),(0,wsP x w)]=some (pvN (max L M+1)):=by
  refine aG (x:=pvN (max L M)) (y:=.int 1) ((oZ (i:=(L:Int)) (j:=(M:Int)) (n6 rfl (.inl rfl) [] [] rfl h1.long) (n6 rfl (.inl rfl) [] [] rfl h2.long)).trans ?_) rfl rfl rfl rfl;congr 2;clear c n;split<;>lia
 obtain⟨s',t1,T,q,l,Y⟩:=eE (body:=aU F (fd.f==(105:Nat)) 56 (zW R)) (tup:=false) (xs:=[15]) (emb:=λi=>pvN (1+i)) (λpre s=>s.ρ.lookup 0=some (wsP x w)/\s.ρ.lookup 13=some (wsP y v)/\s.ρ.lookup 14=some (.cell 0)/\s.σ=[.list (((pre.map (1 + ·)).filter λz=>p (I z) (J z)).map (cY I J))]) (List.range (max L M+1)) (λpre i C s e A=>by
  refine nk A λT q l Y=>?_;obtain⟨ρ,σ⟩:=s;cases(Y:σ=_);have Z:=List.mem_range.mp (show i∈List.range (max L M+1) by rw[e];exact List.mem_append_right _ (.head _));have P:pre.length<=50:=by
   have:=congrArg List.length e;rw[List.length_range,List.length_append]at this;exact Nt (Nt (Nat.le_add_right _ _) (Ne0 this.symm)) (Nt (Nat.succ_le_succ (Nat.max_le.mpr ⟨c,n⟩)) (by decide))
  have K:(norm ((15,pvN (1+i))::ρ)).lookup 15=some (pvN (1+i)):=(ac _ _).trans rfl;have O:(norm ((15,pvN (1+i))::ρ)).lookup 0=some (wsP x w):=(ac _ _).trans T;have m:(norm ((15,pvN (1+i))::ρ)).lookup 13=some (wsP y v):=(ac _ _).trans q;have g:(norm ((15,pvN (1+i))::ρ)).lookup 14=some (.cell 0):=(ac _ _).trans l;have B:∀σ k,ev F σ (k+2) (.meth (.var 0) 88 [.var 15]) (norm ((15,pvN (1+i))::ρ))=some (pvN (I (1+i))):=λσ k=>n6 O (.inr rfl) _ _ (mm (aa K) mm0) (h1.ind (1+i) (Nat.le_add_right _ _) (w3 c n Z));have H:∀σ k,ev F σ (k+2) (.meth (.var 13) 88 [.var 15]) (norm ((15,pvN (1+i))::ρ))=some (pvN (J (1+i))):=λσ k=>n6 m (.inr rfl) _ _ (mm (aa K) mm0) (h2.ind (1+i) (Nat.le_add_right _ _) (w3 c n Z));have S:∀σ k,ev F σ (k+3) (.cmp (.meth (.var 0) 88 [.var 15]) [R] [.meth (.var 13) 88 [.var 15]]) (norm ((15,pvN (1+i))::ρ))=some (.bool (p (I (1+i)) (J (1+i)))):=λσ k=>az (B _ _) (H _ _) (W _ _ _);rw[List.map_append,List.filter_append,List.map_append];clear W h1 h2 c n e A T q Z;cases o:p (I (1+i)) (J (1+i))with
  |true=>
   rw[o]at S;refine⟨_,_,rfl,ao (aM (S _ _) (λu=>ao (dF rfl (dg (mm (aa K) (mm (B _ _) (mm (H _ _) mm0)))) ((congrArg (·.bind aZ) g:_):aV _ 14=some 0) rfl ?_) aE) (λh=>nomatch h)) aE,O,m,g,?_⟩
   ·rw[List.length_map];refine Nt (List.length_filter_le ..) ?_;rw[List.length_map];exact Nt P (by decide)
   ·rw[List.map_singleton,List.filter_cons,if_pos o];rfl
  |false=>
   rw[o]at S;refine⟨_,_,rfl,ao (aM (S _ _) (λh=>nomatch h) (λu=>aE)) aE,O,m,g,?_⟩;rw[List.map_singleton,List.filter_cons,if_neg (by rw[o];decide),List.filter_nil,List.map_nil,List.append_nil])
  ⟨[(14,.cell 0),(6,pvN (max L M+1)),(13,wsP y v),(0,wsP x w)],[.list []]⟩ ⟨rfl,rfl,rfl,rfl⟩
 obtain⟨ρ,σ⟩:=s';cases(Y:σ=_);have r:aQ F [.list []] false 56 (.range (some (.cint 1)) (.bin (.Add) (.var 6) (.cint 1))) [(14,.cell 0),(6,pvN (max L M+1)),(13,wsP y v),(0,wsP x w)]=some ((List.range (max L M+1)).map λi=>pvN (1+i)):=by
  refine(ld (i:=1) (j:=((max L M+1+1:Nat):Int)) rfl (lh rfl) (by decide) (xB c n)).trans ?_;unfold rng;rw[show(((max L M+1+1:Nat):Int) - 1).toNat=max L M+1 by lia];rfl
 have N:aU F (fd.f==(105:Nat)) 60 fd.body ⟨(fd.params.zip [wsP x w,wsP y v]).reverse,[]⟩=some (.ret (.cell 0),⟨ρ,[.list ((((List.range (max L M+1)).map (1 + ·)).filter λz=>p (I z) (J z)).map (cY I J))]⟩):=by
  rw[o,t];exact ao (an rfl E) (ao og (ao (hF r (λd hd=>by
   refine af (List.mem_map.mp hd) λi Q U=>?_;clear W o h1 h2 c n E T q r hd Q;subst U;rfl) t1) (bT (dd (aa l)))))
 refine bX (by rw[t];rfl) (by rw[List.all_cons,List.all_cons,iJ,iJ];rfl) N ?_ (bz (λu=>rfl) _);show((((((List.range (max L M+1)).map (1 + ·)).filter λz=>p (I z) (J z)).map (cY I J))).mapM (freeze _ 9)).map _=_;rw[br (f:=freeze _ 9) (h:=cY I J) (λu u=>rfl)];rfl
noncomputable def nn:List PS:=[.ite (.cmp (.meth (.var 0) 88 [.var 15]) [.GtE] [.meth (.var 13) 88 [.var 15]]) [.ret (.cbool false)] []]
theorem se(F:Nat->List PV->Option PV)(lam:Bool)(x y:List Nat)(w v:WS)(L M:Nat)(I J:Nat->Nat)(h1:kH F (wsP x w) L I)(h2:kH F (wsP y v) M J):∀(l:List Nat) (s:PS'),(∀i∈l,i<=2)->s.ρ.lookup 0=some (wsP x w)->s.ρ.lookup 13=some (wsP y v)->
 ∃s',cQ (aU F lam 55 nn) false [15] (l.map λi=>pvN (2+i)) s=some (if(l.all λi=>decide (I (2+i)<J (2+i)))=true then .next else .ret (.bool false),s'):=by
 intro l;induction l with
 |nil=>intro s _ _ _;exact⟨s,rfl⟩
 |cons i l b=>
  intro s hl e r;have d:=hl i (.head _);have m:(norm ((15,pvN (2+i))::s.ρ)).lookup 15=some (pvN (2+i)):=(ac _ _).trans rfl;have z:(norm ((15,pvN (2+i))::s.ρ)).lookup 0=some (wsP x w):=(ac _ _).trans e;have g:(norm ((15,pvN (2+i))::s.ρ)).lookup 13=some (wsP y v):=(ac _ _).trans r;have q:ev F s.σ 53 (.cmp (.meth (.var 0) 88 [.var 15]) [.GtE] [.meth (.var 13) 88 [.var 15]]) (norm ((15,pvN (2+i))::s.ρ))=some (.bool (decide (J (2+i)<=I (2+i)))):=
   az (x:=pvN (I (2+i))) (y:=pvN (J (2+i))) (n6 z (.inr rfl) _ _ (mm (aa m) mm0) (h1.ind (2+i) (w7) (As d))) (n6 g (.inr rfl) _ _ (mm (aa m) mm0) (h2.ind (2+i) (w7) (As d))) (by
    show some (decide ((J (2+i):Int)<=(I (2+i):Int)))=_;congr 1;exact decide_eq_decide.mpr Int.ofNat_le)
  rw[List.all_cons];by_cases h:J (2+i)<=I (2+i)
  ·rw[decide_eq_true h]at q;refine⟨{s with ρ:=norm ((15,pvN (2+i))::s.ρ)},?_⟩;have t:aU F lam 55 nn {s with ρ:=norm ((15,pvN (2+i))::s.ρ)}=some (.ret (.bool false),{s with ρ:=norm ((15,pvN (2+i))::s.ρ)}):=bT (aM q (λu=>bT (dd rfl)) (λh=>nomatch h));show(aU F lam 55 nn {s with ρ:=norm ((15,pvN (2+i))::s.ρ)}).bind _=_;rw[t,decide_eq_false (Nat.not_lt_of_le h:¬I (2+i)<J (2+i))];rfl
  ·rw[decide_eq_false h]at q;have t:aU F lam 55 nn {s with ρ:=norm ((15,pvN (2+i))::s.ρ)}=some (.next,{s with ρ:=norm ((15,pvN (2+i))::s.ρ)}):=ao (aM q (λh=>nomatch h) (λu=>aE)) aE;obtain⟨s',k⟩:=b {s with ρ:=norm ((15,pvN (2+i))::s.ρ)} (λj c=>hl j (.tail _ c)) z g;refine⟨s',?_⟩;show(aU F lam 55 nn {s with ρ:=norm ((15,pvN (2+i))::s.ρ)}).bind _=_;rw[t,decide_eq_true ((Nat.lt_of_not_le h):I (2+i)<J (2+i)),Bool.true_and];exact k
noncomputable def sY(w v:WS)(L M:Nat)(I J:Nat->Nat):Bool:=
 if v.n<=w.n then false else if decide (w.cs.length<=1)&&decide (v.cs.length<=1)then decide (w.nt<=v.nt)else(List.range (max L M)).all λi=>decide (I (2+i)<J (2+i))
theorem vQ(F:Nat->List PV->Option PV)(x y:List Nat)(w v:WS)(L M:Nat)(I J:Nat->Nat)(h1:kH F (wsP x w) L I)(h2:kH F (wsP y v) M J):cS F f91 [wsP x w,wsP y v]=some (.bool (sY w v L M I J)):=by
 have t:=h1.l49;have l:=h2.l49;have r:ev F [] 58 (.cmp (.attr (.var 0) 6) [.GtE] [.attr (.var 13) 6]) [(13,wsP y v),(0,wsP x w)]=some (.bool (decide (v.n<=w.n))):=az (x:=pvN w.n) (y:=pvN v.n) (cE (aa rfl) rfl rfl) (cE (aa rfl) rfl rfl) (by
  show some (decide ((v.n:Int)<=(w.n:Int)))=_;congr 1;exact decide_eq_decide.mpr Int.ofNat_le)
 have e:ev F [] 57 (.boolop true [.attr (.var 0) 84,.attr (.var 13) 84]) [(13,wsP y v),(0,wsP x w)]=some (.bool (decide (w.cs.length<=1)&&decide (v.cs.length<=1))):=bM (eU (cE (aa rfl) rfl rfl) (λu=>bW (cE (aa rfl) rfl rfl)));have o:ev F [] 55 (.cmp (.attr (.var 0) 7) [.LtE] [.attr (.var 13) 7]) [(13,wsP y v),(0,wsP x w)]=some (.bool (decide (w.nt<=v.nt))):=az (x:=pvN w.nt) (y:=pvN v.nt) (cE (aa rfl) rfl rfl) (cE (aa rfl) rfl rfl) (by
  show some (decide ((w.nt:Int)<=(v.nt:Int)))=_;congr 1;exact decide_eq_decide.mpr Int.ofNat_le)
 have K:ev F [] 56 (.bin (.Add) (.max2 (.meth (.var 0) 87 []) (.meth (.var 13) 87 [])) (.cint 1)) [(13,wsP y v),(0,wsP x w)]=some (pvN (max L M+1)):=by
  refine aG (x:=pvN (max L M)) (y:=.int 1) ((oZ (i:=(L:Int)) (j:=(M:Int)) (n6 rfl (.inl rfl) [] [] rfl h1.long) (n6 rfl (.inl rfl) [] [] rfl h2.long)).trans ?_) rfl rfl rfl rfl;congr 2;clear t l;split<;>lia
 have z:aQ F [] false 55 (.range (some (.cint 2)) (.bin (.Add) (.var 6) (.cint 1))) [(6,pvN (max L M+1)),(13,wsP y v),(0,wsP x w)]=some ((List.range (max L M)).map λi=>pvN (2+i)):=by
  refine(ld (i:=2) (j:=((max L M+1+1:Nat):Int)) rfl (lh rfl) (by decide) (xB t l)).trans ?_;unfold rng;rw[show(((max L M+1+1:Nat):Int) - 2).toNat=max L M by lia];rfl
 have g:[wsP x w,wsP y v].all (aH 8)=true:=by rw[List.all_cons,List.all_cons,iJ,iJ];rfl
 obtain⟨s',c⟩:=se F (f91.f==(105:Nat)) x y w v L M I J h1 h2 (List.range (max L M)) ⟨[(6,pvN (max L M+1)),(13,wsP y v),(0,wsP x w)],[]⟩ (λi O=>by have:=List.mem_range.mp O;exact Nat.le_of_lt_succ (Nl this (Nat.max_le.mpr ⟨t,l⟩))) rfl rfl;unfold sY;by_cases hn:v.n<=w.n
 ·rw[decide_eq_true hn]at r;rw[if_pos hn];exact bX (d:=.bool false) (s':=⟨[(13,wsP y v),(0,wsP x w)],[]⟩) rfl g (bT (aM r (λu=>bT (dd rfl)) (λh=>nomatch h))) rfl rfl
 ·rw[decide_eq_false hn]at r;rw[if_neg hn];have p:=aM (lam:=(f91.f==(105:Nat))) (s:=⟨[(13,wsP y v),(0,wsP x w)],[]⟩) (a:=[.ret (.cbool false)]) (b:=[]) r (q:=some (.next,⟨[(13,wsP y v),(0,wsP x w)],[]⟩)) (λh=>nomatch h) (λu=>aE);by_cases hs:(decide (w.cs.length<=1)&&decide (v.cs.length<=1))=true
  ·rw[hs]at e;rw[if_pos hs];exact bX (d:=.bool (decide (w.nt<=v.nt))) (s':=⟨[(13,wsP y v),(0,wsP x w)],[]⟩) rfl g (ao p (bT (aM e (λu=>bT (dd o)) (λh=>nomatch h)))) rfl rfl
  ·rw[Bool.eq_false_iff.mpr hs]at e;rw[if_neg hs];have m:=hF (lam:=(f91.f==(105:Nat))) (tup:=false) (xs:=[15]) (s:=⟨[(6,pvN (max L M+1)),(13,wsP y v),(0,wsP x w)],[]⟩) z (λd hd=>by
    refine af (List.mem_map.mp hd) λi P k=>?_;clear h1 h2 t l r o z hn hs hd P;subst k;rfl) c
   clear h1 h2 t l r o z c hn hs;cases ha:(List.range (max L M)).all λi=>decide (I (2+i)<J (2+i))with
   |true=>
    rw[ha]at m;exact bX (d:=.bool true) (s':=s') rfl g (ao p (ao (aM e (λh=>nomatch h) (λu=>aE)) (ao (an rfl K) (ao m (bT (dd rfl)))))) rfl rfl
   |false=>
    rw[ha]at m;exact bX (d:=.bool false) (s':=s') rfl g (ao p (ao (aM e (λh=>nomatch h) (λu=>aE)) (ao (an rfl K) (bT m)))) rfl rfl
theorem tV(k:Nat):wj (bp fns (k+1)):=⟨λi=>rfl,λi=>rfl,λi=>rfl⟩
theorem nF(F:Nat->List PV->Option PV)(x y:List Nat)(w v:WS)(L M:Nat)(I J:Nat->Nat)(h1:kH F (wsP x w) L I)(h2:kH F (wsP y v) M J):
 cS F f92 [wsP x w,wsP y v]=some (.list ((((List.range (max L M+1)).map (1 + ·)).filter λj=>decide (J j<=I j)).map (cY I J))):=
 uj F f92 .GtE (λa b=>decide (b<=a)) (λσ a b=>by
  show some (decide ((b:Int)<=(a:Int)))=_;congr 1;exact decide_eq_decide.mpr Int.ofNat_le) rfl rfl x y w v L M I J h1 h2
theorem mV(F:Nat->List PV->Option PV)(x y:List Nat)(w v:WS)(L M:Nat)(I J:Nat->Nat)(h1:kH F (wsP x w) L I)(h2:kH F (wsP y v) M J):
 cS F f90 [wsP x w,wsP y v]=some (.list ((((List.range (max L M+1)).map (1 + ·)).filter λj=>!decide (I j=J j)).map (cY I J))):=
 uj F f90 .NotEq (λa b=>!decide (a=b)) (λσ a b=>by
  show some (!decide ((a:Int)=(b:Int)))=_;congr 2;exact decide_eq_decide.mpr Int.ofNat_inj) rfl rfl x y w v L M I J h1 h2
noncomputable def uR(t:Nat->Nat->Nat):Nat->List Nat->Bool->Prop
 |0,_,_=>True
 |k+1,ms,way=>ms.length=1\/(qk t ms way/\∀p∈(ax t ms way).parts,uR t k p (!way))
theorem vt(t:Nat->Nat->Nat)(names:List (List Nat))(f:∀n∈names,n.length<=14)(q:names.length=5):∀(k:Nat) (j:List Nat) (way inner:Bool),uR t k j way->(∀m∈j,m<5)->j.Nodup->j.length<=5->j≠[]->j.length<=k->
 bp fns (k+2) 105 [pvL j,bj t,.list (names.map .str),eW way,.bool inner]=some (.str (aq names (a9 t k j way inner))):=by
 intro k;induction k with
 |zero=>intro j _ _ _ _ _ _ g z;cases j with|nil=>exact(g rfl).elim|cons a r=>simp at z
 |succ k b=>
  intro j way inner e y d hl g z;exact vg (bp fns (k+2)) t names f q (λv tie u j y hl g=>tc (bp fns (k+1)) t v tie u j y hl g) k j way inner (λh=>(e.resolve_left h).1) y d hl g z λh p l h1 h2 c o i=>b p (!way) true ((e.resolve_left h).2 p l) h1 h2 c o i
noncomputable def cg:List (List Nat):=([0,1,2,3].flatMap λa=>[[a]])++([0,1,2,3].flatMap λa=>[0,1,2,3].map λb=>[a,b])++([0,1,2,3].flatMap λa=>[0,1,2,3].flatMap λb=>[0,1,2,3].map λc=>[a,b,c])
theorem hR(h:c9 r):r∈cg:=by
 obtain⟨⟨h1,h2⟩,j⟩:=h;have q:∀n,n<=3->n∈[0,1,2,3]:=λn g=>by simp;exact yg g
 match r,h1,h2,j with
 |[a],_,_,j=>exact List.mem_append_left _ (List.mem_append_left _ (List.mem_flatMap.mpr ⟨a,q a (j a (.head _)),.head _⟩))
 |[a,b],_,_,j=>exact List.mem_append_left _ (List.mem_append_right _ (List.mem_flatMap.mpr ⟨a,q a (j a (.head _)),List.mem_map.mpr ⟨b,q b (j b (.tail _ (.head _))),rfl⟩⟩))
 |[a,b,c],_,_,j=>exact List.mem_append_right _ (List.mem_flatMap.mpr ⟨a,q a (j a (.head _)),List.mem_flatMap.mpr ⟨b,q b (j b (.tail _ (.head _))),List.mem_map.mpr ⟨c,q c (j c (.tail _ (.tail _ (.head _)))),rfl⟩⟩⟩)
noncomputable def xX(r:List Nat):Nat:=r.foldl (λm x=>if m<x then x else m) 0
noncomputable def pW(l:List Nat):Nat:=l.foldl (λm x=>if m<x+1 then x+1 else m) 0
noncomputable def cnt(l:List Nat)(s:Nat):Nat:=(l.filter (·= s)).length
noncomputable def qv(r:List Nat):Bool:=
 (aD r).all (λc=>c==32||c==9)&&((aD r).length<=11&&(((aB 9 (aD r)).map List.length==r)&&((bY (aD r)).n==(aD r).length&&((bY (aD r)).nt==r.length - 1&&(gf (bY (aD r))==xX r&&((bY (aD r)).b==r.getLastD 0
  &&(((bY (aD r)).cs==(List.range (pW r.dropLast)).map (cnt r.dropLast))&&(decide ((bY (aD r)).cs.length<=1)==!cw [32,9] (aD r)))))))))
theorem rT:∀r∈cg,qv r=true:=by decide +kernel
noncomputable def zl(p:Nat->Nat->Bool)(w v:WS):Bool:=(List.range (max (gf w) (gf v)+1)).all λt=>p (kP w (1+t)) (kP v (1+t))
theorem oV:∀r∈cg,∀q∈cg,(sY (bY (aD r)) (bY (aD q)) (gf (bY (aD r))) (gf (bY (aD q))) (kP (bY (aD r))) (kP (bY (aD q)))==zl (λa b=>decide (a<b)) (bY (aD r)) (bY (aD q))&&eqN (bY (aD r)) (bY (aD q))==zl (λa b=>decide (a=b)) (bY (aD r)) (bY (aD q)))=true:=by decide +kernel
theorem iE{l:List α}(h:l.map f=l.map g):∀x∈l,f x=g x:=by
 induction l with
 |nil=>exact λu h=>nomatch h
 |cons a l m=>
  injection h with h1 h2;exact λx j=>(List.mem_cons.mp j).elim (λe=>e▸h1) (m h2 x)
theorem zM(F:Nat->List PV->Option PV)(x:List Nat):(cg.map λr=>[1,2,3,4].map λj=>cS F f88 [wsP x (bY (aD r)),pvN j])=cg.map λr=>[1,2,3,4].map λj=>some (pvN (kP (bY (aD r)) j)):=by kernel_rfl
theorem xx(F:Nat->List PV->Option PV)(x:List Nat):(cg.map λr=>cS F f87 [wsP x (bY (aD r))])=cg.map λr=>some (pvN (gf (bY (aD r)))):=by kernel_rfl
theorem yb(F:Nat->List PV->Option PV):(cg.map λr=>[1,2,3,4].map λj=>cS F zn [.str (aD r),pvN j])=cg.map λr=>[1,2,3,4].map λj=>some (pvN (kP (bY (aD r)) j)):=by kernel_rfl
noncomputable def ldN(r:Nat->List Nat)(a:Nat):List Nat:=aD (r a)
noncomputable def WN(r:Nat->List Nat)(a:Nat):WS:=bY (aD (r a))
noncomputable def nmN(r:Nat->List Nat)(a:Nat):List Nat:=aD (r a)++[97+a,32,9]
noncomputable def gN(r:Nat->List Nat)(a:Nat):PV:=wsP (nmN r a) (WN r a)
noncomputable def IN(r:Nat->List Nat)(a ts:Nat):Nat:=kP (WN r a) ts
noncomputable def LN(r:Nat->List Nat)(a:Nat):Nat:=gf (WN r a)
noncomputable def tsN(r:Nat->List Nat)(a b:Nat):List Nat:=(List.range (max (LN r a) (LN r b)+1)).map (1 + ·)
noncomputable def jP(r:Nat->List Nat)(p:Nat->Nat->Bool)(a b:Nat):List Nat:=(tsN r a b).filter λt=>p (IN r a t) (IN r b t)
noncomputable def neB(a b:Nat):Bool:=!decide (a=b)
noncomputable def geB(a b:Nat):Bool:=decide (b<=a)
noncomputable def leB(a b:Nat):Bool:=decide (a<=b)
noncomputable def ij(r:Nat->List Nat)(a b:Nat):Nat:=if(jP r neB a b).isEmpty=true then 3 else if(jP r geB a b).isEmpty=true then 1 else if(jP r leB a b).isEmpty=true then 2 else 0
noncomputable def sR(r:Nat->List Nat)(p:Nat->Nat->Bool)(a b:Nat):PV:=.list ((jP r p a b).map (cY (IN r a) (IN r b)))
structure qO(F:Nat->List PV->Option PV)(r:Nat->List Nat):Prop where
 col:∀a,a<5->∀t,t<4->F 102 [.str (ldN r a),pvN (1+t)]=some (pvN (IN r a (1+t)))
 init:∀a,a<5->F 85 [.str (ldN r a)]=some (wsP (ldN r a) (WN r a))
 long:∀a,a<5->∀x,F 87 [wsP x (WN r a)]=some (pvN (LN r a))
 less:∀a b,a<5->b<5->F 91 [gN r a,gN r b]=some (.bool (jP r geB a b).isEmpty)
 equal:∀a b,a<5->b<5->F 89 [gN r a,gN r b]=some (.bool (jP r neB a b).isEmpty)
 nlw:∀a b,a<5->b<5->F 92 [gN r a,gN r b]=some (sR r geB a b)
 new:∀a b,a<5->b<5->F 90 [gN r a,gN r b]=some (sR r neB a b)
noncomputable def mxN(r:Nat->List Nat):Nat:=(ns5.map (LN r)).foldl (λm x=>if m<x then x else m) 0
noncomputable def l5(f:Nat->PV):PV:=.list (ns5.map f)
structure SE(r:Nat->List Nat)(ρ:ar):Prop where
 r31:ρ.lookup 31=some (l5 λa=>.str (ldN r a))
 r32:ρ.lookup 32=some (l5 λa=>.str (nmN r a))
 r33:ρ.lookup 33=some (l5 (gN r))
 r34:ρ.lookup 34=some (l5 λa=>pvL (r a))
 r35:ρ.lookup 35=some (l5 λa=>pvN (LN r a))
 r36:ρ.lookup 36=some (l5 λa=>.list ((List.range (mxN r+1)).map λt=>pvN (IN r a (1+t))))
 r37:ρ.lookup 37=some (.cell 0)
theorem SE.nrm(h:SE r ρ):SE r (norm ρ):=
 ⟨(ac ..).trans h.r31,(ac ..).trans h.r32,(ac ..).trans h.r33,(ac ..).trans h.r34,(ac ..).trans h.r35,(ac ..).trans h.r36,(ac ..).trans h.r37⟩
theorem qe(F:Nat->List PV->Option PV)(σ:List Sto)(k:Nat)(ρ:ar)(m:CmpOp)(p:Nat->Nat->Bool)(v:∀σ a b,cU σ m (pvN a) (pvN b)=some (p a b))(I J:Nat->Nat)(l:List Nat)(hl:l.length<=1000)(j:ρ.lookup 40=some (.list (l.map (cY I J)))):
 ev F σ (k+6) (.comp (.var 45) [(false,[45])] [.var 40] [[.cmp (.sub (.var 45) (.cint 1)) [m] [.sub (.var 45) (.cint 2)]]] []) ρ=some (.list ((l.filter λt=>p (I t) (J t)).map (cY I J))):=
 d3 (emb:=cY I J) (g:=cY I J) (aF rfl (aa j) rfl rfl rfl) (λt u=>c6 (ρ':=[(45,cY I J t)]) (by rw[bB];rfl) (by rw[bB];rfl)
  (az (x:=pvN (I t)) (y:=pvN (J t)) (aX (aa rfl) rfl rfl rfl) (aX (aa rfl) rfl rfl rfl) (v _ _ _)) (λu=>rfl)) (Nt hl (by decide))
theorem kO(I J:Nat->Nat)(l:List Nat):ai 9 (.list (l.map (cY I J)))=true:=im (λu=>rfl) l
theorem nU(σ:List Sto)(I J:Nat->Nat)(l:List Nat):cU σ .Eq (.list (l.map (cY I J))) (.list [])=some l.isEmpty:=by
 show((if ai 9 (.list (l.map (cY I J)))&&true then some (eqB (.list (l.map (cY I J))) (.list []))else none):Option Bool)=_;rw[kO];cases l<;>rfl
theorem nv(I J:Nat->Nat)(l:List Nat):eqP (.list (l.map (cY I J))) (.list (l.map (cY I J)))=some true:=by
 show((if ai 9 (.list (l.map (cY I J)))&&ai 9 (.list (l.map (cY I J)))then some (jF (l.map (cY I J)) (l.map (cY I J)))else none):Option Bool)=_;rw[kO,fA (emb:=cY I J) λa b=>?_,decide_eq_true rfl]
 ·rfl
 ·show(eqB (pvN a) (pvN b)&&(eqB (pvN (I a)) (pvN (I b))&&(eqB (pvN (J a)) (pvN (J b))&&true)))=_;rw[c0,c0,c0];by_cases h:a=b
  ·subst h;simp
  ·rw[decide_eq_false h];rfl
theorem oX(σ:List Sto)(a b:Nat):cU σ .NotEq (pvN a) (pvN b)=some (neB a b):=by
 show some (!decide ((a:Int)=(b:Int)))=_;rw[neB,decide_eq_decide.mpr Int.ofNat_inj]
theorem xN(σ:List Sto)(a b:Nat):cU σ .GtE (pvN a) (pvN b)=some (geB a b):=by
 show some (decide ((b:Int)<=(a:Int)))=_;rw[geB,decide_eq_decide.mpr Int.ofNat_le]
theorem yG(σ:List Sto)(a b:Nat):cU σ .LtE (pvN a) (pvN b)=some (leB a b):=by
 show some (decide ((a:Int)<=(b:Int)))=_;rw[leB,decide_eq_decide.mpr Int.ofNat_le]
theorem qt(σ:List Sto)(t:Bool):cU σ .Is (.bool t) (.bool t)=some true:=by cases t<;>rfl
theorem tN(f:Nat->PV)(j:t<n)(g:n<=1000):gq (.list ((List.range n).map f)) (pvN t)=some (f t):=
 mJ (by rw[List.getElem?_map,List.getElem?_range j];rfl) (by rw[List.length_map,List.length_range];exact g)
theorem pC(hc:aV s x=some n)(y:s.σ[n]?=some (.list l))(g:ev F s.σ k i s.ρ=some j)(u:gq (.list l) j=some (.cell m))
 (v:ev F s.σ k e s.ρ=some d) (z:s.σ[m]?=some (.list l2)) (hl:l2.length<=ag):exS F lam (k+1) (.appendAt x i e) s=some (.next,s.set m (.list (l2++[d]))):=by
 show(aV s x).bind _=_;rw[hc,Option.bind_some,y];show(ev F s.σ k i s.ρ).bind _=_;rw[g,Option.bind_some,u];show(ev F s.σ k e s.ρ).bind _=_;rw[v];show(s.σ[m]?).bind _=_;rw[z];show(if l2.length<=ag then _ else _)=_;rw[if_pos hl];rfl
theorem ls(e:List.range n=pre++d::post):pre=List.range d/\d<n:=by
 have h1:=congrArg (·[pre.length]?) e;have h2:=congrArg List.length e;have g:=congrArg (List.take pre.length) e;rw[List.length_range,List.length_append,List.length_cons]at h2;have j:pre.length<n:=by simp[h2]
 simp only[List.getElem?_append_right (Nr _),Nat.sub_self,List.getElem?_cons_zero,List.getElem?_range j]at h1;clear e h2;(replace h1:=si h1;subst h1)
 rw[List.take_left',List.take_range,Nat.min_eq_left (Nat.le_of_lt j)]at g
 ·exact⟨g.symm,j⟩
 ·rfl
noncomputable def s9:List PS:=[.assign 40 (.comp (.tuple [.bin (.Add) (.var 44) (.cint 1),.sub (.sub (.var 36) (.var 14)) (.var 44),.sub (.sub (.var 36) (.var 5)) (.var 44)]) [(false,[44])] [.range none (.bin (.Add) (.max2 (.sub (.var 35) (.var 14)) (.sub (.var 35) (.var 5))) (.cint 1))] [[]] [14,5,36]),.tupAssign [41,42] [.comp (.var 45) [(false,[45])] [.var 40] [[.cmp (.sub (.var 45) (.cint 1)) [.NotEq] [.sub (.var 45) (.cint 2)]]] [],.comp (.var 45) [(false,[45])] [.var 40] [[.cmp (.sub (.var 45) (.cint 1)) [.GtE] [.sub (.var 45) (.cint 2)]]] []],.assign 43 (.boolop true [.cmp (.meth (.sub (.var 33) (.var 14)) 91 [.sub (.var 33) (.var 5)]) [.Is] [.cmp (.var 42) [.Eq] [.list []]],.cmp (.meth (.sub (.var 33) (.var 14)) 89 [.sub (.var 33) (.var 5)]) [.Is] [.cmp (.var 41) [.Eq] [.list []]],.cmp (.meth (.sub (.var 33) (.var 14)) 92 [.sub (.var 33) (.var 5)]) [.Eq] [.var 42]]),.ite (.boolop false [.not (.var 43),.boolop true [.cmp (.var 5) [.Eq] [.bin (.Add) (.var 14) (.cint 1)],.cmp (.meth (.sub (.var 33) (.var 14)) 90 [.sub (.var 33) (.var 5)]) [.NotEq] [.var 41]]]) [.ret (.list [])] [],.appendAt 37 (.var 14) (.ite (.cmp (.var 41) [.Eq] [.list []]) (.cint 27) (.ite (.cmp (.var 42) [.Eq] [.list []]) (.cint 20) (.ite (.cmp (.comp (.var 45) [(false,[45])] [.var 40] [[.cmp (.sub (.var 45) (.cint 1)) [.LtE] [.sub (.var 45) (.cint 2)]]] []) [.Eq] [.list []]) (.cint 21) (.cint 18))))]
theorem uN(v:a<5):LN r a<=mxN r:=by
 have h:∀(l:List Nat) (m:Nat),m<=l.foldl (λm x=>if m<x then x else m) m/\∀x∈l,x<=l.foldl (λm x=>if m<x then x else m) m:=by
  intro l;induction l with
  |nil=>exact λm=>⟨Nr _,λx h=>nomatch h⟩
  |cons y l u=>
   intro m;have q:=u (if m<y then y else m);have j:m<=(if m<y then y else m)/\y<=(if m<y then y else m):=by split<;>lia
   exact⟨Nt j.1 q.1,λx g=>(List.mem_cons.mp g).elim (λe=>e▸(Nt j.2 q.1:y<=l.foldl (λm x=>if m<x then x else m) _)) (q.2 x)⟩
 exact(h _ 0).2 _ (List.mem_map.mpr ⟨a,List.mem_of_getElem? (show ns5[a]?=some a from lt5 (P:=λa=>ns5[a]?=some a) rfl rfl rfl rfl rfl a v),rfl⟩)
theorem yS(h:f e=some (.bool a))(h2:f e'=some (.bool false)):cA f true [e,e']=some (.bool false):=by
 have:=eU (r:=[]) (b:=false) h λu=>bW h2;rwa [Bool.and_false]at this
theorem rK(F:Nat->List PV->Option PV)(lam:Bool)(r:Nat->List Nat)(S:qO F r)(O:mxN r<=3)(a b:Nat)(L:a<5)(K:b<5)(ρ:ar)(h:SE r ρ)(m:ρ.lookup 14=some (pvN a))(s:ρ.lookup 5=some (pvN b))
 (σ:List Sto) (l Y:List PV) (h0:σ[0]?=some (.list l)) (W:gq (.list l) (pvN a)=some (.cell (a+1))) (o:σ[a+1]?=some (.list Y)) (U:Y.length<=ag) :
 ∃ρ',aU F lam 48 s9 ⟨ρ,σ⟩=some (.next,⟨ρ',σ.set (a+1) (.list (Y++[.int (code (ij r a b))]))⟩)/\SE r ρ'/\ρ'.lookup 14=some (pvN a):=by
 have v:=uN (r:=r) L;have z:=uN (r:=r) K;have J:(tsN r a b).length<=1000:=by rw[tsN,List.length_map,List.length_range];exact Nt (Nat.succ_le_succ (Nt (Nat.max_le.mpr ⟨v,z⟩) O)) (by decide)
 have g:∀(k x c:Nat) (ρ:ar) (f:Nat->PV),ρ.lookup x=some (l5 f)->∀y,ρ.lookup y=some (pvN c)->c<5->ev F σ (k+2) (.sub (.var x) (.var y)) ρ=some (f c):=λk x c ρ f h1 y h2 hc=>aX (aa h1) rfl (aa h2) (cD _ hc);have M:ev F σ 46 (.comp (.tuple [.bin (.Add) (.var 44) (.cint 1),.sub (.sub (.var 36) (.var 14)) (.var 44),.sub (.sub (.var 36) (.var 5)) (.var 44)]) [(false,[44])] [.range none (.bin (.Add) (.max2 (.sub (.var 35) (.var 14)) (.sub (.var 35) (.var 5))) (.cint 1))] [[]] [14,5,36]) ρ=some (.list ((tsN r a b).map (cY (IN r a) (IN r b)))):=by
  rw[tsN,List.map_map];refine cf (emb:=pvN) (l:=List.range (max (LN r a) (LN r b)+1)) ((fN (j:=((max (LN r a) (LN r b)+1:Nat):Int)) (aG (x:=pvN (max (LN r a) (LN r b))) (y:=.int 1) ((oZ (i:=(LN r a:Int)) (j:=(LN r b:Int)) (g _ _ _ _ _ h.r35 _ m L) (g _ _ _ _ _ h.r35 _ s K)).trans ?_) rfl rfl rfl rfl) (Nm (Nat.succ_le_succ (Nt (Nat.max_le.mpr ⟨v,z⟩) O)) (by decide))).trans rfl) (λt o=>?_) (by rw[List.length_range];exact Nt (Nat.succ_le_succ (Nt (Nat.max_le.mpr ⟨v,z⟩) O):_<=4) (by decide))
  ·show some (PV.int _)=some (PV.int _);congr 2;split<;>lia
  ·have o:=List.mem_range.mp o;have B:∀x,[14,5,36].contains x=true->((44,pvN t)::aj [14,5,36] ρ).lookup x=ρ.lookup x:=λx R=>by
    have q:=bt R ρ;rw[List.lookup];split
    ·rename_i e;obtain rfl:=eq_of_beq e;exact absurd R (by decide)
    ·exact q
   have q:∀x c,[14,5,36].contains x=true->ρ.lookup x=some (pvN c)->c<5->t<=LN r c\/t<=mxN r->ev F σ 44 (.sub (.sub (.var 36) (.var x)) (.var 44)) ((44,pvN t)::aj [14,5,36] ρ)=some (pvN (IN r c (1+t))):=λx c R h1 hc o=>aX (g _ _ _ _ _ ((B 36 rfl).trans h.r36) _ ((B x R).trans h1) hc) rfl (aa rfl) (tN _ (by
    rcases o with o|o
    ·exact Nat.lt_succ_of_le (Nt o (uN hc))
    ·exact Nl (by assumption) (Nat.succ_le_succ (Nat.max_le.mpr ⟨v,z⟩))) (Nm O (by decide)))
   refine b4 (ρ':=(44,pvN t)::aj [14,5,36] ρ) (by rw[List.all_cons,bw rfl];rfl) rfl (dg (mm ((lh rfl).trans (congrArg (λn=>some (pvN n)) (Nat.add_comm t 1))) (mm (q 14 a rfl m L (.inr (xy v z o))) (mm (q 5 b rfl s K (.inr (xy v z o))) mm0))))
 generalize hts':tsN r a b=ts at J M;have H:∀p,jP r p a b=ts.filter λt=>p (IN r a t) (IN r b t):=λp=>by rw[jP,hts']
 have T:∀(k n:Nat) (d:PV) (ρ:ar),SE r ρ->ρ.lookup 14=some (pvN a)->ρ.lookup 5=some (pvN b)->j8 F σ (gN r a) n [gN r b]=some d->ev F σ (k+3) (.meth (.sub (.var 33) (.var 14)) n [.sub (.var 33) (.var 5)]) ρ=some d:=λk n d ρ h m s hd=>cI (g _ _ _ _ _ h.r33 _ m L) (mm (g _ _ _ _ _ h.r33 _ s K) mm0) hd;have C:=λk ρ=>qe F σ k ρ .NotEq neB oX (IN r a) (IN r b) ts J;have A:=λk ρ=>qe F σ k ρ .GtE geB xN (IN r a) (IN r b) ts J;have Z:=λk ρ=>qe F σ k ρ .LtE leB yG (IN r a) (IN r b) ts J;rw[<- H]at C A Z;have P:∀(k x:Nat) (p) (ρ:ar),ρ.lookup x=some (sR r p a b)->ev F σ (k+2) (.cmp (.var x) [.Eq] [.list []]) ρ=some (.bool (jP r p a b).isEmpty):=λk x p ρ h=>az (aa h) rfl (nU ..);have E:SE r ((43,.bool true)::(42,sR r geB a b)::(41,sR r neB a b)::(40,.list (ts.map (cY (IN r a) (IN r b))))::ρ):=⟨h.r31,h.r32,h.r33,h.r34,h.r35,h.r36,h.r37⟩
 refine⟨_,ao (an rfl M) (ao (pZ (by decide) rfl rfl (C _ _ rfl) (A _ _ rfl)) (ao (an (d:=.bool true) rfl (bM (ni (az (T _ _ _ _ ⟨h.r31,h.r32,h.r33,h.r34,h.r35,h.r36,h.r37⟩ m s (S.less a b L K)) (P _ _ geB _ rfl) (qt ..)) (ni (az (T _ _ _ _ ⟨h.r31,h.r32,h.r33,h.r34,h.r35,h.r36,h.r37⟩ m s (S.equal a b L K)) (P _ _ neB _ rfl) (qt ..)) (bW (az (T _ _ _ _ ⟨h.r31,h.r32,h.r33,h.r34,h.r35,h.r36,h.r37⟩ m s (S.nlw a b L K)) (aa rfl) (nv ..)))))))
  (ao (aM (t:=false) (bM (ni (w8 (t:=true) rfl) (bW (bM (yS (az (x:=pvN b) (y:=pvN (a+1)) (t:=eqB (pvN b) (pvN (a+1))) (aa s) (lh m) rfl) (az (T _ _ _ _ E m s (S.new a b L K)) (aa rfl) (congrArg (Option.map (!·)) (nv ..)))))))) (λh=>nomatch h) (λu=>aE))
   (ao (pC (congrArg (·.bind aZ) h.r37) h0 (aa m) W (?_:_=some (.int (code (ij r a b)))) o U) aE)))),E,m⟩
 refine gW (P _ _ neB _ rfl) (λh=>by rw[ij,if_pos h];rfl) (λh1=>gW (P _ _ geB _ rfl) (λh=>?_) (λh2=>gW (az (Z _ _ rfl) rfl (nU ..)) (λh=>?_) (λI=>?_)))
 ·rw[ij,if_neg (by rw[h1];decide),if_pos h];rfl
 ·rw[ij,if_neg (by rw[h1];decide),if_neg (by rw[h2];decide),if_pos h];rfl
 ·rw[ij,if_neg (by rw[h1];decide),if_neg (by rw[h2];decide),if_neg (by rw[I];decide)];rfl
theorem tn:∀(l:List Nat) (a:Nat),k7 ((a::l).map λ(n:Nat)=>(n:Int))=some ((l.foldl (λm x=>if m<x then x else m) a:Nat):Int):=by
 intro l;induction l with
 |nil=>exact λu=>rfl
 |cons b l j=>
  intro a;have q:=j (if a<b then b else a);refine Eq.trans ?_ q;show some (List.foldl _ (if(b:Int)>(a:Int)then(b:Int)else(a:Int)) _)=some (List.foldl _ (((if a<b then b else a:Nat):Int)) _);congr 2;split<;>split<;>lia
theorem qW(h:l≠[]):k7 (l.map λ(n:Nat)=>(n:Int))=some ((l.foldl (λm x=>if m<x then x else m) 0:Nat):Int):=by
 refine bx (List.exists_cons_of_ne_nil h) λa l j=>?_;subst j;rw[tn,List.foldl_cons,show(if 0<a then a else 0)=a by split<;>lia]
theorem uq(l:List Nat):k7 (-1::l.map λ(n:Nat)=>(n:Int))=some ((pW l:Int) - 1):=by
 have h:∀(l:List Nat) (m:Nat),(l.map λ(n:Nat)=>(n:Int)).foldl (λm x=>if x>m then x else m) ((m:Int) - 1)=((l.foldl (λm x=>if m<x+1 then x+1 else m) m:Nat):Int) - 1:=by
  intro l;induction l with
  |nil=>exact λu=>rfl
  |cons b l j=>
   intro m;refine Eq.trans ?_ (j (if m<b+1 then b+1 else m));rw[List.map_cons,List.foldl_cons];congr 1;split<;>split<;>omega
 exact congrArg some (h l 0)
theorem jT(l:List Nat):ik (pvL l)=some (l.map λ(n:Nat)=>(n:Int)):=br (f:=aN) (h:=λ(n:Nat)=>(n:Int)) λu u=>rfl
theorem sN(h:l≠[])(hl:l.length<=1000):gq (pvL l) (.int (-1))=some (pvN (l.getLastD 0)):=by
 obtain⟨q,a,rfl⟩:∃q a,l=q++[a]:=⟨_,_,(List.dropLast_concat_getLast h).symm⟩
 rw[List.getLastD_concat,pvL,List.map_append];rw[List.length_append]at hl;exact oG (by rw[List.length_map];exact Nt (Nat.le_add_right ..) hl)
theorem u9(h:c9 l):slP (pvL l) none (some (-1)) none=some (pvL l.dropLast):=by
 obtain⟨⟨h1,h2⟩,_⟩:=h;match l,h1,h2 with
 |[a],_,_=>rfl
 |[a,b],_,_=>exact eO [pvN a,pvN b] 2 none (some (-1)) none (by decide) rfl (by decide:2<=ag) [0] rfl
 |[a,b,c],_,_=>exact eO [pvN a,pvN b,pvN c] 3 none (some (-1)) none (by decide) rfl (by decide:3<=ag) [0,1] rfl
theorem lN(l:List Nat)(s:Nat):j7 (l.map pvN) 4 [pvN s]=some (pvN (cnt l s)):=by
 show(((l.map pvN).mapM aN).map λvs=>PV.int ((vs.filter (·= (s:Int))).length:Int))=_;rw[br (f:=aN) (h:=λ(n:Nat)=>(n:Int)) λu u=>rfl];show some (PV.int _)=some (PV.int _);congr 3;unfold cnt;induction l with
 |nil=>rfl
 |cons a l j=>
  rw[List.map_cons,List.filter_cons,List.filter_cons];by_cases h:a=s
  ·rw[if_pos (by rw[h];exact decide_eq_true rfl),if_pos (decide_eq_true h)];exact congrArg (·+ 1) j
  ·rw[if_neg (by rw[decide_eq_true_eq];exact Nat.ToInt.of_diseq rfl rfl h),if_neg (by rw[decide_eq_true_eq];exact h)];exact j
noncomputable def a7(w:WS)(L:Nat):PV:=.tuple [pvN w.n,pvN w.nt,ee w,pvN L]
theorem sG(σ:List Sto)(w:WS)(L:Nat):cU σ .NotEq (.list [a7 w L,a7 w L]) (.list [a7 w L,a7 w L])=some false:=by
 have p:ai 7 (ee w)=true:=by
  show((w.cs.map pvN).all (ai 5)&&(true&&true))=true;rw[List.all_map,List.all_eq_true.mpr (λu u=>rfl:∀x∈w.cs,(ai 5∘pvN) x=true)];rfl
 have e:eqB (a7 w L) (a7 w L)=true:=by
  show(eqB (pvN w.n) (pvN w.n)&&(eqB (pvN w.nt) (pvN w.nt)&&((jF (w.cs.map pvN) (w.cs.map pvN)&&(eqB (pvN w.b) (pvN w.b)&&true))&&(eqB (pvN L) (pvN L)&&true))))=true;rw[c0,c0,c0,c0,fA c0,decide_eq_true rfl,decide_eq_true rfl,decide_eq_true rfl,decide_eq_true rfl,decide_eq_true rfl];rfl
 have q:ai 9 (.list [a7 w L,a7 w L])=true:=by
  show((true&&(true&&(ai 7 (ee w)&&(true&&true))))&&((true&&(true&&(ai 7 (ee w)&&(true&&true))))&&true))=true;rw[p];rfl
 show((if ai 9 (.list [a7 w L,a7 w L])&&ai 9 (.list [a7 w L,a7 w L])then some (eqB (a7 w L) (a7 w L)&&(eqB (a7 w L) (a7 w L)&&true))else none):Option Bool).map (!·)=_;rw[q,e];rfl
theorem uy(σ:List Sto)(l:List Nat)(h:∀c∈l,c<128):cU σ .NotEq (.str l) (.str l)=some false:=by
 have q:ai 9 (.str l)=true:=List.all_eq_true.mpr λc hc=>decide_eq_true (Nat.lt_trans (h c hc) (by decide));show((if ai 9 (.str l)&&ai 9 (.str l)then some (decide (l=l))else none):Option Bool).map (!·)=_;rw[q,decide_eq_true rfl];rfl
structure uF(r:List Nat)(x:List Nat)(w:WS):Prop where
 ok:c9 r
 n:w.n=x.length
 nt:w.nt=r.length - 1
 L:gf w=xX r
 b:w.b=r.getLastD 0
 cs:w.cs=(List.range (pW r.dropLast)).map (cnt r.dropLast)
 simple:decide (w.cs.length<=1) = !cw [32,9] x
 split:(aB 9 x).map List.length=r
 len:x.length<=11
 chr:∀c∈x,c=32\/c=9
theorem AH(h:c9 r):uF r (aD r) (bY (aD r)):=by
 have q:=rT r (hR h);unfold qv at q;simp only[Bool.and_eq_true,beq_iff_eq,decide_eq_true_eq,List.all_eq_true,Bool.or_eq_true]at q;refine AP q λy z t g v m u d j=>?_;exact⟨h,g,v,m,u,d,j,t,z,y⟩
noncomputable def w6:List PS:=[.assign 38 (.tup (.comp (.meth (.slice (.sub (.var 34) (.var 14)) none (some (.neg (.cint 1))) none) 4 [.var 28]) [(false,[28])] [.range none (.bin (.Add) (.max1 (.bin (.Add) (.list [.neg (.cint 1)]) (.slice (.sub (.var 34) (.var 14)) none (some (.neg (.cint 1))) none))) (.cint 1))] [[]] [14,34])),.assign 39 (.comp (.tuple [.attr (.var 46) 6,.attr (.var 46) 7,.attr (.var 46) 83,.meth (.var 46) 87 []]) [(false,[46])] [.tuple [.sub (.var 33) (.var 14),.call 85 [.sub (.var 31) (.var 14)]]] [[]] []),.ite (.boolop false [.cmp (.var 39) [.NotEq] [.bin (.Mult) (.list [.tuple [.len (.sub (.var 31) (.var 14)),.bin (.Sub) (.len (.sub (.var 34) (.var 14))) (.cint 1),.tuple [.var 38,.sub (.sub (.var 34) (.var 14)) (.neg (.cint 1))],.sub (.var 35) (.var 14)]]) (.cint 2)],.cmp (.attr (.sub (.var 33) (.var 14)) 82) [.NotEq] [.sub (.var 32) (.var 14)],.cmp (.attr (.sub (.var 33) (.var 14)) 84) [.IsNot] [.cmp (.cstr [32,9]) [.NotIn] [.sub (.var 31) (.var 14)]]]) [.ret (.list [])] [],.append 37 (.newList),.forS false [5] (.range none (.cint 5)) s9]
noncomputable def gi(n:Nat):List PV:=(List.range n).map λi=>.cell (i+1)
noncomputable def zT(r:Nat->List Nat)(a:Nat):List PV:=ns5.map λb=>.int (code (ij r a b))
noncomputable def stN(r:Nat->List Nat)(n:Nat):List Sto:=.list (gi n)::(List.range n).map λi=>.list (zT r i)
noncomputable def st1(r:Nat->List Nat)(a:Nat):List Sto:=(stN r a++[Sto.list []]).set 0 (.list (gi a++[PV.cell (a+1)]))
theorem tg(F:Nat->List PV->Option PV)(lam:Bool)(r:Nat->List Nat)(W:qO F r)(Y:mxN r<=3)(a:Nat)(L:a<5)(J:uF (r a) (ldN r a) (WN r a))(ρ:ar)(h:SE r ρ)(v:ρ.lookup 14=some (pvN a)):
 ∃ρ',aU F lam 54 w6 ⟨ρ,stN r a⟩=some (.next,⟨ρ',stN r (a+1)⟩)/\SE r ρ':=by
 generalize hσ:stN r a=σ;have t:=J.ok.len;have K:r a≠[]:=λe=>by rw[e]at t;exact absurd t.1 (by decide)
 have g:∀(k x:Nat) (ρ:ar) (f:Nat->PV),ρ.lookup x=some (l5 f)->ρ.lookup 14=some (pvN a)->ev F σ (k+2) (.sub (.var x) (.var 14)) ρ=some (f a):=λk x ρ f h1 h2=>aX (aa h1) rfl (aa h2) (cD _ L);have p:∀k ρ,ρ.lookup 34=some (l5 λa=>pvL (r a))->ρ.lookup 14=some (pvN a)->ev F σ (k+3) (.slice (.sub (.var 34) (.var 14)) none (some (.neg (.cint 1))) none) ρ=some (pvL (r a).dropLast):=λk ρ h1 h2=>bA (h:=some (-1)) (g _ _ _ _ h1 h2) rfl rfl rfl rfl (u9 J.ok);have M:(r a).dropLast.length<=2:=by rw[List.length_dropLast];simp[t]
 have z:pW (r a).dropLast<=4:=by
  have q:∀(l:List Nat) (m:Nat),(∀x∈l,x<=3)->m<=4->l.foldl (λm x=>if m<x+1 then x+1 else m) m<=4:=by
   intro l;induction l with
   |nil=>exact λm u h=>h
   |cons x l I=>
    intro m h Y;have:=h x (.head _);exact I _ (λy H=>h y (.tail _ H)) (by show(if m<x+1 then x+1 else m)<=4;split<;>lia)
  exact q _ 0 (λx hx=>J.ok.le3 x ((List.dropLast_sublist _).subset hx)) (by decide)
 have S:ev F σ 52 (.tup (.comp (.meth (.slice (.sub (.var 34) (.var 14)) none (some (.neg (.cint 1))) none) 4 [.var 28]) [(false,[28])] [.range none (.bin (.Add) (.max1 (.bin (.Add) (.list [.neg (.cint 1)]) (.slice (.sub (.var 34) (.var 14)) none (some (.neg (.cint 1))) none))) (.cint 1))] [[]] [14,34])) ρ=some (.tuple ((WN r a).cs.map pvN)):=by
  rw[J.cs,List.map_map];refine w4 (x:=.list ((List.range (pW (r a).dropLast)).map (pvN∘cnt (r a).dropLast))) (cf (emb:=pvN) ((fN (j:=((pW (r a).dropLast:Nat):Int)) (aG (x:=.int ((pW (r a).dropLast:Int) - 1)) (y:=.int 1) (na (x:=.list (.int (-1)::(r a).dropLast.map pvN)) (l:=-1::(r a).dropLast.map λ(n:Nat)=>(n:Int)) (aG (x:=.list [.int (-1)]) (fi (mm rfl mm0)) rfl (p _ _ h.r34 v) rfl ?_) rfl ?_ (uq _)) rfl rfl rfl ?_) (Nm z (by decide))).trans rfl) (λs hs=>?_) (by rw[List.length_range];exact Nt z (by decide))) rfl (by rw[List.length_map,List.length_range];exact Nt z (by decide))
  ·show(if 1+((r a).dropLast.map pvN).length<=ag then _ else _)=_;rw[if_pos (by rw[List.length_map];exact Nt (Nat.add_le_add_left M 1) (by decide))];rfl
  ·exact aw rfl (jT _)
  ·show some (PV.int _)=some (PV.int _);congr 2;exact Int.sub_add_cancel (↑_) 1
  ·have B:∀x,(28==x)=false->[14,34].contains x=true->((28,pvN s)::aj [14,34] ρ).lookup x=ρ.lookup x:=λx h1 h2=>by
    rw[List.lookup,show(x==28)=false by rw[BEq.comm];exact h1];exact bt h2 ρ
   exact b4 (ρ':=(28,pvN s)::aj [14,34] ρ) (by rw[List.all_cons,bw rfl];rfl) rfl (cI (p _ _ ((B 34 rfl rfl).trans h.r34) ((B 14 rfl rfl).trans v)) (mm (aa rfl) mm0) (lN ..))
 have h0:SE r ((38,.tuple ((WN r a).cs.map pvN))::ρ):=⟨h.r31,h.r32,h.r33,h.r34,h.r35,h.r36,h.r37⟩
 have o:((38,.tuple ((WN r a).cs.map pvN))::ρ).lookup 14=some (pvN a):=v;have U:ev F σ 51 (.comp (.tuple [.attr (.var 46) 6,.attr (.var 46) 7,.attr (.var 46) 83,.meth (.var 46) 87 []]) [(false,[46])] [.tuple [.sub (.var 33) (.var 14),.call 85 [.sub (.var 31) (.var 14)]]] [[]] []) ((38,.tuple ((WN r a).cs.map pvN))::ρ)=some (.list [a7 (WN r a) (LN r a),a7 (WN r a) (LN r a)]):=
  cf (l:=[nmN r a,ldN r a]) (emb:=λx=>wsP x (WN r a)) (g:=λu=>a7 (WN r a) (LN r a)) (aF rfl (dg (mm (g _ 33 _ _ h0.r33 o) (mm (bH (mm (g _ 31 _ _ h0.r31 o) mm0) (W.init a L)) mm0))) rfl rfl rfl)
   (λx u=>b4 (ρ':=[(46,wsP x (WN r a))]) (by rw[bB];rfl) (by rw[bB];rfl) (dg (mm (cE (aa rfl) rfl rfl) (mm (cE (aa rfl) rfl rfl) (mm (cE (aa rfl) rfl rfl) (mm (cI (as:=[]) (aa rfl) rfl (W.long a L x)) mm0)))))) (by decide:2<=ag)
 have c:∀ρ,SE r ρ->ρ.lookup 14=some (pvN a)->ρ.lookup 38=some (.tuple ((WN r a).cs.map pvN))->ρ.lookup 39=some (.list [a7 (WN r a) (LN r a),a7 (WN r a) (LN r a)])->ev F σ 50 (.boolop false [.cmp (.var 39) [.NotEq] [.bin (.Mult) (.list [.tuple [.len (.sub (.var 31) (.var 14)),.bin (.Sub) (.len (.sub (.var 34) (.var 14))) (.cint 1),.tuple [.var 38,.sub (.sub (.var 34) (.var 14)) (.neg (.cint 1))],.sub (.var 35) (.var 14)]]) (.cint 2)],.cmp (.attr (.sub (.var 33) (.var 14)) 82) [.NotEq] [.sub (.var 32) (.var 14)],.cmp (.attr (.sub (.var 33) (.var 14)) 84) [.IsNot] [.cmp (.cstr [32,9]) [.NotIn] [.sub (.var 31) (.var 14)]]]) ρ=some (.bool false):=λρ h v h38 h39=>by
  refine bM (ni (az (aa h39) (aG (x:=.list [a7 (WN r a) (LN r a)]) (y:=.int 2) (fi (mm (dg (mm (gd (g _ 31 _ _ h.r31 v) rfl ?_) (mm (aG (x:=.int (r a).length) (y:=.int 1) (gd (g _ 34 _ _ h.r34 v) rfl ?_) rfl rfl rfl ?_) (mm (dg (mm (aa h38) (mm (aX (j:=.int (-1)) (g _ 34 _ _ h.r34 v) rfl rfl ?_) mm0))) (mm (g _ 35 _ _ h.r35 v) mm0))))) mm0)) rfl rfl rfl rfl) (sG ..))
   (ni (az (cE (g _ 33 _ _ h.r33 v) rfl rfl) (g _ 32 _ _ h.r32 v) (uy _ _ ?_)) (bW (az (x:=.bool (decide ((WN r a).cs.length<=1))) (y:=.bool (!cw [32,9] (ldN r a))) (cE (g _ 33 _ _ h.r33 v) rfl rfl) (az rfl (g _ 31 _ _ h.r31 v) rfl) ?_))))
  ·rw[J.n];show(if(ldN r a).length<=ag then _ else _)=_;rw[if_pos (Nt J.len (by decide))];rfl
  ·exact(len_ok _ (by rw[List.length_map];exact Nt t.2 (by decide))).trans (by rw[List.length_map])
  ·rw[J.nt];show some (PV.int _)=some (PV.int _);congr 2;exact(Int.ofNat_sub t.1).symm
  ·rw[J.b];exact sN K (Nt t.2 (Nat.le_add_left _ _))
  ·intro c hc;rcases List.mem_append.mp hc with hc|hc
   ·clear t K g p M z h0 o h38 h39;rcases J.chr c hc with rfl|rfl<;>decide
   ·have:=List.mem_cons.mp hc;clear t K g p M z h0 o h38 h39;rcases this with rfl|hc
    ·exact Aw L
    ·exact(by decide:∀c∈[32,9],c<128) c hc
  ·rw[J.simple];clear J t K g p M z h0 o h38 h39;cases cw [32,9] (ldN r a)<;>rfl
 have h1:SE r ((39,.list [a7 (WN r a) (LN r a),a7 (WN r a) (LN r a)])::(38,.tuple ((WN r a).cs.map pvN))::ρ):=⟨h.r31,h.r32,h.r33,h.r34,h.r35,h.r36,h.r37⟩
 clear J t K g p M z h0 o;subst hσ;have R:exS F lam 50 (.append 37 .newList) ⟨(39,.list [a7 (WN r a) (LN r a),a7 (WN r a) (LN r a)])::(38,.tuple ((WN r a).cs.map pvN))::ρ,stN r a⟩=some (.next,⟨(39,.list [a7 (WN r a) (LN r a),a7 (WN r a) (LN r a)])::(38,.tuple ((WN r a).cs.map pvN))::ρ,st1 r a⟩):=by
  show(aV ⟨(39,.list [a7 (WN r a) (LN r a),a7 (WN r a) (LN r a)])::(38,.tuple ((WN r a).cs.map pvN))::ρ,stN r a++[.list []]⟩ 37).bind (λn=>q0 ⟨_,stN r a++[.list []]⟩ n (.cell (stN r a).length))=_;rw[show aV ⟨(39,.list [a7 (WN r a) (LN r a),a7 (WN r a) (LN r a)])::(38,.tuple ((WN r a).cs.map pvN))::ρ,stN r a++[.list []]⟩ 37=some 0 from congrArg (·.bind aZ) h1.r37];show(if(gi a).length<=ag then _ else _)=_;have e:(gi a).length=a:=by rw[gi,List.length_map,List.length_range]
  rw[if_pos (by rw[e];exact Nt (Nat.le_of_lt L) (by decide)),show(stN r a).length=a+1 by rw[stN,List.length_cons,List.length_map,List.length_range]];rfl
 obtain⟨s',t1,⟨t2,t3⟩,t4⟩:=eE (body:=aU F lam 48 s9) (tup:=false) (xs:=[5]) (emb:=pvN) (λpre s=>(SE r s.ρ/\s.ρ.lookup 14=some (pvN a))/\s.σ=(st1 r a).set (a+1) (.list (pre.map λb=>.int (code (ij r a b))))) (List.range 5) (λpre b Z s e C=>by
  obtain⟨ρ,σ⟩:=s;refine au C λy6 E=>?_;obtain⟨O,i2⟩:=y6;cases(E:σ=_);refine au (ls e) λN A=>?_;obtain⟨ρ',q1,Q,q3⟩:=rK F lam r W Y a b L A (norm ((5,pvN b)::ρ)) (SE.nrm ⟨O.r31,O.r32,O.r33,O.r34,O.r35,O.r36,O.r37⟩) ((ac ..).trans i2) ((ac ..).trans rfl) ((st1 r a).set (a+1) (.list (pre.map λb=>.int (code (ij r a b))))) (gi (a+1)) (pre.map λb=>.int (code (ij r a b)))
   (lt5 (P:=λa=>∀x,((st1 r a).set (a+1) x)[0]?=some (.list (gi (a+1)))) (λu=>rfl) (λu=>rfl) (λu=>rfl) (λu=>rfl) (λu=>rfl) a L _) (tN _ (Nat.lt_succ_self a) (Nt L (Nat.le_add_left _ _))) (lt5 (P:=λa=>∀x,((st1 r a).set (a+1) x)[a+1]?=some x) (λu=>rfl) (λu=>rfl) (λu=>rfl) (λu=>rfl) (λu=>rfl) a L _) (by rw[List.length_map,N,List.length_range];exact Nt (Nat.le_of_lt A) (by decide))
  refine⟨_,_,rfl,q1,⟨Q,q3⟩,?_⟩;rw[List.set_set,List.map_append];rfl) ⟨(39,.list [a7 (WN r a) (LN r a),a7 (WN r a) (LN r a)])::(38,.tuple ((WN r a).cs.map pvN))::ρ,st1 r a⟩ ⟨⟨h1,v⟩,lt5 (P:=λa=>st1 r a=(st1 r a).set (a+1) (.list [])) rfl rfl rfl rfl rfl a L⟩
 obtain⟨ρ',σ'⟩:=s';cases(t4:σ'=_);exact⟨ρ',ao (an rfl S) (ao (an rfl U) (ao (aM (c _ h1 v rfl rfl) (λh=>nomatch h) (λu=>aE)) (ao R (ao ((hF (fN rfl (by decide)) (λd hd=>by
  refine af (List.mem_map.mp hd) λi z7 T=>?_;subst T;rfl) t1).trans (congrArg (λσ=>some (Fl.next,PS'.mk ρ' σ)) (lt5 (P:=λa=>(st1 r a).set (a+1) (.list (zT r a))=stN r (a+1)) rfl rfl rfl rfl rfl a L))) aE)))),t2⟩
theorem aS:∀a∈ns5,a<5:=by decide
theorem xH:∀r∈cg,xX r<=3:=by decide
theorem ur(F:Nat->List PV->Option PV)(r:Nat->List Nat)(R:qO F r)(b:∀a,a<5->uF (r a) (ldN r a) (WN r a)):cS F za [l5 λa=>.str (ldN r a),l5 λa=>.str (nmN r a),l5 (gN r)]=some (bj (ij r)):=by
 have o:∀a,a<5->LN r a<=3:=λa v=>by
  rw[show LN r a=_ from(b a v).L];exact xH _ (hR (b a v).ok)
 have c:mxN r<=3:=by
  have q:∀x∈ns5.map (LN r),x<=3:=λx W=>by
   refine af (List.mem_map.mp W) λa v p=>?_;clear W;subst p;exact o a (aS a v)
  unfold mxN;generalize ns5.map (LN r)=l at q;have N:∀(l:List Nat) (m:Nat),m<=3->(∀x∈l,x<=3)->l.foldl (λm x=>if m<x then x else m) m<=3:=by
   intro l;clear o;induction l with
   |nil=>exact λm h u=>h
   |cons x l A=>
    intro m c h;have:=h x (.head _);exact A _ (by show(if m<x then x else m)<=3;split<;>lia) λy Z=>h y (.tail _ Z)
  exact N _ 0 (by decide) q
 have P:ev F [] 58 (.comp (.comp (.len (.var 26)) [(false,[26])] [.meth (.var 27) 110 [.cstr [9]]] [[]] []) [(false,[27])] [.var 31] [[]] []) [(33,l5 (gN r)),(32,l5 λa=>.str (nmN r a)),(31,l5 λa=>.str (ldN r a))]=some (l5 λa=>pvL (r a)):=by
  refine cf (l:=ns5) (emb:=λa=>.str (ldN r a)) (g:=λa=>pvL (r a)) (aF rfl (aa rfl) rfl rfl rfl) (λa v=>b4 (ρ':=[(27,.str (ldN r a))]) rfl rfl ?_) (by decide:5<=ag);have h:=b a (aS a v);have e:(aB 9 (ldN r a)).map (λw=>pvN w.length)=(r a).map pvN:=by
   have q:=congrArg (List.map pvN) h.split;rwa [List.map_map]at q
  show ev F [] _ _ _=some (.list ((r a).map pvN));rw[<- e];have k:(aB 9 (ldN r a)).length<=ag:=by
   have q:=congrArg List.length h.split;rw[List.length_map]at q;rw[q];exact Nt h.ok.len.2 (by decide)
  refine cf (emb:=.str) (aF rfl (cI (d:=.list ((aB 9 (ldN r a)).map .str)) (aa rfl) (mm rfl mm0) ?_) rfl rfl rfl) (λw B=>b4 (ρ':=[(26,.str w)]) rfl rfl (gd (aa rfl) rfl ?_)) k
  ·show(if(ldN r a).length<=ag then _ else _)=_;rw[if_pos (Nt h.len (by decide))]
  ·have:=h.ok.le3 w.length (h.split▸List.mem_map.mpr ⟨w,B,rfl⟩);show(if w.length<=ag then _ else _)=_;rw[if_pos (Nt this (by decide))];rfl
 have J:ev F [] 57 (.comp (.max1 (.var 25)) [(false,[25])] [.var 34] [[]] []) [(34,l5 λa=>pvL (r a)),(33,l5 (gN r)),(32,l5 λa=>.str (nmN r a)),(31,l5 λa=>.str (ldN r a))]=some (l5 λa=>pvN (LN r a)):=by
  refine cf (l:=ns5) (emb:=λa=>pvL (r a)) (g:=λa=>pvN (LN r a)) (aF rfl (aa rfl) rfl rfl rfl) (λa v=>b4 (ρ':=[(25,pvL (r a))]) rfl rfl (na (aa rfl) rfl (jT _) ?_)) (by decide:5<=ag);have h:=b a (aS a v);rw[show LN r a=_ from h.L];exact qW λe=>by have:=h.ok.len.1;rw[e]at this;exact absurd this (by decide)
 have M:ev F [] 56 (.comp (.comp (.call 102 [.var 27,.var 28]) [(false,[28])] [.range (some (.cint 1)) (.bin (.Add) (.max1 (.var 35)) (.cint 2))] [[]] [27]) [(false,[27])] [.var 31] [[]] [35]) [(35,l5 λa=>pvN (LN r a)),(34,l5 λa=>pvL (r a)),(33,l5 (gN r)),(32,l5 λa=>.str (nmN r a)),(31,l5 λa=>.str (ldN r a))]=some (l5 λa=>.list ((List.range (mxN r+1)).map λt=>pvN (IN r a (1+t)))):=by
  refine cf (l:=ns5) (emb:=λa=>.str (ldN r a)) (g:=λa=>.list ((List.range (mxN r+1)).map λt=>pvN (IN r a (1+t)))) (aF rfl (aa rfl) rfl rfl rfl) (λa v=>b4 (ρ':=[(27,.str (ldN r a)),(35,l5 λa=>pvN (LN r a))]) rfl rfl
   (cf (l:=List.range (mxN r+1)) (emb:=λi=>pvN (1+i)) (g:=λt=>pvN (IN r a (1+t))) ((ld (i:=1) (j:=((mxN r+2:Nat):Int)) rfl (aG (x:=pvN (mxN r)) (y:=.int 2) (na (aa rfl) rfl (jT (ns5.map (LN r))) (qW (λe=>nomatch e))) rfl rfl rfl rfl) (by decide) (Nm (Nat.add_le_add_right c 2) (by decide))).trans ?_) (λt C=>b4 (ρ':=[(28,pvN (1+t)),(27,.str (ldN r a))]) rfl rfl (bH (mm (aa rfl) (mm (aa rfl) mm0)) (R.col a (aS a v) t (by have:=List.mem_range.mp C;exact Nl this (Nat.succ_le_succ c))))) (by rw[List.length_range];exact Nt (Nat.succ_le_succ c:_<=4) (by decide)))) (by decide:5<=ag)
  unfold rng;rw[show(((mxN r+2:Nat):Int) - 1).toNat=mxN r+1 by lia];rfl
 obtain⟨s',Q,I,E⟩:=eE (body:=aU F (za.f==(105:Nat)) 54 w6) (tup:=false) (xs:=[14]) (emb:=pvN) (λpre s=>SE r s.ρ/\s.σ=stN r pre.length) (List.range 5) (λpre a Y s e S=>by
  obtain⟨ρ,σ⟩:=s;refine au S λz T=>?_;refine au (ls e) λU v=>?_;have n:pre.length=a:=by rw[U,List.length_range]
  rw[n]at T;clear o e S U;cases(T:σ=_);obtain⟨ρ',q1,H⟩:=tg F _ r R c a v (b a v) (norm ((14,pvN a)::ρ)) (SE.nrm ⟨z.r31,z.r32,z.r33,z.r34,z.r35,z.r36,z.r37⟩) ((ac ..).trans rfl);exact⟨_,_,rfl,q1,H,by rw[List.length_append,n];rfl⟩) ⟨[(37,.cell 0),(36,l5 λa=>.list ((List.range (mxN r+1)).map λt=>pvN (IN r a (1+t)))),(35,l5 λa=>pvN (LN r a)),(34,l5 λa=>pvL (r a)),(33,l5 (gN r)),(32,l5 λa=>.str (nmN r a)),(31,l5 λa=>.str (ldN r a))],[.list []]⟩ ⟨⟨rfl,rfl,rfl,rfl,rfl,rfl,rfl⟩,rfl⟩
 obtain⟨ρ,σ⟩:=s';clear R b o c;cases(E:σ=stN r 5);refine bX (d:=.cell 0) rfl ?_ (ao (an rfl P) (ao (an rfl J) (ao (an rfl M) (ao og (ao (hF (fN rfl (by decide)) (λd hd=>by
  refine af (List.mem_map.mp hd) λi z5 K=>?_;subst K;rfl) Q) (bT (dd (aa I.r37)))))))) rfl (fq ..)
 rw[List.all_cons,List.all_cons,List.all_cons,show aH 8 (l5 (gN r))=true from List.all_eq_true.mpr λd hd=>?_]
 ·rfl
 ·refine af (List.mem_map.mp hd) λa z7 O=>?_;subst O;show(true&&(true&&(true&&((((WN r a).cs.map pvN).all (aH 4)&&(true&&true))&&(true&&true)))))=true;rw[List.all_map,List.all_eq_true.mpr (λu u=>rfl:∀x∈(WN r a).cs,(aH 4∘pvN) x=true)];rfl
theorem jW(p:α->Bool)(l:List α):(l.filter p).isEmpty=l.all λx=>!p x:=by
 induction l with
 |nil=>rfl
 |cons a l j=>
  rw[List.filter_cons,List.all_cons];cases p a
  ·exact j
  ·rfl
theorem kI(p:Nat->Bool)(l:List Nat):(l.map (1 + ·)).all p=l.all λt=>p (1+t):=List.all_map ..
theorem zv(k:Nat)(r:Nat->List Nat)(y:∀a,a<5->uF (r a) (ldN r a) (WN r a)):qO (bp fns (k+2)) r:=by
 have u:∀a,a<5->r a∈cg:=λa j=>hR (y a j).ok;have d:∀t,t<4->1+t∈[1,2,3,4]:=λt v=>by
  have:=lt5 (P:=λt=>t<4->1+t∈[1,2,3,4]) (by decide) (by decide) (by decide) (by decide) (by decide) t (Nat.lt_succ_of_lt v);exact this v
 have g:∀a,a<5->∀x,kH (bp fns (k+1)) (wsP x (WN r a)) (LN r a) (IN r a):=λa j x=>⟨(iE (xx (bp fns k) x) _ (u a j)),λz h1 h2=>by
  have:=iE (iE (zM (bp fns k) x) _ (u a j)) z;obtain⟨t,rfl⟩:∃t,z=1+t:=⟨z - 1,Eq.symm (Nat.add_sub_of_le h1)⟩
  exact this (d t (Nat.one_add_le_iff.mp h2)),by
  rw[show LN r a=_ from(y a j).L];exact xH _ (u a j)⟩
 have q:=λa b j m=>oV (r a) (u a j) (r b) (u b m);refine⟨λa j t v=>iE (iE (yb (bp fns (k+1))) _ (u a j)) _ (d t v),λa j=>?_,λa j x=>iE (xx (bp fns (k+1)) x) _ (u a j),λa b j m=>?_,λa b j m=>?_,λa b j m=>nF _ _ _ _ _ _ _ _ _ (g a j _) (g b m _),λa b j m=>mV _ _ _ _ _ _ _ _ _ (g a j _) (g b m _)⟩
 ·have:=qV (bp fns (k+1)) (ldN r a) [] (y a j).chr (Nt (y a j).len (by decide)) (.inl rfl);rwa [List.append_nil]at this
 ·refine(vQ _ _ _ _ _ _ _ _ _ (g a j _) (g b m _)).trans (congrArg (λb=>some (PV.bool b)) ?_);refine(eq_of_beq (ba (q a b j m)).1).trans ?_;rw[jP,jW,tsN,kI];refine congrArg (List.all _) (funext λt=>?_);show decide (_<_) = !decide (_<=_);rw[<- decide_not];exact decide_eq_decide.mpr Nat.not_le.symm
 ·refine(s6 _ _ _ _ _).trans (congrArg (λb=>some (PV.bool b)) ?_);refine(eq_of_beq (ba (q a b j m)).2).trans ?_;rw[jP,jW,tsN,kI];refine congrArg (List.all _) (funext λt=>?_);show decide (_=_) = !!decide (_=_);rw[Bool.not_not];rfl
section
noncomputable def mA(c:Nat):Nat:=if c=20 then 1 else if c=21 then 2 else if c=27 then 3 else 0
noncomputable def mB(c:Nat):Nat:=if c=20 then 2 else if c=21 then 1 else if c=27 then 3 else 0
noncomputable def bi(c L:Nat):Prop:=(c=18/\L=2)\/(c=19/\L=2)\/(c=20/\L=1)\/(c=21/\L=1)\/(c=27/\L=1)
theorem bi.all{P:Nat->Nat->Prop}(h1:P 18 2)(h2:P 19 2)(g:P 20 1)(j:P 21 1)(m:P 27 1){c L:Nat}(h:bi c L):P c L:=by
 rcases h with⟨rfl,rfl⟩|⟨rfl,rfl⟩|⟨rfl,rfl⟩|⟨rfl,rfl⟩|⟨rfl,rfl⟩<;>assumption
theorem bi.sl(h:bi c L):slN c=some L:=h.all (P:=λc L=>slN c=some L) rfl rfl rfl rfl rfl
section
variable(d:Nat->Nat->Nat)
noncomputable def pg(D:DD):Prop:=∀p∈D,∃a b,a<5/\b<5/\a≠b/\p=(kk a b,PV.int (code (d a b)))
noncomputable def Has(D:DD)(k:Int):Prop:=k∈D.map (·.1)
noncomputable def eI(c:Nat)(l r:List Nat):Prop:=∀a∈l,∀b∈r,a<5/\b<5/\a≠b/\d a b=mA c/\d b a=mB c
structure Ext(D D':DD)(ms:List Nat):Prop where
 good:pg d D'
 mono:∀k,Has D k->Has D' k
 cov:∀a∈ms,∀b∈ms,a≠b->Has D' (kk a b)
noncomputable def xu(L:Nat)(S:List Nat):Prop:=∀op∈S.head?,op=7\/∃n,slN op=some n/\n<L
noncomputable def Un(X ms:List Nat):Prop:=∀V S D,pg d D->∃D',dT X ⟨V,S,D⟩=some ⟨ms::V,S,D'⟩/\Ext d D D' ms
noncomputable def Rd(L:Nat)(X ms:List Nat):Prop:=∀V S D,pg d D->xu L S->∃T D',dT X ⟨V,S,D⟩=some T/\Ext d D D' ms/\∀c m,slN c=some m->m<=L->dM c T.S T.V T.D=dM c S (ms::V) D'
end
variable{d:Nat->Nat->Nat}
theorem n9(h:p∈b9 D k v):p∈D\/p=(k,v):=by
 unfold b9 at h;split at h
 ·refine af (List.mem_map.mp h) λq j e=>?_;by_cases hk:q.1=k
  ·rw[if_pos hk]at e;exact .inr e.symm
  ·rw[if_neg hk]at e;exact .inl (e▸j)
 ·exact(List.mem_append.mp h).imp id List.mem_singleton.mp
theorem eM:Has (b9 D k v) k/\∀j,Has D j->Has (b9 D k v) j:=by
 unfold Has;rw[lH];split
 ·rename_i h;exact⟨c8.mp h,λu h=>h⟩
 ·exact⟨List.mem_append_right _ (.head _),λu h=>List.mem_append_left _ h⟩
theorem rx(hc:bi c L):∀(g:List (Nat×Nat)) (D:DD),(∀q∈g,q.1<5/\q.2<5/\q.1≠q.2/\d q.1 q.2=mA c/\d q.2 q.1=mB c)->pg d D->
 pg d (g.foldl (h9 c) D)/\(∀k,Has D k->Has (g.foldl (h9 c) D) k)/\∀q∈g,Has (g.foldl (h9 c) D) (kk q.1 q.2)/\Has (g.foldl (h9 c) D) (kk q.2 q.1):=by
 intro g;induction g with
 |nil=>exact λD u h=>⟨h,λu h=>h,λq h=>nomatch h⟩
 |cons q g y=>
  intro D m hD;refine oI (m q (.head _)) λh1 h2 v l r=>?_;have e:(d6 c).1=code (mA c)/\(d6 c).2=code (mB c):=hc.all (P:=λc u=>(d6 c).1=code (mA c)/\(d6 c).2=code (mB c)) ⟨rfl,rfl⟩ ⟨rfl,rfl⟩ ⟨rfl,rfl⟩ ⟨rfl,rfl⟩ ⟨rfl,rfl⟩;obtain⟨t,z,i⟩:=y (h9 c D q) (λp j=>m p (.tail _ j)) (λp j=>by
   clear hc y m;rcases n9 j with j|rfl
   ·rcases n9 j with j|rfl
    ·exact hD p j
    ·exact⟨_,_,h1,h2,v,by rw[e.1,l]⟩
   ·exact⟨_,_,h2,h1,Ne.symm v,by rw[e.2,r]⟩)
  refine⟨t,λk h=>z k (eM.2 k (eM.2 k h)),λp j=>?_⟩;clear hc y m hD h1 h2 v l r e t;rcases List.mem_cons.mp j with rfl|j
  ·exact⟨z _ (eM.2 _ eM.1),z _ eM.1⟩
  ·exact i p j
theorem Ext.cross(hc:bi c L)(h1:Ext d D D1 l)(h2:Ext d D1 D2 r)(i:eI d c l r):Ext d D (dH c l r D2) (l++r):=by
 have t:∀a∈l,∀b∈r,(a,b)∈f7 l r:=λa j b g=>List.mem_flatMap.mpr ⟨a,j,List.mem_map.mpr ⟨b,g,rfl⟩⟩;obtain⟨e,y,z⟩:=rx hc (f7 l r) D2 (λq v=>by
  refine af (List.mem_flatMap.mp v) λa j v=>?_;refine af (List.mem_map.mp v) λb g u=>?_;subst u;exact i a j b g) h2.good
 refine⟨e,λk h=>y k (h2.mono k (h1.mono k h)),λa j b g m=>?_⟩;rcases List.mem_append.mp j with j|j<;>rcases List.mem_append.mp g with g|g
 ·exact y _ (h2.mono _ (h1.cov a j b g m))
 ·exact(z _ (t a j b g)).1
 ·exact(z _ (t b g a j)).2
 ·exact y _ (h2.cov a j b g m)
theorem oC(u:slN c=some m)(h:xu m S)(V:List (List Nat))(D:DD):dM c S V D=some ⟨V,S,D⟩:=by
 cases S with
 |nil=>rfl
 |cons g S=>
  have j:can c g=false:=by
   unfold can;rw[u];rcases h g rfl with rfl|⟨n,v,hl⟩
   ·rfl
   ·rw[v];show(g != 7&&decide (m<=n))=false;rw[decide_eq_false (Nat.not_le_of_lt hl),Bool.and_false]
  show(if can c g=true then _ else _)=_;rw[if_neg (by rw[j];decide)]
theorem Un.rd(h:Un d X ms)(L:Nat):Rd d L X ms:=λV S D hD u=>by
 refine af (h V S D hD) λj e x=>?_;exact⟨_,_,e,x,λu u u u=>rfl⟩
theorem Rd.mono(h:Rd d 2 X ms):Rd d 1 X ms:=λV S D hD j=>by
 refine aO (h V S D hD λu ho=>(j u ho).imp id λ⟨n,h1,h2⟩=>⟨n,h1,Nat.lt_succ_of_lt h2⟩) λT g e x q=>?_;exact⟨T,g,e,x,λc m h1 h2=>q c m h1 (Nat.le_succ_of_le h2)⟩
theorem kr(X Y:List Nat)(T:TS):dT (X++Y) T=(dT X T).bind (dT Y):=List.foldlM_append
theorem vV(hc:bi c L)(T:TS):dU T c=(dM c T.S T.V T.D).bind λT=>some ⟨T.V,c::T.S,T.D⟩:=hc.all (P:=λc u=>dU T c=(dM c T.S T.V T.D).bind λT=>some ⟨T.V,c::T.S,T.D⟩) rfl rfl rfl rfl rfl
theorem Rd.join(hc:bi c L)(h1:Rd d L X ms)(h2:Rd d (L+1) Y ms')(i:eI d c ms ms'):Rd d L (X++c::Y) (ms++ms'):=λV S D hD g=>by
 refine aO (h1 V S D hD g) λT f e x q=>?_;obtain⟨r,z,k,t,l⟩:=h2 (ms::V) (c::S) f x.good λn ho=>by
  (replace ho:=si ho;subst ho)
  exact .inr ⟨L,hc.sl,Nat.lt_succ_self L⟩
 refine⟨r,dH c ms ms' z,?_,Ext.cross hc x t i,λb m y v=>?_⟩
 ·rw[kr,e,Option.bind_some];show(dU T c).bind (dT Y)=_;rw[vV hc,q c L hc.sl (Nr L),oC hc.sl g];exact k
 ·rw[l b m y (Nat.le_succ_of_le v)];have j:can b c=true:=by
   unfold can;rw[y,hc.sl];show(c != 7&&decide (m<=L))=true;rw[decide_eq_true v,Bool.and_true];exact hc.all (P:=λc u=>(c != 7)=true) rfl rfl rfl rfl rfl
  show(if can b c=true then _ else _)=_;rw[if_pos j]
theorem Rd.paren(h:Rd d 1 X ms):Un d (7::X++[8]) ms:=λV S D hD=>by
 refine hid λy g=>?_;obtain⟨T,j,e,x,q⟩:=h V (7::S) D hD λv ho=>by(replace ho:=si ho;subst ho);exact .inl rfl
 refine g ?_;clear g y;refine⟨j,?_,x⟩;rw[kr];show(Option.bind ((dU ⟨V,S,D⟩ 7).bind (dT X)) _)=_;have z:dU ⟨V,S,D⟩ 7=some ⟨V,7::S,D⟩:=by
  have:dM 7 S V D=some ⟨V,S,D⟩:=by cases S<;>rfl
  show(dM 7 S V D).bind _=_;rw[this];rfl
 rw[z,Option.bind_some,e,Option.bind_some];show(Option.bind (dU T 8) _)=_;have u:dU T 8=some ⟨ms::V,S,j⟩:=by
  show(dM 8 T.S T.V T.D).bind _=_;rw[q 8 0 rfl (Nat.zero_le _),oC (m:=0) rfl λv ho=>by(replace ho:=si ho;subst ho);exact .inl rfl];rfl
 rw[u];rfl
theorem Un.leaf(m:Nat):Un d [256+m] [m]:=λV S D hD=>by
 refine⟨D,?_,hD,λu h=>h,λa z b y g=>by obtain rfl:=List.mem_singleton.mp z;obtain rfl:=List.mem_singleton.mp y;exact(g rfl).elim⟩;have j:slN (256+m)=none:=by unfold slN;rw[if_neg (by lia),if_neg (by lia),if_neg (by lia)]
 have:dM (256+m) S ([m]::V) D=some ⟨[m]::V,S,D⟩:=by
  cases S with
  |nil=>rfl
  |cons v S=>
   show(if can (256+m) v=true then _ else _)=_;rw[if_neg];unfold can;rw[j];exact Bool.false_ne_true
 show((dM (256+m) S (if 256<=256+m then[256+m - 256]::V else V) D).bind λT=>if 256+m=8 then _ else if 256+m<256/\256+m≠0 then _ else some T).bind (λT=>some T)=_;rw[if_pos (Nat.le_add_right _ _),Nat.add_sub_cancel_left,this,Option.bind_some,if_neg (Nat.ne_of_gt (Nl (by decide) (Nat.le_add_right 256 _))),if_neg (by simp)];rfl
inductive Ch(d:Nat->Nat->Nat):List Nat->List Nat->Prop
 |u {X ms:List Nat} (h:Un d X ms):Ch d X ms
 |s {X ms Y ms':List Nat} {c:Nat} (h:Ch d X ms) (hc:bi c 2) (hy:Un d Y ms') (hx:eI d c ms ms'):Ch d (X++c::Y) (ms++ms')
theorem Ch.rd(h:Ch d X ms):Rd d 2 X ms:=by
 induction h with
 |u h=>exact h.rd 2
 |s h hc m j g=>exact g.join hc (m.rd 3) j
theorem eI.soft(hc:bi c 2)(j:bi c' 2)(h:eI d c l r):eI d c' l r:=λa y b v=>by
 refine oI (h a y b v) λh1 h2 u m g=>?_;have e:∀c,bi c 2->mA c=0/\mB c=0:=λc hc=>by
  rcases hc with⟨rfl,_⟩|⟨rfl,_⟩|⟨_,h⟩|⟨_,h⟩|⟨_,h⟩
  ·exact⟨rfl,rfl⟩
  ·exact⟨rfl,rfl⟩
  all_goals cases h
 rw[(e c hc).1]at m;rw[(e c hc).2]at g;exact⟨h1,h2,u,by rw[m,(e c' j).1],by rw[g,(e c' j).2]⟩
theorem Ch.app(hc:bi c 2)(h:Ch d X ms)(h2:Ch d Y ms'):eI d c ms ms'->Ch d (X++c::Y) (ms++ms'):=by
 induction h2 with
 |u h2=>exact λv=>.s h hc h2 v
 |@s Y1 m1 Y2 m2 c' h1 hc' hy v ih=>
  intro m;have q:=Ch.s (ih λa j b g=>m a j b (List.mem_append_left _ g)) hc' hy λa j b g=>(List.mem_append.mp j).elim (λj=>eI.soft hc hc' (λa j b g=>m a j b (List.mem_append_right _ g)) a j b g) λj=>v a j b g;rw[List.append_assoc,List.append_assoc]at q;exact q
end
noncomputable def eB(d:Nat->Nat->Nat)(c:Nat):List (List Nat)->Bool
 |[]=>true
 |p::ps=>ps.all (λq=>p.all λa=>q.all λb=>Nat.beq (d a b) (mA c)&&Nat.beq (d b a) (mB c))&&eB d c ps
noncomputable def nodupN:List Nat->Bool
 |[]=>true
 |a::l=>!l.any (Nat.beq a)&&nodupN l
noncomputable def okL(d t:Nat->Nat->Nat):Nat->List Nat->Bool->Bool
 |0,_,_=>true
 |k+1,ms,way=>Nat.beq ms.length 1||(eB d (ax t ms way).sign (ax t ms way).parts&&((!Nat.beq (ax t ms way).sign (cond way 21 20)||nodupN ((ay (fH t) ms).map (mY t ms way)))&&(ax t ms way).parts.all λp=>okL d t k p (!way)))
theorem rN:∀l:List Nat,nodupN l=true->l.Nodup:=by
 intro l;induction l with
 |nil=>exact λu=>.nil
 |cons a l j=>
  intro h;refine bak h λh1 h2=>?_;refine List.nodup_cons.mpr ⟨λg=>?_,j h2⟩;rw[List.any_eq_true.mpr ⟨a,g,Nat.beq_refl a⟩]at h1;exact nf h1
theorem tF:∀(k:Nat) (j:List Nat) (way:Bool),okL d t k j way=true->uR t k j way:=by
 intro k;induction k with
 |zero=>exact λu u u=>trivial
 |succ k g=>
  intro j way h;rcases(Bool.or_eq_true ..).mp h with h|h
  ·exact .inl (Nat.eq_of_beq_eq_true h)
  ·refine bak h λv h=>?_;refine bak h λh1 h2=>?_;refine .inr ⟨λe=>?_,λp m=>g p _ (List.all_eq_true.mp h2 p m)⟩;rcases(Bool.or_eq_true ..).mp h1 with h1|h1
   ·rw[e,Nat.beq_refl]at h1;exact nf h1
   ·exact rN _ h1
structure Lx(names:List (List Nat))(e:List Nat)(X:List Nat):Prop where
 fst:∃h r,aq names X=h::r/\(h=34\/h=40)
 lex:∀Z,kQ names e Z->fD 8 (aq names Z++e)->kQ names e (X++Z)
 sym:∀c∈X,lS c
theorem fJ(names:List (List Nat))(c:Nat)(l:List Nat):aq names (c::l)=cv names c++aq names l:=List.flatMap_cons ..
theorem jH(names:List (List Nat))(l m:List Nat):aq names (l++m)=aq names l++aq names m:=List.flatMap_append ..
section
variable{names:List (List Nat)}{e:List Nat}
theorem Lx.leaf(j:m<5)(v:names.length=5):Lx names e [256+m]:=by
 refine⟨⟨34,names.getD m []++[34],?_,.inl rfl⟩,λZ g u=>⟨.inl ⟨Nat.le_add_right _ _,by rw[Nat.add_sub_cancel_left,v];exact j⟩,g⟩,λc hc=>by obtain rfl:=List.mem_singleton.mp hc;exact .inr (.inr (.inr ⟨Nat.le_add_right _ _,Nat.add_lt_of_lt_sub' j⟩))⟩;rw[fJ,cv,if_pos (Nat.le_add_right _ _),Nat.add_sub_cancel_left];exact List.append_nil _
theorem Lx.paren(h:Lx names e X):Lx names e (7::X++[8]):=by
 refine⟨⟨40,aq names (X++[8]),rfl,.inr rfl⟩,λZ g j=>?_,λc hc=>?_⟩
 ·refine cb h.fst λa r m u=>?_;have:kQ names e (X++(8::Z)):=h.lex _ ⟨.inr ⟨by simp[opc],j⟩,g⟩ (.inl rfl);rw[List.cons_append,List.cons_append,List.append_assoc];refine⟨.inr ⟨by simp[opc],?_⟩,this⟩;rw[jH,m];exact u
 ·rcases List.mem_append.mp hc with hc|hc
  ·rcases List.mem_cons.mp hc with rfl|hc
   ·exact .inl (by simp[gV])
   ·exact h.sym c hc
  ·obtain rfl:=List.mem_singleton.mp hc;exact .inr (.inl rfl)
theorem Lx.join(hc:bi c L)(h:Lx names e X)(h2:Lx names e Y):Lx names e (X++c::Y):=by
 have ho:opc c/\gV c:=hc.all (P:=λc u=>opc c/\gV c) (by simp[opc,gV]) (by simp[opc,gV]) (by simp[opc,gV]) (by simp[opc,gV]) (by simp[opc,gV]);refine cb h.fst λa r q t=>?_;refine⟨⟨a,r++aq names (c::Y),by rw[jH,q];rfl,t⟩,λZ z y=>?_,λb j=>?_⟩
 ·refine cb h2.fst λm r2 v g=>?_;rw[List.append_assoc];refine h.lex _ ⟨.inr ⟨ho.1,?_⟩,h2.lex Z z y⟩ ?_
  ·show fD c (aq names (Y++Z)++e);rw[jH,v];exact hc.all (P:=λc u=>fD c (m::r2++aq names Z++e)) g g g g g
  ·show fD 8 (aq names (c::(Y++Z))++e);rw[fJ];exact hc.all (P:=λc u=>fD 8 (cv names c++aq names (Y++Z)++e)) (.inr (.inl rfl)) (.inr (.inr (.inl rfl))) (.inr (.inr (.inr (.inr (.inl rfl))))) (.inr (.inr (.inr (.inr (.inr (.inl rfl)))))) (.inr (.inr (.inr (.inl rfl))))
 ·rcases List.mem_append.mp j with j|j
  ·exact h.sym b j
  ·rcases List.mem_cons.mp j with rfl|j
   ·exact .inl ho.2
   ·exact h2.sym b j
end
theorem sJ(sep:Nat):∀(r:List (List Nat)) (x:List Nat),kD sep (x::r)=x++r.flatMap λy=>sep::y:=by
 intro r;induction r with
 |nil=>exact λx=>(List.append_nil x).symm
 |cons y r j=>
  intro x;show x++sep::kD sep (y::r)=_;rw[j];rfl
theorem lQ{d:Nat->Nat->Nat}{P Q:List Nat->List Nat->Prop}{c:Nat}(o:∀X m Y j,P X m->Q Y j->eI d c m j->P (X++c::Y) (m++j))(f:List Nat->List Nat)(g:List Nat->List Nat):
 ∀(l:List (List Nat)) (X m:List Nat),P X m->(∀p∈l,Q (f p) (g p))->(∀p∈l,eI d c m (g p))->l.Pairwise (λp q=>eI d c (g p) (g q))->∃j,P (X++(l.map f).flatMap λy=>c::y) j/\∀a,a∈j↔a∈m\/∃p∈l,a∈g p:=by
 intro l;induction l with
 |nil=>exact λX m h u u u=>⟨m,by rw[List.map_nil,List.flatMap_nil,List.append_nil];exact h,λa=>⟨.inl,λh=>h.elim id λ⟨p,i,_⟩=>nomatch i⟩⟩
 |cons p l x=>
  intro X m h k n i;refine au (List.pairwise_cons.mp i) λr t=>?_;refine af (x (X++c::f p) (m++g p) (o _ _ _ _ h (k p (.head _)) (n p (.head _))) (λq v=>k q (.tail _ v)) (λq v a z b K=>(List.mem_append.mp z).elim (λz=>n q (.tail _ v) a z b K) λz=>r q v a z b K) t) λj s J=>?_;refine⟨j,?_,λa=>(J a).trans ?_⟩
  ·rw[List.map_cons,List.flatMap_cons,<- List.append_assoc];exact s
  ·rw[List.mem_append];constructor
   ·rintro((h|h)|⟨q,v,h⟩)
    ·exact .inl h
    ·exact .inr ⟨p,.head _,h⟩
    ·exact .inr ⟨q,.tail _ v,h⟩
   ·rintro(h|⟨q,v,h⟩)
    ·exact .inl (.inl h)
    ·clear o x k n i r t s J;rcases List.mem_cons.mp v with rfl|v
     ·exact .inl (.inr h)
     ·exact .inr ⟨q,v,h⟩
theorem sy:∀ps:List (List Nat),eB d c ps=true->ps.Pairwise λp q=>∀a∈p,∀b∈q,d a b=mA c/\d b a=mB c:=by
 intro ps;induction ps with
 |nil=>exact λu=>.nil
 |cons p ps m=>
  intro h;refine bak h λh1 h2=>?_;refine List.pairwise_cons.mpr ⟨λq z a j b v=>?_,m h2⟩;refine bak (List.all_eq_true.mp (List.all_eq_true.mp (List.all_eq_true.mp h1 q z) a j) b v) λg y=>?_;exact⟨Nat.eq_of_beq_eq_true g,Nat.eq_of_beq_eq_true y⟩
structure sL(d:Nat->Nat->Nat)(names:List (List Nat))(e ms X Y:List Nat):Prop where
 inn:∃ms',(Ch d X ms'/\Lx names e X)/\∀a,a∈ms'↔a∈ms
 out:∃ms',(Rd d 1 Y ms'/\Lx names e Y)/\∀a,a∈ms'↔a∈ms
theorem oK{names:List (List Nat)}(hn:names.length=5):∀(k:Nat) (j:List Nat) (way:Bool),okL d t k j way=true->j≠[]->(∀m∈j,m<5)->j.Nodup->j.length<=k->sL d names e j (a9 t k j way true) (a9 t k j way false):=by
 intro k;induction k with
 |zero=>intro j _ _ M _ _ hk;cases j with|nil=>exact(M rfl).elim|cons a r=>exact absurd hk (Nat.not_succ_le_zero _)
 |succ k ih=>
  intro j way jb M N H hk;have hl:∀inner,a9 t (k+1) j way inner=if j.length=1 then[256+j.headD 0]else jK inner (ax t j way).sign (kD (ax t j way).sign ((ax t j way).parts.map λp=>a9 t k p (!way) true)):=λv=>rfl;rw[hl,hl];by_cases h1:j.length=1
  ·refine ah (List.length_eq_one_iff.mp h1) λm jc=>?_;clear hk;subst jc;rw[if_pos h1,if_pos h1];have hm:=N m (.head _);exact⟨⟨_,⟨.u (Un.leaf m),Lx.leaf hm hn⟩,λv=>.rfl⟩,⟨_,⟨(Un.leaf m).rd 1,Lx.leaf hm hn⟩,λv=>.rfl⟩⟩
  ·rw[if_neg h1,if_neg h1];refine hid λgG gF=>?_;have h2:2<=j.length:=by have:=List.length_pos_iff.mpr M;exact zK h1 this
   have o:=gl t j way;have O:=ic t j way h2;have U:=kC t j way;have hs:=gk t j way;refine bak (((Bool.or_eq_true ..).mp jb).resolve_left λh=>h1 (Nat.eq_of_beq_eq_true h)) λhc A=>?_;have A:=List.all_eq_true.mp (ba A).2;have S:=jA _ U O;rw[o.length_eq]at S;have f:∀p∈(ax t j way).parts,∀a∈p,a∈j:=λp l a L=>o.mem_iff.mp (List.mem_flatten.mpr ⟨p,l,L⟩);have E:(ax t j way).parts.flatten.Nodup:=o.nodup_iff.mpr H;refine au (List.pairwise_flatten.mp E) λja B=>?_;refine gF ?_;clear gF gG;have C:∀p:List Nat,∃z,p∈(ax t j way).parts->(Ch d (a9 t k p (!way) true) z/\Lx names e (a9 t k p (!way) true))/\∀a,a∈z↔a∈p:=λp=>by
    by_cases l:p∈(ax t j way).parts
    ·obtain⟨z,q⟩:=(ih p (!way) (A p l) (U p l) (λm hm=>N m (f p l m hm)) (ja p l) (by have:=S p l;exact Nat.le_of_lt_succ (Nl this hk))).inn;exact⟨z,λv=>q⟩
    ·exact⟨[],λh=>(l h).elim⟩
   refine ah (Classical.axiomOfChoice C) λg s=>?_;have W:(ax t j way).parts.Pairwise λp q=>eI d (ax t j way).sign (g p) (g q):=by
    refine List.Pairwise.imp_of_mem ?_ (List.Pairwise.and (sy _ hc) B);intro p q l hq hh a L b hb;have L:=((s p l).2 a).mp L;have hb:=((s q hq).2 b).mp hb;exact⟨N a (f p l a L),N b (f q hq b hb),hh.2 a L b hb,hh.1 a L b hb⟩
   clear E ja B C A hc S jb hl;revert W s hs o O
   generalize(ax t j way).parts=parts;generalize(ax t j way).sign=c;intro o O hs s W;clear hn ih M N H hk U A f;cases parts with
   |nil=>exact absurd O (by decide)
   |cons Z ps=>
    refine au (List.pairwise_cons.mp W) λw1 w2=>?_;have n:∀z:List Nat,(∀a,a∈z↔a∈g Z\/∃p∈ps,a∈g p)->∀a,a∈z↔a∈j:=λz h a=>by
     rw[h,<- o.mem_iff,List.flatten_cons,List.mem_append,List.mem_flatten,(s Z (.head _)).2 a];exact or_congr .rfl ⟨λ⟨p,l,L⟩=>⟨p,l,((s p (.tail _ l)).2 a).mp L⟩,λ⟨p,l,L⟩=>⟨p,l,((s p (.tail _ l)).2 a).mpr L⟩⟩
    rw[List.map_cons,sJ];generalize hX:(a9 t k Z (!way) true++(ps.map λp=>a9 t k p (!way) true).flatMap λy=>c::y)=X;have K:bi c 2->soft c=true->sL d names e j (jK true c X) (jK false c X):=λI T=>by
     refine af (lQ (c:=c) (P:=λX j=>Ch d X j/\Lx names e X) (Q:=λX j=>Ch d X j/\Lx names e X) (λX j Y z h1 h2 hx=>⟨Ch.app I h1.1 h2.1 hx,Lx.join I h1.2 h2.2⟩) (λp=>a9 t k p (!way) true) g ps _ _ (s Z (.head _)).1 (λp l=>(s p (.tail _ l)).1) w1 w2) λz R F=>?_;rw[hX]at R;have e1:∀i x,jK i c x=x:=λi x=>by rw[jK,T,Bool.not_true,Bool.and_false];rfl
     rw[e1,e1];exact⟨⟨z,R,n z F⟩,⟨z,⟨R.1.rd.mono,R.2⟩,n z F⟩⟩
    have J:bi c 1->soft c=false->sL d names e j (jK true c X) (jK false c X):=λI T=>by
     refine af (lQ (c:=c) (P:=λX j=>Rd d 1 X j/\Lx names e X) (Q:=λX j=>Ch d X j/\Lx names e X) (λX j Y z h1 h2 hx=>⟨h1.1.join I h2.1.rd hx,Lx.join I h1.2 h2.2⟩) (λp=>a9 t k p (!way) true) g ps _ _ ⟨(s Z (.head _)).1.1.rd.mono,(s Z (.head _)).1.2⟩ (λp l=>(s p (.tail _ l)).1) w1 w2) λz R F=>?_;rw[hX]at R;refine⟨⟨z,?_,n z F⟩,⟨z,R,n z F⟩⟩;rw[jK,T];exact⟨.u R.1.paren,R.2.paren⟩
    simp only[List.mem_cons,List.not_mem_nil,or_false]at hs;rcases hs with rfl|rfl|rfl|rfl|rfl
    ·exact J (by simp[bi]) rfl
    ·exact K (by simp[bi]) rfl
    ·exact K (by simp[bi]) rfl
    ·exact J (by simp[bi]) rfl
    ·exact J (by simp[bi]) rfl
noncomputable def lC:List (Nat×Nat):=ns5.flatMap λa=>(ns5.filter λb=>!Nat.beq a b).map λb=>(a,b)
noncomputable def eL(d:Nat->Nat->Nat):DD:=lC.map λq=>(kk q.1 q.2,.int (code (d q.1 q.2)))
theorem qJ(g:a<5)(j:b<5)(h:a≠b):(a,b)∈lC:=by
 refine List.mem_flatMap.mpr ⟨a,?_,List.mem_map.mpr ⟨b,List.mem_filter.mpr ⟨?_,?_⟩,rfl⟩⟩
 ·exact lt5 (P:=λa=>a∈ns5) (by decide) (by decide) (by decide) (by decide) (by decide) a g
 ·exact lt5 (P:=λa=>a∈ns5) (by decide) (by decide) (by decide) (by decide) (by decide) b j
 ·rw[Bool.not_eq_true',Bool.eq_false_iff];exact λe=>h (Nat.eq_of_beq_eq_true e)
theorem wB:∀p∈lC,∀q∈lC,kk p.1 p.2=kk q.1 q.2->p=q:=by decide +kernel
theorem ll{α:Type}{l:List α}{k:α->Int}{f:α->PV}(g:∀p∈l,∀q∈l,k p=k q->p=q){q:α}(j:q∈l):(l.map λq=>(k q,f q)).lookup (k q)=some (f q):=by
 induction l with
 |nil=>cases j
 |cons a l m=>
  rw[List.map_cons,List.lookup];by_cases h:k q=k a
  ·rw[h,beq_self_eq_true,g q j a (.head _) h]
  ·rw[beq_false_of_ne h];rcases List.mem_cons.mp j with rfl|j
   ·exact(h rfl).elim
   ·exact m (λp u q j=>g p (.tail _ u) q (.tail _ j)) j
theorem xR{d:Nat->Nat->Nat}{D:DD}(r:pg d D)(v:fo D)(hc:∀a∈ns5,∀b∈ns5,a≠b->Has D (kk a b)):eqP (.dict D) (.dict (eL d))=some true:=by
 have j:D.length=(eL d).length:=by
  have:(D.map (·.1)).Perm (lC.map λq=>kk q.1 q.2):=by
   refine(List.perm_ext_iff_of_nodup v.1 (by decide +kernel)).mpr λk=>⟨λh=>?_,λh=>?_⟩
   ·refine af (List.mem_map.mp h) λp g n=>?_;clear v;subst n;refine nV (r p g) λa b z u m t=>?_;subst t;exact List.mem_map.mpr ⟨_,qJ z u m,rfl⟩
   ·refine af (List.mem_map.mp h) λq x s=>?_;clear v h;subst s;refine af (List.mem_flatMap.mp x) λa z x=>?_;refine af (List.mem_map.mp x) λb u i=>?_;subst i;refine au (List.mem_filter.mp u) λu K=>?_;exact hc a z b u λe=>by rw[e,Nat.beq_refl]at K;exact nf K
  have:=this.length_eq;rw[List.length_map,List.length_map]at this;rw[this,eL,List.length_map]
 show(if D.all (λp=>ai 8 p.2)&&(eL d).all (λp=>ai 8 p.2)then some (D.length==(eL d).length&&D.all λp=>match(eL d).lookup p.1 with|some d=>eqB p.2 d|none=>false)else none)=_;rw[List.all_eq_true.mpr λp g=>?_,List.all_eq_true.mpr λp g=>?_,Bool.and_true,if_pos rfl,j,beq_self_eq_true,List.all_eq_true.mpr λp g=>?_]
 ·rfl
 ·refine nV (r p g) λa b z u m l=>?_;clear v hc j;subst l;have:(eL d).lookup (kk a b)=some (.int (code (d a b))):=ll wB (qJ z u m);rw[this];exact decide_eq_true rfl
 ·refine af (List.mem_map.mp g) λq L f=>?_;clear v hc j L;subst f;rfl
 ·refine nV (r p g) λa b J c o y=>?_;clear r v hc j g J c o;subst y;rfl
theorem rh(h:Rd d 1 X ms)(g:∀a,a∈ms↔a∈ns5):∃T,dT (X++[0]) ⟨[],[],[]⟩=some T/\pg d T.D/\∀a∈ns5,∀b∈ns5,a≠b->Has T.D (kk a b):=by
 refine aO (h [] [] [] (λp m=>nomatch m) (λy ho=>nomatch ho)) λT j e x q=>?_;refine⟨⟨[ms],[],j⟩,?_,x.good,λa v b u=>x.cov a ((g a).mpr v) b ((g b).mpr u)⟩;rw[kr,e,Option.bind_some];show(dU T 0).bind _=_;have:dU T 0=some ⟨[ms],[],j⟩:=by
  show(dM 0 T.S T.V T.D).bind _=_;rw[q 0 0 rfl (Nat.zero_le _)];rfl
 rw[this];rfl
noncomputable def isC(v:Nat)(c:Int):Bool:=decide (code v=c)
noncomputable def bI(t:Nat->Nat->Nat):List (Nat×Nat):=ns5.flatMap λa=>(ns5.filter λb=>isC (t a b) 20).map λb=>(a,b)
noncomputable def gu(t:Nat->Nat->Nat)(p q:Nat×Nat):Bool:=isC (t q.1 p.2) 20&&(decide (code (t p.1 q.1)=code (t p.1 q.2))&&(decide (code (t p.1 q.2)=code (t p.2 q.2))&&isC (t p.2 q.2) 18))
noncomputable def ca(t:Nat->Nat->Nat):List (List Nat):=(bI t).flatMap λp=>((bI t).filter (gu t p)).map λq=>[p.1,q.1,p.2,q.2]
noncomputable def bJ(t:Nat->Nat->Nat):List Nat:=(ca t).headD []
noncomputable def s0(t:Nat->Nat->Nat)(four:List Nat)(k:Nat):Bool:=(four.any λy=>decide (y=k))||four.any λo=>!decide (code (t k o)=code (t k (four.headD 0)))
noncomputable def eJ(t:Nat->Nat->Nat):List Nat:=ns5.filter (s0 t (bJ t))
noncomputable def jJ(t:Nat->Nat->Nat)(w:List Nat)(a b:Nat):Nat:=if((w.any λy=>decide (y=a))&&w.any λy=>decide (y=b))=true then 0 else t a b
theorem nO{α β γ δ:Type}(l:List α)(m:α->List β)(c:α->β->Bool)(g:α->β->γ)(emb:γ->δ):(l.map λx=>((m x).map λy=>if c x y=true then[emb (g x y)]else[]).flatten).flatten=(l.flatMap λx=>((m x).filter (c x)).map (g x)).map emb:=by
 induction l with
 |nil=>rfl
 |cons a l j=>rw[List.map_cons,List.flatten_cons,j,mF,List.flatMap_cons,List.map_append,List.map_map];rfl
theorem bF:∀p∈bI t,p.1<5/\p.2<5:=λp g=>by
 refine af (List.mem_flatMap.mp g) λa u g=>?_;refine af (List.mem_map.mp g) λb m j=>?_;clear g;subst j;exact⟨aS a u,aS b (List.mem_filter.mp m).1⟩
theorem il(t:Nat->Nat->Nat):(bI t).length<=25:=by
 have h:∀a,((ns5.filter λb=>isC (t a b) 20).map λb=>(a,b)).length<=5:=λa=>by rw[List.length_map];exact List.length_filter_le ..
 have e:bI t=_++(_++(_++(_++(_++[])))):=rfl;have:=h 0;have:=h 1;have:=h 2;have:=h 3;have:=h 4;rw[e];simp only[List.length_append,List.length_nil];lia
theorem nK:∀o∈bJ t,o<5:=by
 unfold bJ;cases h:ca t with
 |nil=>exact λo h=>nomatch h
 |cons x l=>
  obtain⟨p,u,m⟩:=List.mem_flatMap.mp (show x∈ca t by rw[h];exact .head _);refine af (List.mem_map.mp m) λq g j=>?_;clear h m;subst j;have h1:=bF p u;have h2:=bF q (List.mem_filter.mp g).1;intro o ho;simp only[List.headD_cons,List.mem_cons,List.not_mem_nil,or_false]at ho;rcases ho with rfl|rfl|rfl|rfl
  ·exact h1.1
  ·exact h2.1
  ·exact h1.2
  ·exact h2.2
theorem lr(t:Nat->Nat->Nat):(ca t).length<=625:=by
 have h:∀l:List (Nat×Nat),(l.flatMap λp=>((bI t).filter (gu t p)).map λq=>[p.1,q.1,p.2,q.2]).length<=25*l.length:=by
  intro l;induction l with
  |nil=>exact Nr _
  |cons p l j=>
   rw[List.flatMap_cons,List.length_append,List.length_map,List.length_cons];have:=Nt (List.length_filter_le (gu t p) (bI t)) (il t);exact Nt (Ne0 (Nat.add_comm _ _)) (Na j this)
 exact Nt (h _) (Nat.mul_le_mul_left 25 (il t))
section
variable{F:Nat->List PV->Option PV}{σ:List Sto}{k:Nat}{ρ:ar}
theorem vh{α β:Type}{q z o r:PE}{xs ys keep:List Nat}{j:List PE}{l:List α}{emb:α->PV}{m:α->List β}{emb2:β->PV}{c:α->β->Bool}{g:α->β->Int×PV}{ρs:α->ar}{ρt:α->β->ar}{ps:List (Int×PV)}
 (P:aQ F σ true k o ρ=some (l.map emb)) (O:(xs.all λx=>((aj keep ρ).lookup x).isNone)=true) (S:∀x∈l,a6 false xs (emb x) (aj keep ρ)=some (ρs x)) (h2:∀x∈l,aQ F σ true k r (ρs x)=some ((m x).map emb2))
 (i:∀x∈l,(ys.all λy=>((ρs x).lookup y).isNone)=true) (K:∀x∈l,∀y∈m x,a6 false ys (emb2 y) (ρs x)=some (ρt x y)) (hc:∀x∈l,∀y∈m x,eG (λe=>ev F σ k e (ρt x y)) j=some (c x y))
 (R:∀x∈l,∀y∈m x,c x y=true->ev F σ k q (ρt x y)=some (.int (g x y).1)/\ev F σ k z (ρt x y)=some (g x y).2) (M:(l.flatMap λx=>((m x).filter (c x)).map (g x))=ps) (J:(ps.map (·.1)).Nodup) (hl:ps.length<=ag) :
 ev F σ (k+1) (.dcomp q z [(false,xs),(false,ys)] [o,r] [[],j] keep) ρ=some (.dict ps):=by
 show(((aQ F σ true k o ρ).bind λl=>(l.mapM (iW (λe ρ=>ev F σ k e ρ) (λρ'=>(aQ F σ true k r ρ').bind λl=>(l.mapM (iW (λe ρ=>ev F σ k e ρ) (λρ'=>((ev F σ k q ρ').bind λa=>(ev F σ k z ρ').map λb=>.tuple [a,b]).map λd=>[d]) false ys j ρ')).map List.flatten) false xs [] (aj keep ρ))).map List.flatten).bind _)=_;rw[P,Option.bind_some,br (h:=λx=>((m x).map λy=>if c x y=true then[PV.tuple [.int (g x y).1,(g x y).2]]else[]).flatten) (by
  intro x v;show(if _ then(a6 false xs (emb x) (aj keep ρ)).bind _ else none)=_;rw[if_pos O,S x v,Option.bind_some];show(aQ F σ true k r (ρs x)).bind _=_;rw[h2 x v,Option.bind_some,br (h:=λy=>if c x y=true then[PV.tuple [.int (g x y).1,(g x y).2]]else[]) (λy n=>by
   show(if _ then(a6 false ys (emb2 y) (ρs x)).bind _ else none)=_;rw[if_pos (i x v),K x v y n,Option.bind_some,hc x v y n,Option.bind_some];cases h:c x y
   ·rfl
   ·refine au (R x v y n h) λT L=>?_;rw[if_pos rfl,if_pos rfl];show((ev F σ k q (ρt x y)).bind λa=>(ev F σ k z (ρt x y)).map λb=>PV.tuple [a,b]).map _=_;rw[T,Option.bind_some,L];rfl)];rfl)]
 show(((l.map _).flatten.mapM kvP).bind λps=>if(ps.map (·.1)).Nodup/\ps.length<=ag then some (PV.dict ps)else none)=_;rw[nO (g:=g) (emb:=λp:Int×PV=>PV.tuple [.int p.1,p.2]),M,br (f:=kvP) (emb:=λp:Int×PV=>PV.tuple [.int p.1,p.2]) (h:=id) (λu u=>rfl),List.map_id,Option.bind_some,if_pos ⟨J,hl⟩]
theorem v7{args:List PE}(j:ρ.lookup x=some (.fn f))(g:args.mapM (λe=>ev F σ k e ρ)=some as)(h:F f as=some d):ev F σ (k+1) (.vcall x args) ρ=some d:=by
 show(b8 ρ x).bind (λd=>(xV d).bind λf=>(args.mapM λe=>ev F σ k e ρ).bind λas=>F f as)=_;rw[show b8 ρ x=_ from j,Option.bind_some];rw[g];exact h
theorem yY{x y z w:Int}(u:ev F σ k a ρ=some (.int x))(h1:ev F σ k e1 ρ=some (.int y))(h2:ev F σ k e2 ρ=some (.int z))(m:ev F σ k e3 ρ=some (.int w)):
 ev F σ (k+1) (.cmp a [.Eq,.Eq,.Eq] [e1,e2,e3]) ρ=some (.bool (decide (x=y)&&(decide (y=z)&&decide (z=w)))):=by
 show(ev F σ k a ρ).bind (λd=>nM (λe=>ev F σ k e ρ) σ d [.Eq,.Eq,.Eq] [e1,e2,e3])=_;rw[u];show(ev F σ k e1 ρ).bind (λr=>(cU σ .Eq (.int x) r).bind λb=>if b then(ev F σ k e2 ρ).bind (λg=>(cU σ .Eq r g).bind λb=>if b then(ev F σ k e3 ρ).bind (λj=>(cU σ .Eq g j).bind λb=>some (PV.bool b))else some (.bool false))else some (.bool false))=_;rw[h1,h2,m];show(if decide (x=y)then(if decide (y=z)then some (PV.bool (decide (z=w)))else some (.bool false))else some (.bool false))=_;cases decide (x=y)<;>cases decide (y=z)<;>rfl
end
noncomputable def j6(l:List Nat):PV:=.tuple (l.map pvN)
theorem ir(k:Nat)(l:List Nat):fX (pvN k) (l.map pvN)=some (l.any λy=>decide (y=k)):=by
 have h:(ai 8 (pvN k)&&(l.map pvN).all (ai 8))=true:=by
  rw[List.all_map];exact List.all_eq_true.mpr λu u=>rfl
 rw[fX,if_pos h,List.any_map];exact congrArg some (congrArg (List.any l) (funext λy=>c0 y k))
theorem x8(d:Nat->Nat->Nat):((eL d).map (·.1)).Nodup:=by
 rw[eL,List.map_map];exact(by decide +kernel:(lC.map λq=>kk q.1 q.2).Nodup)
noncomputable def Aa:List PS:=[.assign 73 (.comp (.tuple [.var 14,.var 5]) [(false,[14]),(false,[5])] [.range none (.cint 5),.range none (.cint 5)] [[],[.cmp (.sub (.sub (.var 37) (.var 14)) (.var 5)) [.Eq] [.cint 20]]] [37]),.assign 74 (.comp (.tuple [.var 14,.var 5,.var 80,.var 81]) [(true,[14,80]),(true,[5,81])] [.var 73,.var 73] [[],[.boolop true [.cmp (.sub (.sub (.var 37) (.var 5)) (.var 80)) [.Eq] [.cint 20],.cmp (.sub (.sub (.var 37) (.var 14)) (.var 5)) [.Eq,.Eq,.Eq] [.sub (.sub (.var 37) (.var 14)) (.var 81),.sub (.sub (.var 37) (.var 80)) (.var 81),.cint 18]]]] [73,37]),.assign 75 (.sub (.bin (.Add) (.var 74) (.list [.tuple []])) (.cint 0)),.assign 76 (.comp (.var 63) [(false,[63])] [.range none (.cint 5)] [[.boolop false [.cmp (.var 63) [.In] [.var 75],.cmp (.comp (.var 45) [(false,[45])] [.var 75] [[.cmp (.sub (.sub (.var 37) (.var 63)) (.var 45)) [.NotEq] [.sub (.sub (.var 37) (.var 63)) (.sub (.var 75) (.cint 0))]]] [75,63,37]) [.NotEq] [.list []]]]] [75,37]),.assign 77 (.dcomp (.bin (.Add) (.bin (.Mult) (.cint 5) (.var 14)) (.var 5)) (.ite (.boolop true [.cmp (.var 14) [.In] [.var 76],.cmp (.var 5) [.In] [.var 76]]) (.cint 18) (.sub (.sub (.var 37) (.var 14)) (.var 5))) [(false,[14]),(false,[5])] [.range none (.cint 5),.range none (.cint 5)] [[],[.cmp (.var 14) [.NotEq] [.var 5]]] [37,76]),.ret (.cmp (.call 108 [.var 61]) [.Eq] [.var 77])]
theorem tK(F:Nat->List PV->Option PV)(lam:Bool)(t:Nat->Nat->Nat)(toks:List Nat)(D:DD)(K:F 108 [pvL toks]=some (.dict D))(W:eqP (.dict D) (.dict (eL (jJ t (eJ t))))=some true)
 (ρ:ar) (σ:List Sto) (m:ρ.lookup 37=some (bj t)) (O:ρ.lookup 61=some (pvL toks)):∃s',aU F lam 51 Aa ⟨ρ,σ⟩=some (.ret (.bool true),s'):=by
 have e:∀(k x y a b:Nat) (ρ:ar),ρ.lookup 37=some (bj t)->ρ.lookup x=some (pvN a)->ρ.lookup y=some (pvN b)->a<5->b<5->ev F σ (k+3) (.sub (.sub (.var 37) (.var x)) (.var y)) ρ=some (.int (code (t a b))):=λk x y a b ρ h hx hy n L=>aX (aX (aa h) rfl (aa hx) (cD _ n)) rfl (aa hy) (cD _ L);have r5:∀(k:Nat) (ρ:ar),aQ F σ true (k+2) (.range none (.cint 5)) ρ=some (ns5.map pvN):=λk ρ=>(fN rfl (by decide)).trans rfl;have R:ev F σ 49 (.comp (.tuple [.var 14,.var 5]) [(false,[14]),(false,[5])] [.range none (.cint 5),.range none (.cint 5)] [[],[.cmp (.sub (.sub (.var 37) (.var 14)) (.var 5)) [.Eq] [.cint 20]]] [37]) ρ=some (.list ((bI t).map gg)):=by
  rw[bI,<- nO ns5 (λu=>ns5) (λa b=>isC (t a b) 20) (λa b=>(a,b)) gg];have z:=bt (ks:=[37]) (x:=37) rfl ρ;refine i8 (ρs:=λa=>(14,pvN a)::aj [37] ρ) (r5 _ _) (by rw[List.all_cons,bw rfl];rfl) (λu u=>rfl) (λu u=>rfl) (λu u=>r5 _ _) (λa n b L=>c6 (ρ':=(5,pvN b)::(14,pvN a)::aj [37] ρ) ?_ rfl (az (e _ _ _ a b _ (z.trans m) rfl rfl (aS a n) (aS b L)) rfl rfl) (λu=>rfl)) ?_
  ·rw[List.all_cons,show((14,pvN a)::aj [37] ρ).lookup 5=none from bw rfl ρ];rfl
  ·rw[nO ns5 (λu=>ns5) (λa b=>isC (t a b) 20) (λa b=>(a,b)) gg,List.length_map];exact Nt (il t) (by decide)
 have U:∀ρ:ar,ρ.lookup 37=some (bj t)->ρ.lookup 73=some (.list ((bI t).map gg))->ev F σ 48 (.comp (.tuple [.var 14,.var 5,.var 80,.var 81]) [(true,[14,80]),(true,[5,81])] [.var 73,.var 73] [[],[.boolop true [.cmp (.sub (.sub (.var 37) (.var 5)) (.var 80)) [.Eq] [.cint 20],.cmp (.sub (.sub (.var 37) (.var 14)) (.var 5)) [.Eq,.Eq,.Eq] [.sub (.sub (.var 37) (.var 14)) (.var 81),.sub (.sub (.var 37) (.var 80)) (.var 81),.cint 18]]]] [73,37]) ρ=some (.list ((ca t).map j6)):=λρ m h73=>by
  rw[ca,<- nO (bI t) (λu=>bI t) (gu t) (λp q=>[p.1,q.1,p.2,q.2]) j6];have z:=(bt (ks:=[73,37]) (x:=37) rfl ρ).trans m;have v:=(bt (ks:=[73,37]) (x:=73) rfl ρ).trans h73;refine i8 (ρs:=λp=>(80,pvN p.2)::(14,pvN p.1)::aj [73,37] ρ) (aF rfl (aa h73) rfl rfl rfl) (by rw[List.all_cons,List.all_cons,bw rfl,bw rfl];rfl) (λu u=>rfl) (λu u=>rfl) (λu u=>aF rfl (aa v) rfl rfl rfl) (λp M q f=>c6 (ρ':=(81,pvN q.2)::(5,pvN q.1)::(80,pvN p.2)::(14,pvN p.1)::aj [73,37] ρ) ?_ rfl
   (bM (eU (az (e _ _ _ q.1 p.2 _ z rfl rfl (bF q f).1 (bF p M).2) rfl rfl) λu=>bW (yY (e _ _ _ p.1 q.1 _ z rfl rfl (bF p M).1 (bF q f).1) (e _ _ _ p.1 q.2 _ z rfl rfl (bF p M).1 (bF q f).2) (e _ _ _ p.2 q.2 _ z rfl rfl (bF p M).2 (bF q f).2) rfl))) (λu=>rfl)) ?_
  ·rw[List.all_cons,List.all_cons,show((80,pvN p.2)::(14,pvN p.1)::aj [73,37] ρ).lookup 5=none from bw rfl ρ,show((80,pvN p.2)::(14,pvN p.1)::aj [73,37] ρ).lookup 81=none from bw rfl ρ];rfl
  ·rw[nO (bI t) (λu=>bI t) (gu t) (λp q=>[p.1,q.1,p.2,q.2]) j6,List.length_map];exact Nt (lr t) (by decide)
 have T:∀ρ:ar,ρ.lookup 74=some (.list ((ca t).map j6))->ev F σ 47 (.sub (.bin (.Add) (.var 74) (.list [.tuple []])) (.cint 0)) ρ=some (j6 (bJ t)):=λρ h=>by
  have hl:=lr t;refine aX (x:=.list ((ca t).map j6++[j6 []])) (j:=pvN 0) (aG (y:=.list [j6 []]) (aa h) rfl rfl rfl ?_) rfl rfl (mJ ?_ (by rw[List.length_append,List.length_map];exact Nt (Nat.add_le_add_right hl 1) (by decide)))
  ·show(if((ca t).map j6).length+1<=ag then _ else _)=_;rw[if_pos (by rw[List.length_map];exact Nt (Nat.add_le_add_right hl 1) (by decide))]
  ·unfold bJ;cases ca t<;>rfl
 have S:∀ρ:ar,ρ.lookup 37=some (bj t)->ρ.lookup 75=some (j6 (bJ t))->ev F σ 46 (.comp (.var 63) [(false,[63])] [.range none (.cint 5)] [[.boolop false [.cmp (.var 63) [.In] [.var 75],.cmp (.comp (.var 45) [(false,[45])] [.var 75] [[.cmp (.sub (.sub (.var 37) (.var 63)) (.var 45)) [.NotEq] [.sub (.sub (.var 37) (.var 63)) (.sub (.var 75) (.cint 0))]]] [75,63,37]) [.NotEq] [.list []]]]] [75,37]) ρ=some (pvL (eJ t)):=λρ m h75=>by
  have z:=(bt (ks:=[75,37]) (x:=37) rfl ρ).trans m;have v:=(bt (ks:=[75,37]) (x:=75) rfl ρ).trans h75;have r:(bJ t).length<=4:=by
   unfold bJ;cases h:ca t with
   |nil=>exact Nat.zero_le _
   |cons x l=>
    obtain⟨p,_,f⟩:=List.mem_flatMap.mp (show x∈ca t by rw[h];exact .head _);refine af (List.mem_map.mp f) λq Z P=>?_;subst P;exact Nr 4
  refine d3 (emb:=pvN) (g:=pvN) (r5 _ _) (λk J=>c6 (ρ':=(63,pvN k)::aj [75,37] ρ) (by rw[List.all_cons,bw rfl];rfl) rfl (bM (Ad (az (aa rfl) (aa v) (ir ..)) λu=>bW (az (x:=pvL ((bJ t).filter λo=>!decide (code (t k o)=code (t k ((bJ t).headD 0))))) ?_ rfl ((gA ..).trans (congrArg some (qU ..)))))) λu=>rfl) (by decide:5<=ag);refine d3 (emb:=pvN) (g:=pvN) (aF rfl (aa v) rfl rfl rfl) (λo ho=>c6 (ρ':=(45,pvN o)::aj [75,63,37] ((63,pvN k)::aj [75,37] ρ)) ?_ rfl (az (x:=.int (code (t k o))) (y:=.int (code (t k ((bJ t).headD 0)))) (e _ _ _ k o _ ?_ ?_ rfl (aS k J) (nK o ho)) (aX (aX (x:=bj t) (j:=pvN k) (aa ?_) rfl (aa ?_) (cD (λa=>.list (ns5.map λb=>.int (code (t a b)))) (aS k J))) rfl (aX (x:=j6 (bJ t)) (d:=pvN ((bJ t).headD 0)) (aa ?_) rfl rfl ?_) (cD (λb=>.int (code (t k b))) ?_)) rfl) λu=>rfl) (Nt r (by decide))
  ·rw[List.all_cons,bw rfl];rfl
  ·exact(bt (ks:=[75,63,37]) (x:=37) rfl _).trans z
  ·exact bt (ks:=[75,63,37]) (x:=63) rfl _
  ·exact(bt (ks:=[75,63,37]) (x:=37) rfl _).trans z
  ·exact bt (ks:=[75,63,37]) (x:=63) rfl _
  ·exact(bt (ks:=[75,63,37]) (x:=75) rfl _).trans v
  ·cases h:bJ t with
   |nil=>rw[h]at ho;cases ho
   |cons x l=>
    rw[h]at r;exact mJ (i:=0) rfl (by rw[List.length_map];exact Nt r (by decide))
  ·cases h:bJ t with
   |nil=>rw[h]at ho;cases ho
   |cons x l=>exact nK x (by rw[h];exact .head _)
 have Y:∀ρ:ar,ρ.lookup 37=some (bj t)->ρ.lookup 76=some (pvL (eJ t))->ev F σ 45 (.dcomp (.bin (.Add) (.bin (.Mult) (.cint 5) (.var 14)) (.var 5)) (.ite (.boolop true [.cmp (.var 14) [.In] [.var 76],.cmp (.var 5) [.In] [.var 76]]) (.cint 18) (.sub (.sub (.var 37) (.var 14)) (.var 5))) [(false,[14]),(false,[5])] [.range none (.cint 5),.range none (.cint 5)] [[],[.cmp (.var 14) [.NotEq] [.var 5]]] [37,76]) ρ=some (.dict (eL (jJ t (eJ t)))):=λρ m h76=>by
  have z:=(bt (ks:=[37,76]) (x:=37) rfl ρ).trans m;have v:=(bt (ks:=[37,76]) (x:=76) rfl ρ).trans h76;refine vh (ρs:=λa=>(14,pvN a)::aj [37,76] ρ) (ρt:=λa b=>(5,pvN b)::(14,pvN a)::aj [37,76] ρ) (c:=neB) (g:=λa b=>(kk a b,.int (code (jJ t (eJ t) a b)))) (r5 _ _) (by rw[List.all_cons,bw rfl];rfl) (λu u=>rfl) (λu u=>r5 _ _) (λa u=>?_) (λu u u u=>rfl) (λa u b u=>?_) (λa n b L u=>⟨tu _ _ _ _ _ _ _ _ rfl rfl (aS a n),?_⟩) rfl (x8 _) (by decide:20<=ag)
  ·rw[List.all_cons,show((14,pvN a)::aj [37,76] ρ).lookup 5=none from bw rfl ρ];rfl
  ·show(ev F σ 44 (.cmp (.var 14) [.NotEq] [.var 5]) _).bind _=_;rw[az (x:=pvN a) (y:=pvN b) (aa rfl) (aa rfl) (oX ..)];show(if neB a b=true then some true else some false)=_;cases neB a b<;>rfl
  ·refine gW (bM (eU (az (aa rfl) (aa v) (ir a (eJ t))) λu=>bW (az (aa rfl) (aa v) (ir b (eJ t))))) (λh=>?_) (λh=>?_)
   ·rw[jJ,if_pos h];rfl
   ·rw[jJ,if_neg (by rw[h];decide)];exact e _ _ _ a b _ z rfl rfl (aS a n) (aS b L)
 exact⟨_,ao (an rfl R) (ao (an rfl (U _ m rfl)) (ao (an rfl (T _ rfl)) (ao (an rfl (S _ m rfl)) (ao (an rfl (Y _ m rfl)) (bT (dd (az (bH (mm (aa O) mm0) K) (aa rfl) W)))))))⟩
theorem ww:∀(tab:List (Nat×List Nat)) (x:List Nat),(∀p∈tab,∀c∈p.2,c<128)->(∀c∈x,c<128)->∀c∈aP tab x,c<128:=by
 intro tab;induction tab with
 |nil=>exact λx u h=>h
 |cons p tab m=>
  intro x j g;refine m (x.flatMap (fv p)) (λq v=>j q (.tail _ v)) λc hc=>?_;refine af (List.mem_flatMap.mp hc) λd hd hc=>?_;unfold fv at hc;split at hc
  ·exact j p (.head _) c hc
  ·obtain rfl:=List.mem_singleton.mp hc;exact g _ hd
theorem rZ(σ:List Sto)(j:List (List Nat))(h:∀w∈j,∀c∈w,c<128):cU σ .NotEq (.list (j.map .str)) (.list (j.map .str))=some false:=by
 have q:ai 9 (.list (j.map .str))=true:=by
  refine List.all_eq_true.mpr λd hd=>?_;refine af (List.mem_map.mp hd) λw m g=>?_;clear hd;subst g;exact List.all_eq_true.mpr λc hc=>decide_eq_true (Nat.lt_trans (h w m c hc) (by decide))
 show((if ai 9 (.list (j.map .str))&&ai 9 (.list (j.map .str))then some (jF (j.map .str) (j.map .str))else none):Option Bool).map (!·)=_;rw[q,fA (emb:=PV.str) λu u=>rfl,decide_eq_true rfl];rfl
theorem gm(σ:List Sto)(t:Bool):cU σ .IsNot (.bool t) (.bool t)=some false:=by cases t<;>rfl
theorem xW(σ:List Sto)(i:Int):cU σ .Gt (.int i) (.int 255)=some (decide (256<=i)):=congrArg some (decide_eq_decide.mpr Iff.rfl)
theorem rJ(l:List α):(l.filter λu=>false)=[]:=List.filter_eq_nil_iff.mpr λu u=>Bool.false_ne_true
noncomputable def bv(j:Nat):List Nat:=if j=0 then[]else if j=1 then[10]else[13,10]
theorem zi{ρ:ar}(n q:Nat)(d:Nat)(j:ρ.lookup 71=some (pvN n))(m:n<1000000)(g:0<q/\q<10)(hd:0<d/\d<10):ev F σ (k+3) (.bin (.Mod) (.bin (.FloorDiv) (.var 71) (.cint q)) (.cint d)) ρ=some (pvN (n / q % d)):=by
 refine aG (x:=pvN (n / q)) (y:=pvN d) (aG (x:=pvN n) (y:=pvN q) (aa j) rfl rfl rfl ?_) rfl rfl rfl ?_
 ·show((if 0<(q:Int)/\(q:Int)<10000/\(n:Int).natAbs<1000000000 then some ((n:Int) / q)else none).map PV.int)=_;rw[if_pos ⟨by simp[g],Int.ofNat_lt.mpr (Nl g.2 (by decide)),Nt m (Nat.le_add_left _ _)⟩];rfl
 ·show((if 0<(d:Int)/\(d:Int)<10000 then some (((n / q:Nat):Int) % d)else none).map PV.int)=_;rw[if_pos ⟨by simp[hd],Int.ofNat_lt.mpr (Nl hd.2 (by decide))⟩];rfl
theorem wU(F:Nat->List PV->Option PV)(v:List Int)(r:Nat->List Nat)(m:Nat)(e:m<1000000)(t:Nat->Nat->Nat)(x0 toks:List Nat)(D:DD)(hT:wj F)
 (J:∀a,a<5->(ldN r a).length<=11) (U:F 101 [.list (v.map .int)]=some (.tuple [l5 λa=>.str (ldN r a),pvN m])) (b:∀a,a<5->F 85 [.str (nmN r a)]=some (gN r a)) (q:F 103 [l5 λa=>.str (ldN r a),l5 λa=>.str (nmN r a),l5 (gN r)]=some (bj t))
 (z:F 105 [pvL ns5,bj t,l5 λa=>.str (nmN r a),eW (Nat.beq (m % 2) 1),.bool false]=some (.str x0)) (hx:x0.length<=96) (L:∀c∈x0,c<128)
 (o:∀k,k<5->∀f,f=([96,99,97,98,100]:List Nat).getD k 0->F f [.str (x0++bv (m / 2 % 3))]=some (.str (aP (am k) (x0++bv (m / 2 % 3))))) (s:∀k,k<5->F 106 [.str (x0++bv (m / 2 % 3)),pvN k]=some (.str (aP (am k) (x0++bv (m / 2 % 3)))))
 (Y:∀k,k<5->F 107 [.str (aP (am k) (x0++bv (m / 2 % 3))),l5 λa=>.str (nmN r a)]=some (pvL toks)) (O:toks.length<=316) (R:cnt toks 18=((x0++bv (m / 2 % 3)).filter (·= 124)).length)
 (M:F 108 [pvL toks]=some (.dict D)) (H:eqP (.dict D) (.dict (eL (jJ t (eJ t))))=some true):cS F vT [.list (v.map .int)]=some (.bool true):=by
 have E:m / 2 % 3<3:=Nat.mod_lt _ (by decide);generalize hj:m / 2 % 3=j at *;have K:(bv j).length<=2:=by unfold bv;(repeat' split)<;>decide
 have T:∀c∈bv j,c<128:=by unfold bv;(repeat' split)<;>decide
 have B:ev F [] 57 (.comp (.bin (.Add) (.bin (.Add) (.var 27) (.sub (.cstr [97,98,99,100,101]) (.var 23))) (.cstr [32,9])) [(true,[23,27])] [.enum (.var 31)] [[]] []) [(71,pvN m),(31,l5 λa=>.str (ldN r a)),(18,.list (v.map .int))]=some (l5 λa=>.str (nmN r a)):=by
  refine cf (l:=ns5) (emb:=λa=>.tuple [pvN a,.str (ldN r a)]) (g:=λa=>.str (nmN r a)) ((yj (aa rfl)).trans rfl) (λa W=>b4 (ρ':=[(27,.str (ldN r a)),(23,pvN a)]) rfl rfl (aG (x:=.str (ldN r a++[97+a])) (y:=.str [32,9]) (aG (x:=.str (ldN r a)) (y:=.str [97+a]) (aa rfl) rfl (aX (j:=pvN a) rfl rfl (aa rfl) ?_) rfl ?_) rfl rfl rfl ?_)) (by decide:5<=ag)
  ·exact lt5 (P:=λa=>gq (.str [97,98,99,100,101]) (pvN a)=some (.str [97+a])) rfl rfl rfl rfl rfl a (aS a W)
  ·show(if(ldN r a).length+1<=ag then _ else _)=_;rw[if_pos (Nt (Nat.add_le_add_right (J a (aS a W)) 1) (by decide))]
  ·show(if(ldN r a++[97+a]).length+2<=ag then _ else _)=_;rw[List.length_append,List.length_singleton,if_pos (Nt (Nat.add_le_add_right (Nat.add_le_add_right (J a (aS a W)) 1) 2) (by decide)),List.append_assoc];rfl
 have N:ev F [] 56 (.call 103 [.var 31,.var 32,.comp (.call 85 [.var 78]) [(false,[78])] [.var 32] [[]] []]) [(32,l5 λa=>.str (nmN r a)),(71,pvN m),(31,l5 λa=>.str (ldN r a)),(18,.list (v.map .int))]=some (bj t):=
  bH (mm (aa rfl) (mm (aa rfl) (mm (cf (l:=ns5) (emb:=λa=>.str (nmN r a)) (g:=gN r) (aF rfl (aa rfl) rfl rfl rfl) (λa W=>b4 (ρ':=[(78,.str (nmN r a))]) rfl rfl (bH (mm (aa rfl) mm0) (b a (aS a W)))) (by decide:5<=ag)) mm0))) q
 have Q:ev F [] 54 (.bin (.Add) (.call 105 [.list [.cint 0,.cint 1,.cint 2,.cint 3,.cint 4],.var 37,.var 32,.bin (.Mod) (.var 71) (.cint 2),.cbool false]) (.sub (.tuple [.cstr [],.cstr [10],.cstr [13,10]]) (.bin (.Mod) (.bin (.FloorDiv) (.var 71) (.cint 2)) (.cint 3)))) [(37,bj t),(32,l5 λa=>.str (nmN r a)),(71,pvN m),(31,l5 λa=>.str (ldN r a)),(18,.list (v.map .int))]=some (.str (x0++bv j)):=by
  refine aG (x:=.str x0) (y:=.str (bv j)) (bH (as:=[pvL ns5,bj t,l5 λa=>.str (nmN r a),eW (Nat.beq (m % 2) 1),.bool false]) (mm rfl (mm (aa rfl) (mm (aa rfl) (mm ((aG (x:=pvN m) (y:=.int 2) (d:=pvN (m % 2)) (aa rfl) rfl rfl rfl rfl).trans ?_) (mm rfl mm0))))) z) rfl (aX (x:=.tuple [.str [],.str [10],.str [13,10]]) (j:=pvN j) rfl rfl (hj▸zi m 2 3 rfl e (by decide) (by decide)) ?_) rfl ?_
  ·clear J b q z hj E;rcases Nat.mod_two_eq_zero_or_one m with h|h<;>rw[h]<;>rfl
  ·have:j=0\/j=1\/j=2:=by lia
   clear J b q z hj E;rcases this with rfl|rfl|rfl<;>rfl
  ·show(if x0.length+(bv j).length<=ag then _ else _)=_;rw[if_pos (Nt (Na hx K) (by decide))]
 generalize hX:x0++bv j=X at *;have Z:∀c∈X,c<128:=λc hc=>by
  rw[<- hX]at hc;exact(List.mem_append.mp hc).elim (L c) (T c)
 have I:ev F [] 53 (.comp (.vcall 79 [.var 56]) [(false,[79])] [.tuple [.fn 96,.fn 99,.fn 97,.fn 98,.fn 100]] [[]] [56]) [(56,.str X),(37,bj t),(32,l5 λa=>.str (nmN r a)),(71,pvN m),(31,l5 λa=>.str (ldN r a)),(18,.list (v.map .int))]=some (l5 λk=>.str (aP (am k) X)):=
  cf (l:=ns5) (emb:=λk=>.fn (([96,99,97,98,100]:List Nat).getD k 0)) (g:=λk=>.str (aP (am k) X)) (aF (d:=.tuple [.fn 96,.fn 99,.fn 97,.fn 98,.fn 100]) rfl rfl rfl rfl rfl) (λk S=>b4 (ρ':=[(79,.fn (([96,99,97,98,100]:List Nat).getD k 0)),(56,.str X)]) rfl rfl (v7 rfl (mm (aa rfl) mm0) (o k (aS k S) _ rfl))) (by decide:5<=ag)
 have e6:ev F [] 52 (.cmp (.var 72) [.NotEq] [.comp (.call 106 [.var 56,.var 57]) [(false,[57])] [.range none (.cint 5)] [[]] [56]]) [(72,l5 λk=>.str (aP (am k) X)),(56,.str X),(37,bj t),(32,l5 λa=>.str (nmN r a)),(71,pvN m),(31,l5 λa=>.str (ldN r a)),(18,.list (v.map .int))]=some (.bool false):=
  az (aa rfl) (cf (l:=ns5) (emb:=pvN) (g:=λk=>.str (aP (am k) X)) ((fN rfl (by decide)).trans rfl) (λk S=>b4 (ρ':=[(57,pvN k),(56,.str X)]) rfl rfl (bH (mm (aa rfl) (mm (aa rfl) mm0)) (s k (aS k S)))) (by decide:5<=ag)) (rZ _ (ns5.map λk=>aP (am k) X) λw hw=>by
   refine af (List.mem_map.mp hw) λk S C=>?_;clear J b q z hx L hj E K T hX o s hw;subst C;exact ww _ X ((by decide:∀k∈ns5,∀p∈am k,∀c∈p.2,c<128) k S) Z)
 have A:ev F [] 51 (.call 107 [.sub (.var 72) (.bin (.Mod) (.bin (.FloorDiv) (.var 71) (.cint 6)) (.cint 5)),.var 32]) [(72,l5 λk=>.str (aP (am k) X)),(56,.str X),(37,bj t),(32,l5 λa=>.str (nmN r a)),(71,pvN m),(31,l5 λa=>.str (ldN r a)),(18,.list (v.map .int))]=some (pvL toks):=
  bH (mm (aX (aa rfl) rfl (zi m 6 5 rfl e (by decide) (by decide)) (cD (λk=>.str (aP (am k) X)) (Nat.mod_lt _ (by decide)))) (mm (aa rfl) mm0)) (Y _ (Nat.mod_lt _ (by decide)))
 have e8:ev F [] 50 (.boolop false [.cmp (.meth (.var 61) 4 [.cint 18]) [.NotEq] [.meth (.var 56) 4 [.cstr [124]]],.cmp (.comp (.var 63) [(false,[63])] [.bin (.Add) (.var 61) (.list [.cint 255,.neg (.cint 1)])] [[.boolop false [.cmp (.call 93 [.var 63]) [.IsNot] [.cmp (.var 63) [.Lt] [.cint 256]],.cmp (.call 94 [.var 63]) [.IsNot] [.cmp (.var 63) [.Gt] [.cint 255]],.cmp (.call 95 [.var 63]) [.IsNot] [.cmp (.var 63) [.Eq] [.cint 0]]]]] []) [.NotEq] [.list []]]) [(61,pvL toks),(72,l5 λk=>.str (aP (am k) X)),(56,.str X),(37,bj t),(32,l5 λa=>.str (nmN r a)),(71,pvN m),(31,l5 λa=>.str (ldN r a)),(18,.list (v.map .int))]=some (.bool false):=by
  refine bM (ni (az (x:=pvN (cnt toks 18)) (y:=pvN (X.filter (·= 124)).length) (cI (as:=[pvN 18]) (aa rfl) rfl (lN toks 18)) (cI (as:=[.str [124]]) (aa rfl) rfl rfl) ((oX ..).trans (congrArg some ?_))) (bW (az (x:=.list ((((toks.map λ(n:Nat)=>(n:Int))++[255,-1]).filter λu=>false).map .int)) (d3 (emb:=.int) (g:=.int) (p:=λu=>false) (aF (d:=.list (toks.map pvN++[.int 255,.int (-1)])) rfl (aG (x:=pvL toks) (y:=.list [.int 255,.int (-1)]) (aa rfl) rfl rfl rfl ?_) rfl rfl (congrArg some ?_)) (λi u=>c6 (ρ':=[(63,.int i)]) rfl rfl
   (bM (ni (az (bH (mm (aa rfl) mm0) (hT.f93 i)) (az (aa rfl) rfl rfl) (gm ..)) (ni (az (bH (mm (aa rfl) mm0) (hT.f94 i)) (az (aa rfl) rfl (xW _ i)) (gm ..)) (bW (az (bH (mm (aa rfl) mm0) (hT.f95 i)) (az (aa rfl) rfl rfl) (gm ..)))))) (λh=>nomatch h)) ?_) rfl ?_)))
  ·rw[R,neB,decide_eq_true rfl];rfl
  ·show(if(toks.map pvN).length+2<=ag then _ else _)=_;rw[List.length_map,if_pos (Nt (Nat.add_le_add_right O 2) (by decide))]
  ·rw[List.map_append,List.map_map];rfl
  ·rw[List.length_append,List.length_map];exact Nt (Nat.add_le_add_right O 2) (by decide)
  ·rw[rJ];rfl
 refine ah (tK F (vT.f==(105:Nat)) t toks D M H [(61,pvL toks),(72,l5 λk=>.str (aP (am k) X)),(56,.str X),(37,bj t),(32,l5 λa=>.str (nmN r a)),(71,pvN m),(31,l5 λa=>.str (ldN r a)),(18,.list (v.map .int))] [] rfl rfl) λs' hb=>?_;refine bX (d:=.bool true) (s':=s') rfl ?_ (ao (s':=⟨[(71,pvN m),(31,l5 λa=>.str (ldN r a)),(18,.list (v.map .int))],[]⟩) ?_ (ao (an rfl B) (ao (an rfl N) (ao (aM (t:=false) rfl (λh=>nomatch h) (λu=>aE)) (ao (an rfl Q) (ao (an rfl I) (ao (aM e6 (λh=>nomatch h) (λu=>aE)) (ao (an rfl A) (ao (aM e8 (λh=>nomatch h) (λu=>aE)) hb))))))))) rfl rfl
 ·rw[List.all_cons,bz (λu=>rfl)];rfl
 ·show(ev F [] 58 (.call 101 [.var 18]) [(18,.list (v.map .int))]).bind _=_;rw[bH (F:=F) (k:=57) (f:=101) (args:=[.var 18]) (mm (aa rfl) mm0) U];rfl
theorem wt(names:List (List Nat))(g:∀w∈names,∀c∈w,c<128/\c≠124)(hc:lS c):((cv names c).filter (·= 124)).length=(if c=18 then 1 else 0)/\∀d∈cv names c,d<128:=by
 have m:∀c∈[18,19,20,21,27,7,8,0],((bQ c).filter (·= 124)).length=(if c=18 then 1 else 0)/\∀d∈bQ c,d<128:=by decide
 by_cases h:256<=c
 ·have j:∀d∈names.getD (c - 256) [],d<128/\d≠124:=by
   rw[List.getD_eq_getElem?_getD];cases hx:names[c - 256]? with
   |none=>exact λd h=>nomatch h
   |some w=>exact g w (List.mem_of_getElem? hx)
  rw[cv,if_pos h,if_neg (Nat.ne_of_gt (Nl (by decide) h))];refine⟨List.length_eq_zero_iff.mpr (List.filter_eq_nil_iff.mpr λd hd=>?_),λd hd=>?_⟩
  ·rw[decide_eq_true_eq];rcases List.mem_append.mp hd with hd|hd
   ·rcases List.mem_cons.mp hd with rfl|hd
    ·decide
    ·exact(j d hd).2
   ·obtain rfl:=List.mem_singleton.mp hd;decide
  ·rcases List.mem_append.mp hd with hd|hd
   ·rcases List.mem_cons.mp hd with rfl|hd
    ·decide
    ·exact(j d hd).1
   ·obtain rfl:=List.mem_singleton.mp hd;decide
 ·rw[cv,if_neg h];refine m c ?_;rcases hc with h1|rfl|rfl|h1
  ·rcases h1 with rfl|rfl|rfl|rfl|rfl|rfl<;>decide
  ·decide
  ·decide
  ·exact(h h1.1).elim
theorem vi(names:List (List Nat))(m:∀w∈names,∀c∈w,c<128/\c≠124):∀l:List Nat,(∀c∈l,lS c)->((aq names l).filter (·= 124)).length=cnt l 18/\(∀d∈aq names l,d<128):=by
 intro l;induction l with
 |nil=>exact λu=>⟨rfl,λd h=>nomatch h⟩
 |cons c l v=>
  intro h;refine au (v λd hd=>h d (.tail _ hd)) λh1 h2=>?_;refine au (wt names m (h c (.head _))) λg j=>?_;rw[fJ,List.filter_append,List.length_append,h1,g];refine⟨?_,λd hd=>(List.mem_append.mp hd).elim (j d) (h2 d)⟩;rw[cnt,cnt,List.filter_cons];by_cases hc:c=18
  ·rw[if_pos hc,if_pos (decide_eq_true hc),List.length_cons,Nat.add_comm]
  ·rw[if_neg hc,if_neg (by rw[decide_eq_true_eq];exact hc),Nat.zero_add]
noncomputable section
noncomputable def ii{α:Type}(f:α->Bool)(l:List α):Bool:=@List.rec α (λ_=>Bool) false (λx _ ih=>cond (f x) true ih) l
noncomputable def ff{α:Type}(f:α->Bool)(l:List α):Bool:=@List.rec α (λ_=>Bool) true (λx _ ih=>cond (f x) ih false) l
noncomputable def ln{α:Type}(f:α->Bool)(l:List α):List α:=@List.rec α (λ_=>List α) [] (λx _ ih=>cond (f x) (x::ih) ih) l
noncomputable def d5{α β:Type}(f:α->β)(l:List α):List β:=@List.rec α (λ_=>List β) [] (λx _ ih=>f x::ih) l
noncomputable def us{α:Type}(l m:List α):List α:=@List.rec α (λ_=>List α) m (λx _ ih=>x::ih) l
noncomputable def lx{α:Type}(l:List (List α)):List α:=@List.rec (List α) (λ_=>List α) [] (λx _ ih=>us x ih) l
noncomputable def hdF(p:List Nat):Nat:=@List.rec Nat (λ_=>Nat) 0 (λx _ _=>x) p
noncomputable def jS{α:Type}(p:List α):Bool:=@List.rec α (λ_=>Bool) false (λ_ r _=>@List.rec α (λ_=>Bool) false (λ_ _ _=>true) r) p
noncomputable def te(T a b:Nat):Nat:=Nat.land (Nat.shiftRight T (Nat.mul 2 (Nat.add (Nat.mul 5 a) b))) 3
noncomputable def ofD(l:List Nat):Nat:=@List.rec Nat (λ_=>Nat) 0 (λv _ ih=>Nat.add v (Nat.mul 4 ih)) l
noncomputable def inv(s:Nat):Nat:=cond (Nat.beq s 1) 2 (cond (Nat.beq s 2) 1 s)
noncomputable def tlF(T a b:Nat):Bool:=Nat.ble 1 (te T a b)
noncomputable def ttF(T a b:Nat):Bool:=cond (Nat.beq (te T a b) 0) true (Nat.beq (te T a b) 3)
noncomputable def oJ(tie:Nat->Bool)(one:Nat)(ps:List (List Nat)):List (List Nat):=us (ln (λp=>not (ii tie p)) ps) [us (lx (ln (ii tie) ps)) [one]]
noncomputable def d7(tie:Nat->Nat->Bool)(ms:List Nat):List (List Nat):=@List.rec Nat (λ_=>List (List Nat)->List (List Nat)) (λps=>ps) (λone _ ih ps=>ih (oJ (tie one) one ps)) ms []
noncomputable def lp(T v:Nat)(ms p:List Nat):Nat:=@List.rec Nat (λ_=>Nat) 0 (λo _ n=>cond (Nat.beq (te T o (hdF p)) v) (Nat.succ n) n) ms
noncomputable def wn(k:Nat)(p:List Nat)(l:List (Nat×List Nat)):List (Nat×List Nat):=
 @List.rec (Nat×List Nat) (λ_=>List (Nat×List Nat)) [(k,p)] (λq r ih=>cond (Nat.blt k q.1) ((k,p)::q::r) (q::ih)) l
noncomputable def n3(l:List (Nat×List Nat)):List (Nat×List Nat):=@List.rec (Nat×List Nat) (λ_=>List (Nat×List Nat)->List (Nat×List Nat)) (λa=>a) (λp _ ih a=>ih (wn p.1 p.2 a)) l []
noncomputable def wu(l:List (Nat×List Nat)):Bool:=@List.rec (Nat×List Nat) (λ_=>Bool) true (λp r ih=>cond (ii (λq=>Nat.beq p.1 q.1) r) false ih) l
noncomputable def dZ(D va vb:Nat)(ps:List (List Nat)):Bool:=@List.rec (List Nat) (λ_=>Bool) true (λp r ih=>cond (ff (λq=>ff (λa=>ff (λb=>cond (Nat.beq (te D a b) va) (Nat.beq (te D b a) vb) false) q) p) r) ih false) ps
noncomputable def okF(D T:Nat)(k:Nat):List Nat->Bool->Bool:=@Nat.rec (λ_=>List Nat->Bool->Bool) (λ_ _=>true) (λ_ ih ms way=>
 cond (jS ms) (cond (ff (λo=>Nat.beq (te T (hdF ms) o) 3) ms) (dZ D 3 3 (d5 (λm=>[m]) ms))
  ((λloose=>cond (jS loose) (cond (dZ D 0 0 loose) (ff (λp=>ih p (not way)) loose) false)
    ((λtight=>cond (jS tight) ((λkt=>cond (wu kt) ((λst=>cond (dZ D (cond way 2 1) (cond way 1 2) st) (ff (λp=>ih p (not way)) st) false) (d5 Prod.snd (n3 kt))) false) (d5 (λp=>(lp T (cond way 2 1) ms p,p)) tight)) (dZ D 0 0 (d5 (λm=>[m]) ms))) (d7 (ttF T) ms))) (d7 (tlF T) ms))) true) k
noncomputable def vk(T:Nat):List (Nat×Nat):=lx (d5 (λa=>d5 (λb=>(a,b)) (ln (λb=>Nat.beq (te T a b) 1) ns5)) ns5)
noncomputable def sd(T:Nat):List (List Nat):=lx (d5 (λp=>d5 (λq=>[p.1,q.1,p.2,q.2]) (ln (λq=>cond (Nat.beq (te T q.1 p.2) 1) (cond (Nat.beq (te T p.1 q.1) 0) (cond (Nat.beq (te T p.1 q.2) 0) (Nat.beq (te T p.2 q.2) 0) false) false) false) (vk T))) (vk T))
noncomputable def hdL(p:List (List Nat)):List Nat:=@List.rec (List Nat) (λ_=>List Nat) [] (λx _ _=>x) p
noncomputable def yJ(T:Nat)(four:List Nat)(k:Nat):Bool:=cond (ii (λy=>Nat.beq y k) four) true (ii (λo=>not (Nat.beq (te T k o) (te T k (hdF four)))) four)
noncomputable def wi(T:Nat)(w:List Nat)(a b:Nat):Nat:=cond (cond (ii (λy=>Nat.beq y a) w) (ii (λy=>Nat.beq y b) w) false) 0 (te T a b)
noncomputable def AQ(f:Nat->Nat->Nat):List Nat:=lx (d5 (λa=>d5 (f a) ns5) ns5)
noncomputable def xM(T:Nat):Nat:=(λfour=>@List.rec Nat (λ_=>Nat) T (λ_ _ _=>(λw=>ofD (AQ (wi T w))) (ln (yJ T four) ns5)) four) (hdL (sd T))
noncomputable def okT(T:Nat):Bool:=(λD=>cond (okF D T 5 ns5 false) (okF D T 5 ns5 true) false) (xM T)
noncomputable def TV(a b c d e f g h i j:Nat):Nat:=ofD [3,a,b,d,g,inv a,3,c,e,h,inv b,inv c,3,f,i,inv d,inv e,inv f,3,j,inv g,inv h,inv i,inv j,3]
noncomputable def mG(f:Nat->Bool):Bool:=cond (f 0) (cond (f 1) (cond (f 2) (f 3) false) false) false
noncomputable def ok3(u v w:Nat):Bool:=Nat.ble 1 (Nat.land (Nat.shiftRight 9520942915765212479 (Nat.add (Nat.mul 16 u) (Nat.add (Nat.mul 4 v) w))) 1)
noncomputable def imp(a b:Bool):Bool:=cond a b true
noncomputable def chk(a b:Nat):Bool:=mG λc=>imp (ok3 a b c) (mG λd=>mG λe=>imp (ok3 a d e) (mG λf=>imp (cond (ok3 b d f) (ok3 c e f) false) (mG λg=>mG λh=>imp (ok3 a g h) (mG λi=>imp (cond (ok3 b g i) (ok3 c h i) false) (mG λj=>imp (cond (ok3 d g j) (cond (ok3 e h j) (ok3 f i j) false) false) (okT (TV a b c d e f g h i j)))))))
end
theorem lY(f:α->Bool)(l:List α):ii f l=l.any f:=by
 induction l with
 |nil=>rfl
 |cons a l j=>
  show cond (f a) true (ii f l)=(f a||l.any f);rw[j];cases f a<;>rfl
theorem lV(f:α->Bool)(l:List α):ff f l=l.all f:=by
 induction l with
 |nil=>rfl
 |cons a l j=>
  show cond (f a) (ff f l) false=(f a&&l.all f);rw[j];cases f a<;>rfl
theorem nT(f:α->Bool)(l:List α):ln f l=l.filter f:=by
 induction l with
 |nil=>rfl
 |cons a l j=>
  show cond (f a) (a::ln f l) (ln f l)=_;rw[j,List.filter_cons];cases f a<;>rfl
theorem iP(f:α->β)(l:List α):d5 f l=l.map f:=by
 induction l with
 |nil=>rfl
 |cons a l j=>exact congrArg (f a::·) j
theorem vc(l m:List α):us l m=l++m:=by
 induction l with
 |nil=>rfl
 |cons a l j=>exact congrArg (a::·) j
theorem pF(l:List (List α)):lx l=l.flatten:=by
 induction l with
 |nil=>rfl
 |cons a l j=>
  show us a (lx l)=_;rw[vc,j];rfl
theorem yQ(l:List Nat):hdF l=l.headD 0:=by cases l<;>rfl
theorem oW(l:List α):jS l=decide (1<l.length):=by
 cases l with
 |nil=>rfl
 |cons a l=>
  cases l with
  |nil=>rfl
  |cons b l=>exact(decide_eq_true (by simp:1<l.length+1+1)).symm
theorem qw(h:∀a b,tie a b=tie' a b)(j:List Nat):d7 tie j=ay tie' j:=by
 have e:tie=tie':=funext λa=>funext λb=>h a b;clear h;subst e;have q:∀(j:List Nat) (ps:List (List Nat)),@List.rec Nat (λu=>List (List Nat)->List (List Nat)) (λps=>ps) (λone u g ps=>g (oJ (tie one) one ps)) j ps=j.foldl (λps one=>iQ tie one ps) ps:=by
  intro j;induction j with
  |nil=>exact λu=>rfl
  |cons m j g=>
   intro ps;refine(g (oJ (tie m) m ps)).trans ?_;have:oJ (tie m) m ps=iQ tie m ps:=by
    delta oJ iQ;rw[vc,vc,pF,nT,nT,show(ii (tie m))=λp=>p.any (tie m)from funext λp=>lY _ p]
   rw[this];rfl
 exact q j []
theorem oE(a b:Nat):Nat.beq a b=(a==b):=by
 by_cases h:a=b
 ·subst h;rw[Nat.beq_refl,beq_self_eq_true]
 ·rw[beq_false_of_ne h,Bool.eq_false_iff.mpr λe=>h (Nat.eq_of_beq_eq_true e)]
theorem xw(T a b:Nat):te T a b<=3:=Nat.and_le_right
theorem cR(T a b:Nat):te T a b=0\/te T a b=1\/te T a b=2\/te T a b=3:=by have:=xw T a b;exact yg this
theorem AK(T a b:Nat):tlF T a b=jI (te T) a b:=by
 delta tlF jI;rcases cR T a b with h|h|h|h<;>rw[h]<;>rfl
theorem AV(T a b:Nat):ttF T a b=fH (te T) a b:=by
 delta ttF fH;rcases cR T a b with h|h|h|h<;>rw[h]<;>rfl
theorem z4(T:Nat)(way:Bool)(j p:List Nat):lp T (cond way 2 1) j p=mY (te T) j way p:=by
 unfold mY;rw[<- yQ];induction j with
 |nil=>rfl
 |cons m j g=>
  show cond (Nat.beq (te T m (hdF p)) (cond way 2 1)) (Nat.succ (lp T (cond way 2 1) j p)) (lp T (cond way 2 1) j p)=_;rw[g,List.filter_cons,oE];cases te T m (hdF p)==cond way 2 1<;>rfl
theorem yh(key:List Nat->Nat)(l:List (List Nat)):d5 Prod.snd (n3 (d5 (λp=>(key p,p)) l))=eK key l:=by
 have g:∀(p:List Nat) (l:List (List Nat)),wn (key p) p (l.map λp=>(key p,p))=(pX key p l).map λp=>(key p,p):=by
  intro p l;induction l with
  |nil=>rfl
  |cons q l j=>
   show cond (Nat.blt (key p) (key q)) _ ((key q,q)::wn (key p) p (l.map λp=>(key p,p)))=List.map _ (if key p<key q then _ else _);rw[j];by_cases h:key p<key q
   ·rw[if_pos h,show Nat.blt (key p) (key q)=true from Nat.ble_eq_true_of_le h];rfl
   ·rw[if_neg h,show Nat.blt (key p) (key q)=false from Bool.eq_false_iff.mpr λe=>h (Nat.le_of_ble_eq_true e)];rfl
 have q:∀(l acc:List (List Nat)),@List.rec (Nat×List Nat) (λu=>List (Nat×List Nat)->List (Nat×List Nat)) (λa=>a) (λp u j a=>j (wn p.1 p.2 a)) (l.map λp=>(key p,p)) (acc.map λp=>(key p,p))=(l.foldl (λacc p=>pX key p acc) acc).map λp=>(key p,p):=by
  intro l;induction l with
  |nil=>exact λu=>rfl
  |cons p l j=>
   intro acc;refine Eq.trans ?_ (j (pX key p acc));rw[<- g];rfl
 rw[iP,iP,show n3 (l.map λp=>(key p,p))=_ from q l [],List.map_map,show(Prod.snd∘λp=>(key p,p))=id from rfl,List.map_id];rfl
theorem zS(key:List Nat->Nat)(l:List (List Nat)):wu (d5 (λp=>(key p,p)) l)=nodupN (l.map key):=by
 rw[iP];induction l with
 |nil=>rfl
 |cons p l j=>
  show cond (ii (λq=>Nat.beq (key p) q.1) (l.map λp=>(key p,p))) false (wu (l.map λp=>(key p,p)))=(!(l.map key).any (Nat.beq (key p))&&nodupN (l.map key));rw[j,lY,List.any_map,List.any_map];show cond (l.any λq=>Nat.beq (key p) (key q)) _ _=(!(l.any λq=>Nat.beq (key p) (key q))&&_);cases l.any λq=>Nat.beq (key p) (key q)<;>rfl
theorem fK(D c:Nat)(l:List (List Nat)):dZ D (mA c) (mB c) l=eB (te D) c l:=by
 induction l with
 |nil=>rfl
 |cons p l j=>
  show cond (ff (λq=>ff (λa=>ff (λb=>cond (Nat.beq (te D a b) (mA c)) (Nat.beq (te D b a) (mB c)) false) q) p) l) (dZ D (mA c) (mB c) l) false=(l.all (λq=>p.all λa=>q.all λb=>Nat.beq (te D a b) (mA c)&&Nat.beq (te D b a) (mB c))&&eB (te D) c l);have e:(λq=>ff (λa=>ff (λb=>cond (Nat.beq (te D a b) (mA c)) (Nat.beq (te D b a) (mB c)) false) q) p)=λq=>p.all λa=>q.all λb=>Nat.beq (te D a b) (mA c)&&Nat.beq (te D b a) (mB c):=by
   funext q
   rw[lV];refine congrArg (List.all p) (funext λa=>?_);rw[lV];refine congrArg (List.all q) (funext λb=>?_);cases Nat.beq (te D a b) (mA c)<;>rfl
  rw[j,e,lV];cases l.all _<;>rfl
theorem cnd(h:cond a b false=true):a=true/\b=true:=by
 cases a
 ·exact nf h
 ·exact⟨rfl,h⟩
theorem xJ(D T:Nat):∀(k:Nat) (j:List Nat) (way:Bool),okF D T k j way=true->okL (te D) (te T) k j way=true:=by
 intro k;induction k with
 |zero=>exact λu u u=>rfl
 |succ k i=>
  intro j way h;have g:∀(c:Nat) (ps:List (List Nat)),ax (te T) j way=⟨ps,c⟩->eB (te D) c ps=true->(c=cond way 21 20->nodupN ((ay (fH (te T)) j).map (mY (te T) j way))=true)->(∀p∈ps,okL (te D) (te T) k p (!way)=true)->okL (te D) (te T) (k+1) j way=true:=by
   intro c ps e h1 h2 v;show(Nat.beq j.length 1||(eB (te D) (ax (te T) j way).sign (ax (te T) j way).parts&&((!Nat.beq (ax (te T) j way).sign (cond way 21 20)||nodupN ((ay (fH (te T)) j).map (mY (te T) j way)))&&(ax (te T) j way).parts.all λp=>okL (te D) (te T) k p (!way))))=true;rw[e];rw[h1,List.all_eq_true.mpr v,Bool.and_true,Bool.true_and];clear h1;cases hb:Nat.beq c (cond way 21 20)
   ·exact Bool.or_true _
   ·rw[h2 (Nat.eq_of_beq_eq_true hb)];exact Bool.or_true _
  have one:∀p∈j.map (λm=>[m]),okL (te D) (te T) k p (!way)=true:=λp z=>by
   refine af (List.mem_map.mp z) λm s l=>?_;clear s;subst l;cases k<;>rfl
  by_cases hm:1<j.length
  ·have x:ff (λo=>Nat.beq (te T (hdF j) o) 3) j=km (te T) j:=by
    rw[lV,yQ];exact congrArg (List.all j) (funext λo=>oE ..)
   have h:cond (jS j) (cond (ff (λo=>Nat.beq (te T (hdF j) o) 3) j) (dZ D (mA 27) (mB 27) (d5 (λm=>[m]) j)) (cond (jS (d7 (tlF T) j)) (cond (dZ D (mA 18) (mB 18) (d7 (tlF T) j)) (ff (λp=>okF D T k p (!way)) (d7 (tlF T) j)) false) (cond (jS (d7 (ttF T) j)) (cond (wu (d5 (λp=>(lp T (cond way 2 1) j p,p)) (d7 (ttF T) j))) (cond (dZ D (cond way 2 1) (cond way 1 2) (d5 Prod.snd (n3 (d5 (λp=>(lp T (cond way 2 1) j p,p)) (d7 (ttF T) j))))) (ff (λp=>okF D T k p (!way)) (d5 Prod.snd (n3 (d5 (λp=>(lp T (cond way 2 1) j p,p)) (d7 (ttF T) j))))) false) false) (dZ D (mA 18) (mB 18) (d5 (λm=>[m]) j))))) true=true:=h;rw[oW j,decide_eq_true hm,x,qw (AK T),qw (AV T),oW,oW,iP (λm=>[m]),fK,fK,fK,zS (lp T (cond way 2 1) j),yh (lp T (cond way 2 1) j),show lp T (cond way 2 1) j=mY (te T) j way from funext λp=>z4 ..]at h;have f:(cond way 19 18:Nat)≠cond way 21 20:=by cases way<;>decide
   have hc:∀ps,eB (te D) 18 ps=true->eB (te D) (cond way 19 18) ps=true:=λps n=>by
    clear h f g one;clear x;cases way
    ·exact n
    ·rw[<- fK]at n ⊢;exact n
   clear x;cases hA:km (te T) j with
   |true=>
    rw[hA]at h;exact g 27 _ (by rw[ax,if_pos hA]) h (λe=>by cases way<;>cases e) one
   |false=>
    rw[hA]at h;have y:¬km (te T) j=true:=by rw[hA];decide
    by_cases v:1<(ay (jI (te T)) j).length
    ·rw[decide_eq_true v]at h;refine au (cnd (show cond _ _ false=true from h)) λd t=>?_;rw[lV]at t;exact g _ _ (by rw[ax,if_neg y,if_pos v]) (hc _ d) (λe=>(f e).elim) λp z=>i p _ (List.all_eq_true.mp t p z)
    ·rw[decide_eq_false v]at h;by_cases h4:1<(ay (fH (te T)) j).length
     ·rw[decide_eq_true h4]at h;refine au (cnd (show cond _ _ false=true from h)) λa q=>?_;refine au (cnd q) λd t=>?_;rw[lV]at t;refine g _ _ (by rw[ax,if_neg y,if_neg v,if_pos h4]) ?_ (λu=>a) λp z=>i p _ (List.all_eq_true.mp t p z);cases way
      ·exact(fK D 20 _).symm.trans d
      ·exact(fK D 21 _).symm.trans d
     ·rw[decide_eq_false h4]at h;exact g _ _ (by rw[ax,if_neg y,if_neg v,if_neg h4]) (hc _ h) (λe=>(f e).elim) one
  ·clear i h g one;cases j with
   |nil=>cases way<;>rfl
   |cons m r=>
    cases r with
    |nil=>rfl
    |cons b r=>exact(hm (by simp)).elim
theorem we:∀(l:List Nat) (n:Nat),(∀v∈l,v<=3)->Nat.land (Nat.shiftRight (ofD l) (2*n)) 3=l.getD n 0:=by
 have g:∀x,Nat.land x 3=x % 4:=λx=>Nat.and_two_pow_sub_one_eq_mod x 2;intro l;induction l with
 |nil=>
  intro n _;show Nat.land (0 >>> (2*n)) 3=0;rw[Nat.zero_shiftRight];rfl
 |cons v l j=>
  intro n h;have m:=h v (.head _);show Nat.land ((v+4*ofD l) >>> (2*n)) 3=_;cases n with
  |zero=>
   rw[g];show(v+4*ofD l) % 4=v;exact(Nat.add_mul_mod_self_left _ _ _).trans (Nat.mod_eq_of_lt (Nat.lt_succ_of_le m))
  |succ n=>
   refine Eq.trans ?_ (j n λw u=>h w (.tail _ u));show Nat.land ((v+4*ofD l) >>> (2*(n+1))) 3=Nat.land (ofD l >>> (2*n)) 3;rw[show 2*(n+1)=2+2*n by lia,Nat.shiftRight_add,show(v+4*ofD l) >>> 2=ofD l by
    rw[Nat.shiftRight_eq_div_pow];show(v+4*ofD l) / 4=_;lia]
theorem qE(f:Nat->Nat->Nat)(h:∀a∈ns5,∀b∈ns5,f a b<=3)(l:List Nat)(hl:l=ns5.flatMap λa=>ns5.map (f a))(m:a<5)(j:b<5):te (ofD l) a b=f a b:=by
 have:=we l (5*a+b) (by
  subst hl;intro v g;refine af (List.mem_flatMap.mp g) λa m g=>?_;refine af (List.mem_map.mp g) λb j u=>?_;clear g;subst u;exact h a m b j)
 refine Eq.trans this ?_;clear h this;subst hl;exact lt5 (P:=λa=>∀b,b<5->(ns5.flatMap λa=>ns5.map (f a)).getD (5*a+b) 0=f a b) (λb j=>lt5 (P:=λb=>(ns5.flatMap λa=>ns5.map (f a)).getD (5*0+b) 0=f 0 b) rfl rfl rfl rfl rfl b j) (λb j=>lt5 (P:=λb=>(ns5.flatMap λa=>ns5.map (f a)).getD (5*1+b) 0=f 1 b) rfl rfl rfl rfl rfl b j)
  (λb j=>lt5 (P:=λb=>(ns5.flatMap λa=>ns5.map (f a)).getD (5*2+b) 0=f 2 b) rfl rfl rfl rfl rfl b j) (λb j=>lt5 (P:=λb=>(ns5.flatMap λa=>ns5.map (f a)).getD (5*3+b) 0=f 3 b) rfl rfl rfl rfl rfl b j) (λb j=>lt5 (P:=λb=>(ns5.flatMap λa=>ns5.map (f a)).getD (5*4+b) 0=f 4 b) rfl rfl rfl rfl rfl b j) a m b j
theorem qm(h:∀a b,a<5->b<5->d a b=d' a b):eL d=eL d':=List.map_congr_left λq j=>by
 refine af (List.mem_flatMap.mp j) λa m j=>?_;refine af (List.mem_map.mp j) λb u g=>?_;clear j;subst g;rw[h a b (aS a m) (aS b (List.mem_filter.mp u).1)]
theorem u8(T a b:Nat):isC (te T a b) 20=Nat.beq (te T a b) 1:=by
 rcases cR T a b with h|h|h|h<;>rw[h]<;>rfl
theorem uX(T a b c d:Nat):decide (code (te T a b)=code (te T c d))=Nat.beq (te T a b) (te T c d):=by
 rcases cR T a b with h|h|h|h<;>rcases cR T c d with h'|h'|h'|h'<;>rw[h,h']<;>rfl
theorem yH(T:Nat):ln (yJ T (hdL (sd T))) ns5=eJ (te T):=by
 have u:vk T=bI (te T):=by
  delta vk bI;rw[pF,iP,List.flatMap];refine congrArg List.flatten (congrArg (λf=>List.map f ns5) (funext λa=>?_));rw[iP,nT,show(λb=>Nat.beq (te T a b) 1)=λb=>isC (te T a b) 20 from funext λb=>(u8 ..).symm]
 have v:∀p q:Nat×Nat,cond (Nat.beq (te T q.1 p.2) 1) (cond (Nat.beq (te T p.1 q.1) 0) (cond (Nat.beq (te T p.1 q.2) 0) (Nat.beq (te T p.2 q.2) 0) false) false) false=gu (te T) p q:=λp q=>by
  delta gu;rw[u8];cases Nat.beq (te T q.1 p.2) 1
  ·rfl
  ·rcases cR T p.1 q.1 with h1|h1|h1|h1<;>rcases cR T p.1 q.2 with h2|h2|h2|h2<;>rcases cR T p.2 q.2 with j|j|j|j<;>rw[h1,h2,j]<;>rfl
 have g:sd T=ca (te T):=by
  delta sd ca;rw[pF,iP,u,List.flatMap];refine congrArg List.flatten (congrArg (λf=>List.map f (bI (te T))) (funext λp=>?_));rw[iP,nT];exact congrArg (λf=>(List.filter f (bI (te T))).map _) (funext λq=>v p q)
 have m:hdL (sd T)=bJ (te T):=by
  rw[g,bJ];cases ca (te T)<;>rfl
 rw[nT,m,eJ];refine congrArg (λf=>List.filter f ns5) (funext λk=>?_);show cond (ii (λy=>Nat.beq y k) (bJ (te T))) true (ii (λo=>not (Nat.beq (te T k o) (te T k (hdF (bJ (te T)))))) (bJ (te T)))=s0 (te T) (bJ (te T)) k;rw[lY,lY,yQ,s0,show(λy=>decide (y=k))=λy=>Nat.beq y k from funext λy=>(oE y k).symm,show(λo=>!decide (code (te T k o)=code (te T k ((bJ (te T)).headD 0))))=λo=>!Nat.beq (te T k o) (te T k ((bJ (te T)).headD 0))from funext λo=>by rw[uX]];cases(bJ (te T)).any λy=>Nat.beq y k<;>rfl
theorem zw(T:Nat):eL (te (xM T))=eL (jJ (te T) (eJ (te T))):=by
 refine qm λa b g j=>?_;have ev:∀w a b,wi T w a b=jJ (te T) w a b:=λw a b=>by
  delta wi jJ;rw[lY,lY,show(λy=>decide (y=a))=λy=>Nat.beq y a from funext λy=>(oE y a).symm,show(λy=>decide (y=b))=λy=>Nat.beq y b from funext λy=>(oE y b).symm];cases w.any λy=>Nat.beq y a<;>cases w.any λy=>Nat.beq y b<;>rfl
 rw[<- ev,<- yH];delta xM;cases h:hdL (sd T)with
 |nil=>rfl
 |cons x l=>
  refine qE (wi T (ln (yJ T (x::l)) ns5)) (λa u b u=>?_) _ rfl g j;rw[ev];delta jJ;split
  ·decide
  ·exact xw ..
noncomputable def yO(p:Nat->Nat->Bool)(w v:WS):Bool:=(((List.range (max (gf w) (gf v)+1)).map (1 + ·)).filter λt=>p (kP w t) (kP v t)).isEmpty
noncomputable def AY(w v:WS):Nat:=if yO neB w v=true then 3 else if yO geB w v=true then 1 else if yO leB w v=true then 2 else 0
noncomputable def a4(p:Nat->Nat->Bool)(I J:Nat->Nat):Bool:=p (I 1) (J 1)&&(p (I 2) (J 2)&&(p (I 3) (J 3)&&p (I 4) (J 4)))
noncomputable def aJ(I J:Nat->Nat):Nat:=cond (a4 Nat.beq I J) 3 (cond (a4 Nat.blt I J) 1 (cond (a4 Nat.blt J I) 2 0))
theorem sz:∀r∈cg,∀q∈cg,Nat.beq (AY (bY (aD r)) (bY (aD q))) (aJ (kP (bY (aD r))) (kP (bY (aD q))))=true:=by decide +kernel
theorem e5:a4 p I J=true↔∀t,1<=t->t<=4->p (I t) (J t)=true:=by
 constructor
 ·intro h t h1 v;refine bak h λg q=>?_;refine bak q λm q=>?_;refine bak q λy j=>?_;exact lt5 (P:=λt=>1<=t->p (I t) (J t)=true) (λh=>nomatch h) (λu=>g) (λu=>m) (λu=>y) (λu=>j) t (Nat.lt_succ_of_le v) h1
 ·intro h;unfold a4;rw[h 1 (by decide) (by decide),h 2 (by decide) (by decide),h 3 (by decide) (by decide),h 4 (by decide) (by decide)];rfl
theorem cG(h1:a4 Nat.blt I J=true)(h2:a4 Nat.blt J K=true):a4 Nat.blt I K=true:=
 e5.mpr λt a b=>Nat.ble_eq_true_of_le (Nat.lt_trans (Nat.le_of_ble_eq_true (e5.mp h1 t a b)) (Nat.le_of_ble_eq_true (e5.mp h2 t a b)))
theorem p6:a4 Nat.blt I I=false:=Bool.eq_false_iff.mpr λh=>Nat.lt_irrefl _ (Nat.le_of_ble_eq_true (e5.mp h 1 (by decide) (by decide)))
theorem jO(h:a4 Nat.beq I J=true)(p:Nat->Nat->Bool)(K:Nat->Nat):a4 p I K=a4 p J K/\a4 p K I=a4 p K J:=by
 have q:∀t,1<=t->t<=4->I t=J t:=λt a b=>Nat.eq_of_beq_eq_true (e5.mp h t a b);unfold a4;rw[q 1 (by decide) (by decide),q 2 (by decide) (by decide),q 3 (by decide) (by decide),q 4 (by decide) (by decide)];exact⟨rfl,rfl⟩
theorem oq(I J:Nat->Nat):a4 Nat.beq I J=a4 Nat.beq J I:=by
 have:∀I J:Nat->Nat,a4 Nat.beq I J=true->a4 Nat.beq J I=true:=λI J h=>e5.mpr λt a b=>by rw[Nat.eq_of_beq_eq_true (e5.mp h t a b)];exact Nat.beq_refl _
 exact Bool.eq_iff_iff.mpr ⟨this I J,this J I⟩
theorem cF:aJ I J=1↔a4 Nat.blt I J=true:=by
 unfold aJ;constructor
 ·cases a4 Nat.beq I J<;>cases a4 Nat.blt I J<;>cases a4 Nat.blt J I<;>intro h<;>first|rfl|cases h
 ·intro h;cases he:a4 Nat.beq I J with
  |true=>rw[(jO he Nat.blt J).1,p6]at h;exact nf h
  |false=>rw[h];rfl
theorem cK:aJ I J=2↔a4 Nat.blt J I=true:=by
 unfold aJ;constructor
 ·cases a4 Nat.beq I J<;>cases a4 Nat.blt I J<;>cases a4 Nat.blt J I<;>intro h<;>first|rfl|cases h
 ·intro h;cases he:a4 Nat.beq I J with
  |true=>rw[(jO he Nat.blt J).2,p6]at h;exact nf h
  |false=>
   cases hl:a4 Nat.blt I J with
   |true=>have:=cG h hl;rw[p6]at this;exact nf this
   |false=>rw[h];rfl
theorem iH:aJ I J=3↔a4 Nat.beq I J=true:=by
 unfold aJ;constructor
 ·cases a4 Nat.beq I J<;>cases a4 Nat.blt I J<;>cases a4 Nat.blt J I<;>intro h<;>first|rfl|cases h
 ·intro h;rw[h];rfl
theorem ib(h:aJ I J=3)(K:Nat->Nat):aJ I K=aJ J K/\aJ K I=aJ K J:=by
 have q:=jO (iH.mp h);unfold aJ;rw[(q Nat.beq K).1,(q Nat.blt K).1,(q Nat.blt K).2,(q Nat.beq K).2];exact⟨rfl,rfl⟩
theorem m4(I J:Nat->Nat):aJ I J<4:=by
 unfold aJ;cases a4 Nat.beq I J<;>cases a4 Nat.blt I J<;>cases a4 Nat.blt J I<;>decide
theorem cq(I J:Nat->Nat):aJ J I=inv (aJ I J):=by
 have h:=m4 I J;have:aJ I J=0\/aJ I J=1\/aJ I J=2\/aJ I J=3:=zf h;rcases this with e|e|e|e<;>rw[e]
 ·have h':=m4 J I;have:aJ J I=0\/aJ J I=1\/aJ J I=2\/aJ J I=3:=zf h';rcases this with f|f|f|f
  ·exact f
  ·rw[cK.mpr (cF.mp f)]at e;injection e
  ·rw[cF.mpr (cK.mp f)]at e;injection e
  ·rw[iH.mpr ((oq I J).trans (iH.mp f))]at e;injection e
 ·exact cK.mpr (cF.mp e)
 ·exact cF.mpr (cK.mp e)
 ·exact iH.mpr ((oq J I).trans (iH.mp e))
noncomputable def rV(a b c d:Nat):Bool:=!Nat.beq a b||Nat.beq c d
noncomputable def iO(a b a' b' c d:Nat):Bool:=!Nat.beq a b||rV a' b' c d
theorem jE(h:a=b->c=d):rV a b c d=true:=by
 unfold rV;by_cases e:a=b
 ·rw[h e,Nat.beq_refl,Bool.or_true]
 ·rw[Bool.eq_false_iff.mpr λq=>e (Nat.eq_of_beq_eq_true q)];rfl
theorem d9(h:a=b->a'=b'->c=d):iO a b a' b' c d=true:=by
 unfold iO;by_cases e:a=b
 ·rw[jE (h e),Bool.or_true]
 ·rw[Bool.eq_false_iff.mpr λq=>e (Nat.eq_of_beq_eq_true q)];rfl
theorem yZ:∀u∈[0,1,2,3],∀v∈[0,1,2,3],∀w∈[0,1,2,3],(!(rV u 3 v w&&(rV w 3 v u&&(rV v 3 w (inv u)&&(iO u 1 w 1 v 1&&(iO u 2 w 2 v 2&&(iO u 1 v 2 w 2&&(iO u 2 v 1 w 1&&(iO v 1 w 2 u 1&&iO v 2 w 1 u 2))))))))||ok3 u v w)=true:=by decide +kernel
theorem mZ(I J:Nat->Nat):aJ I J∈[0,1,2,3]:=by
 unfold aJ;cases a4 Nat.beq I J<;>cases a4 Nat.blt I J<;>cases a4 Nat.blt J I<;>decide
theorem iY(h1:a=true)(h2:b=true):(a&&b)=true:=by rw[h1,h2];rfl
theorem v4(I J K:Nat->Nat):ok3 (aJ I J) (aJ I K) (aJ J K)=true:=by
 have h:=yZ _ (mZ I J) _ (mZ I K) _ (mZ J K);rw[iY (jE λh=>(ib h K).1) (iY (jE λh=>((ib h I).2).symm) (iY (jE λh=>((ib h J).2).symm.trans (cq I J)) (iY (d9 λh1 h2=>cF.mpr (cG (cF.mp h1) (cF.mp h2))) (iY (d9 λh1 h2=>cK.mpr (cG (cK.mp h2) (cK.mp h1))) (iY (d9 λh1 h2=>cK.mpr (cG (cK.mp h2) (cF.mp h1)))
  (iY (d9 λh1 h2=>cF.mpr (cG (cK.mp h1) (cF.mp h2))) (iY (d9 λh1 h2=>cF.mpr (cG (cF.mp h1) (cK.mp h2))) (d9 λh1 h2=>cK.mpr (cG (cF.mp h2) (cK.mp h1))))))))))]at h
 exact h
theorem c00:chk 0 0=true:=by decide +kernel
theorem c01:chk 0 1=true:=by decide +kernel
theorem c02:chk 0 2=true:=by decide +kernel
theorem c03:chk 0 3=true:=by decide +kernel
theorem c10:chk 1 0=true:=by decide +kernel
theorem c11:chk 1 1=true:=by decide +kernel
theorem c12:chk 1 2=true:=by decide +kernel
theorem c13:chk 1 3=true:=by decide +kernel
theorem c20:chk 2 0=true:=by decide +kernel
theorem c21:chk 2 1=true:=by decide +kernel
theorem c22:chk 2 2=true:=by decide +kernel
theorem c23:chk 2 3=true:=by decide +kernel
theorem c30:chk 3 0=true:=by decide +kernel
theorem c31:chk 3 1=true:=by decide +kernel
theorem c32:chk 3 2=true:=by decide +kernel
theorem c33:chk 3 3=true:=by decide +kernel
theorem lt4{P:Nat->Prop}(h0:P 0)(h1:P 1)(h2:P 2)(h3:P 3){k:Nat}(hk:k<4):P k:=by
 have:=lt5 (P:=λk=>k<4->P k) (λ_=>h0) (λ_=>h1) (λ_=>h2) (λ_=>h3) (λh=>absurd h (by decide)) k (Nat.lt_succ_of_lt hk);exact this hk
theorem dR{f:Nat->Bool}(h:mG f=true){k:Nat}(hk:k<4):f k=true:=by
 refine au (cnd h) λh0 h=>?_;refine au (cnd h) λh1 h=>?_;refine au (cnd h) λh2 h3=>?_;exact lt4 (P:=λk=>f k=true) h0 h1 h2 h3 hk
theorem iD{a b:Bool}(h:imp a b=true)(ha:a=true):b=true:=by rw[ha]at h;exact h
theorem qr{a b:Bool}(h1:a=true)(h2:b=true):cond a b false=true:=by rw[h1,h2];rfl
theorem chk_all{a b:Nat}(ha:a<4)(hb:b<4):chk a b=true:=
 lt4 (P:=λa=>∀b,b<4->chk a b=true) (λb hb=>lt4 (P:=λb=>chk 0 b=true) c00 c01 c02 c03 hb) (λb hb=>lt4 (P:=λb=>chk 1 b=true) c10 c11 c12 c13 hb) (λb hb=>lt4 (P:=λb=>chk 2 b=true) c20 c21 c22 c23 hb) (λb hb=>lt4 (P:=λb=>chk 3 b=true) c30 c31 c32 c33 hb) ha b hb
theorem fW(r:Nat->List Nat)(hr:∀a,a<5->c9 (r a)):∃T D,bj (ij r)=bj (te T)/\eL (te D)=eL (jJ (te T) (eJ (te T)))/\∀way,okL (te D) (te T) 5 ns5 way=true:=by
 have e:∀a,a<5->∀b,b<5->ij r a b=aJ (IN r a) (IN r b):=λa ha b hb=>Nat.eq_of_beq_eq_true (sz _ (hR (hr a ha)) _ (hR (hr b hb)));generalize hc:IN r=c at e;have k:=λa b d=>v4 (c a) (c b) (c d);have l:=λa b=>m4 (c a) (c b);have hT:te (TV (aJ (c 0) (c 1)) (aJ (c 0) (c 2)) (aJ (c 1) (c 2)) (aJ (c 0) (c 3)) (aJ (c 1) (c 3)) (aJ (c 2) (c 3)) (aJ (c 0) (c 4)) (aJ (c 1) (c 4)) (aJ (c 2) (c 4)) (aJ (c 3) (c 4)))=λa b=>te (ofD (ns5.flatMap λa=>ns5.map λb=>aJ (c a) (c b))) a b:=by
  have d:∀I:Nat->Nat,aJ I I=3:=λI=>iH.mpr (e5.mpr λt _ _=>Nat.beq_refl _);show _=te (ofD [aJ (c 0) (c 0),aJ (c 0) (c 1),aJ (c 0) (c 2),aJ (c 0) (c 3),aJ (c 0) (c 4),aJ (c 1) (c 0),aJ (c 1) (c 1),aJ (c 1) (c 2),aJ (c 1) (c 3),aJ (c 1) (c 4),aJ (c 2) (c 0),aJ (c 2) (c 1),aJ (c 2) (c 2),aJ (c 2) (c 3),aJ (c 2) (c 4),aJ (c 3) (c 0),aJ (c 3) (c 1),aJ (c 3) (c 2),aJ (c 3) (c 3),aJ (c 3) (c 4),aJ (c 4) (c 0),aJ (c 4) (c 1),aJ (c 4) (c 2),aJ (c 4) (c 3),aJ (c 4) (c 4)]);rw[d,d,d,d,d,cq (c 0) (c 1),cq (c 0) (c 2),cq (c 0) (c 3),cq (c 0) (c 4),cq (c 1) (c 2),cq (c 1) (c 3),cq (c 1) (c 4),cq (c 2) (c 3),cq (c 2) (c 4),cq (c 3) (c 4)];rfl
 have h:=iD (dR (chk_all (l 0 1) (l 0 2)) (l 1 2)) (k 0 1 2);have h:=iD (dR (dR h (l 0 3)) (l 1 3)) (k 0 1 3);have h:=iD (dR h (l 2 3)) (qr (k 0 2 3) (k 1 2 3));have h:=iD (dR (dR h (l 0 4)) (l 1 4)) (k 0 1 4);have h:=iD (dR h (l 2 4)) (qr (k 0 2 4) (k 1 2 4));have h:=iD (dR h (l 3 4)) (qr (k 0 3 4) (qr (k 1 3 4) (k 2 3 4)));refine au (cnd (show cond _ _ false=true from h)) λh1 h2=>?_;refine⟨_,_,?_,zw _,λway=>xJ _ _ 5 ns5 way (by cases way;exact h1;exact h2)⟩;unfold bj;refine congrArg PV.list (List.map_congr_left λa ha=>congrArg PV.list (List.map_congr_left λb hb=>?_));rw[e a (aS a ha) b (aS b hb),hT];exact congrArg (λv=>PV.int (code v)) (qE (λa b=>aJ (c a) (c b)) (λa _ b _=>Nat.le_of_lt_succ (m4 ..)) _ rfl (aS a ha) (aS b hb)).symm
theorem law_pure(g:List Int)(hs:g.length<=63):bp fns 8 109 [.list (g.map .int)]=some (.bool true):=by
 show cS (bp fns 7) vT _=_;refine nV (tO (bp fns 6) g hs) λrows j H s p U=>?_;clear hs;obtain⟨r,hr,rfl⟩:∃r:Nat->List Nat,(∀a,a<5->c9 (r a))/\rows=ns5.map r:=by
  match rows,H,s with
  |[a,b,c,d,e],_,h=>exact⟨λi=>[a,b,c,d,e].getD i [],lt5 (P:=λi=>c9 ([a,b,c,d,e].getD i [])) (h a (by simp)) (h b (by simp)) (h c (by simp)) (h d (by simp)) (h e (by simp)),rfl⟩
 have J:∀a,a<5->uF (r a) (ldN r a) (WN r a):=λa u=>AH (hr a u);refine aO (fW r hr) λE B hE hB y=>?_;have y:=y (Nat.beq (j % 2) 1);have Z:∀a,a<5->∀c∈nmN r a,c<128/\c≠124/\c≠34:=λa u c hc=>by
  rcases List.mem_append.mp hc with hc|hc
  ·rcases(J a u).chr c hc with rfl|rfl<;>decide
  ·rcases List.mem_cons.mp hc with rfl|hc
   ·exact⟨Nl (Nat.add_lt_add_left u 97) (by decide),Nat.ne_of_lt (Nl (Nat.add_lt_add_left u 97) (by decide)),Nat.ne_of_gt (Nl (by decide:34<97) (Nat.le_add_right _ _))⟩
   ·exact(by decide:∀c∈[32,9],c<128/\c≠124/\c≠34) c hc
 have N:∀w∈ns5.map (nmN r),∀c∈w,c<128/\c≠124/\c≠34:=λw q=>by
  refine af (List.mem_map.mp q) λa u Y=>?_;subst Y;exact Z a (aS a u)
 have F:∀w∈ns5.map (nmN r),∀c∈w,c<128/\c≠124:=λw q c hc=>⟨(N w q c hc).1,(N w q c hc).2.1⟩
 have t:∀w∈ns5.map (nmN r),w.length<=14:=λw q=>by
  refine af (List.mem_map.mp q) λa u I=>?_;subst I;rw[nmN,List.length_append];exact Nat.add_le_add_right (J a (aS a u)).len 3
 have C:(ns5.map (nmN r)).Nodup:=by
  have W:∀a b,nmN r a=nmN r b->a=b:=λa b h=>by
   injection List.append_inj_right' h rfl with h;exact Nat.add_left_cancel h
  exact List.Pairwise.map _ (λa b h e=>h (W a b e)) (by decide:ns5.Nodup)
 have Q:∀m∈ns5,m<5:=aS;refine af ((oK (names:=ns5.map (nmN r)) (e:=bv (j / 2 % 3)) rfl 5 ns5 _ y (by decide) Q (by decide) (Nr 5)).out) λja y6 q3=>?_;refine au y6 λq1 A=>?_;refine bd (rh q1 q3) λT t1 t2 t3=>?_;have x:=vt (te E) (ns5.map (nmN r)) t rfl 5 ns5 (Nat.beq (j % 2) 1) false (tF 5 ns5 _ y) Q (by decide) (Nr 5) (by decide) (Nr 5);have v:=kT (te E) (ns5.map (nmN r)) t 5 ns5 (Nat.beq (j % 2) 1) false (by decide) (Nr 5);generalize a9 (te E) 5 ns5 (Nat.beq (j % 2) 1) false=toks at *;have v:(aq (ns5.map (nmN r)) toks).length<=96:=v;refine au (vi _ F toks A.sym) λc1 c2=>?_;have M:toks.length<=96:=by
  have h:∀l:List Nat,l.length<=(aq (ns5.map (nmN r)) l).length:=by
   intro l;induction l with
   |nil=>exact Nr _
   |cons c l ih=>
    rw[fJ,List.length_append,List.length_cons,Nat.add_comm];refine Na ?_ ih;unfold cv;split
    ·exact Nat.succ_le_succ (Nat.zero_le _)
    ·unfold bQ;(repeat' split)<;>exact Nat.succ_le_succ (Nat.zero_le _)
  exact Nt (h toks) v
 have n:(bv (j / 2 % 3)).length<=2/\(bv (j / 2 % 3)=[]\/bv (j / 2 % 3)=[10]\/bv (j / 2 % 3)=[13,10])/\(bv (j / 2 % 3)).filter (·= 124)=[]:=by
  unfold bv;split
  ·decide
  ·split<;>decide
 have o:6*(aq (ns5.map (nmN r)) toks++bv (j / 2 % 3)).length<=1000:=by rw[List.length_append];lia
 have L:kQ (ns5.map (nmN r)) (bv (j / 2 % 3)) toks:=by
  have:=A.lex [] n.2.1 (by
   show fD 8 (bv (j / 2 % 3));rcases n.2.1 with h|h|h<;>rw[h]
   ·exact(rfl:8=8)
   ·show 10=41\/10=124\/10=38\/10=61\/10=60\/10=62\/10=13\/10=10;decide
   ·show 13=41\/13=124\/13=38\/13=61\/13=60\/13=62\/13=13\/13=10;decide)
  rwa [List.append_nil]at this
 have O:∀c∈toks++[0],lS c:=λc hc=>(List.mem_append.mp hc).elim (A.sym c) λhc=>by obtain rfl:=List.mem_singleton.mp hc;exact .inr (.inr (.inl rfl))
 have z:(toks++[0]).length<=316:=by rw[List.length_append];exact Nt (Nat.add_le_add_right M 1) (by decide)
 refine au (wp (bp fns 6) (tV 5) (toks++[0]) O z T t1) λK S=>?_;refine oI (yt (bp fns 6) rfl _ o) λe0 e1 e2 e3 e4=>?_;refine wU (bp fns 7) g r j p (te E) (aq (ns5.map (nmN r)) toks) (toks++[0]) T.D (tV 6) (λa u=>(J a u).len) U (λa u=>?_) ((ur (bp fns 6) r (zv 4 r J) J).trans (congrArg some hE)) x v c2 (λk R f hf=>?_) (λk R=>wK (bp fns 6) k R _ o) (λk R=>yq (bp fns 6) (ns5.map (nmN r)) (by decide:5<=1000) C (λw q h=>(N w q 34 h).2.2 rfl) k R toks _ o L (Nt M (by decide))) z ?_ K (hB▸xR t2 S t3)
 ·exact qV (bp fns 6) (ldN r a) [97+a,32,9] (J a u).chr (Nt (J a u).len (by decide)) (.inr ⟨97+a,[32,9],rfl,by lia,by lia,Aw u⟩)
 ·subst hf;exact lt5 (P:=λk=>bp fns 7 (([96,99,97,98,100]:List Nat).getD k 0) [.str (aq (ns5.map (nmN r)) toks++bv (j / 2 % 3))]=some (.str (aP (am k) (aq (ns5.map (nmN r)) toks++bv (j / 2 % 3))))) e0 e1 e2 e3 e4 k R
 ·rw[List.filter_append,List.length_append,c1,n.2.2,cnt,List.filter_append,List.length_append];rfl
end
end Mine.Internal.Q
set_option maxHeartbeats 0 in
theorem Mine.Internal.HA.t:PySem.Challenge.rw_ta0087_01.wellSaid=true:=by
 decide +kernel
open PySem PySem.W PySem.Calls PyProof.Rows
namespace Mine.Internal
noncomputable def nY:Program:={PySem.Challenge.pw_ta0087_01 with main:={PySem.Challenge.pw_ta0087_01.main with body:=PySem.Challenge.pw_ta0087_01.main.body.drop 73}}
noncomputable def fw:List Str:=(["Whitespace","ENDMARKER","LPAR","RPAR","LSQB","RSQB","COLON","COMMA","SEMI","PLUS","MINUS","STAR","SLASH","VBAR","AMPER","LESS","GREATER","EQUAL","DOT","PERCENT","LBRACE","RBRACE","EQEQUAL","NOTEQUAL","LESSEQUAL","GREATEREQUAL","TILDE","CIRCUMFLEX","LEFTSHIFT","RIGHTSHIFT","DOUBLESTAR","PLUSEQUAL","MINEQUAL","STAREQUAL","SLASHEQUAL","PERCENTEQUAL","AMPEREQUAL","VBAREQUAL","CIRCUMFLEXEQUAL","LEFTSHIFTEQUAL","RIGHTSHIFTEQUAL","DOUBLESTAREQUAL","DOUBLESLASH","DOUBLESLASHEQUAL","AT","ATEQUAL","RARROW","ELLIPSIS","COLONEQUAL","EXCLAMATION","NT_OFFSET","EXACT_TOKEN_TYPES","ISTERMINAL","ISNONTERMINAL","ISEOF","_raise_serialization_error","_escape_cdata","_escape_attrib","_escape_attrib_html","_escape_cdata_c14n","_escape_attrib_c14n","_law_leads","_law_column","_law_said","_law_parts","_law_line","_law_page","_law_cut","_law_told"]:List String).map Str.ofString
noncomputable def zV:DefRec:=match PySem.Challenge.pw_ta0087_01.main.body.getLast? with
 |some (.FunctionDef n as b _ _ _ sc _ _ pos)=>⟨n,as,b,sc,pos⟩
 |_=>⟨"",⟨[],[],none,[],[],none,[]⟩,[],default,default⟩
noncomputable def zH(s:Shared):Bool:=xlAt nY [] s&&recOk (RowW.records (OpenRow.toRowW PySem.Challenge.rw_ta0087_01.row)) s
set_option maxHeartbeats 0 in
theorem hlA(w:World):(fencedOpening treeTable PySem.Challenge.rw_ta0087_01.row.prog w 6000).map (λs₀=>(topFrom treeTable PySem.Challenge.rw_ta0087_01.row.prog (w.withFollow "special-get-raises" false) 6000 s₀).map λs=>(openSeen nY fw (importedModules PySem.Challenge.rw_ta0087_01.row.prog.main.body) zH true s,(kA s.heap,Nat.ble 1 s.toks)))=some (some (openGood nY fw,(lf w,true))):=by kernel_rfl
set_option maxHeartbeats 0 in
theorem hlB(w:World):(fencedOpening treeTable PySem.Challenge.rw_ta0087_01.row.prog w 6000).map (λs₀=>(topFrom treeTable PySem.Challenge.rw_ta0087_01.row.prog (w.withFollow "special-get-raises" true) 6000 s₀).map λs=>(openSeen nY fw (importedModules PySem.Challenge.rw_ta0087_01.row.prog.main.body) zH true s,(kA s.heap,Nat.ble 1 s.toks)))=some (some (openGood nY fw,(lf w,true))):=by kernel_rfl
theorem u3{α β γ:Type}{o:Option α}{f:α->β}{g:α->γ}{x:β}{y:γ}(h1:o.map f=some x)(h2:o.map g=some y):o.map (λs=>(f s,g s))=some (x,y):=by
 cases o with
 |none=>cases h1
 |some s=>
  injection h1 with h1;injection h2 with h2;show some (f s,g s)=_;rw[h1,h2]
end Mine.Internal
open Mine.Internal
set_option tactic.hygienic true in
set_option maxHeartbeats 0 in
theorem PySem.Challenge.cw_ta0087_01_holds : PySem.Challenge.rw_ta0087_01.Holds := by
 w_on
 refine holds_law HA.t λsaid=>?_;refine holds_openX (q:=nY) (loose:=fw) (Xt:=λs=>xlAt nY [] s&&recOk (RowW.records (OpenRow.toRowW PySem.Challenge.rw_ta0087_01.row)) s) (XP:=XL nY []) (Yf:=λs=>(kA s.heap,Nat.ble 1 s.toks)) (Ya:=λw=>(lf w,true)) (d:=zV) (kwd:=[]) (N:=6000) ?hl (λs e=>xl_of s (Bool.and_eq_true_iff.mp e).1) XL.keeps ?h1 ?h2 ?h3 (λs e=>recFacts_of (Bool.and_eq_true_iff.mp e).2) ?h4 said ?h5 ?h6 ?hw ?hc
 case h1=>kernel_rfl
 case h2=>kernel_rfl
 case h3=>kernel_rfl
 case h4=>kernel_rfl
 case h5=>kernel_rfl
 case h6=>exact⟨rfl,rfl,rfl,rfl,rfl,by decide +kernel⟩
 case hw=>w_witness2
 case hl=>exact LeftO.of_split "special-get-raises" λw=>u3 (hlA w) (hlB w)
 case hc=>
  intro w s₀ s₁ mg mb G y fa o pm cd doc dV kV ho hd hcd hD hmg hg args vals as L hpre hlay hrd hwl hlo;wrow_args hpre hlay hrd hwl hlo
  rename_i ns hs hlay0 hL1 hr1 hl2 as1 as2 l vs as3 hlst ra w1 r0 hI hr hcd1 hcd2;have O:kA s₀.heap=lf w:=congrArg (·.1) y;have htk:1<=s₀.toks:=Nat.le_of_ble_eq_true (congrArg (·.2) y);have hns:s₁.heap.Ns mainGlobals (s₀.heap.nsMap mainGlobals):=(Heap.Ns.of_isNs (gz O).1).keeps L.keeps;have hfa:fa=193:=by
   have e:mg=s₀.heap.nsMap mainGlobals:=G.T.g.eq_nsMap.trans hns.eq_nsMap.symm;have q:=(gz O).2.2.2.2.2.2.1 109 193 (by decide +kernel) (by decide +kernel);rw[e,show zV.name=nm 109 from by decide +kernel,q]at hmg;cases hmg;rfl
  subst hfa;have ho':=PySem.W.X.script_obj L hlst;have hl170:l≠170:=by
   rintro rfl
   rw[L.keeps _ _ (dX O).2.2.1]at ho';cases ho'
  refine Wm (wy ⟨_,w,s₀.heap⟩ O s₁ l vs ns 0 _ L.keeps (PySem.W.X.script_toks L rfl |> Nt htk) ho' hI hl170 ⟨rfl,by decide,by decide⟩ (Q.law_pure ns (by omega))) (λv s' q=>?_) λ_ _ f=>f.elim;obtain⟨rfl,⟨h',tk,rfl⟩,K⟩:=q;exact⟨.inl ⟨_,_,[],rfl,λ_=>rfl,ReadsW.bool true,by first|rfl|wrow_post,λ_=>⟨List.nodup_nil,λ_ hm=>(nomatch hm)⟩⟩,K,rfl,.of_eq hg⟩
