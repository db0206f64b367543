import PyProof.Rows.All
import Wide.All
import OpenK.AllK
import Wide.FinOn
import PySem.Syntax
import PyProof.ZipIter
import PyProof.TableCode
import Lean
import PySem.Challenge.RW_im0052_01
set_option Elab.async false
set_option genSizeOf false
set_option genInjectivity false
set_option maxRecDepth 100000
set_option linter.all false
set_option backward.match.sparseCases false
set_option tactic.hygienic false
namespace Mine
noncomputable abbrev ak:=@Nat.le_trans
noncomputable abbrev aT.{u,v}:=@Option.bind_eq_some_iff.{u,v}
noncomputable abbrev bl:=@Bool.and_eq_true_iff
noncomputable abbrev aY.{u}:=@List.length_append.{u}
noncomputable abbrev bJ.{u}:=@List.append_assoc.{u}
noncomputable abbrev cy.{u}:=@List.mem_cons_self.{u}
noncomputable abbrev dR.{u,v}:=@Option.map_eq_some_iff.{u,v}
noncomputable abbrev bZ:=@Nat.le_add_right
noncomputable abbrev bX.{u}:=@Option.some.inj.{u}
noncomputable abbrev bf:=@Nat.le_refl
noncomputable abbrev bR.{u}:=@List.mem_cons_of_mem.{u}
noncomputable abbrev cG:=@Nat.eq_of_beq_eq_true
noncomputable abbrev bU:=@Bool.false_ne_true
noncomputable abbrev cM:=@Nat.le_of_ble_eq_true
noncomputable abbrev cO:=@Nat.add_le_add_right
noncomputable abbrev bq.{u}:=@List.mem_cons.{u}
noncomputable abbrev cu.{u,v}:=@List.length_map.{u,v}
noncomputable abbrev cH.{u}:=@List.append_nil.{u}
noncomputable abbrev dD:=@Nat.add_le_add_left
noncomputable abbrev dN.{u}:=@List.mem_singleton.{u}
noncomputable abbrev dm.{u}:=@List.not_mem_nil.{u}
noncomputable abbrev bx.{u}:=@Option.some_ne_none.{u}
noncomputable abbrev bN:=@of_decide_eq_true
section
open PySem PySem.W
structure Bd where
 os:List Obj
 n:Nat
 t:Nat
 main:List DictEntry
 mod:Value
 lines:List Value
 tys:List (Str×Addr×List Value)
 subs:List DictEntry
 ups:List (Addr×Addr)
noncomputable def nI(x:String):Str:=Str.ofString x
noncomputable def jE(T:String)(d:Data):Obj:={cls:=.type T,data:=d}
noncomputable def sF(l:List Value):Obj:=jE "tuple" (.seq l.toArray)
noncomputable def Hz(l:List Value):Obj:={cls:=.none,data:=.fields l.toArray}
noncomputable def ent(P:Params)(k:Str)(t:Nat)(v:Value):DictEntry:={hash:=PyData.keyHash P k,key:=.str k t,val:=v}
noncomputable def toks:List Str→Nat→List Value
 |[],_=>[]
 |x::r,t=>.str x t::toks r (t+1)
noncomputable def push(b:Bd)(o:Obj):Bd:={b with os:=o::b.os,n:=b.n+1}
noncomputable def claim:Str:=nI "/claim/cut.py"
noncomputable def eY(n:Nat):Value:=.int n 0
noncomputable def locals(sc:Scope):List Str:=(sc.names.filter λp=>p.2==.local).map (·.1)
noncomputable def HA(sc:Scope):Bool:=sc.names.any λp=>p.2==.cell
noncomputable def isConst:Expr→Value
 |.Constant .none _ _=>.none
 |.Constant (.bool b) _ _=>.bool b
 |_=>.none
noncomputable def QH(qual:Str)(name:Str)(ps:Arguments)(body:List Stmt)(sc:Scope)(line:Nat)(b:Bd):Bd×Addr×Addr:=
 let b0:=if ps.defaults.isEmpty then b else push b (sF (ps.defaults.map isConst))
 let dv:Value:=if ps.defaults.isEmpty then .none else .ref b.n
 let a:=b0.n
 let t:=b.t
 let cell:=HA sc
 let vs:=locals sc
 let nv:=if cell then 0 else vs.length
 let f0:FuncData:={name,qualname:=qual,params:=ps,body:=.stmts body,scope:=sc,globals:=0,closure:=[],defaults:=.none,kwdefaults:=.none}
 let k:=if cell then a+2 else a+4
 let code:Obj:=jE "code" (.fields (#[.str name t,.str qual (t+1),.str claim (t+2),eY line,eY ps.args.length,eY 0,eY 0,eY 3,.ref a,.bool true,eY 181,.ref (a+1),.none,(if cell then .none else .ref (a+2)),(if cell then .none else .ref (a+3)),.ref k,eY (t+3+nv),eY line,.str claim (t+4+nv)]:Array Value))
 let os:=if cell then [sF [],Hz [],{cls:=.none,data:=.func f0},code] else [sF [],Hz [],sF (toks vs (t+3)),sF [],{cls:=.none,data:=.func f0},code]
 let fn:Obj:=jE "function" (.func {f0 with globals:=mainNs,defaults:=dv,pyModule:=b.mod,code:=.ref (k+1)})
 let b1:=(os++[fn]).foldl push b0
 ({b1 with t:=t+5+nv},k+1,k+2)
noncomputable def strVal:Expr→Option Str
 |.Constant (.str s) _ _=>some s
 |_=>none
noncomputable def QI(P:Params):Expr→Bd→Bd×Value
 |.Constant (.str s) _ _,b=>({b with t:=b.t+1},.str s b.t)
 |.Dict ks vs _,b=>
  let ps:=ks.zip vs
  let es:=(ps.zipIdx).map λ(p,i)=>(match p.1.bind strVal,strVal p.2 with
   |some x,some y=>{hash:=PyData.keyHash P x,key:=.str x (b.t+2 * i),val:=.str y (b.t+2 * i+1)}
   |_,_=>{hash:=0,key:=.none,val:=.none}:DictEntry)
  ({push b (jE "dict" (.dict es.toArray es.length)) with t:=b.t+3 * ps.length},.ref b.n)
 |.List es _,b=>
  if es.all λe=>(strVal e).isSome then
   ({push b (jE "list" (.seq (toks (es.filterMap strVal) b.t).toArray)) with t:=b.t+es.length},.ref b.n)
  else
   let (b',vs):=es.foldl (λ(q:Bd×List Value) e=>match e with
    |.List l _=>({push q.1 (jE "list" (.seq (toks (l.filterMap strVal) q.1.t).toArray)) with t:=q.1.t+l.length},.ref q.1.n::q.2)
    |_=>q) (b,[])
   (push b' (jE "list" (.seq vs.reverse.toArray)),.ref b'.n)
 |_,b=>(b,.none)
structure Cb where
 b:Bd
 ns:List DictEntry
 lines:List Value
noncomputable def HB(P:Params)(QJ:Str)(c:Cb):Stmt→Cb
 |.FunctionDef name ps body _ _ _ sc _ _ pos=>
  let (b,code,fn):=QH (QJ++nI "."++name) name ps body sc pos.line c.b
  {b:={b with t:=b.t+1},ns:=ent P name b.t (.ref fn)::c.ns,lines:=.ref code::eY 4::eY pos.line::c.lines}
 |.Assign [.Name x _] e _=>
  let (b,v):=QI P e c.b
  {c with b:={b with t:=b.t+1},ns:=ent P x b.t v::c.ns}
 |_=>c
noncomputable def bind(P:Params)(b:Bd)(x:Str)(v:Value):Bd:={b with t:=b.t+1,main:=ent P x b.t v::b.main}
noncomputable def objNew:Value:=.builtin "object.__new__"
noncomputable def Mg:Value:=.builtin "Exception.__new__"
noncomputable def baseOf(b:Bd):List Expr→List Value×List Value
 |[.Name x _]=>match b.tys.lookup x with
  |some (a,mro)=>([.ref a],mro)
  |none=>if x==nI "Exception" then ([.type "Exception"],[.type "Exception",.type "BaseException",.type "object"]) else ([.type "object"],[.type "object"])
 |_=>([],[.type "object"])
noncomputable def HC(P:Params)(b:Bd):Stmt→Bd
 |.FunctionDef name ps body _ _ _ sc _ _ pos=>
  let (b1,code,fn):=QH name name ps body sc pos.line b
  bind P {b1 with lines:=.ref code::eY 0::eY pos.line::b1.lines} name (.ref fn)
 |.Assign [.Name x _] e _=>
  let (b1,v):=QI P e b
  if x==nI "__name__" then {b1 with mod:=v,t:=b1.t+1}
  else bind P {b1 with t:=b1.t} x v
 |.ClassDef name bases _ body _ _ _ _ _ st pos=>
  let (bs,HD):=baseOf b bases
  let isExc:=HD.contains (.type "Exception")
  let sG:=HD.length==1
  let nU:=isExc&&HD.length==3
  let t:=b.t
  let a:=b.n
  let file:=claim
  let b1:=push (push b (sF bs)) (jE "builtin_function_or_method" (.fields #[.builtin "type.__prepare__",.type "type"]))
  let line:=pos.line
  let c0:Cb:={b:={b1 with n:=a+7,t:=t+12},ns:=[ent P (nI "__firstlineno__") (t+11) (.int line (t+10)),ent P (nI "__qualname__") (t+9) (.str name (t+8)),ent P (nI "__module__") (t+7) b.mod],lines:=[]}
  let c0:={c0 with b:={c0.b with os:=[]}}
  let c:=body.foldl (HB P name) c0
  let tt:=c.b.t
  let ns:=(ent P (nI "__static_attributes__") (tt+st.length) (.ref c.b.n)::c.ns).reverse
  let code:Obj:=jE "code" (.fields #[.str name (t+2),.str name (t+3),.str file (t+4),eY line,eY 0,eY 0,eY 0,eY 0,.ref (a+3),.bool false,eY 181,.ref (a+4),.none,.none,.none,.none,eY (t+5),eY line,.str file (t+6)])
  let frame:Obj:={cls:=.type "frame",slots:=#[some (.ref (a+5)),some (.ref mainNs),some (.ref (a+2)),none,some b.mod,none,some (.ref 0)]}
  let head:=[frame,code,Hz c.lines.reverse,sF [],jE "dict" (.dict ns.toArray ns.length)]
  let os1:=c.b.os++head++b1.os
  let b2:Bd:=push {c.b with os:=os1,t:=tt+st.length+1} (sF (toks st tt))
  let C:=b2.n+1
  let t2:=b2.t
  let nsC:=ns.filter λe=> !(e.key.isStr (nI "__qualname__"))
  let own:=match sG,nU with
   |true,_=>[ent P (nI "__dict__") (t2+1) (.ref (C+1)),ent P (nI "__weakref__") (t2+3) (.ref (C+2)),ent P (nI "__doc__") (t2+4) .none]
   |_,true=>[ent P (nI "__weakref__") (t2+1) (.ref (C+1)),ent P (nI "__doc__") (t2+2) .none]
   |_,_=>[ent P (nI "__doc__") t2 .none]
  let t3:=match sG,nU with|true,_=>t2+5|_,true=>t2+5|_,_=>t2+1
  let VQ:List Obj:=match sG,nU with
   |true,_=>[jE "getset_descriptor" (.fields #[.str (nI "__dict__") t2,.ref C,.builtin "function.__dict__",.builtin "function.__dict__#set"]),jE "getset_descriptor" (.fields #[.str (nI "__weakref__") (t2+2),.ref C,.builtin "ExceptionGroup.__weakref__",.none])]
   |_,true=>[jE "getset_descriptor" (.fields #[.str (nI "__weakref__") t2,.ref C,.builtin "ExceptionGroup.__weakref__",.none])]
   |_,_=>[]
  let mro:=.ref C::HD
  let ty:Obj:={cls:=.type "type",data:=.cls {name,bases:=(if bs.isEmpty then [.type "object"] else bs),mro,ns:=C - 1,qualname:=name},slots:=#[(if bs.isEmpty then none else some (.ref a)),none,some (.str name t),some (.str name (t+8)),some (if isExc then Mg else objNew),some (.bool true)]}
  let b3:=([jE "dict" (.dict (nsC++own).toArray (1+own.length)),ty]++VQ++[jE "super" (.fields #[.ref C,.ref C,.ref C])]).foldl push b2
  let b4:=push b3 (jE "builtin_function_or_method" (.fields #[.builtin "object.__init_subclass__",.ref C]))
  let b5:Bd:={b4 with t:=t3+1,tys:=(name,C,mro)::b.tys,lines:=.ref (a+5)::eY 0::eY line::b.lines,ups:=(match bs with|[.ref a0]=>(a0,C)::b.ups|_=>b.ups),subs:=if nU then [ent P (nI "type.__subclasses__.Exception.0") (t3 - 2) (eY C),ent P (nI "type.__subclasses__.Exception.n") (t3 - 1) (eY 1)] else b.subs}
  bind P b5 name (.ref C)
 |_=>b
noncomputable def Mh:Bd:=⟨[],15,187,[],.str (nI "__main__") 164,[],[],[],[]⟩
noncomputable def uH(us:List (Addr×Addr)):Nat→List Obj→List Obj
 |_,[]=>[]
 |i,o::r=>(match o with
  |⟨c,d,.cls x,s⟩=>⟨c,d,.cls {x with subclasses:=us.filterMap λp=>if p.1==i then some (.ref p.2) else none},s⟩
  |o=>o)::uH us (i+1) r
noncomputable def VS(P:Params)(l:List Stmt):Bd:=l.foldl (HC P) Mh
noncomputable abbrev pw:Program:=PySem.Challenge.pw_im0052_01
noncomputable def kX:Env:={scope:=pw.main.scope,locals:=mainNs,globals:=mainNs,cells:=[],code:=.ref 13,frame:=some 14}
noncomputable def bd(P:Params)(k:Nat):Bd:=VS P (pw.main.body.take k)
noncomputable def y9(o:Obj)(f:DictEntry→DictEntry)(es:List DictEntry):Obj:=match o with
 |⟨c,d,.dict l n,s⟩=>⟨c,d,.dict (l.toList.map f++es).toArray (n+es.length),s⟩
 |o=>o
noncomputable def QK(P:Params)(b:Bd):Obj:=y9 (boot_o_3 P) (λe=>if e.key.isStr (nI "__name__") then {e with val:=b.mod} else e) b.main.reverse
noncomputable def QL(P:Params)(b:Bd):Obj:=y9 (boot_o_2 P) id b.subs
noncomputable def HE(P:Params)(b:Bd):List Obj:=
 [boot_o_0 P,boot_o_1 P,QL P b,QK P b,boot_o_4 P,boot_o_5 P,boot_o_6 P,boot_o_7 P,boot_o_8 P,boot_o_9 P,boot_o_10 P,sF [],Hz b.lines.reverse,
  jE "code" (.fields #[.str (nI "<module>") 182,.str (nI "<module>") 183,.str claim 184,eY 1,eY 0,eY 0,eY 0,eY 0,.ref 11,.bool false,eY 181,.ref 12,.none,.none,.none,.none,eY 185,eY 1,.str claim 186]),
  {cls:=.type "frame",slots:=#[some (.ref 13),some (.ref 3),some (.ref 3),none,some (.str (nI "__main__") 164),none,some (.ref 0)]}]
noncomputable def za(P:Params)(b:Bd):List Obj:=HE P b++uH b.ups.reverse 15 b.os.reverse
noncomputable def Lm{α:Type}:List α→List α
 |a::_::r=>a::Lm r
 |l=>l
noncomputable def QM{α:Type}:List α→List α
 |_::b::r=>b::QM r
 |_=>[]
noncomputable def bt:Nat→List Obj→BT
 |0,_=>.nil
 |_,[]=>.nil
 |n+1,o::r=>.node o (bt n (Lm r)) (bt n (QM r))
noncomputable def sT(w:World)(os:OsState)(k n t:Nat):SharedT:=⟨bt 12 (za w.params (bd w.params k)),n,{},#[],{},t,os⟩
noncomputable def dO:Code:=.body (behindTheImports pw) kX
noncomputable def Bf:List Frame:=[topFrame ⟨0,0,0,0⟩]
noncomputable def stmts(i j:Nat):List Stmt:=(pw.main.body.drop i).take (j - i)
noncomputable abbrev ig:Option Value:=some (.ref 6)
theorem ja{w:World}{n:Nat}{s:SharedT}{th:Thread}{r:Option (Flow×SharedT×Code×Pos)}(h:PySem.W.Fast.tw10110043849684766642 PySem.W.Fast.tw14364793385576792824 pw w 11 ig 1 n s th=r):segRunT treeTable pw w 11 ig 1 n s th=r:=by rw [PySem.W.Fast.te10110043849684766642,PySem.W.Fast.te14364793385576792824];exact h
theorem HG(w:World)(os:OsState):segRunT treeTable pw w 11 ig 1 754 (sT w os 0 15 187) (piecesOf (stmts 0 6) kX dO ⟨0,0,0,0⟩ Bf)=some (.next,sT w os 6 84 285,dO,⟨16,0,21,32⟩):=ja (by kernel_rfl)
theorem HH(w:World)(os:OsState):segRunT treeTable pw w 11 ig 1 734 (sT w os 6 84 285) (piecesOf (stmts 6 9) kX dO ⟨16,0,21,32⟩ Bf)=some (.next,sT w os 9 136 365,dO,⟨33,0,38,32⟩):=ja (by kernel_rfl)
theorem C6(w:World)(os:OsState):segRunT treeTable pw w 11 ig 1 718 (sT w os 9 136 365) (piecesOf (stmts 9 12) kX dO ⟨33,0,38,32⟩ Bf)=some (.next,sT w os 12 188 443,dO,⟨49,0,54,32⟩):=ja (by kernel_rfl)
theorem Bb(w:World)(os:OsState):segRunT treeTable pw w 11 ig 1 741 (sT w os 12 188 443) (piecesOf (stmts 12 15) kX dO ⟨49,0,54,32⟩ Bf)=some (.next,sT w os 15 232 512,dO,⟨67,0,68,8⟩):=ja (by kernel_rfl)
theorem Bc(w:World)(os:OsState):segRunT treeTable pw w 11 ig 1 705 (sT w os 15 232 512) (piecesOf (stmts 15 19) kX dO ⟨67,0,68,8⟩ Bf)=some (.next,sT w os 19 268 562,dO,⟨75,0,75,8⟩):=ja (by kernel_rfl)
theorem Be(w:World)(os:OsState):segRunT treeTable pw w 11 ig 1 450 (sT w os 19 268 562) (piecesOf (stmts 19 21) kX dO ⟨75,0,75,8⟩ Bf)=some (.next,sT w os 21 301 621,dO,⟨78,0,88,38⟩):=ja (by kernel_rfl)
theorem nJ(w:World)(os:OsState):segRunT treeTable pw (w.withFollow "special-get-raises" false) 11 ig 1 2474 (sT (w.withFollow "special-get-raises" false) os 21 301 621) (piecesOf (stmts 21 22) kX dO ⟨78,0,88,38⟩ Bf)=some (.next,sT (w.withFollow "special-get-raises" false) os 22 741 1272,dO,⟨89,0,962,20⟩):=ja (by kernel_rfl)
theorem oE(w:World)(os:OsState):segRunT treeTable pw (w.withFollow "special-get-raises" true) 11 ig 1 2474 (sT (w.withFollow "special-get-raises" true) os 21 301 621) (piecesOf (stmts 21 22) kX dO ⟨78,0,88,38⟩ Bf)=some (.next,sT (w.withFollow "special-get-raises" true) os 22 741 1272,dO,⟨89,0,962,20⟩):=ja (by kernel_rfl)
theorem Bg(w:World)(os:OsState):segRunT treeTable pw w 11 ig 1 2474 (sT w os 21 301 621) (piecesOf (stmts 21 22) kX dO ⟨78,0,88,38⟩ Bf)=some (.next,sT w os 22 741 1272,dO,⟨89,0,962,20⟩):=byRow2 "special-get-raises" (P:=λw=>segRunT treeTable pw w 11 ig 1 2474 (sT w os 21 301 621) (piecesOf (stmts 21 22) kX dO ⟨78,0,88,38⟩ Bf)=some (.next,sT w os 22 741 1272,dO,⟨89,0,962,20⟩)) (λw=>nJ w os) (λw=>oE w os) w
theorem Bh(w:World)(os:OsState):segRunT treeTable pw w 11 ig 1 667 (sT w os 22 741 1272) (piecesOf (stmts 22 36) kX dO ⟨89,0,962,20⟩ Bf)=some (.next,sT w os 36 846 1452,dO,⟨1063,0,1104,39⟩):=ja (by kernel_rfl)
end
section
open PySem PySem.W PyProof.Rows
noncomputable def S0(w:World)(os:OsState):Shared:=⟨boot_heap w.params,#[],boot_drawn,boot_toks,os⟩
noncomputable def Sa(w:World)(os:OsState):Shared:=⟨⟨(za w.params (bd w.params 0)).toArray,{}⟩,#[],{},187,os⟩
noncomputable def H1(P:Params):Heap:=⟨(za P (bd P 36)).toArray,{}⟩
theorem VT(w:World)(os:OsState):topGo treeTable pw w 11 ig 12 (S0 w os) (topStub pw)=some (Sa w os,⟨denote treeTable dO,dO,⟨0,0,0,0⟩,Bf⟩):=by rw [PySem.W.Fast.te15667345088766844465,PySem.W.Fast.te11892475500146522536,PySem.W.Fast.te14364793385576792824];kernel_rfl
theorem HJ{w:World}{n:Nat}{s:Shared}{th:Thread}{r:Option (Flow×Shared×Code×Pos)}(h:PySem.W.Fast.tw14374325043358763698 PySem.W.Fast.tw14364793385576792824 pw w 11 ig 1 n s th=r):segRun treeTable pw w 11 ig 1 n s th=r:=by rw [PySem.W.Fast.te14374325043358763698,PySem.W.Fast.te14364793385576792824];exact h
theorem Mi(w:World)(os:OsState):segRun treeTable pw w 11 ig 1 1 (Sa w os) (blockOf (behindTheImports pw) kX dO ⟨0,0,0,0⟩ Bf)=some (.next,(sT w os 0 15 187).abs,dO,⟨0,0,0,0⟩):=HJ (by kernel_rfl)
theorem Mj{w:World}{n:Nat}{s:Shared}{th:Thread}{r:Option Shared}(h:PySem.W.Fast.tw14082659384304107361 PySem.W.Fast.tw14364793385576792824 pw w 11 ig n s th=r):topRun treeTable pw w 11 ig n s th=r:=by rw [PySem.W.Fast.te14082659384304107361,PySem.W.Fast.te14364793385576792824];exact h
theorem VU(w:World)(os:OsState):topRun treeTable pw w 11 ig 2 (sT w os 36 846 1452).abs (restOf [] kX dO ⟨1063,0,1104,39⟩ Bf)=some ⟨H1 w.params,#[],{},1452,os⟩:=Mj (by kernel_rfl)
theorem QN:behindTheImports pw=stmts 0 6++(stmts 6 9++(stmts 9 12++(stmts 12 15++(stmts 15 19++(stmts 19 21++(stmts 21 22++(stmts 22 36++[]))))))):=by kernel_rfl
theorem VV(w:World)(os:OsState):topRun treeTable pw w 11 ig (12+(1+(754+(734+(718+(741+(705+(450+(2474+(667+2)))))))))) (S0 w os) (topStub pw)=some ⟨H1 w.params,#[],{},1452,os⟩:=by
 refine go_top (VT w os) (piece_block (Mi w os) ?_);rw [QN];exact piece_app (segRun_of (HG w os)) (piece_app (segRun_of (HH w os)) (piece_app (segRun_of (C6 w os)) (piece_app (segRun_of (Bb w os)) (piece_app (segRun_of (Bc w os))
  (piece_app (segRun_of (Be w os)) (piece_app (segRun_of (Bg w os)) (piece_app (segRun_of (Bh w os)) (VU w os))))))))
theorem QO(w:World):((boot_heap w.params).isNs mainGlobals&&(#[]:Array GenState).size==0,(boot_heap w.params).objs.size,(boot_heap w.params).nsMap mainGlobals "__annotations__")=(true,11,ig):=by rw [PySem.W.Fast.te8920871248978507458];kernel_rfl
theorem QS:∀w:World,(fencedOpening treeTable pw w 20000).map (λs=>(s.heap,s.gens,s.drawn,s.toks))=some (boot_heap w.params,#[],boot_drawn,boot_toks):=boot_open (by kernel_rfl) (by decide) (λs=>by kernel_rfl)
noncomputable def q1:Program:=view pw [35]
noncomputable def l5:List Str:=["YAMLError","Event","NodeEvent","CollectionStartEvent","CollectionEndEvent","StreamStartEvent","StreamEndEvent","DocumentStartEvent","DocumentEndEvent","AliasEvent","ScalarEvent","SequenceStartEvent","SequenceEndEvent","MappingStartEvent","MappingEndEvent","EmitterError","ScalarAnalysis","Emitter","Rows","_law_TABLES","_law_ASKED","_law_LINES","_law_NAMED","_law_stands","_law_choice","_law_single","_law_double","_law_block","_law_node","_law_row","_wall"].map Str.ofString
noncomputable abbrev xq:RowW:=PySem.Challenge.rw_im0052_01.row.toRowW
noncomputable def VW(s:Shared):Bool:=recOk (RowW.records xq) s
noncomputable def QT(w:World):List Obj:=za w.params (bd w.params 36)
theorem Mk(w:World)(os:OsState):(staticsOk (importedModules pw.main.body) (boot_heap w.params) (H1 w.params)&&namesBound pw (H1 w.params)&&gensDone ⟨H1 w.params,#[],{},1452,os⟩&&laidKept (boot_heap w.params) (H1 w.params))=true:=by kernel_rfl
theorem Ml(w:World)(os:OsState):openSeen q1 l5 (importedModules pw.main.body) VW true ⟨H1 w.params,#[],{},1452,os⟩=openGood q1 l5:=by rw [PySem.W.Fast.te4187177175401517315];kernel_rfl
theorem QU:LeftO pw q1 l5 VW (λs=>s.heap.objs.toList) QT 20000:=LeftO.of_pieces (M:=12+(1+(754+(734+(718+(741+(705+(450+(2474+(667+2)))))))))) QS QO VV (by decide) λw=>funext λos=>by rw [Mk,Ml];rfl
theorem aU{a b:Bool}(h:(a&&b)=true):a=true∧b=true:=bl.mp h
theorem QV{a b:Bool}(ha:a=true)(hb:b=true):(a&&b)=true:=bl.mpr ⟨ha,hb⟩
noncomputable abbrev Mm(l:OpenLaw):Bool:=sreFenced l.row.prog.main&&((moduleNames l.row.prog.main.body).isEmpty||lookedIntoSs (moduleNames l.row.prog.main.body) l.row.prog.main.body)
noncomputable abbrev Mn(l:OpenLaw):Bool:=namesResolve l.row.prog
noncomputable abbrev Mp(l:OpenLaw):Bool:=l.row.prog.boundNames.all (λn=> !worldNames.contains n)
noncomputable abbrev Mq(l:OpenLaw):Bool:=noRoadLSs {strict:= !(importedModules l.row.prog.main.body).all cThrough.contains,foot:=none,bare:=(["vars","dir","locals"]:List Str).filter (readsOut l.row.prog l.row.prog.main.body)} l.row.prog.main.body
noncomputable abbrev Mr(l:OpenLaw):Bool:=namesMeet l.row.prog l.row.prog.main.body λ_ n=>attrL n
noncomputable abbrev Ms(l:OpenLaw):Bool:=
 l.row.loose.isEmpty&&l.row.makers.isEmpty&&
 l.row.toRowW.solid&&l.row.pre.litsOk&&l.row.post.litsOk&&
 l.row.within.all (λi=>decide (i< l.row.args.length))&&l.row.same.all (λi=>decide (i< l.row.args.length))
noncomputable abbrev Mt(l:OpenLaw):Bool:=l.row.prog.boundNames.contains l.row.name&& !startupNames.contains l.row.name
noncomputable abbrev Mu(l:OpenLaw):Bool:=
 decide (l.foot≤(behindTheImports l.prog).length)&&l.footing.all footLine&&noClassBlock l.prog l.footing&&
 l.most.all (λn=>decide (63≤n))&&l.bound.all (λn=>decide (2 ^ 63≤n))&&
 noRoadLSs {strict:=true,foot:=some l.bound',writes:=l.writes,may:=l.may} l.footing
noncomputable abbrev Mv(l:OpenLaw):Bool:=defStands l.about l.above&&l.namesIt
noncomputable abbrev Mw(l:OpenLaw):Bool:=(["type","isinstance","issubclass","getattr","hasattr"]:List Str).all (λn=>l.about !=[n])&&l.bound'.all (λn=> !builtinNamed n||l.about==[n]|| !l.reads n)&&(!l.writes||(l.prog.main.body.flatMap importedNames).all λn=> !l.reads n)&&(l.prog.main.body.flatMap importedNames).all (λn=> !l.reads n||(drawsOf n l.prog.main.body).all λmn=>mn.2 !=("attrgetter":Str)&&mn.2 !=("methodcaller":Str))
noncomputable abbrev Mx(l:OpenLaw):Bool:=
 namesMeet l.prog l.footing (λsc n=>(!(["type","isinstance","issubclass","getattr","hasattr"]:List Str).contains n||sc.names.lookup n==some .globalImplicit)&&
  (l.may !=some n||sc.kind==.module||sc.names.lookup n==some .globalImplicit))
noncomputable abbrev My(l:OpenLaw):Bool:=
 l.own.contains l.name&&l.own.eraseDups.length==l.own.length&&l.own.all (λn=> !builtinNamed n)&&
 namesMeet l.prog l.above (λ_ n=> !l.own.contains n)
noncomputable abbrev Mz(l:OpenLaw):Bool:=namesMeet l.prog l.footing λsc n=>sc.kind==.module||sc.names.lookup n !=some .globalExplicit
theorem C7(l:OpenLaw)(ha:Mm l=true)(hb:Mn l=true)(hc:Mp l=true)(hd:Mq l=true)(he:Mr l=true)(hf:Ms l=true)(hg:Mt l=true)(hh:Mu l=true)(hi:Mv l=true)(hj:Mw l=true)(hk:Mx l=true)(hm:My l=true)(hn:Mz l=true):OpenLaw.wellSaid l=true:=by
 unfold OpenLaw.wellSaid OpenRow.wellSaid OpenRow.partSaid looksOpen
 repeat' with_reducible refine QV ?_ ?_
 all_goals first|with_reducible exact ha|with_reducible exact hb|with_reducible exact hc|with_reducible exact hd|with_reducible exact he|with_reducible exact hf|with_reducible exact hg|with_reducible exact hh|with_reducible exact hi|with_reducible exact hj|with_reducible exact hk|with_reducible exact hm|with_reducible exact hn|with_reducible exact (aU ha).2|with_reducible exact (aU ha).1|with_reducible exact (aU hf).2|with_reducible exact (aU (aU hf).1).2|with_reducible exact (aU (aU (aU hf).1).1).2|with_reducible exact (aU (aU (aU (aU hf).1).1).1).2|with_reducible exact (aU (aU (aU (aU (aU hf).1).1).1).1).2|with_reducible exact (aU (aU (aU (aU (aU (aU hf).1).1).1).1).1).2|with_reducible exact (aU (aU (aU (aU (aU (aU hf).1).1).1).1).1).1|with_reducible exact (aU hg).2|with_reducible exact (aU hg).1|with_reducible exact (aU hh).2|with_reducible exact (aU (aU hh).1).2|with_reducible exact (aU (aU (aU hh).1).1).2|with_reducible exact (aU (aU (aU (aU hh).1).1).1).2|with_reducible exact (aU (aU (aU (aU (aU hh).1).1).1).1).2|with_reducible exact (aU (aU (aU (aU (aU hh).1).1).1).1).1|with_reducible exact (aU hi).2|with_reducible exact (aU hi).1|with_reducible exact (aU hj).2|with_reducible exact (aU (aU hj).1).2|with_reducible exact (aU (aU (aU hj).1).1).2|with_reducible exact (aU (aU (aU hj).1).1).1|with_reducible exact (aU hm).2|with_reducible exact (aU (aU hm).1).2|with_reducible exact (aU (aU (aU hm).1).1).2|with_reducible exact (aU (aU (aU hm).1).1).1|rfl
theorem HL:Mm PySem.Challenge.rw_im0052_01=true:=by
 unfold Mm;simp only [PySem.W.Fast.te11788848310118352699,PySem.W.Fast.te12862048085361865435,PySem.W.Fast.te9807087744658564304]
 kernel_rfl
theorem HM:Mn PySem.Challenge.rw_im0052_01=true:=by
 unfold Mn;simp only [PySem.W.Fast.te8377067652309620493]
 kernel_rfl
theorem HN:Mp PySem.Challenge.rw_im0052_01=true:=by
 unfold Mp;simp only [PySem.W.Fast.te14412699480532031325,PySem.W.Fast.te18344453789297297638,PySem.W.Fast.te3471404346716756564,PySem.W.R.allR_eq]
 kernel_rfl
theorem HO:Mq PySem.Challenge.rw_im0052_01=true:=by
 unfold Mq;simp only [PySem.W.Fast.te13343964577679436407,PySem.W.Fast.te17691160309236699985,PySem.W.Fast.te3471404346716756564,PySem.W.Fast.te5923862056798008813,PySem.W.Fast.te8326940854005059898,PySem.W.R.allR_eq,PySem.W.R.filterR_eq]
 kernel_rfl
theorem HP:Mr PySem.Challenge.rw_im0052_01=true:=by
 unfold Mr;simp only [PySem.W.Fast.te17119622794617984870,PySem.W.Fast.te17868728402115742887]
 kernel_rfl
theorem HQ:Ms PySem.Challenge.rw_im0052_01=true:=by
 unfold Ms;simp only [PySem.W.Fast.te13582783067957832011,PySem.W.Fast.te18344453789297297638,PySem.W.Fast.te2357444279172408678,PySem.W.Fast.te3471404346716756564,PySem.W.Fast.te4857012375875476094,PySem.W.Fast.te5318747976498570220,PySem.W.R.allR_eq,PySem.W.R.mapR_eq,PySem.W.Fast.named_eq]
 kernel_rfl
theorem HR:Mt PySem.Challenge.rw_im0052_01=true:=by
 unfold Mt;simp only [PySem.W.Fast.te12749700546528644094,PySem.W.Fast.te18344453789297297638,PySem.W.Fast.te3471404346716756564]
 kernel_rfl
theorem HS:Mu PySem.Challenge.rw_im0052_01=true:=by
 unfold Mu;simp only [PySem.W.Fast.te10501279942588096481,PySem.W.Fast.te797321630700447069,PySem.W.Fast.te8179353310426384613,PySem.W.Fast.te8326940854005059898,PySem.W.Fast.te9572597257264208301,PySem.W.R.allR_eq]
 kernel_rfl
theorem HT:Mv PySem.Challenge.rw_im0052_01=true:=by
 unfold Mv;simp only [PySem.W.Fast.te16286561074155671207,PySem.W.Fast.te9558739934217749035]
 kernel_rfl
theorem HV:Mw PySem.Challenge.rw_im0052_01=true:=by
 unfold Mw;simp only [PySem.W.Fast.te12879404354523853263,PySem.W.Fast.te17095254045102204799,PySem.W.Fast.te482687673346738481,PySem.W.Fast.te6984425678791042302,PySem.W.Fast.te797321630700447069,PySem.W.R.allR_eq,PySem.W.Fast.named_eq]
 kernel_rfl
theorem HW:Mx PySem.Challenge.rw_im0052_01=true:=by
 unfold Mx;simp only [PySem.W.Fast.te17119622794617984870,PySem.W.Fast.te3471404346716756564,PySem.W.Fast.te9572597257264208301]
 kernel_rfl
theorem HX:My PySem.Challenge.rw_im0052_01=true:=by
 unfold My;simp only [PySem.W.Fast.te10792542408131684335,PySem.W.Fast.te17119622794617984870,PySem.W.Fast.te3471404346716756564,PySem.W.Fast.te7723801398212525404,PySem.W.R.allR_eq,PySem.W.Fast.named_eq]
 kernel_rfl
theorem HY:Mz PySem.Challenge.rw_im0052_01=true:=by
 unfold Mz;simp only [PySem.W.Fast.te17119622794617984870]
 kernel_rfl
theorem QW:OpenLaw.wellSaid PySem.Challenge.rw_im0052_01=true:=C7 _ HL HM HN HO HP HQ HR HS HT HV HW HX HY
noncomputable def dk:Option (DefRec×List (Str×Expr)):=defOf q1 xq.name
theorem sH:dk.isSome=true:=by kernel_rfl
noncomputable def d1:DefRec:=(dk.get sH).1
noncomputable def HZ:List (Str×Expr):=(dk.get sH).2
theorem QX:dk=some (d1,HZ):=(Option.some_get sH).symm
theorem MA:pw.theDef xq.name=some (d1.params,d1.body,d1.scope):=by kernel_rfl
theorem QY:kwWritten? d1.params.kwonlyargs d1.params.kw_defaults=some HZ:=by kernel_rfl
theorem ok1:(chainsOk q1&&opensWell pw&&(frees xq&&([]:List Nat).isEmpty))=true:=by kernel_rfl
theorem H6{h:Heap}{l:List Obj}(e:h.objs.toList=l):∀b o,l[b]? =some o→o.isFreed=false→h.get? b=some o:=λb o hb hf=>by
 subst e;have H9:h.objs[b]? =some o:=by rw [← Array.getElem?_toList];exact hb
 unfold Heap.get?;rw [H9];obtain ⟨c,d,data,sl⟩:=o
 cases data<;>first|rfl|cases hf
abbrev Vb(w:World)(h:Heap):Prop:=∀b o,(QT w)[b]? =some o→o.isFreed=false→h.get? b=some o
theorem MB(walk:WalkO q1 l5 (λ_ _=>True) Vb xq d1 HZ λf vs=>PySem.call f vs):PySem.Challenge.rw_im0052_01.Holds:=by
 refine holds_law QW λVX=>?_
 refine holds_open (q:=q1) (loose:=l5) (Xt:=VW) (XP:=λ_ _=>True) (Yf:=λs=>s.heap.objs.toList) (Ya:=QT) (YP:=Vb) (N:=20000) QU (λw s e=>H6 e) (λw h h' a k b o e f=>k b o (a b o e f)) (λ_ _=>trivial) (λ_ _ _ _ _=>trivial) QX MA QY
  (λs e=>recFacts_of e) (by rfl) VX ok1 ⟨rfl,rfl,rfl,rfl,rfl,by decide+kernel⟩ ?_ walk
 w_witness2
end
section
open PySem
inductive BI where
 |len|isinstance|ord|str|all
 deriving DecidableEq
inductive MV where
 |none
 |bool (b:Bool)
 |int (i:Int)
 |str (s:List Nat)
 |tup (l:List MV)
 |lst (l:List MV)
 |jD (ks vs:List MV)
 |fU (c:Nat) (vs:List MV)
 |obj (i:Nat)
 |fn (i:Nat)
 |cls (i:Nat)
 |bm (o:Nat) (f:Nat)
 |bi (b:BI)
inductive nK where
 |inst (c:Nat) (attrs:List (Nat×MV))
 |list (l:List MV)
noncomputable abbrev Loc:=List (Option MV)
noncomputable abbrev Hp:=List nK
mutual
inductive ai where
 |b7 (v:MV)
 |aP (i:Nat)
 |az (v:MV)
 |aX (e:ai) (a:Nat)
 |bin (op:Operator) (a b:ai)
 |bE (l:List ai)
 |fc (l:List ai)
 |bM (e:ai)
 |neg (e:ai)
 |cmp (a:ai) (ops:List CmpOp) (l:List ai)
 |aO (c a b:ai)
 |sub (a i:ai)
 |slice (a:ai) (lo hi:Option ai)
 |list (m:Bool) (l:List ai)
 |tuple (l:List ai)
 |dict (ks vs:List MV)
 |call (f:ai) (args:List ai) (kn:List Nat) (kv:List ai)
 |aQ (o:ai) (name:Nat) (args:List ai) (kn:List Nat) (kv:List ai)
 |comp (m:Bool) (elt:ai) (nv:Nat) (tgt:List Nat) (tup:Bool) (it:dw) (ifs:List ai)
inductive dw where
 |val (e:ai)
 |zip (a b:ai)
 |range (args:List ai)
end
inductive dK where
 |aP (i:Nat)
 |aX (o:ai) (a:Nat)
 |sub (o i:ai)
 |tup (is:List Nat)
inductive aB where
 |assign (ts:List dK) (e:ai)
 |aug (t:dK) (op:Operator) (e:ai)
 |aO (c:ai) (a b:List aB)
 |cR (c:ai) (b:List aB)
 |fz (t:dK) (it:dw) (b:List aB)
 |ret (e:Option ai)
 |expr (e:ai)
 |pass
 |fail
inductive Fl where
 |next
 |ret (v:MV)
structure cU where
 params:List Nat
 defs:List MV
 jw:Nat
 body:List aB
structure gh where
 isRec:Bool
 init:Nat
 fields:List (Nat×Nat)
 meths:List (Nat×Nat)
 gM:List (Nat×MV)
 sI:List Nat
structure Prog where
 fns:List cU
 eg:List gh
 kq:Nat
 iA:Nat
 jb:Nat
 C8:Nat
 zb:Nat
noncomputable def intOf:MV→Option Int
 |.int i=>some i
 |_=>none
noncomputable def boolOf:MV→Option Bool
 |.bool b=>some b
 |_=>none
noncomputable def strOf:MV→Option (List Nat)
 |.str s=>some s
 |_=>none
noncomputable def uI:MV→Option (List MV)
 |.tup l=>some l
 |_=>none
noncomputable def gi:MV→Option (List MV)
 |.lst l=>some l
 |_=>none
noncomputable def objOf:MV→Option Nat
 |.obj o=>some o
 |_=>none
noncomputable def uJ:MV→Option (List MV×List MV)
 |.jD ks vs=>some (ks,vs)
 |_=>none
noncomputable def C9:MV→Option (Nat×List MV)
 |.fU c vs=>some (c,vs)
 |_=>none
noncomputable def Bj:MV→Option (Nat×Nat)
 |.bm o f=>some (o,f)
 |_=>none
noncomputable def zc:MV→Option Nat
 |.cls i=>some i
 |_=>none
noncomputable def zd:MV→Option Nat
 |.str [c]=>some c
 |_=>none
noncomputable def oF:nK→Option (Nat×List (Nat×MV))
 |.inst c a=>some (c,a)
 |.list _=>none
noncomputable def dS:nK→Option (List MV)
 |.list l=>some l
 |.inst _ _=>none
noncomputable def jx:List MV→Option MV
 |[]=>none
 |a::r=>if r.isEmpty then some a else none
theorem no{α:Type}{a:α}{C:Prop}(e:(none:Option α)=some a):C:=(bx _ e.symm).elim
theorem aI{α:Type}{a b:α}(e:some a=some b):a=b:=bX e
theorem cN{v:MV}{x:Int}(e:intOf v=some x):v=.int x:=by cases v<;>first|exact no e|exact congrArg _ (aI e)
theorem xr{v:MV}{x:Bool}(e:boolOf v=some x):v=.bool x:=by cases v<;>first|exact no e|exact congrArg _ (aI e)
theorem bI{v:MV}{x:List Nat}(e:strOf v=some x):v=.str x:=by cases v<;>first|exact no e|exact congrArg _ (aI e)
theorem fN{v:MV}{x:List MV}(e:uI v=some x):v=.tup x:=by cases v<;>first|exact no e|exact congrArg _ (aI e)
theorem b8{v:MV}{x:List MV}(e:gi v=some x):v=.lst x:=by cases v<;>first|exact no e|exact congrArg _ (aI e)
theorem di{v:MV}{x:Nat}(e:objOf v=some x):v=.obj x:=by cases v<;>first|exact no e|exact congrArg _ (aI e)
theorem iQ{v:MV}{x:List MV×List MV}(e:uJ v=some x):v=.jD x.1 x.2:=by cases v<;>first|exact no e|exact congrArg (λz:List MV×List MV=>MV.jD z.1 z.2) (aI e)
theorem l6{v:MV}{x:Nat×List MV}(e:C9 v=some x):v=.fU x.1 x.2:=by cases v<;>first|exact no e|exact congrArg (λz:Nat×List MV=>MV.fU z.1 z.2) (aI e)
theorem oG{v:MV}{x:Nat×Nat}(e:Bj v=some x):v=.bm x.1 x.2:=by cases v<;>first|exact no e|exact congrArg (λz:Nat×Nat=>MV.bm z.1 z.2) (aI e)
noncomputable def QZ:List MV→Option (MV×MV)
 |[]=>none
 |a::r=>(jx r).map λb=>(a,b)
theorem cW{l:List MV}{a:MV}(e:jx l=some a):l=[a]:=by
 cases l with
 |nil=>exact no e
 |cons x r=>cases r with
  |nil=>exact congrArg (λz=>[z]) (aI e)
  |cons _ _=>exact no e
theorem or_some{α:Type}{a b:Option α}{r:α}(e:a.or b=some r):a=some r∨(a=none∧b=some r):=by
 cases a with
 |none=>exact .inr ⟨rfl,e⟩
 |some _=>exact .inl e
theorem uK{l:List MV}{a:MV×MV}(e:QZ l=some a):l=[a.1,a.2]:=by
 cases l with
 |nil=>exact no e
 |cons x r=>obtain ⟨b,e1,rfl⟩:=dR.mp e;rw [cW e1]
theorem l7{v:MV}{x:Nat}(e:zc v=some x):v=.cls x:=by cases v<;>first|exact no e|exact congrArg _ (aI e)
set_option tactic.hygienic true in
theorem jX{v:MV}{c:Nat}(e:zd v=some c):v=.str [c]:=by
 cases v<;>first|exact no e|skip
 rename_i s
 match s,e with
 |[c],e=>exact congrArg (λc=>MV.str [c]) (aI e)
theorem map_some{α β:Type}{x:Option α}{f:α→β}{r:β}(e:x.map f=some r){C:Prop}(k:∀a,x=some a→f a=r→C):C:=match x,e,k with
 |none,e,_=>no e
 |some a,e,k=>k a rfl (aI e)
theorem bA{α:Type}{c:Prop}[Decidable c]{o:Option α}{b:α}(e:(if c then o else none)=some b):c∧o=some b:=by
 by_cases q:c
 ·rw [if_pos q] at e;exact ⟨q,e⟩
 ·rw [if_neg q] at e;exact (bx _ e.symm).elim
noncomputable def aH:Nat:=1000000
noncomputable def bC(i:Int):Bool:=decide (-1000000000≤i)&&decide (i≤1000000000)
noncomputable def qY(s:List Nat):Option MV:=if s.length≤aH then some (.str s) else none
noncomputable def aZ:List (Nat×MV)→Nat→Option MV
 |[],_=>none
 |(k,v)::r,a=>if k==a then some v else aZ r a
noncomputable def gO:List (Nat×MV)→Nat→MV→List (Nat×MV)
 |[],a,v=>[(a,v)]
 |(k,x)::r,a,v=>if k==a then (k,v)::r else (k,x)::gO r a v
noncomputable def fV:List (Nat×Nat)→Nat→Option Nat
 |[],_=>none
 |(k,v)::r,a=>if k==a then some v else fV r a
noncomputable def truthy:MV→Hp→Option Bool
 |.none,_=>some false
 |.bool b,_=>some b
 |.int i,_=>some (!decide (i=0))
 |.str s,_=>some (!s.isEmpty)
 |.obj i,h=>((h[i]?).bind dS).map λl=> !l.isEmpty
 |_,_=>none
noncomputable def iR(a b:MV):Option Bool:=match a with
 |.str x=>(match b with
  |.str y=>some (decide (x=y))
  |.none=>some false
  |_=>none)
 |.int x=>(match b with
  |.int y=>some (decide (x=y))
  |_=>none)
 |.none=>(match b with
  |.none=>some true
  |.str _=>some false
  |_=>none)
 |_=>none
noncomputable def oH:List Nat→List Nat→Bool
 |[],_=>true
 |_::_,[]=>false
 |a::r,b::q=>if a< b then true else if a=b then oH r q else false
noncomputable def strLt(a b:List Nat):Bool:= !oH b a
noncomputable def eu(x:MV):List MV→Option Bool
 |[]=>some false
 |y::r=>match iR y x,eu x r with
  |some b,some c=>some (b||c)
  |_,_=>none
noncomputable def kY(x:List Nat):List MV→List MV→Option (Option MV)
 |[],_=>some none
 |.str y::ks,v::vs=>if y=x then some (some v) else kY x ks vs
 |_,_=>none
noncomputable def kZ(x:Int):List MV→List MV→Option (Option MV)
 |[],_=>some none
 |.int y::ks,v::vs=>if y=x then some (some v) else kZ x ks vs
 |_,_=>none
noncomputable def jF(k:MV)(ks vs:List MV):Option (Option MV):=match k with
 |.str x=>kY x ks vs
 |.int i=>kZ i ks vs
 |_=>none
noncomputable def strKeys:List MV→Bool
 |[]=>true
 |.str _::r=>strKeys r
 |_=>false
noncomputable def intKeys:List MV→Bool
 |[]=>true
 |.int _::r=>intKeys r
 |_=>false
noncomputable def iS:List (Nat×Nat)→List MV→Nat→Option MV
 |(k,_)::r,v::vs,a=>if k==a then some v else iS r vs a
 |_,_,_=>none
noncomputable def isNone:MV→Bool
 |.none=>true
 |_=>false
noncomputable def mX(f:Int→Int→Bool)(g:Option (List Nat→List Nat→Bool))(a b:MV):Option Bool:=match a with
 |.int x=>(match b with
  |.int y=>some (f x y)
  |_=>none)
 |.str x=>(match b with
  |.str y=>g.map λg=>g x y
  |_=>none)
 |_=>none
noncomputable def dz(op:CmpOp)(a b:MV):Option Bool:=match op with
 |.Eq=>iR a b
 |.NotEq=>(iR a b).map (!·)
 |.Lt=>mX (λx y=>decide (x< y)) (some strLt) a b
 |.LtE=>mX (λx y=>decide (x≤y)) (some oH) a b
 |.Gt=>mX (λx y=>decide (y< x)) none a b
 |.GtE=>mX (λx y=>decide (y≤x)) none a b
 |.Is=>match b with
  |.none=>some (isNone a)
  |_=>none
 |.IsNot=>match b with
  |.none=>some (!isNone a)
  |_=>none
 |.In=>xu a b
 |.NotIn=>(xu a b).map (!·)
where
 xu (a b:MV):Option Bool:=((strOf b).bind λs=>(zd a).map λc=>s.contains c).or (((gi b).bind (eu a)).or ((uJ b).bind λd=>(jF a d.1 d.2).map (·.isSome)))
noncomputable def MC(f:List Nat)(x:Int):Option (List Nat):=
 if x=233∧f=[92,120,37,48,50,88] then some [92,120,69,57]
 else if x=8364∧f=[92,117,37,48,52,88] then some [92,117,50,48,65,67]
 else if x=128512∧f=[92,85,37,48,56,88] then some [92,85,48,48,48,49,70,54,48,48]
 else none
noncomputable def listOf(v:MV)(h:Hp):Option (List MV):=(gi v).or ((objOf v).bind λo=>(h[o]?).bind dS)
noncomputable def arith(f:Int→Int→Int)(a b:MV):Option MV:=(intOf a).bind λx=>(intOf b).bind λy=>if (bC x&&bC y)=true then some (.int (f x y)) else none
noncomputable def Ia(f:Int→Int→Int)(a b:MV):Option MV:=(intOf a).bind λx=>(intOf b).bind λy=>if (decide (0< y)&&bC y)=true then some (.int (f x y)) else none
noncomputable def Dc(a b:MV):Option MV:=(strOf a).bind λx=>(strOf b).bind λy=>qY (x++y)
noncomputable def VY(a b:MV):Option MV:=(gi a).bind λx=>(gi b).bind λy=>if x.length+y.length≤aH then some (.lst (x++y)) else none
noncomputable def MD(a b:MV):Option MV:=(strOf a).bind λx=>(intOf b).bind λy=>if (decide (x.length * y.toNat≤aH)&&bC y)=true then some (.str (List.replicate y.toNat x).flatten) else none
noncomputable def Q0(a b:MV):Option MV:=(strOf a).bind λf=>(intOf b).bind λx=>(MC f x).map .str
noncomputable def binOp(op:Operator)(a b:MV)(_:Hp):Option MV:=match op with
 |.Add=>(arith (λx y=>x+y) a b).or ((Dc a b).or (VY a b))
 |.Sub=>arith (λx y=>x - y) a b
 |.Mult=>(arith (λx y=>x * y) a b).or (MD a b)
 |.Mod=>(Ia (λx y=>x % y) a b).or (Q0 a b)
 |.FloorDiv=>Ia (λx y=>x / y) a b
 |_=>none
noncomputable def idx(len:Nat):Int→Option Nat
 |.ofNat n=>if n< len then some n else none
 |.negSucc k=>if k< len then some (len - (k+1)) else none
noncomputable def xw(i:MV)(n:Nat):Option Nat:=(intOf i).bind λk=>if bC k=true then idx n k else none
noncomputable def ME(a i:MV):Option MV:=(strOf a).bind λs=>(xw i s.length).bind λj=>(s[j]?).map λc=>.str [c]
noncomputable def MF(a i:MV):Option MV:=(uJ a).bind λd=>(jF i d.1 d.2).bind id
noncomputable def MG(a i:MV):Option MV:=(uI a).bind λl=>(xw i l.length).bind λj=>l[j]?
noncomputable def Ib(a i:MV)(h:Hp):Option MV:=(listOf a h).bind λl=>(xw i l.length).bind λj=>l[j]?
noncomputable def dP(a i:MV)(h:Hp):Option MV:=(ME a i).or ((MF a i).or ((MG a i).or (Ib a i h)))
noncomputable def clip(n:Nat):Int→Nat
 |.ofNat a=>min a n
 |.negSucc k=>n - (k+1)
noncomputable def fW{α:Type}(l:List α)(lo hi:Option Int):List α:=(l.drop (lo.elim 0 (clip l.length))).take (hi.elim l.length (clip l.length) - lo.elim 0 (clip l.length))
noncomputable def jc:Option MV→Option (Option Int)
 |none=>some none
 |some v=>(intOf v).bind λi=>if bC i=true then some (some i) else none
noncomputable def Bk(a:MV)(lo hi:Option Int)(h:Hp):Option MV:=((strOf a).map λs=>MV.str (fW s lo hi)).or ((listOf a h).map λl=>.lst (fW l lo hi))
noncomputable def dM(a:MV)(lo hi:Option MV)(h:Hp):Option MV:=(jc lo).bind λlo=>(jc hi).bind λhi=>Bk a lo hi h
noncomputable def aC:List MV→Option (List Nat)
 |[]=>some []
 |.str s::r=>(aC r).map (s++·)
 |_::_=>none
noncomputable def jG(sup:List Nat):List MV→Option Bool
 |[]=>some false
 |.cls i::r=>(jG sup r).map (sup.contains i||·)
 |_::_=>none
noncomputable def Ic(sup:List Nat)(c:MV):Option Bool:=((zc c).map λi=>sup.contains i).or ((uI c).bind (jG sup))
noncomputable def sJ(P:Prog)(v:MV)(c:MV):Option Bool:=(C9 v).bind λr=>(P.eg[r.1]?).bind λce=>Ic ce.sI c
noncomputable def allB:List MV→Option Bool
 |[]=>some true
 |.bool b::r=>(allB r).map (b&&·)
 |_::_=>none
noncomputable def lenOf(a:MV)(h:Hp):Option Nat:=((strOf a).map List.length).or ((listOf a h).map List.length)
noncomputable def uL:MV→Option Nat
 |.int i=>if 0≤i∧i< 10 then some i.toNat else none
 |_=>none
noncomputable def iH(P:Prog)(b:BI)(args:List MV)(h:Hp):Option MV:=match b with
 |.len=>(jx args).bind λa=>(lenOf a h).map λ(n:Nat)=>MV.int (n:Int)
 |.isinstance=>(QZ args).bind λa=>(sJ P a.1 a.2).map .bool
 |.ord=>(jx args).bind λa=>(zd a).map λ(n:Nat)=>MV.int (n:Int)
 |.str=>(jx args).bind λa=>(uL a).map λ(n:Nat)=>MV.str [48+n]
 |.all=>(jx args).bind λa=>(gi a).bind λl=>(allB l).map .bool
noncomputable def stepK(ps:List Nat)(s:List (Nat×MV))(a:Nat×MV):Option (List (Nat×MV)):=if ps.contains a.1&&(aZ s a.1).isNone then some (s++[a]) else none
noncomputable def jH(s:List (Nat×MV))(a:Nat×MV):List (Nat×MV):=if (aZ s a.1).isNone then s++[a] else s
noncomputable def fh(f:cU)(pos:List MV)(kn:List Nat)(kv:List MV):Option (List MV):=
 if decide (pos.length≤f.params.length)&&decide (f.defs.length≤f.params.length) then
  ((kn.zip kv).foldlM (stepK f.params) (f.params.zip pos)).bind λs=>
   if ((f.params.take (f.params.length - f.defs.length)).all λp=>(aZ s p).isSome)=true then
    f.params.mapM (aZ (((f.params.drop (f.params.length - f.defs.length)).zip f.defs).foldl jH s))
   else none
 else none
structure Ev where
 ev:ai→Loc→Hp→Option (MV×Hp)
 ex:List aB→Loc→Hp→Option (Fl×Loc×Hp)
 ca:Nat→List MV→Hp→Option (MV×Hp)
noncomputable def qZ(ih:Ev):List ai→Loc→Hp→Option (List MV×Hp)
 |[],_,h=>some ([],h)
 |e::r,l,h=>do
  let (v,h) ← ih.ev e l h
  let (vs,h) ← qZ ih r l h
  some (v::vs,h)
noncomputable def rf(ih:Ev):Option ai→Loc→Hp→Option (Option MV×Hp)
 |none,_,h=>some (none,h)
 |some e,l,h=>do
  let (v,h) ← ih.ev e l h
  some (some v,h)
noncomputable def uM(ih:Ev):List ai→Loc→Hp→Option (MV×Hp)
 |[],_,_=>none
 |[e],l,h=>ih.ev e l h
 |e::r,l,h=>do
  let (v,h) ← ih.ev e l h
  let b ← truthy v h
  if b then uM ih r l h else some (v,h)
noncomputable def Dd(ih:Ev):List ai→Loc→Hp→Option (MV×Hp)
 |[],_,_=>none
 |[e],l,h=>ih.ev e l h
 |e::r,l,h=>do
  let (v,h) ← ih.ev e l h
  let b ← truthy v h
  if b then some (v,h) else Dd ih r l h
noncomputable def uN(ih:Ev):MV→List CmpOp→List ai→Loc→Hp→Option (Bool×Hp)
 |a,[op],[e],l,h=>do
  let (v,h) ← ih.ev e l h
  let b ← dz op a v
  some (b,h)
 |a,op::ops,e::es,l,h=>do
  let (v,h) ← ih.ev e l h
  let b ← dz op a v
  if b then uN ih v ops es l h else some (false,h)
 |_,_,_,_,_=>none
noncomputable def test(ih:Ev)(e:ai)(l:Loc)(h:Hp):Option (Bool×Hp):=do
 let (v,h) ← ih.ev e l h
 let b ← truthy v h
 some (b,h)
noncomputable def tests(ih:Ev):List ai→Loc→Hp→Option (Bool×Hp)
 |[],_,h=>some (true,h)
 |e::r,l,h=>do
  let (b,h) ← test ih e l h
  if b then tests ih r l h else some (false,h)
noncomputable def fD(l:Loc)(i:Nat)(v:MV):Loc:=l.set i (some v)
noncomputable def jd:Loc→List Nat→List MV→Option Loc
 |l,[],[]=>some l
 |l,i::r,v::vs=>jd (fD l i v) r vs
 |_,_,_=>none
noncomputable def dU(l:Loc)(tgt:List Nat)(tup:Bool)(v:MV):Option Loc:=match tup with
 |false=>match tgt with
  |[i]=>some (fD l i v)
  |_=>none
 |true=>match v with
  |.tup vs=>jd l tgt vs
  |.lst vs=>jd l tgt vs
  |_=>none
noncomputable def sL(m:Bool)(vs:List MV)(h:Hp):MV×Hp:=match m with
 |false=>(.lst vs,h)
 |true=>(.obj h.length,h++[.list vs])
inductive It where
 |items (l:List MV)
 |oJ (o:Nat)
noncomputable def gj(n:Int):List MV:=(List.range n.toNat).map λ(i:Nat)=>MV.int (i:Int)
noncomputable def rg(v:MV)(h:Hp):Option It:=((strOf v).map λs=>It.items (s.map λc=>.str [c])).or (((gi v).map It.items).or ((objOf v).bind λo=>((h[o]?).bind dS).map λ_=>It.oJ o))
noncomputable def De(s t:List Nat):List MV:=(s.zip t).map λp=>.tup [.str [p.1],.str [p.2]]
noncomputable def VZ(v w:MV):Option It:=(strOf v).bind λs=>(strOf w).map λt=>.items (De s t)
noncomputable def Q2(vs:List MV):Option It:=(jx vs).bind λv=>(intOf v).bind λn=>if bC n=true then some (.items (gj n)) else none
noncomputable def je(ih:Ev)(it:dw)(l:Loc)(h:Hp):Option (It×Hp):=match it with
 |.val e=>(ih.ev e l h).bind λv=>(rg v.1 v.2).map λi=>(i,v.2)
 |.zip a b=>(ih.ev a l h).bind λv=>(ih.ev b l v.2).bind λw=>(VZ v.1 w.1).map λi=>(i,w.2)
 |.range args=>(qZ ih args l h).bind λvs=>(Q2 vs.1).map λi=>(i,vs.2)
noncomputable def fE(xs:List MV):Nat→Hp→Option (Option MV):=λk _=>some xs[k]?
noncomputable def kE(o:Nat):Nat→Hp→Option (Option MV):=λk h=>((h[o]?).bind dS).map λl=>l[k]?
noncomputable def Bl:It→Nat→Hp→Option (Option MV)
 |.items xs=>fE xs
 |.oJ o=>kE o
noncomputable def MH(i:It)(h:Hp):Nat:=match i with
 |.items xs=>xs.length+1
 |.oJ o=>(((h[o]?).bind dS).map List.length).getD 0+1
section
variable (ih:Ev)(elt:ai)(tgt:List Nat)(tup:Bool)(ifs:List ai)(at_:Nat→Hp→Option (Option MV))
noncomputable def dW:Nat→Nat→Loc→Hp→Option (List MV×Hp)
 |0,_,_,_=>none
 |n+1,k,l,h=>(at_ k h).bind λo=>match o with
  |none=>some ([],h)
  |some x=>(dU l tgt tup x).bind λl=>(tests ih ifs l h).bind λb=>if b.1=true then (ih.ev elt l b.2).bind λv=>(dW n (k+1) l v.2).bind λvs=>some (v.1::vs.1,vs.2) else dW n (k+1) l b.2
end
noncomputable def keysOk:List MV→Bool
 |[]=>true
 |k::r=>(match eu k r with|some false=>true|_=>false)&&keysOk r
noncomputable def l8(P:Prog)(ih:Ev)(f:MV)(pos:List MV)(kn:List Nat)(kv:List MV)(h:Hp):Option (MV×Hp):=match f with
 |.fn i=>do
  let fe ← P.fns[i]?
  let bs ← fh fe pos kn kv
  ih.ca i bs h
 |.cls i=>do
  let ce ← P.eg[i]?
  let fe ← P.fns[ce.init]?
  if ce.isRec then do
   let bs ← fh fe (.none::pos) kn kv
   let vs ← ce.fields.mapM λp=>bs[p.2]?
   some (.fU i vs,h)
  else do
   let self:=MV.obj h.length
   let bs ← fh fe (self::pos) kn kv
   let (v,h) ← ih.ca ce.init bs (h++[.inst i []])
   match v with
   |.none=>some (self,h)
   |_=>none
 |.bi b=>if kn.isEmpty then (iH P b pos h).map λv=>(v,h) else none
 |_=>none
inductive mY where
 |fn (f:Nat) (first:MV)
 |join (s:List Nat)
 |starts (s:List Nat)
 |append (o:Nat)
 |pop (o:Nat)
 |copy (ks vs:List MV)
noncomputable def iB(P:Prog)(o a:Nat)(h:Hp):Option mY:=((h[o]?).bind oF).bind λx=>match aZ x.2 a with
 |some m=>(Bj m).map λb=>mY.fn b.2 (.obj b.1)
 |none=>(P.eg[x.1]?).bind λce=>(fV ce.meths a).map λf=>.fn f (.obj o)
noncomputable def Ie(P:Prog)(o a:Nat)(h:Hp):Option mY:=((h[o]?).bind dS).bind λ_=>if (a==P.jb)=true then some (.append o) else if (a==P.C8)=true then some (.pop o) else none
noncomputable def d8(P:Prog)(v:MV)(a:Nat)(h:Hp):Option mY:=match v with
 |.obj o=>(iB P o a h).or (Ie P o a h)
 |.str s=>if (a==P.kq)=true then some (.join s) else if (a==P.iA)=true then some (.starts s) else none
 |.jD ks vs=>if (a==P.zb)=true then some (.copy ks vs) else none
 |_=>none
noncomputable def V0(v:MV):Bool:=match intOf v with
 |some i=>decide (i=0)
 |none=>false
theorem ze{v:MV}(e:V0 v=true):v=.int 0:=by cases v<;>first|exact (bU e).elim|exact congrArg _ (bN e)
noncomputable def Q3(n:Nat):List MV→Option Nat
 |[]=>some (n - 1)
 |z::r=>if (V0 z&&r.isEmpty)=true then some 0 else none
noncomputable def xx(c:mY)(pos:List MV)(h:Hp):Option (MV×Hp):=match c with
 |.fn _ _=>none
 |.join s=>if s.isEmpty=true then (jx pos).bind λx=>(listOf x h).bind λl=>(aC l).bind λs=>(qY s).map λv=>(v,h) else none
 |.starts s=>(jx pos).bind λt=>(strOf t).map λt=>(.bool (t.isPrefixOf s),h)
 |.append o=>(jx pos).bind λx=>((h[o]?).bind dS).bind λl=>if l.length< aH then some (.none,h.set o (.list (l++[x]))) else none
 |.pop o=>((h[o]?).bind dS).bind λl=>(Q3 l.length pos).bind λj=>(l[j]?).map λv=>(v,h.set o (.list (l.eraseIdx j)))
 |.copy ks vs=>if (pos.isEmpty&&(strKeys ks&&keysOk ks&&decide (ks.length≤100)))=true then some (.jD ks vs,h) else none
noncomputable def V1:mY→Option (Nat×MV)
 |.fn f self=>some (f,self)
 |_=>none
noncomputable def gP(P:Prog)(ih:Ev)(c:mY)(pos:List MV)(kn:List Nat)(kv:List MV)(h:Hp):Option (MV×Hp):=match V1 c with
 |some c=>(P.fns[c.1]?).bind λfe=>(fh fe (c.2::pos) kn kv).bind λbs=>ih.ca c.1 bs h
 |none=>if kn.isEmpty=true then xx c pos h else none
noncomputable def getAttr(P:Prog)(v:MV)(a:Nat)(h:Hp):Option MV:=match v with
 |.obj o=>((h[o]?).bind oF).bind λx=>(aZ x.2 a).or ((P.eg[x.1]?).bind λce=>((fV ce.meths a).map λf=>MV.bm o f).or (aZ ce.gM a))
 |.fU c vs=>(P.eg[c]?).bind λce=>iS ce.fields vs a
 |_=>none
noncomputable def iI(P:Prog)(ih:Ev):ai→Loc→Hp→Option (MV×Hp)
 |.b7 v,_,h=>some (v,h)
 |.az v,_,h=>some (v,h)
 |.aP i,l,h=>match l[i]? with
  |some (some v)=>some (v,h)
  |_=>none
 |.aX e a,l,h=>do
  let (v,h) ← ih.ev e l h
  let r ← getAttr P v a h
  some (r,h)
 |.bin op a b,l,h=>do
  let (x,h) ← ih.ev a l h
  let (y,h) ← ih.ev b l h
  let r ← binOp op x y h
  some (r,h)
 |.bE es,l,h=>uM ih es l h
 |.fc es,l,h=>Dd ih es l h
 |.bM e,l,h=>do
  let (b,h) ← test ih e l h
  some (.bool (!b),h)
 |.neg e,l,h=>do
  let (v,h) ← ih.ev e l h
  match v with
  |.int i=>if bC i then some (.int (-i),h) else none
  |_=>none
 |.cmp a ops es,l,h=>do
  let (v,h) ← ih.ev a l h
  let (b,h) ← uN ih v ops es l h
  some (.bool b,h)
 |.aO c a b,l,h=>do
  let (t,h) ← test ih c l h
  if t then ih.ev a l h else ih.ev b l h
 |.sub a i,l,h=>do
  let (x,h) ← ih.ev a l h
  let (y,h) ← ih.ev i l h
  let r ← dP x y h
  some (r,h)
 |.slice a lo hi,l,h=>do
  let (x,h) ← ih.ev a l h
  let (lo,h) ← rf ih lo l h
  let (hi,h) ← rf ih hi l h
  let r ← dM x lo hi h
  some (r,h)
 |.list m es,l,h=>do
  let (vs,h) ← qZ ih es l h
  if vs.length≤aH then some (sL m vs h) else none
 |.tuple es,l,h=>do
  let (vs,h) ← qZ ih es l h
  if vs.length≤aH then some (.tup vs,h) else none
 |.dict ks vs,_,h=>if (strKeys ks||intKeys ks)&&keysOk ks&&ks.length==vs.length&&decide (ks.length≤15)&& !ks.isEmpty then some (.jD ks vs,h) else none
 |.call f args kn kv,l,h=>do
  let (fv,h) ← ih.ev f l h
  let (as,h) ← qZ ih args l h
  let (ks,h) ← qZ ih kv l h
  l8 P ih fv as kn ks h
 |.aQ o a args kn kv,l,h=>do
  let (ov,h) ← ih.ev o l h
  let c ← d8 P ov a h
  let (as,h) ← qZ ih args l h
  let (ks,h) ← qZ ih kv l h
  gP P ih c as kn ks h
 |.comp m elt nv tgt tup it ifs,l,h=>(je ih it l h).bind λi=>(dW ih elt tgt tup ifs (Bl i.1) (MH i.1 i.2) 0 (List.replicate nv Option.none++l) i.2).bind λvs=>if (!m&&decide (vs.1.length≤aH))=true then some (.lst vs.1,vs.2) else none
noncomputable def uO(P:Prog)(c a:Nat):Bool:=match P.eg[c]? with
 |some ce=>(fV ce.meths a).isNone&&(aZ ce.gM a).isNone
 |none=>false
noncomputable def jY(P:Prog)(ov:MV)(a:Nat)(v:MV)(h:Hp):Option Hp:=(objOf ov).bind λk=>((h[k]?).bind oF).bind λx=>if (uO P x.1 a&&decide (x.2.length< 300))=true then some (h.set k (.inst x.1 (gO x.2 a v))) else none
noncomputable def mh(ov iv v:MV)(h:Hp):Option Hp:=(objOf ov).bind λk=>(intOf iv).bind λj=>((h[k]?).bind dS).bind λxs=>if bC j=true then (idx xs.length j).map λj=>h.set k (.list (xs.set j v)) else none
noncomputable def store(P:Prog)(ih:Ev):dK→MV→Loc→Hp→Option (Loc×Hp)
 |.aP i,v,l,h=>some (fD l i v,h)
 |.aX o a,v,l,h=>do
  let (ov,h) ← ih.ev o l h
  let h ← jY P ov a v h
  some (l,h)
 |.sub o i,v,l,h=>do
  let (ov,h) ← ih.ev o l h
  let (iv,h) ← ih.ev i l h
  let h ← mh ov iv v h
  some (l,h)
 |.tup is,v,l,h=>do
  let l ← dU l is true v
  some (l,h)
noncomputable def storeAll(P:Prog)(ih:Ev):List dK→MV→Loc→Hp→Option (Loc×Hp)
 |[],_,l,h=>some (l,h)
 |t::r,v,l,h=>do
  let (l,h) ← store P ih t v l h
  storeAll P ih r v l h
noncomputable def eU(ih:Ev)(c:ai)(b:List aB):Nat→Loc→Hp→Option (Fl×Loc×Hp)
 |0,_,_=>none
 |k+1,l,h=>do
  let (t,h) ← test ih c l h
  if t then do
   let (f,l,h) ← ih.ex b l h
   match f with
   |.next=>eU ih c b k l h
   |.ret v=>some (.ret v,l,h)
  else some (.next,l,h)
noncomputable def dF:Nat:=100000
noncomputable def bO(ih:Ev)(t:dK)(b:List aB):List MV→Loc→Hp→Option (Fl×Loc×Hp)
 |[],l,h=>some (.next,l,h)
 |x::r,l,h=>do
  let l ← (match t with
   |.aP i=>dU l [i] false x
   |.tup is=>dU l is true x
   |_=>none)
  let (f,l,h) ← ih.ex b l h
  match f with
  |.next=>bO ih t b r l h
  |.ret v=>some (.ret v,l,h)
noncomputable def iT(op:Operator)(a b:MV)(_:Hp):Option MV:=match op with
 |.Add=>(arith (λx y=>x+y) a b).or (Dc a b)
 |.Sub=>arith (λx y=>x - y) a b
 |_=>none
noncomputable def gp(P:Prog)(ih:Ev):aB→Loc→Hp→Option (Fl×Loc×Hp)
 |.pass,l,h=>some (.next,l,h)
 |.fail,_,_=>none
 |.expr e,l,h=>do
  let (_,h) ← ih.ev e l h
  some (.next,l,h)
 |.ret none,l,h=>some (.ret .none,l,h)
 |.ret (some e),l,h=>do
  let (v,h) ← ih.ev e l h
  some (.ret v,l,h)
 |.assign ts e,l,h=>do
  let (v,h) ← ih.ev e l h
  let (l,h) ← storeAll P ih ts v l h
  some (.next,l,h)
 |.aug t op e,l,h=>match t with
  |.aP i=>match l[i]? with
   |some (some old)=>do
    let (v,h) ← ih.ev e l h
    let r ← iT op old v h
    some (.next,fD l i r,h)
   |_=>none
  |.aX o a=>do
   let (ov,h) ← ih.ev o l h
   let old ← getAttr P ov a h
   let (v,h) ← ih.ev e l h
   let r ← iT op old v h
   let h ← jY P ov a r h
   some (.next,l,h)
  |_=>none
 |.aO c a b,l,h=>do
  let (t,h) ← test ih c l h
  if t then ih.ex a l h else ih.ex b l h
 |.cR c b,l,h=>eU ih c b dF l h
 |.fz t it b,l,h=>do
  let (i,h) ← je ih it l h
  match i with
  |.items xs=>bO ih t b xs l h
  |.oJ _=>none
noncomputable def Df(P:Prog)(ih:Ev):List aB→Loc→Hp→Option (Fl×Loc×Hp)
 |[],l,h=>some (.next,l,h)
 |s::r,l,h=>do
  let (f,l,h) ← gp P ih s l h
  match f with
  |.next=>ih.ex r l h
  |.ret v=>some (.ret v,l,h)
noncomputable def sM(P:Prog)(ih:Ev)(i:Nat)(bs:List MV)(h:Hp):Option (MV×Hp):=do
 let fe ← P.fns[i]?
 let (f,_,h) ← ih.ex fe.body (bs.map some++List.replicate (fe.jw - bs.length) Option.none) h
 match f with
 |.next=>some (.none,h)
 |.ret v=>some (v,h)
noncomputable def step(P:Prog)(ih:Ev):Ev:=⟨iI P ih,Df P ih,sM P ih⟩
noncomputable def bot:Ev:=⟨λ_ _ _=>none,λ_ _ _=>none,λ_ _ _=>none⟩
noncomputable def E(P:Prog):Nat→Ev
 |0=>bot
 |n+1=>step P (E P n)
structure CI where
 kinds:List (Str×NameKind)
 slots:List Str
 az:List (Str×MV)
 nm:List Str
 fF:List (Nat×Nat)
noncomputable def fO:Option NameKind→Bool
 |some .local=>true
 |some .cell=>true
 |_=>false
noncomputable def nameId(ci:CI)(x:Str):Option Nat:=ci.nm.idxOf? x
noncomputable def jf(ci:CI)(x:Str):Option Nat:=if fO (ci.kinds.lookup x) then ci.slots.idxOf? x else none
noncomputable def zf(ci:CI)(x:Str):Option Nat:=if ci.kinds.lookup x==some .local then ci.slots.idxOf? x else none
noncomputable def isDebug(x:Str):Bool:=x==Str.ofString "__debug__"
noncomputable def uP(ci:CI)(x:Str):Option ai:=
 if isDebug x then none else
 if fO (ci.kinds.lookup x) then (ci.slots.idxOf? x).map .aP
 else if ci.kinds.lookup x==some .globalImplicit then (ci.az.lookup x).map .az
 else none
noncomputable def zg(ci:CI)(p:Pos):Bool:=ci.fF.contains (p.line,p.col)
noncomputable def fS:Expr→Option Str
 |.Name x _=>some x
 |_=>none
noncomputable def c7(ci:CI):Expr→Option (List Nat×Bool)
 |.Name x _=>(zf ci x).map λi=>([i],false)
 |.Tuple es _ _=>do
  let xs ← es.mapM fS
  let is ← xs.mapM (zf ci)
  some (is,true)
 |_=>none
noncomputable def oK(outer:List (Str×NameKind))(names:List (Str×NameKind)):List (Str×NameKind):=names.map λ(n,k)=>if k==.free&&outer.lookup n==some .cell then (n,.cell) else (n,k)
noncomputable def eW(ci:CI)(sc:Scope):CI:={ci with kinds:=oK ci.kinds sc.names,slots:=(sc.names.filter (·.2==.local)).map (·.1)++ci.slots}
noncomputable def Ig(x:Str):Bool:=x==Str.ofString "super"
noncomputable def fP:Expr→Bool
 |.Call (.Name x _) [] [] _=>Ig x
 |_=>false
noncomputable def oM(ci:CI)(k:Keyword):Option Nat:=k.arg.bind (nameId ci)
noncomputable def gw(sc:Scope):Bool:=sc.kind==.function&& !sc.isGenerator&& !sc.isCoroutine&&sc.names.all (λp=>p.2 !=.cell)&&decide (sc.names.map (·.1)).Nodup
noncomputable def freeOk(ci:CI)(sc:Scope):Bool:=sc.names.all λp=>p.2 !=.free||(ci.kinds.lookup p.1==some .cell&&ci.slots.contains p.1)
noncomputable def dg(ci:CI)(n:String)(x:Str):Bool:=x==Str.ofString n&&ci.kinds.lookup x==some .globalImplicit&&(ci.az.lookup x).isNone
noncomputable def iJ:Expr→Option MV
 |.Constant c _ _=>match c with
  |.int i=>if bC i then some (.int i) else none
  |.str s=>if s.cps.size≤aH then some (.str s.cps.toList) else none
  |_=>none
 |_=>none
noncomputable def mZ:dw→Bool
 |.zip ..=>true
 |_=>false
noncomputable def k6:Expr→Option (Option Expr×Option Expr×Option Expr)
 |.Slice a b c _=>some (a,b,c)
 |_=>none
noncomputable def mj:Expr→Option (Expr×Str×Pos)
 |.Attribute o a p=>some (o,a,p)
 |_=>none
noncomputable def sN(gs:List Comprehension):Option (Expr×Expr×List Expr):=match gs with
 |[]=>none
 |g::r=>if r.isEmpty&&g.is_async==0 then some (g.target,g.iter,g.ifs) else none
noncomputable def ri:Const→Option ai
 |.none=>some (.b7 .none)
 |.bool b=>some (.b7 (.bool b))
 |.int i=>if bC i then some (.b7 (.int i)) else none
 |.str s=>if s.cps.size≤aH then some (.b7 (.str s.cps.toList)) else none
 |_=>none
noncomputable def V2(m:ai):UnaryOp→Option ai
 |.Not=>some (.bM m)
 |.USub=>some (.neg m)
 |_=>none
noncomputable def Ih(ms:List ai):BoolOp→ai
 |.And=>.bE ms
 |.Or=>.fc ms
noncomputable def sO:Expr→Option (Str×List Expr)
 |.Call f args eO _=>if eO.isEmpty then (fS f).map λx=>(x,args) else none
 |_=>none
noncomputable def sP:List ai→Option dw
 |[]=>none
 |a::r=>match r with
  |[]=>none
  |b::q=>if q.isEmpty then some (.zip a b) else none
mutual
noncomputable def aD:Nat→CI→Expr→Option ai
 |0,_,_=>none
 |n+1,ci,e=>match e with
  |.Constant c _ _=>ri c
  |.Name x _=>uP ci x
  |.Attribute o a _=>if fP o then none else do
   let m ← aD n ci o
   let i ← nameId ci a
   some (.aX m i)
  |.BinOp l op r _=>do
   let a ← aD n ci l
   let b ← aD n ci r
   some (.bin op a b)
  |.BoolOp op es _=>do
   let ms ← es.mapM (aD n ci)
   some (Ih ms op)
  |.UnaryOp op x _=>do
   let m ← aD n ci x
   V2 m op
  |.Compare l ops es _=>if ops.length==es.length then do
   let m ← aD n ci l
   let ms ← es.mapM (aD n ci)
   some (.cmp m ops ms)
   else none
  |.IfExp c a b _=>do
   let c ← aD n ci c
   let a ← aD n ci a
   let b ← aD n ci b
   some (.aO c a b)
  |.Subscript a i _=>match k6 i with
   |some (lo,hi,st)=>if st.isNone then do
    let a ← aD n ci a
    let lo ← fT n ci lo
    let hi ← fT n ci hi
    some (.slice a lo hi)
    else none
   |none=>do
    let a ← aD n ci a
    let i ← aD n ci i
    some (.sub a i)
  |.List es pos=>do
   let ms ← es.mapM (aD n ci)
   some (.list (zg ci pos) ms)
  |.Tuple es _ _=>do
   let ms ← es.mapM (aD n ci)
   some (.tuple ms)
  |.Dict ks vs _=>do
   let ks ← ks.mapM λk=>k.bind iJ
   let vs ← vs.mapM iJ
   some (.dict ks vs)
  |.Call f args eO pos=>match mj f with
   |some (o,a,apos)=>if fP o|| !(apos.endLine==pos.line)|| !(args.length+eO.length< 25) then none else do
    let m ← aD n ci o
    let i ← nameId ci a
    let ms ← args.mapM (aD n ci)
    let kn ← eO.mapM (oM ci)
    let kv ← eO.mapM λk=>aD n ci k.value
    some (.aQ m i ms kn kv)
   |none=>if args.length+2 * eO.length< 25 then do
    let m ← aD n ci f
    let ms ← args.mapM (aD n ci)
    let kn ← eO.mapM (oM ci)
    let kv ← eO.mapM λk=>aD n ci k.value
    some (.call m ms kn kv)
    else none
  |.ListComp elt gs sc pos=>match sN gs with
   |some (t,it,ifs)=>if gw sc&&freeOk ci sc then do
    let i ← jg n ci it
    let V3:=eW ci sc
    let (is,tup) ← c7 V3 t
    if mZ i&& !tup then none else
    let m ← aD n V3 elt
    let ms ← ifs.mapM (aD n V3)
    some (.comp (zg ci pos) m (sc.names.filter (·.2==.local)).length is tup i ms)
    else none
   |none=>none
  |_=>none
noncomputable def fT:Nat→CI→Option Expr→Option (Option ai)
 |_,_,none=>some none
 |0,_,some _=>none
 |n+1,ci,some e=>do
  let m ← aD n ci e
  some (some m)
noncomputable def jg:Nat→CI→Expr→Option dw
 |0,_,_=>none
 |n+1,ci,e=>match sO e with
  |none=>(aD n ci e).map .val
  |some q=>if dg ci "zip" q.1 then (q.2.mapM (aD n ci)).bind sP
   else if dg ci "range" q.1 then (q.2.mapM (aD n ci)).map .range
   else (aD n ci e).map .val
end
noncomputable def oN(n:Nat)(ci:CI):Expr→Option dK
 |.Name x _=>(jf ci x).map .aP
 |.Attribute o a _=>if fP o then none else do
  let m ← aD n ci o
  let i ← nameId ci a
  some (.aX m i)
 |.Subscript o i _=>if (k6 i).isSome then none else do
  let m ← aD n ci o
  let j ← aD n ci i
  some (.sub m j)
 |.Tuple es _ _=>do
  let xs ← es.mapM fS
  let is ← xs.mapM (jf ci)
  some (.tup is)
 |_=>none
noncomputable def Dg(ci:CI)(n:Nat)(ts:List Expr):Option (List dK):=ts.mapM (oN n ci)
noncomputable def rj:Expr→Bool
 |.Tuple ..=>false
 |.List ..=>false
 |_=>true
noncomputable def Dh:Expr→Bool
 |.Tuple ..=>true
 |.List ..=>true
 |_=>false
noncomputable def kG:Expr→Bool
 |.ListComp ..=>true
 |_=>false
noncomputable def Di(ss:List Stmt→List aB)(n:Nat)(ci:CI):Stmt→Option aB
 |.Expr e _=>if kG e then none else (aD n ci e).map .expr
 |.Pass _=>some .pass
 |.Return eo _=>(fT (n+1) ci eo).map .ret
 |.Assign ts e _=>if ts.any Dh&& !(rj e) then none else do
  let ms ← Dg ci n ts
  let m ← aD n ci e
  some (.assign ms m)
 |.AugAssign t op e _=>do
  let mt ← oN n ci t
  let m ← aD n ci e
  some (.aug mt op m)
 |.If c a b _=>(aD n ci c).map λm=>.aO m (ss a) (ss b)
 |.While c b e _=>if e.isEmpty then (aD n ci c).map λm=>.cR m (ss b) else none
 |.For t it b e _=>if e.isEmpty then do
  let x ← fS t
  let j ← jf ci x
  let i ← jg n ci it
  if mZ i then none else some (.fz (.aP j) i (ss b))
  else none
 |_=>none
mutual
noncomputable def Ln:Nat→CI→Stmt→aB
 |0,_,_=>.fail
 |n+1,ci,s=>(Di (fj n ci) n ci s).getD .fail
noncomputable def fj:Nat→CI→List Stmt→List aB
 |0,_,_=>[.fail]
 |_+1,_,[]=>[]
 |n+1,ci,s::r=>Ln n ci s::fj n ci r
end
noncomputable def slotsOf(sc:Scope):List Str:=(sc.names.filter λp=>p.2==.local||p.2==.cell).map (·.1)
noncomputable def Dj(az:List (Str×MV))(nm:List Str)(fF:List (Nat×Nat))(sc:Scope):CI:=⟨sc.names,slotsOf sc,az,nm,fF⟩
noncomputable def Q4:Expr→Option MV
 |.Constant c _ _=>match c with
  |.none=>some .none
  |.bool b=>some (.bool b)
  |_=>none
 |_=>none
noncomputable def xy(az:List (Str×MV))(nm:List Str)(fF:List (Nat×Nat))(ps:Arguments)(body:List Stmt)(sc:Scope):Option cU:=do
 let pn:=ps.args.map (·.arg)
 let ids ← pn.mapM λx=>nm.idxOf? x
 let ds ← ps.defaults.mapM Q4
 if ps.posonlyargs.isEmpty&&ps.vararg.isNone&&ps.kwonlyargs.isEmpty&&ps.kwarg.isNone&&sc.kind==.function&& !sc.isGenerator&& !sc.isCoroutine
  &&(slotsOf sc).take pn.length==pn&&decide (sc.names.map (·.1)).Nodup then
  some ⟨ids,ds,(slotsOf sc).length,fj 60 (Dj az nm fF sc) body⟩
 else none
end
section
open PySem PySem.W PySem.Calls PyProof.Rows
structure cP where
 prog:Program
 w:World
 pm:Prog
 nm:List Str
 az:List (Str×MV)
 fF:List (Nat×Nat)
 fa:List Addr
 ca:List Addr
noncomputable def cP.fld(D:cP)(c:Nat):List Str:=match D.pm.eg[c]? with
 |some ce=>ce.fields.map λp=>(D.nm[p.1]?).getD Str.empty
 |none=>[]
noncomputable abbrev PR:=Addr×Option Addr
noncomputable def iK(p:PR):List Addr:=p.1::p.2.toList
noncomputable def cD(ρ:List PR):List Addr:=ρ.flatMap iK
noncomputable abbrev Fz:=Addr→Obj→Prop
noncomputable def BI.val:BI→Value
 |.len=>.builtin "len"
 |.isinstance=>.builtin "isinstance"
 |.ord=>.builtin "ord"
 |.str=>.type "str"
 |.all=>.builtin "all"
noncomputable def toStr(s:List Nat):Str:=⟨s.toArray⟩
def uQ(w:World)(k:MV)(e:DictEntry):Prop:=match k with
 |.str s=>∃t,e.key=.str (toStr s) t∧e.hash=hashStr w (toStr s)
 |.int i=>∃t,e.key=.int i t∧e.hash=hashInt i
 |_=>False
def Zx(o:Obj)(m:Str→Option Value):Prop:=∃es ep,o.data=.dict es ep∧StrKeys es∧∀x,nsFind es x=m x
mutual
noncomputable def VR(D:cP)(G:Fz)(ρ:List PR):MV→Value→Prop
 |.none,v=>v=.none
 |.bool b,v=>v=.bool b
 |.int i,v=>∃t,v=.int i t
 |.str s,v=>s.length≤aH∧∃t,v=.str (toStr s) t
 |.tup l,v=>l.length≤aH∧∃a o vs n,v=.ref a∧G a o∧o.cls=.type "tuple"∧o.data=.seq vs.toArray n∧cY D G ρ l vs
 |.lst l,v=>l.length≤aH∧∃a o vs n,v=.ref a∧G a o∧o.cls=.type "list"∧o.data=.seq vs.toArray n∧cY D G ρ l vs
 |.jD ks vs,v=>∃(a:Addr) (o:Obj) (es:List DictEntry) (n:Nat),v=.ref a∧a≠sysModules∧(strKeys ks=true∨intKeys ks=true)∧G a o∧o.ExactDict∧o.data=.dict es.toArray n∧ks.length=es.length∧(∀(j:Nat) (k:MV) (e:DictEntry),ks[j]? =some k→es[j]? =some e→uQ D.w k e)∧cY D G ρ vs (es.map (·.val))
 |.fU c vs,v=>∃(x C dx:Addr) (o:Obj) (m:Str→Option Value) (ws:List Value),v=.ref x∧(∃ce,D.pm.eg[c]? =some ce∧ce.isRec=true)∧D.ca[c]? =some C∧G x (instObj C dx)∧G dx o∧Zx o m∧cY D G ρ vs ws∧(∀(j:Nat) (y:Str),(D.fld c)[j]? =some y→m y=ws[j]?)
 |.obj i,v=>∃p,ρ[i]? =some p∧v=.ref p.1
 |.fn i,v=>∃a,D.fa[i]? =some a∧v=.ref a
 |.cls i,v=>∃a,D.ca[i]? =some a∧v=.ref a
 |.bm o f,v=>∃q fa p,v=.ref q∧D.fa[f]? =some fa∧ρ[o]? =some p∧G q (methodObj (.ref fa) (.ref p.1))
 |.bi b,v=>v=b.val
noncomputable def cY(D:cP)(G:Fz)(ρ:List PR):List MV→List Value→Prop
 |[],vs=>vs=[]
 |m::r,vs=>∃v ws,vs=v::ws∧VR D G ρ m v∧cY D G ρ r ws
end
def jI(G G':Fz):Prop:=∀a o,G a o→G' a o
theorem jI.refl(G:Fz):jI G G:=λ_ _ h=>h
theorem jI.trans{G G' Q5:Fz}(a:jI G G')(b:jI G' Q5):jI G Q5:=λx o h=>b x o (a x o h)
def uR(ρ cZ:List PR):Prop:=∀(i:Nat) (p:PR),ρ[i]? =some p→cZ[i]? =some p
theorem uR.refl(ρ:List PR):uR ρ ρ:=λ_ _ h=>h
theorem uR.trans{a b c:List PR}(x:uR a b)(y:uR b c):uR a c:=λi p h=>y i p (x i p h)
theorem uR.append(ρ l:List PR):uR ρ (ρ++l):=λi p h=>by
 have:i< ρ.length:=by
  cases q:decide (i< ρ.length) with
  |true=>exact bN q
  |false=>rw [List.getElem?_eq_none (by have:=of_decide_eq_false q;lia)] at h;cases h
 rw [List.getElem?_append_left this];exact h
mutual
theorem VR.mono{D:cP}{G G':Fz}{ρ cZ:List PR}(hG:jI G G')(nV:uR ρ cZ):∀(m:MV) (v:Value),VR D G ρ m v→VR D G' cZ m v
 |.none,_,h=>h
 |.bool _,_,h=>h
 |.int _,_,h=>h
 |.str _,_,h=>h
 |.tup l,_,h=>⟨h.1,h.2.imp λ_=>Exists.imp λ_=>Exists.imp λ_=>Exists.imp λ_ q=>⟨q.1,hG _ _ q.2.1,q.2.2.1,q.2.2.2.1,cY.mono hG nV l _ q.2.2.2.2⟩⟩
 |.lst l,_,h=>⟨h.1,h.2.imp λ_=>Exists.imp λ_=>Exists.imp λ_=>Exists.imp λ_ q=>⟨q.1,hG _ _ q.2.1,q.2.2.1,q.2.2.2.1,cY.mono hG nV l _ q.2.2.2.2⟩⟩
 |.jD _ vs,_,h=>Exists.imp (λ_=>Exists.imp λ_=>Exists.imp λ_=>Exists.imp λ_ q=>⟨q.1,q.2.1,q.2.2.1,hG _ _ q.2.2.2.1,q.2.2.2.2.1,q.2.2.2.2.2.1,q.2.2.2.2.2.2.1,q.2.2.2.2.2.2.2.1,cY.mono hG nV vs _ q.2.2.2.2.2.2.2.2⟩) h
 |.fU _ vs,_,h=>Exists.imp (λ_=>Exists.imp λ_=>Exists.imp λ_=>Exists.imp λ_=>Exists.imp λ_=>Exists.imp λ_ q=>⟨q.1,q.2.1,q.2.2.1,hG _ _ q.2.2.2.1,hG _ _ q.2.2.2.2.1,q.2.2.2.2.2.1,cY.mono hG nV vs _ q.2.2.2.2.2.2.1,q.2.2.2.2.2.2.2⟩) h
 |.obj _,_,h=>Exists.imp (λ_ q=>⟨nV _ _ q.1,q.2⟩) h
 |.fn _,_,h=>h
 |.cls _,_,h=>h
 |.bm _ _,_,h=>Exists.imp (λ_=>Exists.imp λ_=>Exists.imp λ_ q=>⟨q.1,q.2.1,nV _ _ q.2.2.1,hG _ _ q.2.2.2⟩) h
 |.bi _,_,h=>h
theorem cY.mono{D:cP}{G G':Fz}{ρ cZ:List PR}(hG:jI G G')(nV:uR ρ cZ):∀(m:List MV) (v:List Value),cY D G ρ m v→cY D G' cZ m v
 |[],_,h=>h
 |m::r,_,h=>Exists.imp (λ_=>Exists.imp λ_ q=>⟨q.1,VR.mono hG nV m _ q.2.1,cY.mono hG nV r _ q.2.2⟩) h
end
section
variable {D:cP}{G:Fz}{ρ:List PR}
theorem cY.nil:cY D G ρ [] []:=by rfl
theorem cY.cons{m:MV}{v:Value}{ms:List MV}{vs:List Value}(h:VR D G ρ m v)(r:cY D G ρ ms vs):cY D G ρ (m::ms) (v::vs):=by exact ⟨v,vs,rfl,h,r⟩
theorem cY.cons_inv{m:MV}{ms:List MV}{vs:List Value}(h:cY D G ρ (m::ms) vs):∃v ws,vs=v::ws∧VR D G ρ m v∧cY D G ρ ms ws:=by exact h
theorem cY.nil_inv{vs:List Value}(h:cY D G ρ [] vs):vs=[]:=by exact h
theorem cY.length:∀{ms:List MV} {vs:List Value},cY D G ρ ms vs→ms.length=vs.length
 |[],_,h=>by rw [h.nil_inv];rfl
 |_::_,_,h=>by obtain ⟨v,ws,rfl,_,r⟩:=h.cons_inv;rw [List.length_cons,List.length_cons,r.length]
theorem cY.get:∀{ms:List MV} {vs:List Value},cY D G ρ ms vs→∀{i:Nat} {m:MV},ms[i]? =some m→∃v,vs[i]? =some v∧VR D G ρ m v
 |[],_,_,i,m,e=>by simp at e
 |_::_,_,h,i,m,e=>by
  obtain ⟨v,ws,rfl,a,r⟩:=h.cons_inv
  cases i with
  |zero=>simp at e;subst e;exact ⟨v,rfl,a⟩
  |succ i=>simp at e⊢;exact r.get e
theorem cY.append:∀{a:List MV} {x:List Value} {b:List MV} {y:List Value},cY D G ρ a x→cY D G ρ b y→cY D G ρ (a++b) (x++y)
 |[],_,_,_,h,r=>by rw [h.nil_inv];exact r
 |_::_,_,_,_,h,r=>by obtain ⟨v,ws,rfl,a,q⟩:=h.cons_inv;exact .cons a (q.append r)
theorem cY.take:∀{ms:List MV} {vs:List Value} (n:Nat),cY D G ρ ms vs→cY D G ρ (ms.take n) (vs.take n)
 |_,_,0,_=>by simp;exact .nil
 |[],_,n+1,h=>by rw [h.nil_inv];simp;exact .nil
 |_::_,_,n+1,h=>by obtain ⟨v,ws,rfl,a,q⟩:=h.cons_inv;simp;exact .cons a (q.take n)
theorem cY.drop:∀{ms:List MV} {vs:List Value} (n:Nat),cY D G ρ ms vs→cY D G ρ (ms.drop n) (vs.drop n)
 |_,_,0,h=>by simpa using h
 |[],_,n+1,h=>by rw [h.nil_inv];simp;exact .nil
 |_::_,_,n+1,h=>by obtain ⟨v,ws,rfl,a,q⟩:=h.cons_inv;simp;exact q.drop n
theorem cY.set:∀{ms:List MV} {vs:List Value} (n:Nat) {m:MV} {v:Value},cY D G ρ ms vs→VR D G ρ m v→cY D G ρ (ms.set n m) (vs.set n v)
 |[],_,n,_,_,h,_=>by rw [h.nil_inv];simp;exact .nil
 |_::_,_,0,_,_,h,r=>by obtain ⟨v,ws,rfl,a,q⟩:=h.cons_inv;simp;exact .cons r q
 |_::_,_,n+1,_,_,h,r=>by obtain ⟨v,ws,rfl,a,q⟩:=h.cons_inv;simp;exact .cons a (q.set n r)
theorem cY.eraseIdx:∀{ms:List MV} {vs:List Value} (n:Nat),cY D G ρ ms vs→cY D G ρ (ms.eraseIdx n) (vs.eraseIdx n)
 |[],_,n,h=>by rw [h.nil_inv];simp;exact .nil
 |_::_,_,0,h=>by obtain ⟨v,ws,rfl,a,q⟩:=h.cons_inv;simpa using q
 |_::_,_,n+1,h=>by obtain ⟨v,ws,rfl,a,q⟩:=h.cons_inv;simp;exact .cons a (q.eraseIdx n)
end
structure sQ{α β:Type}(P:α→β→Prop)(a:Option α)(b:Option β):Prop where
 n:a.isNone=b.isNone
 s:∀m,a=some m→∃v,b=some v∧P m v
theorem sQ.imp{α β:Type}{P P':α→β→Prop}{a:Option α}{b:Option β}(h:sQ P a b)(f:∀m v,P m v→P' m v):sQ P' a b:=⟨h.n,λm e=>(h.s m e).imp λv q=>⟨q.1,f _ _ q.2⟩⟩
theorem sQ.no{α β:Type}{P:α→β→Prop}{a:Option α}{b:Option β}(h:sQ P a b)(e:a=none):b=none:=Option.isNone_iff_eq_none.mp (h.n.symm.trans (e▸rfl))
def zh(D:cP)(G:Fz)(ρ:List PR)(attrs:List (Nat×MV))(m:Str→Option Value):Prop:=∀(a:Nat) (x:Str),D.nm[a]? =some x→sQ (VR D G ρ) (aZ attrs a) (m x)
def zj(h:Heap)(a:Addr)(m:Str→Option Value)(N:Nat):Prop:=∃o es ep,h.get? a=some o∧o.data=.dict es ep∧StrKeys es∧(∀name,nsFind es name=m name)∧es.size≤N
theorem zj.ns{h:Heap}{a:Addr}{m:Str→Option Value}{N:Nat}(x:zj h a m N):h.Ns a m:=let ⟨o,es,ep,h1,h2,h3,h4,_⟩:=x;⟨o,es,ep,h1,h2,h3,h4⟩
theorem zj.at{h h':Heap}{a:Addr}{m:Str→Option Value}{N:Nat}(x:zj h a m N)(e:∀o,h.get? a=some o→h'.get? a=some o):zj h' a m N:=let ⟨o,es,ep,h1,h2⟩:=x;⟨o,es,ep,e _ h1,h2⟩
structure Q6(D:cP)(G:Fz)(ρ:List PR)(h:Heap)(p:PR)(c:Nat)(attrs:List (Nat×MV))(C dx:Addr)(m:Str→Option Value):Prop where
 hC:D.ca[c]? =some C
 hd:p.2=some dx
 ob:h.get? p.1=some (instObj C dx)
 ns:zj h dx m attrs.length
 at_:zh D G ρ attrs m
 own:∀a,(aZ attrs a).isSome=true→uO D.pm c a=true
 rc:∃ce,D.pm.eg[c]? =some ce∧ce.isRec=false
noncomputable def OR(D:cP)(G:Fz)(ρ:List PR)(h:Heap)(p:PR):nK→Prop
 |.list l=>p.2=none∧l.length≤aH∧∃vs,h.PlainList p.1 vs.toArray∧cY D G ρ l vs
 |.inst c attrs=>∃C dx m,Q6 D G ρ h p c attrs C dx m
theorem m5(p:PR):p.1∈iK p:=cy ..
theorem Lo{p:PR}{d:Addr}(h:p.2=some d):d∈iK p:=by unfold iK;rw [h];exact bR _ (cy ..)
theorem OR.mono{D:cP}{G G':Fz}{ρ cZ:List PR}(hG:jI G G')(nV:uR ρ cZ){h h':Heap}{p:PR}{o:nK}(x:OR D G ρ h p o)(hk:∀b∈iK p,∀ob,h.get? b=some ob→h'.get? b=some ob):OR D G' cZ h' p o:=by
 cases o with
 |list l=>exact ⟨x.1,x.2.1,x.2.2.imp λvs q=>⟨q.1.at λo e=>hk _ (m5 p) o e,cY.mono hG nV _ _ q.2⟩⟩
 |inst c attrs=>obtain ⟨C,dx,m,q⟩:=x;exact ⟨C,dx,m,q.hC,q.hd,hk _ (m5 p) _ q.ob,q.ns.at λo e=>hk _ (Lo q.hd) o e,λa x e=>(q.at_ a x e).imp λ_ _=>VR.mono hG nV _ _,q.own,q.rc⟩
noncomputable def jy(env:Env):List Addr:=env.locals::env.cells.map (·.2)
structure LR(D:cP)(G:Fz)(ρ:List PR)(ci:CI)(env:Env)(l:Loc)(h:Heap):Prop where
 len:l.length=ci.slots.length
 aP:∃m,h.Ns env.locals m∧∀(i:Nat) (x:Str) (mv:MV),ci.slots.idxOf? x=some i→ci.kinds.lookup x=some .local→l[i]? =some (some mv)→∃v,m x=some v∧VR D G ρ mv v
 cell:∀(i:Nat) (x:Str),ci.slots.idxOf? x=some i→ci.kinds.lookup x=some .cell→∃c w,env.cells.lookup x=some c∧h.IsCell c w∧∀mv,l[i]? =some (some mv)→∃v,w=some v∧VR D G ρ mv v
structure iU(ci:CI)(env:Env):Prop where
 kinds:env.scope.names=ci.kinds
 fn:env.scope.kind=.function
 az:env.globals=mainGlobals
 bi:env.builtins=builtinsNs
 nodup:(jy env).Nodup
structure Rep(D:cP)(h₀:Heap)(G:Fz)(ρ:List PR)(h:Hp)(s:Shared):Prop where
 base:∀b o,h₀.get? b=some o→G b o
 keep:∀b o,G b o→s.heap.get? b=some o
 sep:∀b o,G b o→b∉cD ρ
 nodup:(cD ρ).Nodup
 len:ρ.length=h.length
 objs:∀(i:Nat) (p:PR) (o:nK),ρ[i]? =some p→h[i]? =some o→OR D G ρ s.heap p o
structure gQ(W:List Addr)(s s':Shared):Prop where
 gens:s'.gens=s.gens
 drawn:s'.drawn=s.drawn
 os:s'.os=s.os
 keep:∀b o,b∉W→s.heap.get? b=some o→s'.heap.get? b=some o
theorem gQ.refl(W:List Addr)(s:Shared):gQ W s s:=⟨rfl,rfl,rfl,λ_ _ _ h=>h⟩
theorem gQ.heap{W:List Addr}{s:Shared}{h:Heap}{t:Nat}(k:∀b o,b∉W→s.heap.get? b=some o→h.get? b=some o):gQ W s {s with heap:=h,toks:=t}:=⟨rfl,rfl,rfl,k⟩
theorem gQ.toks{W:List Addr}{s:Shared}{t:Nat}:gQ W s {s with toks:=t}:=⟨rfl,rfl,rfl,λ_ _ _ h=>h⟩
theorem fX{ρ:List PR}{i:Nat}{p:PR}(h:ρ[i]? =some p){b:Addr}(hb:b∈iK p):b∈cD ρ:=List.mem_flatMap.mpr ⟨p,List.mem_of_getElem? h,hb⟩
theorem iC(ρ l:List PR):cD (ρ++l)=cD ρ++cD l:=by simp [cD]
structure fG(G G':Fz)(ρ cZ:List PR)(s s':Shared):Prop where
 g:jI G G'
 r:uR ρ cZ
 gn:∀b o,G' b o→G b o∨s.heap.get? b=none
 rn:∀b∈cD cZ,b∈cD ρ∨s.heap.get? b=none
 rs:∀b∈cD ρ,b∈cD cZ
 lv:∀b,s'.heap.get? b=none→s.heap.get? b=none
theorem fG.refl(G:Fz)(ρ:List PR)(s:Shared):fG G G ρ ρ s s:=⟨.refl _,.refl _,λ_ _ h=>.inl h,λ_ h=>.inl h,λ_ h=>h,λ_ h=>h⟩
theorem fG.same{G:Fz}{ρ:List PR}{s s':Shared}(h:∀b,s'.heap.get? b=none→s.heap.get? b=none):fG G G ρ ρ s s':=⟨.refl _,.refl _,λ_ _ h=>.inl h,λ_ h=>.inl h,λ_ h=>h,h⟩
theorem fG.trans{G G' Q5:Fz}{ρ cZ Q7:List PR}{s s' Ii:Shared}(x:fG G G' ρ cZ s s')(y:fG G' Q5 cZ Q7 s' Ii):fG G Q5 ρ Q7 s Ii where
 g:=x.g.trans y.g
 r:=x.r.trans y.r
 gn:=λb o h=>(y.gn b o h).elim (λq=>x.gn b o q) λq=>.inr (x.lv b q)
 rn:=λb h=>(y.rn b h).elim (λq=>x.rn b q) λq=>.inr (x.lv b q)
 rs:=λb h=>y.rs b (x.rs b h)
 lv:=λb q=>x.lv b (y.lv b q)
theorem gQ.seq{G G':Fz}{ρ cZ:List PR}{s s' Ii:Shared}{W:List Addr}(x:gQ (cD ρ++W) s s')(g:fG G G' ρ cZ s s')(y:gQ (cD cZ++W) s' Ii):gQ (cD ρ++W) s Ii:=
 ⟨y.gens.trans x.gens,y.drawn.trans x.drawn,y.os.trans x.os,λb o n e=>y.keep b o (λq=>by
  rcases List.mem_append.mp q with q|q
  ·rcases g.rn b q with q|q
   ·exact n (List.mem_append_left _ q)
   ·rw [q] at e;cases e
  ·exact n (List.mem_append_right _ q)) (x.keep b o n e)⟩
theorem gQ.Q8{G G':Fz}{ρ cZ:List PR}{s s' Ii:Shared}(x:gQ (cD ρ) s s')(g:fG G G' ρ cZ s s')(y:gQ (cD cZ) s' Ii):gQ (cD ρ) s Ii:=by
 have x':gQ (cD ρ++[]) s s':=by simpa using x
 have y':gQ (cD cZ++[]) s' Ii:=by simpa using y
 simpa using x'.seq g y'
theorem gQ.weaken{W W':List Addr}{s s':Shared}(x:gQ W s s')(h:∀b∈W,b∈W'):gQ W' s s':=⟨x.gens,x.drawn,x.os,λb o n e=>x.keep b o (λq=>n (h b q)) e⟩
theorem gQ.nL{W:List Addr}{ρ:List PR}{s s':Shared}(x:gQ (cD ρ) s s'):gQ (cD ρ++W) s s':=x.weaken λ_ h=>List.mem_append_left _ h
structure SR(D:cP)(h₀:Heap)(ci:CI)(env:Env)(G:Fz)(ρ:List PR)(l:Loc)(h:Hp)(s:Shared):Prop where
 rep:Rep D h₀ G ρ h s
 lr:LR D G ρ ci env l s.heap
 sg:∀b o,G b o→b∉jy env
 sr:∀b∈cD ρ,b∉jy env
 lt:∀b∈jy env,∃o,s.heap.get? b=some o
set_option tactic.hygienic true in
theorem mem_lookup{α:Type}{x:Str}{c:α}:∀{l:List (Str×α)},l.lookup x=some c→(x,c)∈l
 |[],h=>by cases h
 |(y,d)::r,h=>by
  rw [List.lookup_cons] at h;split at h
  ·rename_i q;cases h;rw [beq_iff_eq.mp q];exact .head _
  ·exact .tail _ (mem_lookup h)
theorem jJ{env:Env}{x:Str}{c:Addr}(h:env.cells.lookup x=some c):c∈jy env:=bR _ (List.mem_map_of_mem (mem_lookup h))
theorem LR.keep{D:cP}{G G':Fz}{ρ cZ:List PR}{ci:CI}{env:Env}{l:Loc}{h h':Heap}(x:LR D G ρ ci env l h)(hG:jI G G')(nV:uR ρ cZ)(hk:∀b∈jy env,∀o,h.get? b=some o→h'.get? b=some o):LR D G' cZ ci env l h' where
 len:=x.len
 aP:=by
  obtain ⟨m,hn,hm⟩:=x.aP;refine ⟨m,hn.at' λo e=>hk _ (cy ..) o e,λi y mv a b c=>?_⟩
  obtain ⟨v,e,r⟩:=hm i y mv a b c;exact ⟨v,e,VR.mono hG nV _ _ r⟩
 cell:=λi y a b=>by
  obtain ⟨c,w,e1,⟨o,e2,e3⟩,r⟩:=x.cell i y a b;refine ⟨c,w,e1,⟨o,hk _ (jJ e1) o e2,e3⟩,λmv q=>?_⟩
  obtain ⟨v,e,r⟩:=r mv q;exact ⟨v,e,VR.mono hG nV _ _ r⟩
theorem SR.after{D:cP}{h₀:Heap}{ci:CI}{env:Env}{G G':Fz}{ρ cZ:List PR}{l:Loc}{h h':Hp}{s s':Shared}(x:SR D h₀ ci env G ρ l h s)(g:fG G G' ρ cZ s s')(r:Rep D h₀ G' cZ h' s')(st:gQ (cD ρ) s s'):SR D h₀ ci env G' cZ l h' s' where
 rep:=r
 lr:=x.lr.keep g.g g.r λb hb o e=>st.keep b o (λq=>x.sr b q hb) e
 sg:=λb o hg hb=>(g.gn b o hg).elim (λq=>x.sg b o q hb) λq=>by obtain ⟨o',e⟩:=x.lt b hb;rw [q] at e;cases e
 sr:=λb hg hb=>(g.rn b hg).elim (λq=>x.sr b q hb) λq=>by obtain ⟨o',e⟩:=x.lt b hb;rw [q] at e;cases e
 lt:=λb hb=>by obtain ⟨o',e⟩:=x.lt b hb;exact ⟨o',st.keep b o' (λq=>x.sr b q hb) e⟩
section
variable {D:cP}{h₀:Heap}{G:Fz}{ρ:List PR}{h:Hp}{s:Shared}
theorem Rep.live(R:Rep D h₀ G ρ h s){b:Addr}(hb:b∈cD ρ):∃o,s.heap.get? b=some o:=by
 obtain ⟨p,hp,hb⟩:=List.mem_flatMap.mp hb;obtain ⟨i,hi⟩:=List.mem_iff_getElem?.mp hp;have hil:i< ρ.length:=by
  by_cases q:i< ρ.length
  ·exact q
  ·rw [List.getElem?_eq_none (Nat.le_of_not_lt q)] at hi;cases hi
 have hh:∃o,h[i]? =some o:=⟨_,List.getElem?_eq_getElem (by rw [← R.len];exact hil)⟩
 obtain ⟨o,ho⟩:=hh;have q:=R.objs i p o hi ho
 cases o with
 |list l=>obtain ⟨e,_,vs,⟨n,hx⟩,_⟩:=q;rw [iK,e] at hb;simp at hb;subst hb;exact ⟨_,hx⟩
 |inst c attrs=>
  obtain ⟨C,dx,m,_,e,hx,hn,_⟩:=q;rw [iK,e] at hb;simp at hb;rcases hb with rfl|rfl
  ·exact ⟨_,hx⟩
  ·obtain ⟨o,es,ep,h1,_⟩:=hn;exact ⟨o,h1⟩
theorem Rep.lt(R:Rep D h₀ G ρ h s){b:Addr}(hb:b∈cD ρ):b< s.heap.objs.size:=let ⟨_,e⟩:=R.live hb;Heap.lt_size e
theorem Rep.lv(R:Rep D h₀ G ρ h s){xA:Shared}(k:∀b o,b∉cD ρ→xA.heap.get? b=some o→s.heap.get? b=some o):∀b,s.heap.get? b=none→xA.heap.get? b=none:=λb q=>by
 cases e:xA.heap.get? b with
 |none=>rfl
 |some o=>
  by_cases z:b∈cD ρ
  ·obtain ⟨o',e'⟩:=R.live z;rw [q] at e';cases e'
  ·have:=k b o z e;rw [q] at this;cases this
theorem c8{h:Heap}{a:Addr}(ha:h.objs.size≤a):h.get? a=none:=by
 cases e:h.get? a with
 |none=>rfl
 |some o=>exact absurd (Heap.lt_size e) (Nat.not_lt.mpr ha)
theorem fH{h h':Heap}(k:∀b o,h.get? b=some o→h'.get? b=some o):∀b,h'.get? b=none→h.get? b=none:=λb q=>by
 cases e:h.get? b with
 |none=>rfl
 |some o=>have:=k b o e;rw [q] at this;cases this
theorem Rep.toks(R:Rep D h₀ G ρ h s){t:Nat}:Rep D h₀ G ρ h {s with toks:=t}:=⟨R.base,R.keep,R.sep,R.nodup,R.len,R.objs⟩
theorem Rep.keeps(R:Rep D h₀ G ρ h s){s':Shared}(k:∀b o,s.heap.get? b=some o→s'.heap.get? b=some o):Rep D h₀ G ρ h s':=⟨R.base,λb o g=>k b o (R.keep b o g),R.sep,R.nodup,R.len,λi p o a b=>(R.objs i p o a b).mono (.refl _) (.refl _) λb _ ob e=>k b ob e⟩
noncomputable def Fz.add(G:Fz)(a:Addr)(o:Obj):Fz:=λb ob=>G b ob∨(b=a∧ob=o)
theorem Fz.jh(G:Fz)(a:Addr)(o:Obj):jI G (G.add a o):=λ_ _ h=>.inl h
theorem Rep.freeze(R:Rep D h₀ G ρ h s){a:Addr}{o:Obj}(e:s.heap.get? a=some o)(ha:a∉cD ρ):Rep D h₀ (G.add a o) ρ h s where
 base:=λb ob q=>.inl (R.base b ob q)
 keep:=λb ob q=>q.elim (R.keep b ob) λq=>by rw [q.1,q.2];exact e
 sep:=λb ob q=>q.elim (R.sep b ob) λq=>by rw [q.1];exact ha
 nodup:=R.nodup
 len:=R.len
 objs:=λi p o a b=>(R.objs i p o a b).mono (Fz.jh _ _ _) (.refl _) λ_ _ _ e=>e
theorem Rep.push(R:Rep D h₀ G ρ h s)(o:Obj):Rep D h₀ G ρ h {s with heap:=s.heap.push o}:=R.keeps λ_ _ e=>Heap.get?_push_of_some o e
theorem Rep.iD(R:Rep D h₀ G ρ h s){a:Addr}(ha:s.heap.objs.size≤a):a∉cD ρ:=λq=>absurd (R.lt q) (Nat.not_lt.mpr ha)
theorem Rep.xB(R:Rep D h₀ G ρ h s)(o:Obj)(ho:o.isFreed=false):Rep D h₀ (G.add s.heap.objs.size o) ρ h {s with heap:=s.heap.push o}:=(R.push o).freeze (Heap.get?_push_size _ ho) (R.iD (bf _))
theorem fG.add(G:Fz)(ρ:List PR)(s s':Shared)(a:Addr)(o:Obj)(ha:s.heap.objs.size≤a)(hs:∀b,s'.heap.get? b=none→s.heap.get? b=none):fG G (G.add a o) ρ ρ s s' where
 g:=Fz.jh _ _ _
 r:=.refl _
 gn:=λb ob q=>q.elim .inl λq=>.inr (by rw [q.1];exact c8 ha)
 rn:=λ_ h=>.inl h
 rs:=λ_ h=>h
 lv:=hs
theorem gQ.push(W:List Addr)(s:Shared)(o:Obj):gQ W s {s with heap:=s.heap.push o}:=⟨rfl,rfl,rfl,λ_ _ _ e=>Heap.get?_push_of_some o e⟩
theorem dX(s:Shared)(o:Obj):∀b,(s.heap.push o).get? b=none→s.heap.get? b=none:=fH λ_ _ e=>Heap.get?_push_of_some o e
theorem Rep.setAt(R:Rep D h₀ G ρ h s){i:Nat}{p:PR}{o':nK}{s':Shared}(hp:ρ[i]? =some p)(k:∀b o,b∉iK p→s.heap.get? b=some o→s'.heap.get? b=some o)(ho:OR D G ρ s'.heap p o'):Rep D h₀ G ρ (h.set i o') s' where
 base:=R.base
 keep:=λb o g=>k b o (λq=>R.sep b o g (fX hp q)) (R.keep b o g)
 sep:=R.sep
 nodup:=R.nodup
 len:=by rw [List.length_set];exact R.len
 objs:=λj p' o hj sR=>by
  by_cases e:i=j
  ·subst e
   rw [hp] at hj;cases hj
   have:i< h.length:=by
    by_cases q:i< h.length
    ·exact q
    ·rw [List.getElem?_eq_none (by rw [List.length_set];exact Nat.le_of_not_lt q)] at sR;cases sR
   rw [List.getElem?_set_self this] at sR;cases sR
   exact ho
  ·rw [List.getElem?_set_ne e] at sR
   refine (R.objs j p' o hj sR).mono (.refl _) (.refl _) λb hb ob eb=>k b ob (λq=>?_) eb
   exact apart R.nodup hp hj e q hb
where
 apart:∀{ρ:List PR} {i j:Nat} {p p':PR},(cD ρ).Nodup→ρ[i]? =some p→ρ[j]? =some p'→i≠j→∀{b:Addr},b∈iK p→b∈iK p'→False
  |[],i,j,p,p',_,e,_,_,b,_,_=>by simp at e
  |q::r,i,j,p,p',nd,e,e',ne,b,hb,H9=>by
   have MI:(iK q++cD r).Nodup:=nd;rw [List.nodup_append] at MI
   cases i with
   |zero=>
    cases j with
    |zero=>exact ne rfl
    |succ j=>simp at e e';subst e;exact MI.2.2 b hb b (fX e' H9) rfl
   |succ i=>
    cases j with
    |zero=>simp at e e';subst e';exact MI.2.2 b H9 b (fX e hb) rfl
    |succ j=>simp at e e';exact apart MI.2.1 e e' (λq=>ne (by rw [q])) hb H9
theorem Rep.new(R:Rep D h₀ G ρ h s){p:PR}{o:nK}{s':Shared}(k:∀b ob,s.heap.get? b=some ob→s'.heap.get? b=some ob)(hn:∀b∈iK p,b∉cD ρ∧∀ob,¬ G b ob)(hd:(iK p).Nodup)(ho:OR D G (ρ++[p]) s'.heap p o):Rep D h₀ G (ρ++[p]) (h++[o]) s' where
 base:=R.base
 keep:=λb ob g=>k b ob (R.keep b ob g)
 sep:=λb ob g q=>by
  rw [iC] at q;rcases List.mem_append.mp q with q|q
  ·exact R.sep b ob g q
  ·exact (hn b (by simpa [cD] using q)).2 ob g
 nodup:=by
  rw [iC,List.nodup_append];refine ⟨R.nodup,by simpa [cD] using hd,λa ha b hb e=>?_⟩
  subst e;exact (hn a (by simpa [cD] using hb)).1 ha
 len:=by rw [aY,aY,R.len];rfl
 objs:=λj p' o' hj sR=>by
  by_cases e:j< ρ.length
  ·rw [List.getElem?_append_left e] at hj
   rw [List.getElem?_append_left (by rw [← R.len];exact e)] at sR
   exact (R.objs j p' o' hj sR).mono (.refl _) (.append _ _) λb _ ob eb=>k b ob eb
  ·have e:ρ.length≤j:=Nat.le_of_not_lt e
   rw [List.getElem?_append_right e] at hj;rw [List.getElem?_append_right (by rw [← R.len];exact e)] at sR
   have:j - ρ.length=0:=by
    by_cases q:j - ρ.length=0
    ·exact q
    ·rw [List.getElem?_eq_none (by simp;lia)] at hj;cases hj
   rw [this] at hj;rw [← R.len,this] at sR;simp at hj sR;subst hj sR;exact ho
theorem fG.new(G:Fz)(ρ:List PR)(p:PR)(s s':Shared)(hn:∀b∈iK p,s.heap.get? b=none)(hs:∀b,s'.heap.get? b=none→s.heap.get? b=none):fG G G ρ (ρ++[p]) s s' where
 g:=.refl _
 r:=.append _ _
 gn:=λ_ _ h=>.inl h
 rn:=λb q=>by
  rw [iC] at q;rcases List.mem_append.mp q with q|q
  ·exact .inl q
  ·exact .inr (hn b (by simpa [cD] using q))
 rs:=λb q=>by rw [iC];exact List.mem_append_left _ q
 lv:=hs
theorem Rep.Vc(R:Rep D h₀ G ρ h s)(b:Addr)(o:Obj)(g:G b o):b< s.heap.objs.size:=Heap.lt_size (R.keep b o g)
theorem gy(R:Rep D h₀ G ρ h s){o:Nat}{va:Value}(hv:VR D G ρ (.obj o) va){xs:List MV}(e:(h[o]?).bind dS=some xs):∃p vs,ρ[o]? =some p∧va=.ref p.1∧p.2=none∧xs.length≤aH∧s.heap.PlainList p.1 vs.toArray∧cY D G ρ xs vs:=by
 obtain ⟨ob,ho,e⟩:=aT.mp e;obtain ⟨p,hp,rfl⟩:=id hv
 cases ob with
 |inst c attrs=>exact (bx _ e.symm).elim
 |list l=>
  obtain ⟨hd,hl,vs,i8,hr⟩:=R.objs _ _ _ hp ho;cases e
  exact ⟨p,vs,hp,rfl,hd,hl,i8,hr⟩
end
end
section
open PySem PySem.W PySem.Calls PyProof.Rows PySem.SeqAt
theorem sS{α:Type}[DecidableEq α](a b:α):(a==b)=decide (a=b):=rfl
section
variable {D:cP}{h₀:Heap}{G:Fz}{ρ:List PR}{h:Hp}{s:Shared}{A:Around}{E:Value→Shared→Prop}
abbrev cQ(D:cP)(h₀:Heap)(G:Fz)(ρ:List PR)(s:Shared)(r:MV)(h':Hp)(Q:Value→Shared→Prop):Prop:=∀(v:Value) (s':Shared) (G':Fz) (cZ:List PR),fG G G' ρ cZ s s'→Rep D h₀ G' cZ h' s'→gQ (cD ρ) s s'→VR D G' cZ r v→Q v s'
theorem cQ.val{r:MV}{Q:Value→Shared→Prop}(k:cQ D h₀ G ρ s r h Q)(R:Rep D h₀ G ρ h s){v:Value}(hv:VR D G ρ r v)(t:Nat):Q v {s with toks:=t}:=k v _ G ρ (.same (λ_ h=>h)) R.toks .toks hv
theorem cQ.ir{r:MV}{Q:Value→Shared→Prop}(k:cQ D h₀ G ρ s r h Q)(R:Rep D h₀ G ρ h s){v:Value}(hv:VR D G ρ r v):Q v s:=k v s G ρ (.refl _ _ _) R (.refl _ _) hv
abbrev Bm(D:cP)(h₀:Heap)(G:Fz)(ρ:List PR)(s:Shared)(b:Bool)(h':Hp)(Q:Bool→Shared→Prop):Prop:=∀(s':Shared) (G':Fz) (cZ:List PR),fG G G' ρ cZ s s'→Rep D h₀ G' cZ h' s'→gQ (cD ρ) s s'→Q b s'
theorem Bm.val{b:Bool}{Q:Bool→Shared→Prop}(k:Bm D h₀ G ρ s b h Q)(R:Rep D h₀ G ρ h s)(t:Nat):Q b {s with toks:=t}:=k _ G ρ (.same (λ_ h=>h)) R.toks .toks
theorem Bm.ir{b:Bool}{Q:Bool→Shared→Prop}(k:Bm D h₀ G ρ s b h Q)(R:Rep D h₀ G ρ h s):Q b s:=k _ G ρ (.refl _ _ _) R (.refl _ _)
theorem cQ.upd{r:MV}{h':Hp}{Q:Value→Shared→Prop}(k:cQ D h₀ G ρ s r h' Q){s':Shared}(R:Rep D h₀ G ρ h' s')(st:gQ (cD ρ) s s'){v:Value}(hv:VR D G ρ r v):Q v s':=k v s' G ρ (.same (R.lv st.keep)) R st hv
theorem cQ.then{Q9:Fz}{Lp:List PR}{dJ:Shared}{r:MV}{h':Hp}{Q:Value→Shared→Prop}(k:cQ D h₀ G ρ s r h' Q)(g:fG G Q9 ρ Lp s dJ)(st:gQ (cD ρ) s dJ):cQ D h₀ Q9 Lp dJ r h' Q:=λv s' G' cZ g' R' CY hv=>k v s' G' cZ (g.trans g') R' (st.Q8 g CY) hv
theorem VR.bool{b:Bool}:VR D G ρ (.bool b) (.bool b):=by rfl
theorem VR.none:VR D G ρ .none .none:=by rfl
theorem VR.int{i:Int}{t:Tok}:VR D G ρ (.int i) (.int i t):=⟨t,rfl⟩
theorem VR.str{x:List Nat}{t:Tok}(hx:x.length≤aH):VR D G ρ (.str x) (.str (toStr x) t):=⟨hx,t,rfl⟩
theorem bu(x:List Nat):(toStr x).length=x.length:=by simp [toStr,Str.length]
theorem fQ(x:List Nat):(toStr x).cps.toList=x:=rfl
theorem dh:aH≤sizeLine:=by rw [sizeLine_eq];decide
theorem uS(x:Str):toStr x.cps.toList=x:=by simp [toStr]
theorem jZ{x y:List Nat}(e:toStr x=toStr y):x=y:=by
 have:=congrArg (λz:Str=>z.cps.toList) e
 simpa [toStr] using this
theorem k9{l:List MV}{vs:List Value}(hr:cY D G ρ l vs):vs.toArray.size=l.length:=by simp [hr.length]
theorem Ij{l:List MV}{vs:List Value}(hr:cY D G ρ l vs):vs.toArray.isEmpty=l.isEmpty:=by rw [Array.isEmpty,k9 hr];cases l<;>rfl
theorem Ik{l:List MV}{vs:List Value}(hr:cY D G ρ l vs)(hl:l.length≤aH):vs.toArray.size≤1000000:=by rw [k9 hr];exact hl
theorem oO{m:MV}{v:Value}{b:Bool}{Q:Bool→Shared→Prop}(R:Rep D h₀ G ρ h s)(hv:VR D G ρ m v)(e:Mine.truthy m h=some b)(k:Bm D h₀ G ρ s b h Q):
  wpAny (model D.prog D.w) A (PySem.truthy v) Q E s:=by
 cases m with
 |none=>cases (show v=.none from hv);cases e;exact truthy_none (k.ir R)
 |bool c=>cases (show v=.bool c from hv);cases e;exact wpAny_truthy_bool (k.ir R)
 |int i=>
  obtain ⟨t,rfl⟩:=id hv;cases e
  exact PyProof.Rows.truthy_int ((show (i !=0)= !decide (i=0) by rw [bne,sS])▸k.ir R)
 |str x=>
  obtain ⟨hx,t,rfl⟩:=id hv;cases e
  refine PySem.P.truthy_str (by rw [bu];unfold aH at hx;lia) ?_
  rw [bu];exact (show ((x.length:Int) !=0)= !x.isEmpty by cases x<;>rfl)▸k.val R _
 |obj i=>obtain ⟨l,e1,rfl⟩:=dR.mp e;obtain ⟨p,vs,_,rfl,_,hl,i8,hr⟩:=gy R hv e1;exact wpAny_truthy_list i8.isList (by have:=Ik hr hl;lia) (Ij hr▸k.val R _)
 |_=>exact (bx _ e.symm).elim
noncomputable def eV(x:MV)(v:Value):Bool:=match v,x with
 |.str a _,.str b=>a==toStr b
 |.int a _,.int b=>a==b
 |.none,.none=>true
 |_,_=>false
inductive uT:Value→Value→Bool→Prop
 |nn:uT .none .none true
 |ns (y:Str) (u:Tok):uT .none (.str y u) false
 |sn (x:Str) (t:Tok):uT (.str x t) .none false
 |ii (i:Int) (t:Tok) (j:Int) (u:Tok):uT (.int i t) (.int j u) (i==j)
 |ss (x:Str) (t:Tok) (y:Str) (u:Tok):uT (.str x t) (.str y u) (x==y)
theorem j0{v:Value}(h:VR D G ρ .none v):v=.none:=by exact h
theorem eH{i:Int}{v:Value}(h:VR D G ρ (.int i) v):∃t,v=.int i t:=by exact h
theorem dY{x:List Nat}{v:Value}(h:VR D G ρ (.str x) v):∃t,v=.str (toStr x) t:=by exact h.2
theorem Bo(x y:List Nat):(toStr x==toStr y)=decide (x=y):=by rw [sS];exact decide_eq_decide.mpr ⟨jZ,congrArg _⟩
theorem sU{a x:MV}{va vx:Value}{b:Bool}(ha:VR D G ρ a va)(hx:VR D G ρ x vx)(e:iR a x=some b):uT va vx b∧eV x va=b:=by
 cases a with
 |none=>
  rw [j0 ha]
  cases x with
  |none=>rw [j0 hx];exact aI e▸⟨.nn,rfl⟩
  |str y=>obtain ⟨u,rfl⟩:=dY hx;exact aI e▸⟨.ns _ _,rfl⟩
  |_=>exact no e
 |int i=>
  obtain ⟨u,rfl⟩:=eH ha
  cases x with
  |int j=>obtain ⟨t,rfl⟩:=eH hx;exact aI e▸sS i j▸⟨.ii _ _ _ _,rfl⟩
  |_=>exact no e
 |str y=>
  obtain ⟨u,rfl⟩:=dY ha
  cases x with
  |none=>rw [j0 hx];exact aI e▸⟨.sn _ _,rfl⟩
  |str z=>obtain ⟨t,rfl⟩:=dY hx;exact aI e▸Bo y z▸⟨.ss _ _ _ _,rfl⟩
  |_=>exact no e
 |_=>exact no e
theorem Dk{a x:MV}{va vx:Value}{b:Bool}(A:Around)(s:Shared)(ha:VR D G ρ a va)(hx:VR D G ρ x vx)(e:iR a x=some b):EqAt A s va vx b∧eV x va=b:=by
 obtain ⟨h,h'⟩:=sU ha hx e;refine ⟨?_,h'⟩;clear e ha hx h'
 cases h with
 |nn=>exact .same _
 |ns=>exact .none_str _ _
 |sn=>exact .str_none _ _
 |ii=>exact .int_int _ _ _ _
 |ss=>exact .str_str _ _ _ _
theorem xC{x y:MV}{r:List MV}{b:Bool}(e:eu x (y::r)=some b):∃b1 c1,iR y x=some b1∧eu x r=some c1∧(b1||c1)=b:=by
 have e:(match iR y x,eu x r with|some b,some c=>some (b||c)|_,_=>none)=some b:=e
 cases e1:iR y x with
 |none=>rw [e1] at e;exact no e
 |some b1=>cases e2:eu x r with
  |none=>rw [e1,e2] at e;exact no e
  |some c1=>rw [e1,e2] at e;exact ⟨b1,c1,rfl,rfl,aI e⟩
theorem xD{x:MV}{vx:Value}(A:Around)(s:Shared)(hx:VR D G ρ x vx){l:List MV}:∀{vs:List Value} {b:Bool},cY D G ρ l vs→eu x l=some b→(∀y∈vs,EqAt A s y vx (eV x y))∧vs.any (eV x)=b:=by
 induction l with
 |nil=>exact λhr e=>hr.nil_inv▸⟨λ_ h=>(dm h).elim,aI e⟩
 |cons y r ih=>intro vs b hr e;obtain ⟨v,ws,rfl,hv,hw⟩:=hr.cons_inv;obtain ⟨b1,c1,e1,e2,e3⟩:=xC e;have q:=Dk A s hv hx e1;have k:=ih hw e2;exact ⟨λz hz=>(bq.mp hz).elim (λe=>e▸q.2.symm▸q.1) (k.1 z),by rw [List.any_cons,q.2,k.2,e3]⟩
theorem Ra{prog:Program}{w:World}{va vx:Value}{b:Bool}{Q:Value→Shared→Prop}(h:uT va vx b)(k:Q (.bool b) s):wpAny (model prog w) A (compareOp .Eq va vx) Q E s:=by
 cases h with
 |nn=>exact EqNone.eq_none_none k
 |ns=>exact EqNone.eq_none_str k
 |sn=>exact EqNone.eq_str_none k
 |ii=>exact PyProof.Rows.eq_int k
 |ss=>exact PyProof.Rows.eq_str k
theorem Rb{prog:Program}{w:World}{va vx:Value}{b:Bool}{Q:Value→Shared→Prop}(h:uT va vx b)(k:Q (.bool (!b)) s):wpAny (model prog w) A (compareOp .NotEq va vx) Q E s:=by
 cases h with
 |nn=>exact EqNone.ne_none_none k
 |ns=>exact EqNone.ne_none_str k
 |sn=>exact EqNone.ne_str_none k
 |ii=>exact PyProof.Rows.ne_int k
 |ss=>exact PyProof.Rows.ne_str k
theorem MJ{a x:MV}{va vx:Value}{b:Bool}{Q:Value→Shared→Prop}(R:Rep D h₀ G ρ h s)(ha:VR D G ρ a va)(hx:VR D G ρ x vx)(e:iR a x=some b)(k:cQ D h₀ G ρ s (.bool b) h Q):wpAny (model D.prog D.w) A (compareOp .Eq va vx) Q E s:=Ra (sU ha hx e).1 (k.ir R .bool)
theorem MK{a x:MV}{va vx:Value}{b:Bool}{Q:Value→Shared→Prop}(R:Rep D h₀ G ρ h s)(ha:VR D G ρ a va)(hx:VR D G ρ x vx)(e:iR a x=some b)(k:cQ D h₀ G ρ s (.bool (!b)) h Q):wpAny (model D.prog D.w) A (compareOp .NotEq va vx) Q E s:=Rb (sU ha hx e).1 (k.ir R .bool)
end
section
variable {D:cP}{h₀:Heap}{G:Fz}{ρ:List PR}{h:Hp}{s:Shared}{A:Around}{E:Value→Shared→Prop}
theorem ji{y:MV}{ks:List MV}(e:strKeys (y::ks)=true):(∃x,y=.str x)∧strKeys ks=true:=by
 cases y with
 |str x=>exact ⟨⟨x,rfl⟩,e⟩
 |_=>exact Bool.noConfusion e
theorem jk{y:MV}{ks:List MV}(e:intKeys (y::ks)=true):(∃x,y=.int x)∧intKeys ks=true:=by
 cases y with
 |int x=>exact ⟨⟨x,rfl⟩,e⟩
 |_=>exact Bool.noConfusion e
theorem jK{ks:List MV}(e:strKeys ks=true){k:MV}(h:k∈ks):∃x,k=.str x:=by
 induction ks with
 |nil=>exact (dm h).elim
 |cons y ks ih=>exact (bq.mp h).elim (λq=>q▸(ji e).1) (ih (ji e).2)
theorem m6{ks:List MV}(e:intKeys ks=true){k:MV}(h:k∈ks):∃x,k=.int x:=by
 induction ks with
 |nil=>exact (dm h).elim
 |cons y ks ih=>exact (bq.mp h).elim (λq=>q▸(jk e).1) (ih (jk e).2)
theorem oQ{K:Type}(P:K→Value→Bool)(es:List DictEntry)(k:K):findBy P es.toArray k=(es.find? λe=>P k e.key).map (·.val):=by unfold findBy;rw [List.find?_toArray]
inductive oR(D:cP)(G:Fz)(ρ:List PR):List MV→List MV→List DictEntry→Prop
 |nil:oR D G ρ [] [] []
 |cons {k v ks vs e es}:uQ D.w k e→VR D G ρ v e.val→oR D G ρ ks vs es→oR D G ρ (k::ks) (v::vs) (e::es)
theorem zk{ks:List MV}:∀{vs:List MV} {es:List DictEntry},ks.length=es.length→(∀(j:Nat) (k:MV) (e:DictEntry),ks[j]? =some k→es[j]? =some e→uQ D.w k e)→cY D G ρ vs (es.map (·.val))→oR D G ρ ks vs es:=by
 induction ks with
 |nil=>
  intro vs es hl hk hv;obtain rfl:=List.eq_nil_of_length_eq_zero hl.symm
  cases vs with
  |nil=>exact .nil
  |cons v vs=>exact absurd hv.length (Nat.succ_ne_zero _)
 |cons k ks ih=>
  intro vs es hl hk hv
  cases es with
  |nil=>exact absurd hl (Nat.succ_ne_zero _)
  |cons e es=>cases vs with
   |nil=>exact absurd hv.length.symm (Nat.succ_ne_zero _)
   |cons v vs=>
    obtain ⟨v',ws,e1,a,b⟩:=hv.cons_inv;cases e1
    exact .cons (hk 0 k e rfl rfl) a (ih (Nat.succ.inj hl) (λj k e a b=>hk (j+1) k e a b) b)
theorem oR.all{P:DictEntry→Prop}{ks vs:List MV}{es:List DictEntry}(H:oR D G ρ ks vs es)(q:∀k∈ks,∀e,uQ D.w k e→P e):∀e∈es,P e:=by
 induction H with
 |nil=>exact λe h=>(dm h).elim
 |cons k v _ ih=>exact λe h=>(bq.mp h).elim (λz=>z▸q _ (cy ..) _ k) (ih (λk h=>q k (bR _ h)) e)
inductive P4(D:cP)(G:Fz)(ρ:List PR):Option MV→Option Value→Prop
 |no:P4 D G ρ none none
 |so {m v}:VR D G ρ m v→P4 D G ρ (some m) (some v)
theorem P4.isSome{r:Option MV}{o:Option Value}(h:P4 D G ρ r o):o.isSome=r.isSome:=by cases h<;>rfl
abbrev Lq{κ:Type}[DecidableEq κ](K:KeyKind D.prog D.w κ)(k:MV)(y:κ):Prop:=∀e,uQ D.w k e→K.is y e.key=true∧e.hash=K.hash y
theorem ML(x:List Nat):Lq (strKind D.prog D.w) (.str x) (toStr x):=λe h=>h.elim λt q=>⟨q.1▸strKind_is _ _ _ _,q.2⟩
theorem MM(i:Int):Lq (intKind D.prog D.w) (.int i) i:=λe h=>h.elim λt q=>⟨q.1▸decide_eq_true rfl,q.2⟩
theorem oR.find{κ:Type}[DecidableEq κ](K:KeyKind D.prog D.w κ){x:κ}{get:List MV→List MV→Option (Option MV)}(g0:get [] []=some none)(g1:∀{k v ks vs r},get (k::ks) (v::vs)=some r→∃y,Lq K k y∧((x=y∧r=some v)∨(x≠y∧get ks vs=some r)))
  {ks vs:List MV} {es:List DictEntry} (H:oR D G ρ ks vs es):∀{r:Option MV},get ks vs=some r→P4 D G ρ r ((es.find? λe=>K.is x e.key).map (·.val)):=by
 induction H with
 |nil=>exact λe=>bX (g0.symm.trans e)▸.no
 |cons k v _ ih=>
  intro r e;obtain ⟨y,ky,q⟩:=g1 e;have f:=K.is_eq_decide (ky _ k).1 x;rcases q with ⟨q,rfl⟩|⟨q,e⟩
  ·rw [List.find?_cons,f,decide_eq_true q];exact .so v
  ·rw [List.find?_cons,f,decide_eq_false q];exact ih e
theorem dgS{x:List Nat}{k v:MV}{ks vs:List MV}{r:Option MV}(e:kY x (k::ks) (v::vs)=some r):∃y,Lq (strKind D.prog D.w) k y∧((toStr x=y∧r=some v)∨(toStr x≠y∧kY x ks vs=some r)):=by
 cases k with
 |str y=>
  have e:(if y=x then some (some v) else kY x ks vs)=some r:=e;refine ⟨toStr y,ML y,?_⟩
  by_cases q:y=x
  ·rw [if_pos q] at e;exact .inl ⟨congrArg toStr q.symm,(bX e).symm⟩
  ·rw [if_neg q] at e;exact .inr ⟨λz=>q (jZ z).symm,e⟩
 |_=>exact (bx _ e.symm).elim
theorem dgI{x:Int}{k v:MV}{ks vs:List MV}{r:Option MV}(e:kZ x (k::ks) (v::vs)=some r):∃y,Lq (intKind D.prog D.w) k y∧((x=y∧r=some v)∨(x≠y∧kZ x ks vs=some r)):=by
 cases k with
 |int y=>
  have e:(if y=x then some (some v) else kZ x ks vs)=some r:=e;refine ⟨y,MM y,?_⟩
  by_cases q:y=x
  ·rw [if_pos q] at e;exact .inl ⟨q.symm,(bX e).symm⟩
  ·rw [if_neg q] at e;exact .inr ⟨λz=>q z.symm,e⟩
 |_=>exact (bx _ e.symm).elim
inductive Look(D:cP)(G:Fz)(ρ:List PR)(s:Shared)(vk:Value)(r:Option MV):Value→Prop
 |mk {κ:Type} [DecidableEq κ] (K:KeyKind D.prog D.w κ) (d:Addr) (x:κ) (f:κ→Option Value):(d==sysModules)=false→K.is x vk=true→s.heap.MapOf K d f→P4 D G ρ r (f x)→Look D G ρ s vk r (.ref d)
theorem zl{κ:Type}[DecidableEq κ](K:KeyKind D.prog D.w κ){a:Addr}{o:Obj}{es:List DictEntry}{n:Nat}{ks vs:List MV}{r:Option MV}{x:κ}{vk:Value}{get:List MV→List MV→Option (Option MV)}(hs:a≠sysModules)(g:s.heap.get? a=some o)(hx:o.ExactDict)(MN:o.data=.dict es.toArray n)(H:oR D G ρ ks vs es)(hk:K.is x vk=true)(ka:∀k∈ks,∃y,Lq K k y)
  (g0:get [] []=some none) (g1:∀{k v ks vs r},get (k::ks) (v::vs)=some r→∃y,Lq K k y∧((x=y∧r=some v)∨(x≠y∧get ks vs=some r))) (e:get ks vs=some r):Look D G ρ s vk r (.ref a):=
 .mk K a x (λk=>findBy K.is es.toArray k) (beq_eq_false_iff_ne.mpr hs) hk ⟨o,es.toArray,n,g,hx,MN,λen P5=>H.all (P:=λen=>∃k,K.is k en.key=true∧en.hash=K.hash k) (λk hk e kr=>(ka k hk).imp λy q=>q e kr) en (Array.mem_toList_iff.mpr P5),λ_=>rfl⟩ ((oQ K.is es x).symm▸H.find K g0 g1 e)
theorem oS{k:MV}{ks vs:List MV}{vd vk:Value}{r:Option MV}(R:Rep D h₀ G ρ h s)(hd:VR D G ρ (.jD ks vs) vd)(hk:VR D G ρ k vk)(e:jF k ks vs=some r):Look D G ρ s vk r vd:=by
 obtain ⟨a,o,es,n,rfl,hs,P6,g,hx,MN,hl,Il,hv⟩:=hd;have H:=zk hl Il hv
 cases k with
 |int i=>
  obtain ⟨t,rfl⟩:=eH hk;have ik:intKeys ks=true:=P6.elim (λq=>by
   cases ks with
   |nil=>rfl
   |cons k ks=>obtain ⟨y,rfl⟩:=(ji q).1;cases vs<;>exact (bx _ e.symm).elim) id
  exact zl (intKind D.prog D.w) hs (R.keep _ _ g) hx MN H (decide_eq_true rfl) (λk hk=>by obtain ⟨y,rfl⟩:=m6 ik hk;exact ⟨y,MM y⟩) rfl dgI e
 |str x=>
  obtain ⟨t,rfl⟩:=dY hk;have ik:strKeys ks=true:=P6.elim id λq=>by
   cases ks with
   |nil=>rfl
   |cons k ks=>obtain ⟨y,rfl⟩:=(jk q).1;cases vs<;>exact (bx _ e.symm).elim
  exact zl (strKind D.prog D.w) hs (R.keep _ _ g) hx MN H (strKind_is _ _ _ _) (λk hk=>by obtain ⟨y,rfl⟩:=jK ik hk;exact ⟨_,ML y⟩) rfl dgS e
 |_=>exact (bx _ e.symm).elim
theorem MO{k:MV}{ks vs:List MV}{vd vk:Value}{r:Option MV}{Q:Value→Shared→Prop}(R:Rep D h₀ G ρ h s)(hd:VR D G ρ (.jD ks vs) vd)(hk:VR D G ρ k vk)(e:jF k ks vs=some r)(K:cQ D h₀ G ρ s (.bool r.isSome) h Q):
  wpAny (model D.prog D.w) A (compareOp .In vk vd) Q E s:=by
 cases oS R hd hk e with
 |mk Kd d x f hs hx hm hr=>exact wpAny_in_of hx hs hm (hr.isSome▸K.val R .bool _)
theorem Bp{k:MV}{ks vs:List MV}{vd vk:Value}{r:Option MV}{Q:Value→Shared→Prop}(R:Rep D h₀ G ρ h s)(hd:VR D G ρ (.jD ks vs) vd)(hk:VR D G ρ k vk)(e:jF k ks vs=some r)(K:cQ D h₀ G ρ s (.bool (!r.isSome)) h Q):
  wpAny (model D.prog D.w) A (compareOp .NotIn vk vd) Q E s:=by
 cases oS R hd hk e with
 |mk Kd d x f hs hx hm hr=>exact wpAny_notIn_of hx hs hm (hr.isSome▸K.val R .bool _)
theorem Dl{k:MV}{ks vs:List MV}{vd vk:Value}{r:MV}{Q:Value→Shared→Prop}(R:Rep D h₀ G ρ h s)(hd:VR D G ρ (.jD ks vs) vd)(hk:VR D G ρ k vk)(e:jF k ks vs=some (some r))(K:cQ D h₀ G ρ s r h Q):
  ∃d,vd=.ref d∧s.TypeIs (.ref d) "dict"∧wpAny (model D.prog D.w) A (getItem vd vk) Q E s:=by
 cases oS R hd hk e with
 |mk Kd d x f hs hx hm hr=>
  generalize hf:f x=z at hr
  cases hr with
  |so hv=>exact ⟨d,rfl,hm.typeIs,wpAny_getItem_of hx hm hf (K.val R hv _)⟩
theorem oU:∀(x y:List Nat),oH x y= !decide (y< x)
 |[],y=>by have:¬ y< []:=List.not_lt_nil y;simp [oH,this]
 |a::r,[]=>by simp [oH]
 |a::r,b::q=>by
  unfold oH;rw [oU r q]
  by_cases h1:a< b
  ·have:¬ (b::q< a::r):=by
    rw [List.cons_lt_cons_iff];lia
   simp [h1,this]
  ·by_cases h2:a=b
   ·subst h2
    have:(a::q< a::r)↔q< r:=by rw [List.cons_lt_cons_iff];simp
    simp [this]
   ·have:(b::q< a::r):=by rw [List.cons_lt_cons_iff];lia
    simp [h1,h2,this]
theorem oV{c:Nat}{x:List Nat}:Txt.contains (toStr x) (toStr [c])=x.contains c:=by
 have:=StrLaws.found_one (toStr x) c;show (!(Builtin.Str.occurrences (toStr x) ⟨#[c]⟩ 0 (toStr x).length 1).isEmpty)=_
 rw [this];rw [List.contains_eq_mem,fQ]
theorem oW{m:MV}{v:Value}(h:VR D G ρ m v):handedIn v=true∧(v==Value.none)=isNone m:=by
 cases m with
 |none=>obtain rfl:v=.none:=h;exact ⟨rfl,rfl⟩
 |bool b=>obtain rfl:v=.bool b:=h;exact ⟨rfl,rfl⟩
 |int i=>obtain ⟨t,rfl⟩:=h;exact ⟨rfl,rfl⟩
 |str s=>obtain ⟨_,t,rfl⟩:=h;exact ⟨rfl,rfl⟩
 |tup l=>obtain ⟨_,a,o,vs,n,rfl,_⟩:=h;exact ⟨rfl,rfl⟩
 |lst l=>obtain ⟨_,a,o,vs,n,rfl,_⟩:=h;exact ⟨rfl,rfl⟩
 |jD ks vs=>obtain ⟨a,o,es,n,rfl,_⟩:=h;exact ⟨rfl,rfl⟩
 |fU c vs=>obtain ⟨x,C,dx,o,m,ws,rfl,_⟩:=h;exact ⟨rfl,rfl⟩
 |obj i=>obtain ⟨p,_,rfl⟩:=h;exact ⟨rfl,rfl⟩
 |fn i=>obtain ⟨a,_,rfl⟩:=h;exact ⟨rfl,rfl⟩
 |cls i=>obtain ⟨a,_,rfl⟩:=h;exact ⟨rfl,rfl⟩
 |bm o f=>obtain ⟨q,fa,p,rfl,_⟩:=h;exact ⟨rfl,rfl⟩
 |bi b=>obtain rfl:v=b.val:=h;exact ⟨by cases b<;>decide+kernel,by cases b<;>rfl⟩
theorem in_list{a:MV}{va vx:Value}{l:List MV}{b:Bool}(R:Rep D h₀ G ρ h s)(ha:VR D G ρ a va)(hx:VR D G ρ (.lst l) vx)(e:eu a l=some b)(A:Around):∃d vs,vx=.ref d∧s.heap.IsList d vs∧(∀y∈vs,EqAt A s y va (eV a y))∧vs.any (eV a)=b:=by obtain ⟨hl,d,o,vs,n,rfl,g,hc,hd,hr⟩:=hx;have q:=xD A s ha hr e;exact ⟨d,vs.toArray,rfl,⟨o,R.keep _ _ g,hc,n,hd⟩,λy hy=>q.1 y (Array.mem_toList_iff.mpr hy),Array.any_toList.symm.trans q.2⟩
theorem Dm{a x:MV}{va vx:Value}{b:Bool}{Q:Value→Shared→Prop}(R:Rep D h₀ G ρ h s)(ha:VR D G ρ a va)(hx:VR D G ρ x vx)(e:dz.xu a x=some b):
  (cQ D h₀ G ρ s (.bool b) h Q→wpAny (model D.prog D.w) A (compareOp .In va vx) Q E s)∧(cQ D h₀ G ρ s (.bool (!b)) h Q→wpAny (model D.prog D.w) A (compareOp .NotIn va vx) Q E s):=by
 rcases or_some e with e|⟨_,e⟩
 ·obtain ⟨z,e1,e⟩:=aT.mp e
  obtain ⟨c,e2,rfl⟩:=dR.mp e
  cases bI e1
  cases jX e2
  obtain ⟨t,rfl⟩:=dY ha;obtain ⟨u,rfl⟩:=dY hx;exact ⟨λk=>PySem.SB.contains (oV▸k.ir R .bool),λk=>PySem.SB.notContains (oV▸k.ir R .bool)⟩
 rcases or_some e with e|⟨_,e⟩
 ·obtain ⟨l,e1,e⟩:=aT.mp e
  cases b8 e1
  obtain ⟨d,vs,rfl,hl,q1,q2⟩:=in_list R ha hx e A.in1;exact ⟨λk=>in_listAt (eV a) hl q1 (q2▸k.ir R .bool),λk=>notIn_listAt (eV a) hl q1 (q2▸k.ir R .bool)⟩
 ·obtain ⟨d,e1,e⟩:=aT.mp e
  obtain ⟨r,e2,rfl⟩:=dR.mp e
  cases iQ e1
  exact ⟨λk=>MO R hx ha e2 k,λk=>Bp R hx ha e2 k⟩
theorem nW{f:Int→Int→Bool}{g:Option (List Nat→List Nat→Bool)}{a x:MV}{va vx:Value}{b:Bool}{P:Value→Value→Prop}(ha:VR D G ρ a va)(hx:VR D G ρ x vx)(e:mX f g a x=some b)
  (h1:∀i t j u,f i j=b→P (.int i t) (.int j u)) (h2:∀g' p q,g=some g'→∀t u,g' p q=b→P (.str (toStr p) t) (.str (toStr q) u)):P va vx:=by
 cases a with
 |int i=>
  cases x with
  |int j=>obtain ⟨t,rfl⟩:=eH ha;obtain ⟨u,rfl⟩:=eH hx;exact h1 _ _ _ _ (bX e)
  |_=>exact (bx b e.symm).elim
 |str p=>
  cases x with
  |str q=>
   obtain ⟨t,rfl⟩:=dY ha;obtain ⟨u,rfl⟩:=dY hx;obtain ⟨g',e1,e2⟩:=dR.mp (show g.map (λg=>g p q)=some b from e)
   exact h2 g' p q e1 _ _ e2
  |_=>exact (bx b e.symm).elim
 |_=>exact (bx b e.symm).elim
theorem Dn{f:Bool→Bool}{a x:MV}{b:Bool}(e:(match x with|.none=>some (f (isNone a))|_=>none)=some b):x=.none∧f (isNone a)=b:=by
 cases x with
 |none=>exact ⟨rfl,bX e⟩
 |_=>exact (bx b e.symm).elim
theorem Im{op:CmpOp}{a x:MV}{va vx:Value}{b:Bool}{Q:Value→Shared→Prop}(R:Rep D h₀ G ρ h s)(ha:VR D G ρ a va)(hx:VR D G ρ x vx)(e:dz op a x=some b)(k:cQ D h₀ G ρ s (.bool b) h Q):
  wpAny (model D.prog D.w) A (compareOp op va vx) Q E s:=by
 cases op with
 |Eq=>exact MJ R ha hx e k
 |NotEq=>
  obtain ⟨c,e1,rfl⟩:=dR.mp (show (iR a x).map (!·)=some b from e)
  exact MK R ha hx e1 k
 |Lt=>
  refine nW (P:=λva vx=>wpAny (model D.prog D.w) A (compareOp .Lt va vx) Q E s) ha hx e (λi t j u q=>PyProof.Rows.lt_int (q▸k.ir R .bool)) λg p q hg t u hb=>PyProof.Rows.lt_str ?_
  cases hg
  rw [fQ,fQ];have:strLt p q=decide (p< q):=by unfold strLt;rw [oU];simp
  rw [← this,hb];exact k.ir R .bool
 |LtE=>
  refine nW (P:=λva vx=>wpAny (model D.prog D.w) A (compareOp .LtE va vx) Q E s) ha hx e (λi t j u q=>PyProof.Rows.le_int (q▸k.ir R .bool)) λg p q hg t u hb=>PySem.P.le_str ?_
  cases hg
  rw [fQ,fQ, ← oU,hb];exact k.ir R .bool
 |Gt=>exact nW (P:=λva vx=>wpAny (model D.prog D.w) A (compareOp .Gt va vx) Q E s) ha hx e (λi t j u q=>PyProof.Rows.gt_int (q▸k.ir R .bool)) λg p q hg=>by cases hg
 |GtE=>exact nW (P:=λva vx=>wpAny (model D.prog D.w) A (compareOp .GtE va vx) Q E s) ha hx e (λi t j u q=>PyProof.Rows.ge_int (q▸k.ir R .bool)) λg p q hg=>by cases hg
 |Is=>obtain ⟨q,q'⟩:=Dn (f:=id) e;subst q;subst q';rw [j0 hx];refine PyProof.Rows.is_none_gen ?_;have:(va==Value.none)=isNone a:=(oW ha).2;rw [this];exact k.ir R .bool
 |IsNot=>obtain ⟨q,q'⟩:=Dn (f:=not) e;subst q;subst q';rw [j0 hx];refine PySem.isNot_none ?_;have:(va==Value.none)=isNone a:=(oW ha).2;rw [this];exact k.ir R .bool
 |In=>exact (Dm R ha hx e).1 k
 |NotIn=>
  obtain ⟨c,e1,rfl⟩:=dR.mp (show (dz.xu a x).map (!·)=some b from e)
  exact (Dm R ha hx e1).2 k
end
noncomputable def Bq{α:Type}(S:Setting):Sem α→Nat→Option (α×Nat)
 |.pure a,T=>some (a,T)
 |.rule _ k,T=>Bq S (k ()) T
 |.point _ k,T=>Bq S (k ()) T
 |.fresh k,T=>Bq S (k T) (T+1)
 |.ask k,T=>Bq S (k S) T
 |_,_=>none
theorem xE{α:Type}{M:Model}{Γ:PySem.Ctx}{Q:α→Pos→Shared→Prop}{E:Value→Pos→Shared→Prop}{p:Pos}{a:α}{T:Nat}(t:Sem α):∀{s:Shared},Bq ⟨M.prog,M.w.params⟩ t s.toks=some (a,T)→Q a p {s with toks:=T}→Sem.wp M Γ t Q E p s:=by
 induction t with
 |pure b=>intro s e q;cases e;exact q
 |rule _ k ih=>exact λe q=>ih () e q
 |point _ k ih=>exact λe q=>ih () e q
 |fresh k ih=>exact λ{s} e q=>ih s.toks (s:={s with toks:=s.toks+1}) e q
 |ask k ih=>exact λe q=>ih _ e q
 |_=>exact λe=>no e
section
variable {D:cP}{s:Shared}{A:Around}{E:Value→Shared→Prop}
theorem sV{X T:Str}{n:Int}(hd:n.natAbs.log2< 1920)(e:∀(S:Setting) (t u k:Tok),Bq S (Builtin.«str.__mod__» ⟨[.str X t,.int n u],[]⟩) k=some (.done (.ret (.str T k)),k+1)){t u:Tok}{Q:Value→Shared→Prop}(k:∀t' c,Q (.str T t') {s with toks:=c}):
  wpAny (model D.prog D.w) A (binaryOp .Mod (.str X t) (.int n u)) Q E s:=
 KPc.mod_lit rfl hd (λ_ _=>KPc.meets_of λ_ _ _ s _ _ k _ _ _=>xE _ (e _ t u s.toks) (k _ _)) k
theorem MP{t u:Tok}{Q:Value→Shared→Prop}(k:∀t' c,Q (.str (Str.ofString "\\xE9") t') {s with toks:=c}):wpAny (model D.prog D.w) A (binaryOp .Mod (.str (Str.ofString "\\x%02X") t) (.int 233 u)) Q E s:=sV (by decide+kernel) (λ_ _ _ _=>by kernel_rfl) k
theorem Dp{t u:Tok}{Q:Value→Shared→Prop}(k:∀t' c,Q (.str (Str.ofString "\\u20AC") t') {s with toks:=c}):wpAny (model D.prog D.w) A (binaryOp .Mod (.str (Str.ofString "\\u%04X") t) (.int 8364 u)) Q E s:=sV (by decide+kernel) (λ_ _ _ _=>by kernel_rfl) k
theorem Br{t u:Tok}{Q:Value→Shared→Prop}(k:∀t' c,Q (.str (Str.ofString "\\U0001F600") t') {s with toks:=c}):wpAny (model D.prog D.w) A (binaryOp .Mod (.str (Str.ofString "\\U%08X") t) (.int 128512 u)) Q E s:=sV (by decide+kernel) (λ_ _ _ _=>by kernel_rfl) k
end
section
variable {D:cP}{h₀:Heap}{G:Fz}{ρ:List PR}{h:Hp}{s:Shared}{A:Around}{E:Value→Shared→Prop}
theorem fm{m:MV}{v:Value}{l:List MV}(R:Rep D h₀ G ρ h s)(hv:VR D G ρ m v)(e:listOf m h=some l):∃a vs,v=.ref a∧s.heap.IsList a vs.toArray∧cY D G ρ l vs∧l.length≤aH:=by
 rcases or_some e with e|⟨_,e⟩
 ·cases b8 e
  obtain ⟨hl,a,o,vs,n,rfl,g,hc,hd,hr⟩:=hv;exact ⟨a,vs,rfl,⟨o,R.keep _ _ g,hc,n,hd⟩,hr,hl⟩
 ·obtain ⟨o,e1,e⟩:=aT.mp e
  cases di e1
  obtain ⟨p,vs,_,rfl,_,hl,i8,hr⟩:=gy R hv e;exact ⟨p.1,vs,rfl,i8.isList,hr,hl⟩
theorem iL{l:List MV}{vs:List Value}{Q:Value→Shared→Prop}(R:Rep D h₀ G ρ h s)(hr:cY D G ρ l vs)(hl:l.length≤aH)(k:cQ D h₀ G ρ s (.lst l) h Q):
  Q (.ref s.heap.objs.size) {s with heap:=s.heap.push {cls:=.type "list",data:=.seq vs.toArray}}:=
 k _ _ _ _ (.add G ρ s _ _ _ (bf _) (dX s _)) (R.xB _ rfl) (.push _ s _) (by exact ⟨hl,_,_,vs,0,rfl,.inr ⟨rfl,rfl⟩,rfl,rfl,cY.mono (Fz.jh _ _ _) (.refl _) _ _ hr⟩)
theorem sW{a x:MV}{va vx:Value}{l1 l2:List MV}{Q:Value→Shared→Prop}(R:Rep D h₀ G ρ h s)(ha:VR D G ρ a va)(hx:VR D G ρ x vx)(e1:listOf a h=some l1)(e2:listOf x h=some l2)(hz:l1.length+l2.length≤aH)
  (k:cQ D h₀ G ρ s (.lst (l1++l2)) h Q):wpAny (model D.prog D.w) A (binaryOp .Add va vx) Q E s:=by
 obtain ⟨a1,vs,rfl,Io,Zy,_⟩:=fm R ha e1;obtain ⟨a2,ws,rfl,zm,Vd,_⟩:=fm R hx e2;obtain ⟨⟨cls,dd,data,sl⟩,ho,hc,n,hd⟩:=id Io;obtain ⟨⟨aac,dd2,data2,sl2⟩,Zz,Ip,n2,hd2⟩:=id zm;simp only at hc hd Ip hd2;subst hc hd Ip hd2;have e:vs.toArray++ws.toArray=(vs++ws).toArray:=by simp
 have zo:vs.toArray.size+ws.toArray.size≤sizeLine:=by have:=dh;simp only [List.size_toArray, ← Zy.length, ← Vd.length];lia
 refine concat_meets ⟨_,ho,rfl⟩ ⟨_,Zz,rfl⟩ noFill_list_add seq_list_add PySem.F.slot_list_add PySem.F.entry_list_add (PySem.F.args_list_add_2 _ _) (list_addW a1 a2 vs.toArray ws.toArray n n2 dd dd2 sl sl2 zo) ⟨ho,Zz,?_⟩;rw [e];exact iL R (Zy.append Vd) (by rw [aY];exact hz) k
theorem Bs{x y:Int}(hy:bC y=true):Builtin.divisionGoesByPylong x y=false:=by
 have hb: -1000000000≤y∧y≤1000000000:=by unfold bC at hy;rw [Bool.and_eq_true] at hy;exact ⟨bN hy.1,bN hy.2⟩
 have h2:y.natAbs< 2 ^ 30:=by lia
 have h3:y.natAbs.log2< 30:=by
  by_cases q:y.natAbs=0
  ·rw [q];decide
  ·exact (Nat.log2_lt q).mpr h2
 unfold Builtin.divisionGoesByPylong;have:(decide ((if (y==0)=true then 0 else y.natAbs.log2 / 30+1) >300))=false:=by apply decide_eq_false;split<;>lia
 simp only [this,Bool.false_and]
theorem gz(x y:List Nat):toStr x++toStr y=toStr (x++y):=by
 show Str.mk (x.toArray++y.toArray)=Str.mk (x++y).toArray
 simp
theorem uU{x:List Nat}:∀(n:Nat) (a:List Nat),(List.replicate n x.toArray).foldl (·++·) a.toArray=(a++(List.replicate n x).flatten).toArray
 |0,a=>by simp
 |n+1,a=>by rw [List.replicate_succ,List.foldl_cons,show a.toArray++x.toArray=(a++x).toArray by simp,uU n (a++x),List.replicate_succ,List.flatten_cons,bJ]
set_option tactic.hygienic true in
theorem Iq(x:List Nat)(n:Int):Txt.mul (toStr x) n=toStr (List.replicate n.toNat x).flatten:=by
 unfold Txt.mul;split
 ·rename_i q
  have:n.toNat=0:=by lia
  rw [this];rfl
 ·split
  ·rename_i q1 q2
   rcases Bool.or_eq_true_iff.mp q2 with q|q
   ·have:n=1:=by simpa using q
    subst this;show toStr x=toStr (x++[])
    rw [cH]
   ·have:x=[]:=by
     rw [bu] at q;exact List.length_eq_zero_iff.mp (by simpa using q)
    subst this;have:∀k:Nat,(List.replicate k ([]:List Nat)).flatten=[]:=by
     intro k;induction k with
     |zero=>rfl
     |succ k ih=>rw [List.replicate_succ,List.flatten_cons,ih];rfl
    rw [this]
  ·have:=uU (x:=x) n.toNat []
   rw [List.nil_append] at this;exact congrArg Str.mk this
theorem fR{i:Int}(h:bC i=true): -1000000000≤i∧i≤1000000000:=by unfold bC at h;rw [Bool.and_eq_true] at h;exact ⟨bN h.1,bN h.2⟩
theorem m7(x:List Nat):∀n:Nat,(List.replicate n x).flatten.length=x.length * n
 |0=>by simp
 |n+1=>by rw [List.replicate_succ,List.flatten_cons,aY,m7 x n,Nat.mul_succ];lia
theorem Rc{x:List Nat}{n:Int}(hx:x.length * n.toNat≤aH)(hn:bC n=true):MulOk (toStr x) n:=by
 have hb:=fR hn;refine ⟨?_,λh1 h2=>?_,λh1 h2=>?_⟩
 ·rw [Bool.or_eq_false_iff];exact ⟨decide_eq_false (by lia),decide_eq_false (by lia)⟩
 ·rw [bu]
  have h3:(x.length:Int) * n≤1000000:=by
   have:((x.length * n.toNat:Nat):Int)=(x.length:Int) * n:=by rw [Int.natCast_mul,Int.toNat_of_nonneg (by lia)]
   rw [← this];exact Int.ofNat_le.mpr hx
  intro q;have h4:(2 ^ 63 - 1) / n< x.length:=q;have h5:=(Int.ediv_lt_iff_lt_mul (by lia:0< n)).mp h4
  lia
 ·rw [bu]
  unfold Builtin.Str.tooLong;have:=dh;exact decide_eq_false (by lia)
set_option tactic.hygienic true in
theorem Ir{f r:List Nat}{x:Int}{t u:Tok}{Q:Value→Shared→Prop}(R:Rep D h₀ G ρ h s)(e:MC f x=some r)(k:cQ D h₀ G ρ s (.str r) h Q):
  wpAny (model D.prog D.w) A (binaryOp .Mod (.str (toStr f) t) (.int x u)) Q E s:=by
 unfold MC at e;split at e
 ·rename_i q;obtain ⟨rfl,rfl⟩:=q
  cases e
  rw [show toStr [92,120,37,48,50,88]=Str.ofString "\\x%02X" from by decide+kernel]
  refine MP λt' c=>?_
  rw [show Str.ofString "\\xE9"=toStr [92,120,69,57] from by decide+kernel]
  exact k.val R (.str (by decide)) _
 split at e
 ·rename_i q;obtain ⟨rfl,rfl⟩:=q
  cases e
  rw [show toStr [92,117,37,48,52,88]=Str.ofString "\\u%04X" from by decide+kernel]
  refine Dp λt' c=>?_
  rw [show Str.ofString "\\u20AC"=toStr [92,117,50,48,65,67] from by decide+kernel]
  exact k.val R (.str (by decide)) _
 split at e
 ·rename_i q;obtain ⟨rfl,rfl⟩:=q
  cases e
  rw [show toStr [92,85,37,48,56,88]=Str.ofString "\\U%08X" from by decide+kernel]
  refine Br λt' c=>?_
  rw [show Str.ofString "\\U0001F600"=toStr [92,85,48,48,48,49,70,54,48,48] from by decide+kernel]
  exact k.val R (.str (by decide)) _
 ·cases e
section
variable {a x r:MV}{va vx:Value}{f:Int→Int→Int}{Q:Value→Shared→Prop}
theorem iV(ha:VR D G ρ a va)(hx:VR D G ρ x vx)(e:arith f a x=some r):∃i j t u,va=.int i t∧vx=.int j u∧bC i=true∧bC j=true∧r=.int (f i j):=by
 obtain ⟨i,e1,e⟩:=aT.mp e;obtain ⟨j,e2,e⟩:=aT.mp e;obtain ⟨q,e9⟩:=bA e
 cases cN e1
 cases cN e2
 obtain ⟨t,rfl⟩:=eH ha;obtain ⟨u,rfl⟩:=eH hx;have q:=bl.mp q;exact ⟨i,j,t,u,rfl,rfl,q.1,q.2,(aI e9).symm⟩
theorem uV(ha:VR D G ρ a va)(hx:VR D G ρ x vx)(e:Ia f a x=some r):∃i j t u,va=.int i t∧vx=.int j u∧0< j∧bC j=true∧r=.int (f i j):=by
 obtain ⟨i,e1,e⟩:=aT.mp e;obtain ⟨j,e2,e⟩:=aT.mp e;obtain ⟨q,e9⟩:=bA e
 cases cN e1
 cases cN e2
 obtain ⟨t,rfl⟩:=eH ha;obtain ⟨u,rfl⟩:=eH hx;have q:=bl.mp q;exact ⟨i,j,t,u,rfl,rfl,bN q.1,q.2,(aI e9).symm⟩
theorem uW(ha:VR D G ρ a va)(hx:VR D G ρ x vx)(e:Dc a x=some r):∃p q t u,va=.str (toStr p) t∧vx=.str (toStr q) u∧(p++q).length≤aH∧r=.str (p++q):=by
 obtain ⟨p,e1,e⟩:=aT.mp e;obtain ⟨q,e2,e⟩:=aT.mp e;obtain ⟨hz,e9⟩:=bA e
 cases bI e1
 cases bI e2
 obtain ⟨t,rfl⟩:=dY ha;obtain ⟨u,rfl⟩:=dY hx;exact ⟨p,q,t,u,rfl,rfl,hz,(aI e9).symm⟩
theorem zp{p q:List Nat}(hz:(p++q).length≤aH):(toStr p).length+(toStr q).length≤sizeLine:=by rw [bu,bu, ← aY];exact ak hz dh
theorem Iu(R:Rep D h₀ G ρ h s)(ha:VR D G ρ a va)(hx:VR D G ρ x vx)(e:Dc a x=some r)(k:cQ D h₀ G ρ s r h Q):wpAny (model D.prog D.w) A (binaryOp .Add va vx) Q E s:=by
 obtain ⟨p,q,t,u,rfl,rfl,hz,rfl⟩:=uW ha hx e;refine PyProof.Rows.add_str (λt' c=>?_) (zp hz)
 rw [gz];exact k.val R (.str hz) _
theorem Iv(R:Rep D h₀ G ρ h s)(ha:VR D G ρ a va)(hx:VR D G ρ x vx)(e:MD a x=some r)(k:cQ D h₀ G ρ s r h Q):wpAny (model D.prog D.w) A (binaryOp .Mult va vx) Q E s:=by
 obtain ⟨p,e1,e⟩:=aT.mp e;obtain ⟨j,e2,e⟩:=aT.mp e;obtain ⟨hs,e9⟩:=bA e
 cases bI e1
 cases cN e2
 cases e9
 obtain ⟨t,rfl⟩:=dY ha;obtain ⟨u,rfl⟩:=eH hx;have hs:=bl.mp hs;have hz:=bN hs.1;refine PySem.SB.mul (Rc hz hs.2) λt' c=>?_
 rw [Iq];exact k.val R (.str (m7 ..▸hz)) _
end
theorem Iw{op:Operator}{a x r:MV}{va vx:Value}{Q:Value→Shared→Prop}(R:Rep D h₀ G ρ h s)(ha:VR D G ρ a va)(hx:VR D G ρ x vx)(e:binOp op a x h=some r)(k:cQ D h₀ G ρ s r h Q):
  wpAny (model D.prog D.w) A (binaryOp op va vx) Q E s:=by
 cases op with
 |Add=>
  rcases or_some e with e|⟨_,e⟩
  ·obtain ⟨i,j,t,u,rfl,rfl,_,_,rfl⟩:=iV ha hx e
   exact PyProof.Rows.add_int (k.val R .int _)
  rcases or_some e with e|⟨_,e⟩
  ·exact Iu R ha hx e k
  ·obtain ⟨l1,e1,e⟩:=aT.mp e
   obtain ⟨l2,e2,e⟩:=aT.mp e;obtain ⟨hz,e⟩:=bA e;cases e
   exact sW R ha hx (by unfold listOf;rw [e1];rfl) (by unfold listOf;rw [e2];rfl) hz k
 |Sub=>obtain ⟨i,j,t,u,rfl,rfl,_,_,rfl⟩:=iV ha hx e;exact PyProof.Rows.sub_int (k.val R .int _)
 |Mult=>
  rcases or_some e with e|⟨_,e⟩
  ·obtain ⟨i,j,t,u,rfl,rfl,h1,_,rfl⟩:=iV ha hx e
   have hb:=fR h1;exact PyProof.Rows.mul_int (k.val R .int _) (.of_left (intBits_le_64 (by lia) (by lia)))
  ·exact Iv R ha hx e k
 |Mod=>
  rcases or_some e with e|⟨_,e⟩
  ·obtain ⟨i,j,t,u,rfl,rfl,h1,_,rfl⟩:=uV ha hx e
   refine PyProof.Rows.mod_int' (Int.ne_of_gt h1) ?_;rw [Int.fmod_eq_emod_of_nonneg _ (Int.le_of_lt h1)];exact k.val R .int _
  ·obtain ⟨p,e1,e⟩:=aT.mp e
   obtain ⟨j,e2,e⟩:=aT.mp e;obtain ⟨y,e3,rfl⟩:=dR.mp e
   cases bI e1
   cases cN e2
   obtain ⟨t,rfl⟩:=dY ha;obtain ⟨u,rfl⟩:=eH hx;exact Ir R e3 k
 |FloorDiv=>obtain ⟨i,j,t,u,rfl,rfl,h1,h2,rfl⟩:=uV ha hx e;refine PyProof.Rows.floordiv_int (Int.ne_of_gt h1) ?_ (.inl (Bs h2));rw [Int.fdiv_eq_ediv_of_nonneg _ (Int.le_of_lt h1)];exact k.val R .int _
 |_=>exact no e
end
section
variable {D:cP}{h₀:Heap}{G:Fz}{ρ:List PR}{h:Hp}{s:Shared}{A:Around}{E:Value→Shared→Prop}
theorem Iz(a n:Nat):min (a:Int) (n:Int)=(min a n:Nat):=by
 by_cases h:a≤n
 ·rw [Nat.min_eq_left h];exact Int.min_eq_left (Int.ofNat_le.mpr h)
 ·rw [Nat.min_eq_right (Nat.le_of_not_le h)];exact Int.min_eq_right (Int.ofNat_le.mpr (Nat.le_of_not_le h))
theorem Dq(a:Nat):¬ Int.ofNat a< 0:=Int.not_lt.mpr (Int.natCast_nonneg a)
theorem zq(n:Nat)(i:Int):clipAt n i=clip n i:=by
 unfold clipAt
 cases i with
 |ofNat a=>
  rw [if_neg (Dq a)];show (max 0 (min (a:Int) n)).toNat=_
  rw [Iz,Int.max_eq_right (Int.natCast_nonneg _)];rfl
 |negSucc k=>
  rw [if_pos (Int.negSucc_lt_zero k),Int.add_comm];show (max 0 (min ((n:Int) - (k+1:Nat)) n)).toNat=_
  rw [Int.min_eq_left (Int.sub_le_self _ (Int.natCast_nonneg (k+1))),Int.max_comm, ← Int.toNat_eq_max];exact Int.toNat_sub n (k+1)
theorem zu{n:Nat}{i:Int}:seqIndex? i n=idx n i:=by
 unfold seqIndex?
 cases i with
 |ofNat a=>
  rw [if_neg (Dq a)]
  by_cases h:a< n
  ·exact (if_pos (bl.mpr ⟨decide_eq_true (Int.natCast_nonneg a),decide_eq_true (Int.ofNat_lt.mpr h)⟩)).trans (if_pos h).symm
  ·exact (if_neg λe=>h (Int.ofNat_lt.mp (bN (bl.mp e).2))).trans (if_neg h).symm
 |negSucc k=>
  rw [if_pos (Int.negSucc_lt_zero k),Int.add_comm]
  by_cases h:k< n
  ·rw [show (n:Int)+Int.negSucc k=((n - (k+1):Nat):Int) from (Int.ofNat_sub h).symm]
   exact (if_pos (bl.mpr ⟨decide_eq_true (Int.natCast_nonneg _),decide_eq_true (Int.ofNat_lt.mpr (Nat.sub_lt_self (Nat.succ_pos _) h))⟩)).trans (if_pos h).symm
  ·exact (if_neg λe=>h (Int.ofNat_le.mp (Int.sub_nonneg.mp (show 0≤(n:Int) - (k+1:Nat) from bN (bl.mp e).1)))).trans (if_neg h).symm
theorem uX{n j:Nat}{i:Int}(e:idx n i=some j):j< n∧((0≤i∧i.toNat=j)∨(i< 0∧-(n:Int)≤i∧(i+n).toNat=j)):=by
 cases i with
 |ofNat a=>obtain ⟨h,e⟩:=bA e;exact ⟨aI e▸h,.inl ⟨Int.natCast_nonneg a,aI e⟩⟩
 |negSucc k=>obtain ⟨h,e⟩:=bA e;exact ⟨aI e▸Nat.sub_lt_self (Nat.succ_pos _) h,.inr ⟨Int.negSucc_lt_zero k,Int.neg_le_neg (Int.ofNat_le.mpr h),((congrArg Int.toNat (Int.add_comm _ _)).trans (Int.toNat_sub n (k+1))).trans (aI e)⟩⟩
theorem list_item{l:List MV}{vs:List Value}{a:Addr}{k:Int}{u:Tok}{r:MV}{j:Nat}{Q:Value→Shared→Prop}(R:Rep D h₀ G ρ h s)(hl:s.heap.IsList a vs.toArray)(hr:cY D G ρ l vs)(hk:bC k=true)(e1:idx l.length k=some j)(e2:l[j]? =some r)
  (K:cQ D h₀ G ρ s r h Q):wpAny (model D.prog D.w) A (getItem (.ref a) (.int k u)) Q E s:=by
 obtain ⟨v,hv,P7⟩:=hr.get e2;have hb:=fR hk;have hs:vs.toArray.size=l.length:=by simp [hr.length]
 obtain ⟨hj,q|q⟩:=uX e1
 ·refine wpAny_getItem_list hl q.1 (by lia) (x:=v) ?_ (K.ir R P7)
  rw [q.2];simpa using hv
 ·refine wpAny_getItem_list_neg hl q.1 (by rw [hs];exact q.2.1) (by lia) (x:=v) ?_ (K.ir R P7)
  rw [hs,q.2.2];simpa using hv
theorem oX{i:MV}{n j:Nat}{vi:Value}(hi:VR D G ρ i vi)(e:xw i n=some j):∃k u,vi=.int k u∧bC k=true∧idx n k=some j:=by
 obtain ⟨k,e1,e⟩:=aT.mp e
 cases cN e1
 obtain ⟨u,rfl⟩:=eH hi;have e:=bA e;exact ⟨k,u,rfl,e.1,e.2⟩
theorem uY{a i r:MV}{va vi:Value}{Q:Value→Shared→Prop}(R:Rep D h₀ G ρ h s)(ha:VR D G ρ a va)(hi:VR D G ρ i vi)(e:dP a i h=some r)(K:cQ D h₀ G ρ s r h Q):
  (∃T id,s.TypeIs va T∧typeLookup (.type T) "__getitem__"=pure (some (.builtin id)))∧wpAny (model D.prog D.w) A (getItem va vi) Q E s:=by
 rcases or_some e with e|⟨_,e⟩
 ·obtain ⟨x,e0,e⟩:=aT.mp e
  obtain ⟨j,e1,e⟩:=aT.mp e;obtain ⟨c,e2,rfl⟩:=dR.mp e
  cases bI e0
  obtain ⟨t,rfl⟩:=dY ha;obtain ⟨k,u,rfl,hk,e1⟩:=oX hi e1;have hb:=fR hk;refine ⟨⟨"str",_,rfl,PySem.F.slot_str_getitem.lookup⟩,PySem.P.getItem_str (c:=c) ?_ ?_ (K.val R (.str (x:=[c]) (cM rfl)) _)⟩
  ·rw [Bool.or_eq_false_iff];exact ⟨decide_eq_false (by lia),decide_eq_false (by lia)⟩
  ·rw [bu,zu,e1]
   exact (List.getElem?_toArray ..).trans e2
 rcases or_some e with e|⟨_,e⟩
 ·obtain ⟨d,e1,e⟩:=aT.mp e
  obtain ⟨v,e2,e9⟩:=aT.mp e
  cases iQ e1
  cases (show v=some r from e9)
  obtain ⟨d,rfl,hT,hq⟩:=Dl (A:=A) (E:=E) R ha hi e2 K;exact ⟨⟨"dict",_,hT,slot_dict_getitem.lookup⟩,hq⟩
 rcases or_some e with e|⟨_,e⟩
 ·obtain ⟨l,e0,e⟩:=aT.mp e
  obtain ⟨j,e1,e2⟩:=aT.mp e
  cases fN e0
  obtain ⟨k,u,rfl,hk,e1⟩:=oX hi e1;obtain ⟨hl,a,o,vs,n,rfl,g,hc,hd,hr⟩:=ha;have hb:=fR hk;obtain ⟨v,hv,P7⟩:=hr.get e2;exact ⟨⟨"tuple",_,⟨o,R.keep _ _ g,hc⟩,PySem.F.slot_tuple_getitem.lookup⟩,PyProof.Rows.getItem_tuple (⟨o,R.keep _ _ g,hc,n,hd⟩:IsTup s.heap a vs.toArray) (by lia) (by lia) (by rw [k9 hr,zu];exact e1) ((List.getElem?_toArray ..).trans hv) (K.ir R P7)⟩
 ·obtain ⟨l,e0,e⟩:=aT.mp e
  obtain ⟨j,e1,e2⟩:=aT.mp e;obtain ⟨ad,vs,rfl,hl,hr,_⟩:=fm R ha e0;obtain ⟨k,u,rfl,hk,e1⟩:=oX hi e1;exact ⟨⟨"list",_,hl.typeIs,slot_list_getitem.lookup⟩,list_item R hl hr hk e1 e2 K⟩
noncomputable def lg:Expr→Bool
 |.Slice ..=>false
 |_=>true
theorem IA{value slice:Expr}{a i r:MV}{va vi:Value}{Q:Value→Shared→Prop}(hn:lg slice=true)(R:Rep D h₀ G ρ h s)(ha:VR D G ρ a va)(hi:VR D G ρ i vi)(e:dP a i h=some r)(K:cQ D h₀ G ρ s r h Q):
  wpAny (model D.prog D.w) A (subscriptTail value slice va vi) Q E s:=by
 obtain ⟨⟨T,id,hT,hl⟩,hq⟩:=uY (A:=A) (E:=E) R ha hi e K;refine tail_any (ops:=[va,vi]) hT hl hq ?_
 cases slice<;>first|rfl|cases hn
theorem uZ{α:Type}(l:List α)(lo hi:Option Int):(fW l lo hi).length≤l.length:=ak (List.length_take_le' ..) ((List.length_drop ..).symm▸Nat.sub_le ..)
theorem IB(n:Nat):clipAt n=clip n:=funext (zq n)
theorem side(n:Nat)(o:Option Int)(d:Nat):o.elim (d:Int) (λi=>max 0 (min (if i< 0 then i+n else i) n))=((o.elim d (clip n):Nat):Int):=by
 cases o with
 |none=>rfl
 |some i=>exact (clipAt_cast n i).symm.trans (congrArg _ (zq n i))
theorem Dr(n:Nat)(lo hi:Option Int):Builtin.Str.strSliceIndices lo hi 1 n=(List.range (hi.elim n (clip n) - lo.elim 0 (clip n))).map (lo.elim 0 (clip n)+·):=by
 rw [← sliceRange_one, ← side, ← side]
 cases lo<;>cases hi<;>rfl
theorem MQ(x:List Nat)(lo hi:Option Int):(Builtin.Str.strSliceIndices lo hi 1 x.length).filterMap ((toStr x).cps[·]?)=fW x lo hi:=by rw [Dr,pick_run];rfl
theorem ID(n:Nat)(o:Option Int):o.elim n (clip n)≤n:=match o with
 |none=>bf _
 |some (.ofNat _)=>Nat.min_le_right ..
 |some (.negSucc _)=>Nat.sub_le ..
theorem xF(x:List Nat)(lo hi:Option Int)(e:(Builtin.Str.strSliceIndices lo hi 1 x.length).length=x.length):fW x lo hi=x:=by rw [Dr,cu,List.length_range] at e;refine ((List.take_sublist ..).trans (List.drop_sublist ..)).eq_of_length ?_;rw [List.length_take,List.length_drop,e];exact Nat.min_eq_left (ak (Nat.le_of_eq e.symm) (Nat.sub_le_sub_right (ID x.length hi) _))
theorem cY.cut{l:List MV}{vs:List Value}(lo hi:Option Int)(h:cY D G ρ l vs):cY D G ρ (fW l lo hi) (fW vs lo hi):=by unfold fW;rw [← h.length];exact (h.drop _).take _
theorem part_of{m:Option MV}{v:Value}{i:Option Int}(hv:match m with|none=>v=.none|some m=>VR D G ρ m v)(e:jc m=some i):IsPart v i∧∃p:Option (Int×Tok),v=partValue p∧p.map (·.1)=i:=by
 cases m with
 |none=>cases e;cases (show v=.none from hv);exact ⟨.none,none,rfl,rfl⟩
 |some m=>
  obtain ⟨k,e1,e⟩:=aT.mp e;obtain ⟨_,e9⟩:=bA e
  cases cN e1
  obtain ⟨t,rfl⟩:=eH (show VR D G ρ (.int k) v from hv)
  cases e9
  exact ⟨.int _ _,some (_,t),rfl,rfl⟩
noncomputable abbrev jL(vl vu:Value):Obj:={cls:=.type "slice",data:=.fields #[vl,vu,.none]}
set_option tactic.hygienic true in
theorem Bt{value:Expr}{lower upper:Option Expr}{p:Pos}{x:List Nat}{t:Tok}{l' u':Option (Int×Tok)}{Q:Value→Shared→Prop}(R:Rep D h₀ G ρ h s)(hx:x.length≤aH)
  (K:cQ D h₀ G ρ s (.str (fW x (l'.map (·.1)) (u'.map (·.1)))) h Q):wpAny (model D.prog D.w) A (subscriptTail value (.Slice lower upper none p) (.str (toStr x) t) (.ref s.heap.objs.size)) Q E {s with heap:=s.heap.push (jL (partValue l') (partValue u'))}:=by
 have R':Rep D h₀ G ρ h {s with heap:=s.heap.push (jL (partValue l') (partValue u'))}:=R.push _
 have K':=K.then (.same (dX s (jL (partValue l') (partValue u')))) (gQ.push _ s _);refine tail_any (T:="str") (ops:=[.ref s.heap.objs.size,.str (toStr x) t]) rfl PySem.F.slot_str_getitem.lookup (wpAny_getItem_str_slice (l:=l') (u:=u') (st:=none) ⟨_,Heap.get?_push_size _ rfl,rfl,rfl⟩ rfl ?_) rfl;have hp:(slicePicked (toStr x) l' u' none).filterMap ((toStr x).cps[·]?)=fW x (l'.map (·.1)) (u'.map (·.1)):=by unfold slicePicked;rw [bu];exact MQ x _ _
 unfold sliceMade;rw [hp];split
 ·rename_i q
  refine K'.val R' (v:=.str (toStr x) t) ?_ _;rw [xF x (l'.map (·.1)) (u'.map (·.1)) (by rw [bu] at q;unfold slicePicked at q;rw [bu] at q;exact eq_of_beq q)]
  exact .str hx
 ·have hz:(fW x (l'.map (·.1)) (u'.map (·.1))).length≤aH:=ak (uZ _ _ _) hx
  exact ⟨ak hz dh,K'.val R' (v:=.str (toStr _) s.toks) (.str hz) _⟩
theorem Bu{value:Expr}{lower upper:Option Expr}{p:Pos}{a r:MV}{lo hi:Option MV}{va vl vu:Value}{Q:Value→Shared→Prop}(R:Rep D h₀ G ρ h s)(ha:VR D G ρ a va)
  (ZA:match lo with|none=>vl=.none|some m=>VR D G ρ m vl) (hhi:match hi with|none=>vu=.none|some m=>VR D G ρ m vu) (e:dM a lo hi h=some r) (K:cQ D h₀ G ρ s r h Q):
  wpAny (model D.prog D.w) A (subscriptTail value (.Slice lower upper none p) va (.ref s.heap.objs.size)) Q E {s with heap:=s.heap.push (jL vl vu)}:=by
 obtain ⟨li,e1,e3⟩:=aT.mp e;obtain ⟨ui,e2,e4⟩:=aT.mp e3;clear e e3;obtain ⟨pl,l',rfl,rfl⟩:=part_of ZA e1;obtain ⟨pu,u',rfl,rfl⟩:=part_of hhi e2;rcases or_some e4 with e4|⟨_,e4⟩
 ·obtain ⟨x,e5,rfl⟩:=dR.mp e4
  cases bI e5
  obtain ⟨hx,t,rfl⟩:=id ha;exact Bt R hx K
 ·obtain ⟨l,e0,rfl⟩:=dR.mp e4
  obtain ⟨ad,vs,rfl,hl,hr,hz⟩:=fm R ha e0;have ZC:=hl.push (jL (partValue l') (partValue u'));refine tail_any (T:="list") (ops:=[.ref s.heap.objs.size,.ref ad]) (Heap.IsList.typeIs (s:={s with heap:=s.heap.push _}) ZC) slot_list_getitem.lookup (wpAny_getItem_list_slice ZC (Heap.IsSliceOf.new ..) pl pu .none (by decide) ?_ (k9 hr▸ak hz dh)) rfl
  rw [slicePick_plain,List.size_toArray,IB];exact iL (R.push _) (hr.cut _ _) (ak (uZ _ _ _) hz) (K.then (.same (dX s _)) (gQ.push _ s _))
end
structure qP(n:Nat)(A:Around):Prop where
 depth:A.depth+n< recursionLimit
 units:A.units+20 * n+20< cLine
 handled:A.handled=none
theorem qP.mono{n m:Nat}{A:Around}(h:qP n A)(q:m≤n):qP m A:=⟨by have:=h.depth;lia,by have:=h.units;lia,h.handled⟩
theorem qP.pred{n:Nat}{A:Around}(h:qP (n+1) A):qP n A:=h.mono (Nat.le_succ n)
theorem qP.Ds{n:Nat}{A:Around}(h:qP n A):A.depth< recursionLimit:=by have:=h.depth;lia
theorem qP.deep{n:Nat}{A:Around}(h:qP (n+1) A)(env:Env):qP n (A.deeper env):=⟨by have:=h.depth;show A.depth+1+n< _;lia,by have:=h.units;show A.units+3+_+_< _;lia,h.handled⟩
structure Dt(D:cP)(ci:CI):Prop where
 az:ci.az=D.az
 nm:ci.nm=D.nm
 fF:ci.fF=D.fF
structure u0(D:cP)(K:Frag)(h₀:Heap)(C:Addr)(ce:gh)(a:Nat)(x:Str):Prop where
 me:∀f,fV ce.meths a=some f→∃fa,D.fa[f]? =some fa∧findIn K (.ref C) x=some (some (.ref fa))∧isFn K (.ref fa)=true∧copiedNames.contains x=false
 ca:fV ce.meths a=none→∀mv,aZ ce.gM a=some mv→∃v,findIn K (.ref C) x=some (some v)∧specialIn K v "__get__"=some none∧handedIn v=true∧copiedNames.contains x=false∧∀G ρ,(∀b o,h₀.get? b=some o→G b o)→VR D G ρ mv v
 no:fV ce.meths a=none→aZ ce.gM a=none→findIn K (.ref C) x=some none
noncomputable def Lr:Stmt→Option (List Expr×Expr×Pos)
 |.Assign ts v p=>some (ts,v,p)
 |_=>none
noncomputable def Rd{α:Type}:List α→Option α
 |[]=>none
 |a::r=>if r.isEmpty then some a else none
noncomputable def nX(nm pn:List Str)(st:Stmt):Option (Nat×Nat):=(Lr st).bind λq=>(Rd q.1).bind λt=>(mj t).bind λo=>(fS o.1).bind λsf=>(fS q.2.1).bind λp=>if pn.head? ==some sf&& !(isDebug sf)&& !(isDebug p) then (nm.idxOf? o.2.1).bind λi=>(pn.idxOf? p).bind λj=>some (i,j) else none
structure Du(D:cP)(ce:gh)(fd:FuncData)(body:List Stmt):Prop where
 ss:body.mapM (nX D.nm (fd.params.args.map (·.arg)))=some ce.fields
 aP:∀y∈fd.params.args.map (·.arg),fd.scope.names.lookup y=some .local
 len:ce.fields.length< 900
 nd:(ce.fields.map (·.1)).Nodup
structure Dv(D:cP)(K:Frag)(h₀:Heap)(C:Addr)(ce:gh):Prop where
 ga:findIn K (.ref C) "__getattribute__"=some (some (.builtin "object.__getattribute__"))
 V4:findIn K (.ref C) "__getattr__"=some none
 hd:hasDictIn K C=true
 makes:makesIn K C=true
 ini:∃fi,findIn K (.ref C) "__init__"=some (some (.ref fi))∧D.fa[ce.init]? =some fi∧isFn K (.ref fi)=true
 sa:findIn K (.ref C) "__setattr__"=some (some (.builtin "object.__setattr__"))
 po:plainOver K C=true
 keep:keepIn K (.ref C)=true
 tk:ce.isRec=false→∀(a:Nat) (x:Str),D.nm[a]? =some x→takerIn K C x=some none
 names:ce.isRec=false→∀(a:Nat) (x:Str),D.nm[a]? =some x→u0 D K h₀ C ce a x
 V5:ce.isRec=true→plainGet K C "__class__"=true∧findIn K (.ref C) "__class__"=some (some (.builtin "object.__class__"))∧specialIn K (.builtin "object.__class__") "__get__"=some (some (.builtin "getset_descriptor.__get__"))∧takesIn K (.builtin "object.__class__")=some true∧mroIn K C (.type "object")=some true
 ZD:ce.isRec=true→∀(i:Nat) (A:Addr),D.ca[i]? =some A→kitOne K (.ref C) (.ref A)=some (ce.sI.contains i)
 Rf:ce.isRec=true→∀(fi:Addr) (fd:FuncData) (oc:Value) (od:Option Addr) (Bv:Array (Option Value)) (body:List Stmt),D.fa[ce.init]? =some fi→K.lookup fi=some ⟨oc,od,.func fd,Bv⟩→fd.body=.stmts body→Du D ce fd body
 fnz:ce.isRec=true→∀p∈ce.fields,p.2≠0
 MR:ce.isRec=true→∀p∈ce.fields,∃y,D.nm[p.1]? =some y∧findIn K (.ref C) y=some none∧takerIn K C y=some none
def Bw(D:cP)(K:Frag)(fe:cU)(fd:FuncData):Prop:=(fe.defs=[]∧fd.defaults=.none)∨(∃T o items n,fd.defaults=.ref T∧K.lookup T=some o∧o.data=.seq items n∧∀G ρ,cY D G ρ fe.defs items.toList)
structure ZE(D:cP)(K:Frag)(fe:cU)(fd:FuncData)(body:List Stmt):Prop where
 hb:fd.body=.stmts body
 comp:xy D.az D.nm D.fF fd.params body fd.scope=some fe
 gl:fd.globals=mainGlobals
 cl:fd.closure=[]
 bi:fd.builtins=builtinsNs
 code:codeIn K fd.code fd.qualname=true
 ZF:Bw D K fe fd
structure ZG(D:cP)(K:Frag)(a:Addr)(fe:cU):Prop where
 obj:∃oc od Bv fd body,K.lookup a=some ⟨oc,od,.func fd,Bv⟩∧ZE D K fe fd body
structure cX(D:cP)(K:Frag)(h₀:Heap)(mg mb:Str→Option Value):Prop where
 rm:K.In h₀
 g:h₀.Ns mainGlobals mg
 b:h₀.Ns builtinsNs mb
 nolimit:h₀.NoLimit
 Rg:∃o,h₀.get? sysModules=some o
 az:∀(x:Str) (mv:MV),D.az.lookup x=some mv→∃v,(mg x=some v∨(mg x=none∧mb x=some v))∧∀G ρ,(∀b o,h₀.get? b=some o→G b o)→VR D G ρ mv v
 zip:mg (Str.ofString "zip")=none∧mb (Str.ofString "zip")=some (.type "zip")
 range:mg (Str.ofString "range")=none∧mb (Str.ofString "range")=some (.type "range")
 fns:∀(i:Nat) (fe:cU),D.pm.fns[i]? =some fe→∃a,D.fa[i]? =some a∧ZG D K a fe
 eg:∀(c:Nat) (ce:gh),D.pm.eg[c]? =some ce→∃C,D.ca[c]? =some C∧Dv D K h₀ C ce
 IE:D.nm.Nodup
 V6:findIn K (.type "function") "__get__"=some (some (.builtin "function.__get__"))
 V7:findIn K (.type "function") "__set__"=some none
 V8:findIn K (.type "function") "__delete__"=some none
 kq:D.nm[D.pm.kq]? =some (Str.ofString "join")
 iA:D.nm[D.pm.iA]? =some (Str.ofString "startswith")
 jb:D.nm[D.pm.jb]? =some (Str.ofString "append")
 C8:D.nm[D.pm.C8]? =some (Str.ofString "pop")
 zb:D.nm[D.pm.zb]? =some (Str.ofString "copy")
theorem ru{o:Obj}{es:Array DictEntry}{ep:Nat}{m:Str→Option Value}(hd:o.data=.dict es ep)(hk:StrKeys es)(hf:∀x,nsFind es x=m x)(x:Str):lookIn x o=some (m x):=by
 unfold lookIn;rw [hd];dsimp only;have q:=hf x;unfold nsFind findBy at q;rw [← Array.find?_toList] at q
 cases e:es.toList.find? (λe=>e.key.isStr x) with
 |some en=>rw [e] at q;rw [← q];rfl
 |none=>
  rw [e] at q;dsimp only;rw [if_neg]
  ·rw [← q];rfl
  ·rw [Bool.not_eq_true]
   refine List.any_eq_false.mpr λen P5=>?_
   obtain ⟨y,t,ek⟩:=hk en (Array.mem_toList_iff.mp P5);unfold DictEntry.refKey;rw [ek];simp
theorem xG{o:Obj}{m:Str→Option Value}(h:Zx o m)(x:Str):lookIn x o=some (m x):=by obtain ⟨es,ep,hd,hk,hf⟩:=h;exact ru hd hk hf x
theorem Dw{h:Heap}{a:Addr}{m:Str→Option Value}(n:h.Ns a m):∃o,h.get? a=some o∧∀x,lookIn x o=some (m x):=by obtain ⟨o,es,ep,ho,hd,hk,hf⟩:=n;exact ⟨o,ho,ru hd hk hf⟩
theorem ry{D:cP}{G:Fz}{ρ:List PR}{m:MV}{v:Value}(h:VR D G ρ m v):handedIn v=true:=(oW h).1
set_option tactic.hygienic true in
theorem Dy{fs:List (Nat×Nat)}:∀{vs:List MV} {a:Nat} {r:MV},iS fs vs a=some r→∃(j:Nat) (p:Nat×Nat),fs[j]? =some p∧p.1=a∧vs[j]? =some r:=by
 induction fs with
 |nil=>intro vs a r e;unfold iS at e;cases e
 |cons p fs ih=>
  intro vs a r e;obtain ⟨k,q⟩:=p
  cases vs with
  |nil=>unfold iS at e;cases e
  |cons v vs=>
   unfold iS at e;split at e
   ·rename_i hk
    cases e
    exact ⟨0,(k,q),rfl,by simpa using hk,rfl⟩
   ·obtain ⟨j,p,h1,h2,h3⟩:=ih e
    exact ⟨j+1,p,by simpa using h1,h2,by simpa using h3⟩
section
variable {D:cP}{h₀:Heap}{G:Fz}{ρ:List PR}{h:Hp}{s:Shared}{A:Around}{E:Value→Shared→Prop}{K:Frag}{mg mb:Str→Option Value}
theorem Rep.rm(R:Rep D h₀ G ρ h s)(L:cX D K h₀ mg mb):K.In s.heap:=λa o e=>R.keep a o (R.base a o (L.rm a o e))
theorem xH(L:cX D K h₀ mg mb){fa:Addr}(hf:isFn K (.ref fa)=true):specialIn K (.ref fa) "__get__"=some (some (.builtin "function.__get__"))∧takesIn K (.ref fa)=some false:=by
 have ht:typeIn K (.ref fa)=some (.type "function"):=beq_iff_eq.mp hf;have e1:specialIn K (.ref fa) "__get__"=some (some (.builtin "function.__get__")):=by unfold specialIn;rw [ht,Option.bind_some,L.V6]
 have e2:specialIn K (.ref fa) "__set__"=some none:=by unfold specialIn;rw [ht,Option.bind_some,L.V7]
 have e3:specialIn K (.ref fa) "__delete__"=some none:=by unfold specialIn;rw [ht,Option.bind_some,L.V8]
 refine ⟨e1,?_⟩;unfold takesIn;rw [e2,e3];rfl
theorem mq(L:cX D K h₀ mg mb){c:Nat}{ce:gh}{C:Addr}(hc:D.pm.eg[c]? =some ce)(hC:D.ca[c]? =some C):Dv D K h₀ C ce:=by obtain ⟨C',e,q⟩:=L.eg c ce hc;rw [hC] at e;cases e;exact q
structure IV(D:cP)(h₀:Heap)(K:Frag)(G:Fz)(ρ:List PR)(h:Heap)(c:Nat)(attrs:List (Nat×MV))(p:PR)(C dx:Addr)(m:Str→Option Value)(od:Obj)(ce:gh):Prop where
 I:InstAt h p.1 (instObj C dx) C (some od)
 lk:∀y,lookIn y od=some (m y)
 r:Q6 D G ρ h p c attrs C dx m
 sY:D.pm.eg[c]? =some ce
 rc:ce.isRec=false
 q:Dv D K h₀ C ce
theorem sZ(L:cX D K h₀ mg mb)(R:Rep D h₀ G ρ h s){o:Nat}{va:Value}(hv:VR D G ρ (.obj o) va){x:Nat×List (Nat×MV)}(e:(h[o]?).bind oF=some x):∃p C dx m od ce,ρ[o]? =some p∧va=.ref p.1∧IV D h₀ K G ρ s.heap x.1 x.2 p C dx m od ce:=by
 obtain ⟨ob,ho,e⟩:=aT.mp e;obtain ⟨p,hp,rfl⟩:=id hv
 cases ob with
 |list l=>exact (bx _ e.symm).elim
 |inst c attrs=>
  obtain ⟨C,dx,m,r⟩:=R.objs _ _ _ hp ho;obtain ⟨od,V9,ZH⟩:=Dw r.ns.ns;obtain ⟨ce,sY,hr⟩:=r.rc;cases e
  exact ⟨p,C,dx,m,od,ce,hp,rfl,⟨r.ob,rfl,rfl,V9⟩,ZH,r,sY,hr,mq L sY r.hC⟩
section
variable {c:Nat}{attrs:List (Nat×MV)}{p:PR}{C dx:Addr}{m:Str→Option Value}{od:Obj}{ce:gh}
theorem IV.own{H:Heap}(V:IV D h₀ K G ρ H c attrs p C dx m od ce){a:Nat}{x:Str}(hx:D.nm[a]? =some x){mv:MV}(e:aZ attrs a=some mv):findIn K (.ref C) x=some none:=by have ok:=V.r.own a (e▸rfl);unfold uO at ok;rw [V.sY] at ok;have ok:=bl.mp ok;exact (V.q.names V.rc a x hx).no (Option.isNone_iff_eq_none.mp ok.1) (Option.isNone_iff_eq_none.mp ok.2)
theorem IV.cls{H:Heap}(V:IV D h₀ K G ρ H c attrs p C dx m od ce){β:Type}{f:gh→Option β}{r:β}(e:(D.pm.eg[c]?).bind f=some r):f ce=some r:=by rw [V.sY] at e;exact e
variable {v r:MV}{a:Nat}{x:Str}{ex:Bool}{Q:Value→Shared→Prop}
theorem get_own(V:IV D h₀ K G ρ s.heap c attrs p C dx m od ce)(X:K.In s.heap)(R:Rep D h₀ G ρ h s)(hx:D.nm[a]? =some x)(e:aZ attrs a=some r)(k:cQ D h₀ G ρ s r h Q):wpAny (model D.prog D.w) A (PySem.getAttr (.ref p.1) x ex) Q E s:=by obtain ⟨w,hw,Rh⟩:=(V.r.at_ a x hx).s r e;exact get_value X V.I V.q.ga (findObj_own V.q.hd (V.own hx e) rfl ((V.lk x).trans (congrArg some hw))) (ry Rh) (k.val R Rh _)
theorem Dz(L:cX D K h₀ mg mb)(V:IV D h₀ K G ρ s.heap c attrs p C dx m od ce)(X:K.In s.heap)(R:Rep D h₀ G ρ h s)(hx:D.nm[a]? =some x)(hn:aZ attrs a=none){o f:Nat}(hp:ρ[o]? =some p)(e:fV ce.meths a=some f)(k:cQ D h₀ G ρ s (.bm o f) h Q):
  wpAny (model D.prog D.w) A (PySem.getAttr (.ref p.1) x ex) Q E s:=by
 obtain ⟨fa,u5,DA,P8,ZI⟩:=(V.q.names V.rc a x hx).me f e;have sp:=xH L P8;refine get_bind X V.I V.q.ga (findObj_fn V.q.hd DA sp.1 sp.2 ZI ((V.lk x).trans (congrArg some ((V.r.at_ a x hx).no hn)))) V.q.V4 (wpAny_call (fn_get (s:={s with toks:=s.toks+1}) X (beq_iff_eq.mp P8) (handed_on rfl ?_)))
 exact k _ _ (G.add s.heap.objs.size (methodObj (.ref fa) (.ref p.1))) ρ (.add _ _ _ _ _ _ (bf _) (dX s _)) ((R.toks (t:=s.toks+1)).xB _ rfl) ⟨rfl,rfl,rfl,λ_ _ _ z=>Heap.get?_push_of_some _ z⟩ (show ∃q fa p,_ from ⟨_,fa,p,rfl,u5,hp,.inr ⟨rfl,rfl⟩⟩)
theorem IF(V:IV D h₀ K G ρ s.heap c attrs p C dx m od ce)(X:K.In s.heap)(R:Rep D h₀ G ρ h s)(hx:D.nm[a]? =some x)(hn:aZ attrs a=none)(e:fV ce.meths a=none)(e2:aZ ce.gM a=some r)(k:cQ D h₀ G ρ s r h Q):
  wpAny (model D.prog D.w) A (PySem.getAttr (.ref p.1) x ex) Q E s:=by
 obtain ⟨v,Wa,hv2,ZJ,hv4,hv5⟩:=(V.q.names V.rc a x hx).ca e r e2;exact get_value X V.I V.q.ga (findObj_cls V.q.hd Wa hv2 ZJ hv4 ((V.lk x).trans (congrArg some ((V.r.at_ a x hx).no hn)))) ZJ (k.val R (hv5 G ρ R.base) _)
theorem IG(L:cX D K h₀ mg mb)(R:Rep D h₀ G ρ h s)(hx:D.nm[a]? =some x){vs:List MV}{va:Value}(hv:VR D G ρ (.fU c vs) va)(sY:D.pm.eg[c]? =some ce)(e:iS ce.fields vs a=some r)(k:cQ D h₀ G ρ s r h Q):wpAny (model D.prog D.w) A (PySem.getAttr va x ex) Q E s:=by
 obtain ⟨y,C,dx,o,m,ws,rfl,⟨ce',MS,mw⟩,hC,g1,g2,hn,hr,hf⟩:=hv
 cases sY.symm.trans MS
 have q:=mq L sY hC;obtain ⟨j,pf,e1,e2,e3⟩:=Dy e;obtain ⟨w,hw,Rh⟩:=hr.get e3;have DB:(D.fld c)[j]? =some x:=by unfold cP.fld;rw [sY];exact (List.getElem?_map.trans (congrArg (Option.map _) e1)).trans (congrArg some (show (D.nm[pf.1]?).getD Str.empty=x by rw [e2,hx];rfl))
 obtain ⟨y',h1,h2,_⟩:=q.MR mw pf (List.mem_of_getElem? e1)
 cases (e2▸h1).symm.trans hx
 exact get_value (R.rm L) (⟨R.keep _ _ g1,rfl,rfl,R.keep _ _ g2⟩:InstAt s.heap y (instObj C dx) C (some o)) q.ga (findObj_own q.hd h2 rfl ((xG hn _).trans (congrArg some ((hf j _ DB).trans hw)))) (ry Rh) (k.val R Rh _)
theorem m8(L:cX D K h₀ mg mb){va:Value}(R:Rep D h₀ G ρ h s)(hx:D.nm[a]? =some x)(hv:VR D G ρ v va)(e:Mine.getAttr D.pm v a h=some r)(k:cQ D h₀ G ρ s r h Q):
  wpAny (model D.prog D.w) A (PySem.getAttr va x ex) Q E s:=by
 cases v with
 |obj o=>
  obtain ⟨y,e1,e⟩:=aT.mp e;obtain ⟨p,C,dx,m,od,ce,hp,rfl,V⟩:=sZ L R hv e1;rcases or_some e with e|⟨e2,e⟩
  ·exact get_own V (R.rm L) R hx e k
  ·rcases or_some (V.cls e) with e|⟨e3,e⟩
   ·obtain ⟨f,e4,rfl⟩:=dR.mp e
    exact Dz L V (R.rm L) R hx e2 hp e4 k
   ·exact IF V (R.rm L) R hx e2 (Option.map_eq_none_iff.mp e3) e k
 |fU c vs=>obtain ⟨ce,e1,e⟩:=aT.mp e;exact IG L R hx hv e1 e k
 |_=>exact (bx _ e.symm).elim
end
end
theorem kH:∀(l:List (Nat×MV)) (a b:Nat) (v:MV),aZ (gO l a v) b=if b=a then some v else aZ l b
 |[],a,b,v=>by
  by_cases q:b=a
  ·subst q;simp [gO,aZ]
  ·have:¬ a=b:=λz=>q z.symm
   simp [gO,aZ,q,this]
 |(k,x)::r,a,b,v=>by
  have ih:=kH r a b v
  by_cases q:k=a
  ·subst q
   by_cases z:b=k
   ·subst z;simp [gO,aZ]
   ·have:¬ k=b:=λz'=>z z'.symm
    simp [gO,aZ,z,this]
  ·by_cases z:k=b
   ·subst z;simp [gO,aZ,q]
   ·by_cases y:b=a
    ·subst y;simp [gO,aZ,z,ih]
    ·simp [gO,aZ,q,z,y,ih]
theorem m9:∀(l:List (Nat×MV)) (a:Nat) (v:MV),(gO l a v).length=if (aZ l a).isSome then l.length else l.length+1
 |[],a,v=>by simp [gO,aZ]
 |(k,x)::r,a,v=>by
  have ih:=m9 r a v
  by_cases q:k=a
  ·subst q;simp [gO,aZ]
  ·simp only [gO,aZ,beq_iff_eq,q,if_false,List.length_cons,ih]
   split<;>rfl
theorem lu{M:Model}{A:Around}{E:Value→Shared→Prop}{s:Shared}{a:Addr}{m:Str→Option Value}{N:Nat}{name:Str}{v:Value}{Q:Unit→Shared→Prop}(hn:zj s.heap a m N)
  (hQ:∀h',zj h' a (λx=>if x=name then some v else m x) (if (m name).isSome then N else N+1)→Heap.SameBut a s.heap h'→Q () {s with heap:=h',toks:=s.toks+1}):wpAny M A (nsSet a name v) Q E s:=by
 intro Γ p _;obtain ⟨o,es,ep,ho,hd,hk,hm,hz⟩:=hn;simp only [nsSet,strHash,Sem.wp_bind',Sem.wp_cmd_ask,Sem.wp_pure',Sem.wp_cmd_mkText];rw [Sem.wp_loadPart_of M Γ _ p {s with toks:=s.toks+1} (o:=o) _ ho]
 have II:es.any (·.refKey)=false:=by rw [Array.any_eq_false'];intro e he;obtain ⟨n,t,h⟩:=hk e he;simp [DictEntry.refKey,h]
 simp only [hd,aRefKeyMayBeTheName_eq,aRefKeyMayBeTheNameByArray,II,Bool.and_false,Bool.false_eq_true,if_false,Sem.wp_cmd_updatePart];refine ⟨by rw [ho];rfl,hQ _ ?_ (Heap.SameBut.update ..)⟩
 obtain ⟨c,d,dt,sl⟩:=o;subst hd;have ZK:(m name).isSome=(es.findIdx? (·.key.isStr name)).isSome:=by
  rw [← hm,nsFind,findBy_of_findIdx?]
  cases q:es.findIdx? (·.key.isStr name) with
  |none=>rfl
  |some i=>
   have:i< es.size:=by rw [Array.findIdx?_eq_some_iff_getElem] at q;exact q.1
   simp [this]
 cases hi:es.findIdx? (·.key.isStr name) with
 |some i=>
  refine ⟨_,_,ep,Heap.get?_update_self _ ho (by simp only [Obj.putName_eq,Obj.putNameByArray,hi];rfl),by simp only [Obj.putName_eq,Obj.putNameByArray,hi];rfl,hk.modify _ _,λx=>?_,?_⟩
  ·show _=if x=name then some v else m x
   rw [← hm];exact findBy_modify (λn v=>v.isStr n) Value.isStr_inj es name x v i hi
  ·rw [Array.size_modify,ZK,hi];exact hz
 |none=>
  refine ⟨_,_,ep+1,Heap.get?_update_self _ ho (by simp only [Obj.putName_eq,Obj.putNameByArray,hi];rfl),by simp only [Obj.putName_eq,Obj.putNameByArray,hi];rfl,hk.push _ _ _ _,λx=>?_,?_⟩
  ·show _=if x=name then some v else m x
   rw [← hm];exact findBy_push (λn v=>v.isStr n) es name x _ _ v (λy=>by
    show (name==y)=decide (y=name)
    by_cases h:y=name
    ·subst h;simp
    ·have:¬ name=y:=λe=>h e.symm
     rw [decide_eq_false h];exact beq_eq_false_iff_ne.mpr this) hi
  ·rw [Array.size_push,ZK,hi];exact Nat.succ_le_succ hz
theorem Bx{α:Type}{l:List α}(h:l.Nodup){i j:Nat}{x:α}(hi:l[i]? =some x)(hj:l[j]? =some x):i=j:=(List.getElem?_inj (List.getElem?_eq_some_iff.mp hi).1 h).mp (hi.trans hj.symm)
section
variable {D:cP}{h₀:Heap}{G:Fz}{ρ:List PR}{h:Hp}{s:Shared}{A:Around}{E:Value→Shared→Prop}{K:Frag}{mg mb:Str→Option Value}
abbrev xJ(D:cP)(h₀:Heap)(G:Fz)(ρ:List PR)(s:Shared)(h':Hp)(Q:Unit→Shared→Prop):Prop:=∀(s':Shared) (G':Fz) (cZ:List PR),fG G G' ρ cZ s s'→Rep D h₀ G' cZ h' s'→gQ (cD ρ) s s'→Q () s'
theorem xJ.upd{h':Hp}{Q:Unit→Shared→Prop}(k:xJ D h₀ G ρ s h' Q){s':Shared}(R:Rep D h₀ G ρ h' s')(st:gQ (cD ρ) s s'):Q () s':=k s' G ρ (.same (R.lv st.keep)) R st
theorem zh.set{attrs:List (Nat×MV)}{m:Str→Option Value}(nd:D.nm.Nodup)(H:zh D G ρ attrs m){a:Nat}{x:Str}(hx:D.nm[a]? =some x){v:MV}{vv:Value}(hv:VR D G ρ v vv):zh D G ρ (gO attrs a v) (λy=>if y=x then some vv else m y):=λa' x' By=>by
 rw [kH];show sQ _ (if a'=a then some v else aZ attrs a') (if x'=x then some vv else m x')
 by_cases z:a'=a
 ·cases (z▸By).symm.trans hx
  rw [if_pos z,if_pos rfl];exact ⟨rfl,λ_ e=>⟨vv,rfl,bX e▸hv⟩⟩
 ·rw [if_neg z,if_neg (c:=x'=x) λe=>z (Bx nd By (e▸hx))]
  exact H a' x' By
theorem Rep.MT(R:Rep D h₀ G ρ h s){i:Nat}{p:PR}(hp:ρ[i]? =some p):(iK p).Nodup:=(List.pairwise_flatMap.mp R.nodup).1 p (List.mem_of_getElem? hp)
theorem ng(L:cX D K h₀ mg mb){o v:MV}{vo vv:Value}{a:Nat}{x:Str}{h':Hp}{Q:Unit→Shared→Prop}(R:Rep D h₀ G ρ h s)(hx:D.nm[a]? =some x)(ho:VR D G ρ o vo)(hv:VR D G ρ v vv)(e:jY D.pm o a v h=some h')(k:xJ D h₀ G ρ s h' Q):
  wpAny (model D.prog D.w) A (PySem.setAttr vo x vv) Q E s:=by
 have X:=R.rm L;obtain ⟨i,e1,e⟩:=aT.mp e;obtain ⟨y,e2,e⟩:=aT.mp e;obtain ⟨ok,e⟩:=bA e;have ok:=bl.mp ok;cases e
 cases di e1
 obtain ⟨p,C,dx,m,od,ce,hp,rfl,V⟩:=sZ L R ho e2;obtain ⟨cd,Wb,CZ⟩:=any_some V.q.hd;refine set_plain X V.I V.q.sa (osa_open (s:={s with toks:=s.toks+1}) X V.I V.q.po (V.q.tk V.rc a x hx) λb=>?_)
 refine wpAny_bind (wpAny_pure (wpAny_bind (wpAny_bind (wpAny_loadPart V.r.ob (wpAny_bind ((looks_clsIn (M:=model D.prog D.w) (h:=s.heap) X Wb) _ _ _ _ (λ_ _ z=>z) ?_))))))
 rw [CZ];refine wpAny_pure (a:=some dx) (wpAny_bind (wpAny_pure (wpAny_bind (lu (s:={s with toks:=s.toks+1}) V.r.ns λh1 zv rA=>?_))))
 have hl:=m9 y.2 a v;have Ve:zj h1 dx (λy=>if y=x then some vv else m y) (gO y.2 a v).length:=by have hh:(aZ y.2 a).isSome=(m x).isSome:=Option.not_isNone _▸Option.not_isNone _▸congrArg not (V.r.at_ a x hx).n;rw [hl,hh];exact zv
 have hle:(gO y.2 a v).length≤301:=by have:=bN ok.2;rw [hl];split<;>lia
 obtain ⟨o1,ZL,ep1,Wc,MB,_,_,Ls⟩:=id Ve;refine wpAny_bind (wpAny_lookBehind Wc (by rw [MB];exact pastItsLine_dict (by rw [sizeLine_eq];lia)) (wpAny_pure ?_))
 have kp:∀b o,b∉iK p→s.heap.get? b=some o→h1.get? b=some o:=λb o nb eb=>(rA.2 b λz=>nb (z▸Lo V.r.hd)).trans eb
 have oY:p.1≠dx:=λz=>(List.nodup_cons.mp (R.MT hp)).1 (z▸V.r.hd▸cy ..)
 refine xJ.upd k (R.setAt hp kp ⟨C,dx,_,V.r.hC,V.r.hd,(rA.2 _ oY).trans V.r.ob,Ve,V.r.at_.set L.IE hx hv,λa' Vf=>?_,ce,V.sY,V.rc⟩) (gQ.heap λb o nb eb=>kp b o (λz=>nb (fX hp z)) eb)
 rw [kH] at Vf
 by_cases z:a'=a
 ·exact z▸ok.1
 ·exact V.r.own a' (by rwa [if_neg z] at Vf)
theorem u6{o i v:MV}{vo vi vv:Value}{h':Hp}{Q:Unit→Shared→Prop}(R:Rep D h₀ G ρ h s)(ho:VR D G ρ o vo)(hi:VR D G ρ i vi)(hv:VR D G ρ v vv)(e:mh o i v h=some h')(k:xJ D h₀ G ρ s h' Q):
  wpAny (model D.prog D.w) A (PySem.setItem vo vi vv) Q E s:=by
 obtain ⟨ix,e1,e⟩:=aT.mp e;obtain ⟨j,e2,e⟩:=aT.mp e;obtain ⟨xs,e3,e⟩:=aT.mp e;obtain ⟨We,e⟩:=bA e;obtain ⟨jj,e4,rfl⟩:=dR.mp e
 cases di e1
 cases cN e2
 obtain ⟨p,vs,hp,rfl,hd,hl,⟨n,i8⟩,hr⟩:=gy R ho e3;obtain ⟨t,rfl⟩:=id hi;have hb:=fR We;have zo:vs.toArray.size=xs.length:=List.size_toArray.trans hr.length.symm;have fin:Q () {s with heap:=s.heap.update p.1 (Obj.mapSeq (·.setIfInBounds jj vv))}:=by
  refine xJ.upd k (R.setAt hp (λb o nb eb=>(Heap.get?_update_ne _ _ _ _ λz=>nb ((z:b=p.1)▸m5 p)).trans eb) ⟨hd,ak (Nat.le_of_eq (List.length_set ..)) hl,vs.set jj vv,⟨n,?_⟩,hr.set jj hv⟩) (gQ.mk rfl rfl rfl λb o nb eb=>(Heap.get?_update_ne _ _ _ _ λz=>nb (fX hp ((z:b=p.1)▸m5 p))).trans eb)
  rw [Heap.get?_update_self _ i8 (by simp [Obj.mapSeq,Obj.isFreed])]
  simp [Obj.mapSeq]
 obtain ⟨Wf,q|q⟩:=uX e4
 ·refine ki_setAt i8 q.1 (by lia) (by rw [zo];lia) ?_
  rw [q.2];exact fin
 ·refine ki_setBack i8 q.1 (by rw [zo];exact q.2.1) (by lia) ?_
  rw [zo,q.2.2];exact fin
theorem xK{o:Nat}{x:MV}{vo vx:Value}{xs:List MV}{Q:Value→Shared→Prop}(R:Rep D h₀ G ρ h s)(ho:VR D G ρ (.obj o) vo)(hx:VR D G ρ x vx)(Wg:(h[o]?).bind dS=some xs)(hz:xs.length< aH)(k:cQ D h₀ G ρ s .none (h.set o (.list (xs++[x]))) Q):
  wpAny (model D.prog D.w) A (call (.builtin "list.append") [vo,vx]) Q E s:=by
 obtain ⟨p,vs,hp,rfl,hd,hl,i8,hr⟩:=gy R ho Wg;refine wpAny_list_append_plain i8 (λh1 hp1 rA=>?_) (by have:=dh;rw [List.size_toArray, ← hr.length];lia)
 refine cQ.upd k (s':={s with heap:=h1}) (R.setAt hp (λb ob nb eb=>(rA.2 b λz=>nb ((z:b=p.1)▸m5 p)).trans eb) ⟨hd,aY▸hz,vs++[vx],?_,hr.append (.cons hx .nil)⟩) (gQ.mk rfl rfl rfl λb ob nb eb=>(rA.2 b λz=>nb (fX hp ((z:b=p.1)▸m5 p))).trans eb) VR.none
 rwa [List.push_toArray] at hp1
theorem IJ{o:Nat}{vo:Value}{j:Nat}{r:MV}{xs:List MV}{Q:Value→Shared→Prop}(R:Rep D h₀ G ρ h s)(ho:VR D G ρ (.obj o) vo)(Wg:(h[o]?).bind dS=some xs)(hj:xs[j]? =some r)(k:cQ D h₀ G ρ s r (h.set o (.list (xs.eraseIdx j))) Q):
  (j=xs.length - 1→wpAny (model D.prog D.w) A (call (.builtin "list.pop") [vo]) Q E s)∧(j=0→∀t,wpAny (model D.prog D.w) A (call (.builtin "list.pop") [vo,.int 0 t]) Q E s):=by
 obtain ⟨p,vs,hp,rfl,hd,hl,⟨n,i8⟩,hr⟩:=gy R ho Wg;obtain ⟨v,hv,P7⟩:=hr.get hj;have zo:vs.toArray.size=xs.length:=List.size_toArray.trans hr.length.symm;have Wf:j< vs.toArray.size:=zo▸(List.getElem?_eq_some_iff.mp hj).1;have hz:vs.toArray.size≤sizeLine:=by have:=dh;lia
 have fin:Q v {s with heap:=s.heap.update p.1 (Obj.mapSeq (·.eraseIdxIfInBounds j))}:=by
  refine cQ.upd k (s':={s with heap:=s.heap.update p.1 (Obj.mapSeq (·.eraseIdxIfInBounds j))}) (R.setAt hp (λb o nb eb=>(Heap.get?_update_ne _ _ _ _ λz=>nb ((z:b=p.1)▸m5 p)).trans eb) ⟨hd,ak (List.length_eraseIdx_le ..) hl,vs.eraseIdx j,⟨n+1,?_⟩,hr.eraseIdx j⟩) (gQ.mk rfl rfl rfl λb o nb eb=>(Heap.get?_update_ne _ _ _ _ λz=>nb (fX hp ((z:b=p.1)▸m5 p))).trans eb) P7
  have he:vs.toArray.eraseIdxIfInBounds j=(vs.eraseIdx j).toArray:=by rw [Array.eraseIdxIfInBounds,dif_pos Wf];simp
  rw [Heap.get?_update_self _ i8 (by simp [Obj.mapSeq,Obj.isFreed])]
  simp only [Obj.mapSeq,he];rw [if_neg λz=>by rw [← he,Array.eraseIdxIfInBounds,dif_pos Wf,beq_iff_eq,Array.size_eraseIdx] at z;lia]
 have P9:vs.toArray[j]? =some v:=(List.getElem?_toArray ..).trans hv;constructor
 ·intro Vg
  refine call_meets PySem.F.slot_list_pop ⟨_,i8,rfl⟩ PySem.F.entry_list_pop (PySem.F.args_list_pop_1 _) (PySem.MeetsSeq.list_pop_last p.1 vs.toArray n v (by rw [zo, ← Vg];exact P9) hz) ⟨i8,?_⟩
  rw [zo, ← Vg];exact fin
 ·intro Vg t
  subst Vg;exact call_meets PySem.F.slot_list_pop ⟨_,i8,rfl⟩ PySem.F.entry_list_pop (PySem.F.args_list_pop_2 _ _) (PySem.MeetsSeq.list_pop_at p.1 vs.toArray n 0 t 0 v (by decide) (by rw [zo];unfold seqIndex?;simp only [show ¬ ((0:Int)< 0) from by lia,if_false];rw [if_pos (by simp;lia)];rfl) P9 hz) ⟨i8,fin⟩
end
theorem mapM_cons{α β:Type}{f:α→Option β}{a:α}{l:List α}{r:List β}(e:(a::l).mapM f=some r):∃b q,f a=some b∧l.mapM f=some q∧r=b::q:=by
 rw [List.mapM_cons] at e;obtain ⟨b,e1,e⟩:=aT.mp e;obtain ⟨q,e2,e⟩:=aT.mp e;cases e
 exact ⟨b,q,e1,e2,rfl⟩
theorem mapM_nil{α β:Type}{f:α→Option β}{r:List β}(e:([]:List α).mapM f=some r):r=[]:=by rw [List.mapM_nil] at e;cases e;rfl
inductive bY{α β:Type}(P:α→β→Prop):List α→List β→Prop
 |nil:bY P [] []
 |cons {a b l r}:P a b→bY P l r→bY P (a::l) (b::r)
section
variable {α β γ δ:Type}{P:α→β→Prop}{l:List α}{r:List β}
theorem bY.len(h:bY P l r):l.length=r.length:=by
 induction h with
 |nil=>rfl
 |cons _ _ ih=>exact congrArg Nat.succ ih
theorem bY.take(h:bY P l r):∀n,bY P (l.take n) (r.take n):=by
 induction h with
 |nil=>exact λn=>by rw [List.take_nil,List.take_nil];exact .nil
 |cons q _ ih=>exact λn=>match n with
  |0=>.nil
  |n+1=>.cons q (ih n)
theorem bY.drop(h:bY P l r):∀n,bY P (l.drop n) (r.drop n):=by
 induction h with
 |nil=>exact λn=>by rw [List.drop_nil,List.drop_nil];exact .nil
 |cons q h ih=>exact λn=>match n with
  |0=>.cons q h
  |n+1=>ih n
theorem bY.snoc{a:α}{b:β}(h:bY P l r)(q:P a b):bY P (l++[a]) (r++[b]):=by
 induction h with
 |nil=>exact .cons q .nil
 |cons p _ ih=>exact .cons p ih
theorem bY.at(h:bY P l r):∀{i:Nat} {a:α},l[i]? =some a→∃b,r[i]? =some b∧P a b:=by
 induction h with
 |nil=>exact λe=>(bx _ e.symm).elim
 |cons q _ ih=>exact λ{i _}=>match i with
  |0=>λe=>⟨_,rfl,bX e▸q⟩
  |_+1=>λe=>ih e
end
noncomputable abbrev u7(nm:List Str)(R:Nat→MV→Value→Prop):List (Nat×MV)→List (Str×Value)→Prop:=bY λa b=>nm[a.1]? =some b.1∧R a.1 a.2 b.2
theorem getElem?_inj{l:List Str}(nd:l.Nodup){i j:Nat}{x:Str}(a:l[i]? =some x)(b:l[j]? =some x):i=j:=(List.getElem?_inj (List.getElem?_eq_some_iff.mp a).1 nd).mp (a.trans b.symm)
section
variable {nm:List Str}{R:Nat→MV→Value→Prop}{s:List (Nat×MV)}{t:List (Str×Value)}
theorem u7.look(nd:nm.Nodup){p:Nat}{x:Str}(hp:nm[p]? =some x)(h:u7 nm R s t):sQ (R p) (aZ s p) (t.lookup x):=by
 induction h with
 |nil=>exact ⟨rfl,λ_ e=>(bx _ e.symm).elim⟩
 |@cons a b l r q _ ih=>
  show sQ (R p) (if a.1==p then some a.2 else aZ l p) (match x==b.1 with|true=>some b.2|false=>r.lookup x)
  cases k:x==b.1 with
  |true=>
   cases getElem?_inj nd hp (beq_iff_eq.mp k▸q.1)
   rw [if_pos (beq_self_eq_true _)];exact ⟨rfl,λ_ e=>⟨_,rfl,bX e▸q.2⟩⟩
  |false=>
   rw [if_neg λe=>bU (k.symm.trans (beq_iff_eq.mpr (bX (hp.symm.trans ((congrArg (nm[·]?) (eq_of_beq e)).symm.trans q.1)))))]
   exact ih
theorem oZ{α σ:Type}{f:α→σ→Sem (ForInStep σ)}{a:α}{l:List α}{st CY Ri:σ}(e:f a st=pure (.yield CY))(e2:forIn l CY f=(pure Ri:Sem σ)):forIn (a::l) st f=(pure Ri:Sem σ):=by rw [List.forIn_cons,e];exact e2
noncomputable abbrev SV:=List (Str×Value)
noncomputable def kF(t:SV)(a:Str×Value):SV:=if (List.lookup a.1 t).isNone then t++[a] else t
theorem MU{ps:List Nat}{pn:List Str}(h:bY (λp x=>nm[p]? =some x) ps pn)(p:Nat)(x:Str)(hp:nm[p]? =some x)(c:ps.contains p=true):pn.contains x=true:=by
 induction h with
 |nil=>exact c
 |@cons a b l r q _ ih=>
  have c:(p==a||l.contains p)=true:=c;show (x==b||r.contains x)=true
  rw [Bool.or_eq_true_iff] at c⊢;exact c.imp (λe=>beq_iff_eq.mpr (bX (hp.symm.trans ((congrArg (nm[·]?) (eq_of_beq e)).trans q)))) ih
theorem Rj(nd:nm.Nodup){ps:List Nat}{pn:List Str}(hc:∀p x,nm[p]? =some x→ps.contains p=true→pn.contains x=true)
  {kw:List (Nat×MV)} {eO:SV} (h:u7 nm R kw eO):∀{s t s'},u7 nm R s t→kw.foldlM (stepK ps) s=some s'→u7 nm R s' (eO.foldl (λt b=>t++[b]) t)∧∀{f:Str×Value→SV×SV→Sem (ForInStep (SV×SV))},(∀a t,pn.contains a.1=true→List.lookup a.1 t=none→f a (t,[])=pure (.yield (t++[a],[])))→forIn eO (t,([]:SV)) f=(pure (eO.foldl (λt b=>t++[b]) t,[]):Sem (SV×SV)):=by
 induction h with
 |nil=>exact λhs e=>⟨bX e▸hs,λ_=>rfl⟩
 |@cons a b l r q _ ih=>intro s t s' hs e;rw [List.foldlM_cons] at e;obtain ⟨s1,e1,e⟩:=aT.mp e;have i1:=bA e1;have c:=bl.mp i1.1;have k:=ih (bX i1.2▸hs.snoc q) e;exact ⟨k.1,λhf=>oZ (hf b t (hc _ _ q.1 c.1) (Option.isNone_iff_eq_none.mp ((hs.look nd q.1).n.symm.trans c.2))) (k.2 hf)⟩
theorem xM{α σ:Type}{g:σ→α→σ}{f:α→σ→Sem (ForInStep σ)}(hf:∀a t,f a t=pure (.yield (g t a)))(l:List α):∀{t},forIn l t f=(pure (l.foldl g t):Sem σ):=by
 induction l with
 |nil=>exact rfl
 |cons a l ih=>exact oZ (hf a _) ih
theorem Rk(nd:nm.Nodup){kw:List (Nat×MV)}{eO:SV}(h:u7 nm R kw eO):∀{s t},u7 nm R s t→u7 nm R (kw.foldl jH s) (eO.foldl kF t):=by
 induction h with
 |nil=>exact id
 |@cons a b l r q _ ih=>
  intro s t hs;refine ih (?_:u7 nm R (jH s a) (kF t b));unfold jH kF;rw [(hs.look nd q.1).n]
  cases (List.lookup b.1 t).isNone with
  |true=>exact hs.snoc q
  |false=>exact hs
theorem DC(nd:nm.Nodup)(hs:u7 nm R s t){ps:List Nat}{pn:List Str}(h:bY (λp x=>nm[p]? =some x) ps pn)(e:(ps.all λp=>(aZ s p).isSome)=true):pn.filter (λn=>(List.lookup n t).isNone)=[]:=by
 induction h with
 |nil=>rfl
 |@cons p x l r q _ ih=>
  have e:=bl.mp e;have k:(List.lookup x t).isNone=false:=by exact (hs.look nd q).n.symm.trans ((Option.not_isSome _).symm.trans (congrArg not e.1))
  rw [List.filter_cons,if_neg (by rw [k];exact bU)]
  exact ih e.2
noncomputable abbrev nh(t:SV)(pn:List Str):SV:=pn.filterMap λn=>(List.lookup n t).map (n,·)
theorem u9{n:Str}{r:List Str}(h:List.lookup n t=none):nh t (n::r)=nh t r:=List.filterMap_cons_none (by rw [h];rfl)
theorem o4{n:Str}{r:List Str}{v:Value}(h:List.lookup n t=some v):nh t (n::r)=(n,v)::nh t r:=List.filterMap_cons_some (by rw [h];rfl)
theorem vf{x:Str}{v:Value}(e:List.lookup x t=some v){pn:List Str}(h:x∈pn):List.lookup x (nh t pn)=some v:=by
 induction h with
 |head r=>rw [o4 e];exact List.lookup_cons_self
 |tail n _ ih=>cases q:List.lookup n t with
  |none=>rw [u9 q];exact ih
  |some w=>
   rw [o4 q,List.lookup_cons]
   cases k:x==n with
   |true=>exact q.symm.trans (eq_of_beq k▸e)
   |false=>exact ih
theorem IK(t:SV)(pn:List Str):((nh t pn).map (·.1)).Sublist pn:=by
 induction pn with
 |nil=>exact .slnil
 |cons n r ih=>cases q:List.lookup n t with
  |none=>rw [u9 q];exact ih.cons n
  |some v=>rw [o4 q];exact ih.cons_cons n
structure Bound(nm:List Str)(R:Nat→MV→Value→Prop)(ids:List Nat)(pn:List Str)(vs:List Value)(bs:List MV)(T:SV):Prop where
 sub:(T.map (·.1)).Sublist pn
 len:bs.length=pn.length
 at_:∀(i:Nat) (m:MV),bs[i]? =some m→∃p x w,nm[p]? =some x∧pn[i]? =some x∧T.lookup x=some w∧R p m w
 hd:∀(x:Str) (v:Value),pn[0]? =some x→vs[0]? =some v→T.lookup x=some v
theorem zw{α β:Type}{f:α→Option β}{l:List α}:∀{r:List β},l.mapM f=some r→r.length=l.length∧∀{i:Nat} {b:β},r[i]? =some b→∃a,l[i]? =some a∧f a=some b:=by
 induction l with
 |nil=>exact λe=>mapM_nil e▸⟨rfl,λe=>(bx _ e.symm).elim⟩
 |cons a l ih=>
  intro r e;obtain ⟨b,q,e1,e2,rfl⟩:=mapM_cons e;have k:=ih e2;exact ⟨congrArg Nat.succ k.1,λ{i _}=>match i with
   |0=>λe=>⟨a,rfl,e1.trans e⟩
   |_+1=>λe=>k.2 e⟩
theorem rC{g:SV→Str×Value→SV}(hg:∀t a,∃r,g t a=t++r)(l:SV):∀t,∃r,l.foldl g t=t++r:=by
 induction l with
 |nil=>exact λt=>⟨[],(cH t).symm⟩
 |cons a l ih=>exact λt=>match hg t a,ih (g t a) with
  |⟨r,e⟩,⟨q,f⟩=>⟨r++q,f.trans (by rw [e,bJ])⟩
theorem BA(t:SV)(a:Str×Value):∃r,kF t a=t++r:=by
 unfold kF;split
 ·exact ⟨_,rfl⟩
 ·exact ⟨[],(cH t).symm⟩
theorem BB(nd:nm.Nodup)(hs:u7 nm R s t){ps:List Nat}{pn:List Str}(h:bY (λp x=>nm[p]? =some x) ps pn){vs:List Value}(ht:∃r,t=pn.zip vs++r){bs:List MV}(e:ps.mapM (aZ s)=some bs):Bound nm R ps pn vs bs (nh t pn):=by
 have k:=zw e;refine ⟨IK t pn,k.1.trans h.len,λi m e=>?_,λx v e1 e2=>vf ?_ (List.mem_of_getElem? e1)⟩
 ·obtain ⟨p,e1,e2⟩:=k.2 e
  obtain ⟨x,e3,e4⟩:=h.at e1;obtain ⟨w,e5,e6⟩:=(hs.look nd e4).s m e2;exact ⟨p,x,w,e4,e3,vf e5 (List.mem_of_getElem? e3),e6⟩
 ·obtain ⟨r,rfl⟩:=ht
  cases pn with
  |nil=>exact (bx _ e1.symm).elim
  |cons y l=>cases vs with
   |nil=>exact (bx _ e2.symm).elim
   |cons w q=>exact bX e1▸e2▸List.lookup_cons_self
end
def zx(h:Heap)(fd:FuncData)(ds:List Value):Prop:=(fd.defaults=.none∧ds=[])∨∃T o n,fd.defaults=.ref T∧h.get? T=some o∧o.data=.seq ds.toArray n
theorem zx.run{s:Shared}{fd:FuncData}{ds:List Value}(h:zx s.heap fd ds){M:Model}{A:Around}{E:Value→Shared→Prop}:∃r:Option (Array Value),(r.getD #[]).toList=ds∧∀(Q:Option (Array Value)→Shared→Prop),Q r s→wpAny M A (seqItems? fd.defaults) Q E s:=by
 rcases h with ⟨e,rfl⟩|⟨T,o,n,e,ho,hd⟩
 ·exact ⟨none,rfl,λQ q=>e▸wpAny_pure q⟩
 ·exact ⟨some ds.toArray,rfl,λQ q=>e▸wpAny_seqItems ho hd q⟩
theorem BC{a:List Arg}{b:List Arg}{c:Option Arg}{d:List Arg}{e:List (Option Expr)}{f:Option Arg}{g:List Expr}(h1:a=[])(h2:c=none)(h3:d=[])(h4:f=none):Arguments.mk a b c d e f g=⟨[],b,none,[],e,none,g⟩:=by rw [h1,h2,h3,h4]
theorem DE{ps:Arguments}(h1:ps.posonlyargs=[])(h2:ps.vararg=none)(h3:ps.kwonlyargs=[])(h4:ps.kwarg=none):ps=⟨[],ps.args,none,[],ps.kw_defaults,none,ps.defaults⟩:=by cases ps;exact BC h1 h2 h3 h4
theorem Wh{α β:Type}{M:Model}{A:Around}{E:Value→Shared→Prop}{s:Shared}{Q:β→Shared→Prop}{x:Sem α}{a:α}{g:α→Sem β}(e:x=pure a)(k:wpAny M A (g a) Q E s):wpAny M A (x >>=g) Q E s:=e▸wpAny_bind (wpAny_pure k)
theorem xN{β:Type}{M:Model}{A:Around}{E:Value→Shared→Prop}{s:Shared}{Q:β→Shared→Prop}{c:Prop}[Decidable c]{x y:Sem β}(h:¬c)(k:wpAny M A y Q E s):wpAny M A (if c then x else y) Q E s:=by rw [if_neg h];exact k
theorem BD{nm:List Str}{R:Nat→MV→Value→Prop}(nd:nm.Nodup){ids:List Nat}{MW:List MV}{as:List Arg}{kd:List (Option Expr)}{df:List Expr}{pos bs:List MV}{kw s0:List (Nat×MV)}{vs ds:List Value}{eO:SV}{fd:FuncData}(hp:fd.params=⟨[],as,none,[],kd,none,df⟩)
  (hn:bY (λp x=>nm[p]? =some x) ids (as.map (·.arg))) (lv:vs.length≤(as.map (·.arg)).length) (ld:ds.length≤(as.map (·.arg)).length) (ld':MW.length=ds.length)
  (S0:u7 nm R (ids.zip pos) ((as.map (·.arg)).zip vs)) (SK:u7 nm R kw eO)
  (SD:u7 nm R ((ids.drop (ids.length - MW.length)).zip MW) (((as.map (·.arg)).drop (ids.length - MW.length)).zip ds))
  (e:kw.foldlM (stepK ids) (ids.zip pos)=some s0) (e1:((ids.take (ids.length - MW.length)).all λp=>(aZ s0 p).isSome)=true)
  (e2:ids.mapM (aZ (((ids.drop (ids.length - MW.length)).zip MW).foldl jH s0))=some bs):
  ∃T:SV,(∀s:Shared,zx s.heap fd ds→BindsTo s fd ⟨vs,eO⟩ T)∧Bound nm R ids (as.map (·.arg)) vs bs T:=by
 have K:=Rj nd (MU hn) SK S0 e;rw [ld',hn.len] at SD e1 e2;refine ⟨_,λs hd M A E Q q=>?_,BB nd (Rk nd SD K.1) hn (match rC (λt a=>⟨[a],rfl⟩) eO ((as.map (·.arg)).zip vs),rC BA (((as.map (·.arg)).drop ((as.map (·.arg)).length - ds.length)).zip ds) (eO.foldl (λt b=>t++[b]) ((as.map (·.arg)).zip vs)) with
  |⟨r,e⟩,⟨r',e'⟩=>⟨r++r',e'.trans (by rw [e,bJ])⟩) e2⟩
 obtain ⟨r,hr,run⟩:=hd.run (M:=M) (A:=A) (E:=E);cases fd
 cases hp
 refine Wh (K.2 λa t h1 h2=>?_) (wpAny_bind (run _ ?_))
 ·exact (if_pos (Bool.or_eq_true_iff.mpr (.inl h1))).trans (if_neg λz=>bU ((congrArg Option.isSome h2).symm.trans z))
 ·have hd:List.drop ((r.getD #[]).toList.length - (as.map (·.arg)).length) (r.getD #[]).toList=ds:=by rw [hr,Nat.sub_eq_zero_of_le ld];rfl
  refine xN (λz=>Nat.not_lt_of_le lv (bN (bl.mp z).1)) (xN (λz=>?_) (Wh (a:=(((as.map (·.arg)).drop ((as.map (·.arg)).length - ds.length)).zip ds).foldl kF (eO.foldl (λt b=>t++[b]) ((as.map (·.arg)).zip vs))) ((xM (g:=kF) (λa t=>?_) _).trans (congrArg pure ?_)) (Wh (a:=(_,[])) rfl (xN bU (wpAny_pure ?_)))))
  ·exact bU ((((congrArg (λD:List Value=>(!(List.filter (λn=>(List.lookup n (eO.foldl (λt b=>t++[b]) ((as.map (·.arg)).zip vs))).isNone) (List.take ((as.map (·.arg)).length - D.length) (as.map (·.arg)))).isEmpty)=true) hd).trans (congrArg (λl:List Str=>(!l.isEmpty)=true) (DC nd K.1 (hn.take _) e1))).mp z))
  ·by_cases k:(List.lookup a.1 t).isNone=true
   ·exact (if_pos k).trans (congrArg (λt=>pure (ForInStep.yield t)) (if_pos k:kF t a=_).symm)
   ·exact (if_neg k).trans (congrArg (λt=>pure (ForInStep.yield t)) (if_neg k:kF t a=_).symm)
  ·exact congrArg (λD:List Value=>List.foldl kF (eO.foldl (λt b=>t++[b]) ((as.map (·.arg)).zip vs)) (((as.map (·.arg)).drop ((as.map (·.arg)).length - D.length)).zip D)) hd
  ·exact (congrArg (Q · s) (congrArg (nh _) (cH _))).mpr q
theorem zy{D:cP}{G:Fz}{ρ:List PR}{R:Nat→MV→Value→Prop}(hR:∀p m v,VR D G ρ m v→R p m v){ps:List Nat}{pn:List Str}(h:bY (λp x=>D.nm[p]? =some x) ps pn):∀{ms:List MV} {vs:List Value},cY D G ρ ms vs→u7 D.nm R (ps.zip ms) (pn.zip vs):=by
 induction h with
 |nil=>exact λ_=>.nil
 |cons q _ ih=>
  intro ms vs hv
  cases ms with
  |nil=>rw [hv.nil_inv];exact .nil
  |cons m ms=>obtain ⟨v,ws,rfl,a,b⟩:=hv.cons_inv;exact .cons ⟨q,hR _ _ _ a⟩ (ih b)
theorem bY.xO{α β:Type}{f:α→Option β}{P:β→α→Prop}(H:∀a b,f a=some b→P b a)(l:List α):∀{r:List β},l.mapM f=some r→bY P r l:=by
 induction l with
 |nil=>exact λe=>mapM_nil e▸.nil
 |cons a l ih=>intro r e;obtain ⟨b,q,e1,e2,rfl⟩:=mapM_cons e;exact .cons (H _ _ e1) (ih e2)
theorem bY.flip{α β:Type}{P:α→β→Prop}{l:List α}{r:List β}(h:bY P l r):bY (λb a=>P a b) r l:=by
 induction h with
 |nil=>exact .nil
 |cons q _ ih=>exact .cons q ih
set_option tactic.hygienic true in
theorem dZ{x:Str}:∀{l:List Str} {i:Nat},l.idxOf? x=some i→l[i]? =some x
 |[],i,h=>by simp at h
 |a::l,i,h=>by
  rw [List.idxOf?_cons] at h;split at h
  ·rename_i e;cases h;rw [beq_iff_eq.mp e];rfl
  ·obtain ⟨j,e,rfl⟩:=dR.mp h
   rw [List.getElem?_cons_succ];exact dZ e
theorem o6{α β:Type}{f:α→Option β}:∀{l:List α} {r:List β},l.mapM f=some r→r.length=l.length∧∀(j:Nat) (a:α),l[j]? =some a→∃b,f a=some b∧r[j]? =some b
 |[],r,h=>by rw [mapM_nil h];exact ⟨rfl,λj a e=>by simp at e⟩
 |x::l,r,h=>by
  obtain ⟨b,q,e1,e2,rfl⟩:=mapM_cons h;obtain ⟨hl,hg⟩:=o6 e2;refine ⟨by simp [hl],λj a e=>?_⟩
  cases j with
  |zero=>simp at e;subst e;exact ⟨b,e1,rfl⟩
  |succ j=>simp at e⊢;exact hg j a e
structure zz(D:cP)(ps:Arguments)(body:List Stmt)(sc:Scope)(fe:cU):Prop where
 pl:ps=⟨[],ps.args,none,[],ps.kw_defaults,none,ps.defaults⟩
 ids:bY (λp x=>D.nm[p]? =some x) fe.params (ps.args.map (·.arg))
 kind:sc.kind=.function
 gen:sc.isGenerator=false
 cor:sc.isCoroutine=false
 take:(slotsOf sc).take (ps.args.map (·.arg)).length=ps.args.map (·.arg)
 nd:(sc.names.map (·.1)).Nodup
 jw:fe.jw=(slotsOf sc).length
 body:fe.body=fj 60 (Dj D.az D.nm D.fF sc) body
theorem o7{D:cP}{ps:Arguments}{body:List Stmt}{sc:Scope}{fe:cU}(e:xy D.az D.nm D.fF ps body sc=some fe):zz D ps body sc fe:=by
 obtain ⟨ids,e1,e⟩:=aT.mp e;obtain ⟨ds,e2,e⟩:=aT.mp e;obtain ⟨h9,e⟩:=bA e;cases e
 have h9:=bl.mp h9;have h8:=bl.mp h9.1;have h7:=bl.mp h8.1;have h6:=bl.mp h7.1;have h5:=bl.mp h6.1;have h4:=bl.mp h5.1;have h3:=bl.mp h4.1;have h2:=bl.mp h3.1;exact ⟨DE (List.isEmpty_iff.mp h2.1) (Option.isNone_iff_eq_none.mp h2.2) (List.isEmpty_iff.mp h3.2) (Option.isNone_iff_eq_none.mp h4.2),bY.xO (λ_ _=>dZ) _ e1,eq_of_beq h5.2,(Bool.not_eq_true' _).mp h6.2,(Bool.not_eq_true' _).mp h7.2,eq_of_beq h8.2,bN h9.2,rfl,rfl⟩
section
variable {D:cP}{ps:Arguments}{body:List Stmt}{sc:Scope}{fe:cU}
theorem zz.Wi(C:zz D ps body sc fe):(slotsOf sc).Nodup:=C.nd.sublist (List.Sublist.map _ List.filter_sublist)
theorem zz.Wj(C:zz D ps body sc fe):(ps.args.map (·.arg)).Nodup:=C.take▸C.Wi.sublist (List.take_sublist _ _)
theorem zz.sub(C:zz D ps body sc fe):(ps.args.map (·.arg)).Sublist (slotsOf sc):=by
 have k:=List.take_sublist (ps.args.map (·.arg)).length (slotsOf sc)
 rwa [C.take] at k
theorem zz.slot(C:zz D ps body sc fe){i:Nat}(h:i< (ps.args.map (·.arg)).length):(slotsOf sc)[i]? =(ps.args.map (·.arg))[i]? :=by have k:=List.getElem?_take_of_lt (l:=slotsOf sc) h;rw [C.take] at k;exact k.symm
end
theorem Bw.ds{D:cP}{K:Frag}{fe:cU}{fd:FuncData}(h:Bw D K fe fd)(G:Fz)(ρ:List PR):∃ds,cY D G ρ fe.defs ds∧∀h:Heap,K.In h→zx h fd ds:=by
 rcases h with ⟨a,b⟩|⟨T,o,items,n,a,b,c,d⟩
 ·exact ⟨[],a▸.nil,λ_ _=>.inl ⟨b,rfl⟩⟩
 ·exact ⟨items.toList,d G ρ,λh X=>.inr ⟨T,o,n,a,X _ _ b,c⟩⟩
theorem o8{D:cP}{K:Frag}{G:Fz}{ρ:List PR}(nd:D.nm.Nodup){R:Nat→MV→Value→Prop}(hR:∀p m v,VR D G ρ m v→R p m v){fe:cU}{fd:FuncData}{body:List Stmt}{pos kv bs:List MV}{kn:List Nat}{vs ws:List Value}{xs:List Str}
  (C:zz D fd.params body fd.scope fe) (hd:Bw D K fe fd) (lp:pos.length=vs.length) (S0:u7 D.nm R (fe.params.zip pos) ((fd.params.args.map (·.arg)).zip vs)) (h2:cY D G ρ kv ws) (ek:kn.mapM (λi=>D.nm[i]?)=some xs) (e:fh fe pos kn kv=some bs):
  ∃T,(∀s:Shared,K.In s.heap→BindsTo s fd ⟨vs,xs.zip ws⟩ T)∧Bound D.nm R fe.params (fd.params.args.map (·.arg)) vs bs T:=by
 obtain ⟨ds,d1,d2⟩:=hd.ds G ρ;obtain ⟨c,e⟩:=bA e;obtain ⟨s0,e1,e⟩:=aT.mp e;have i2:=bA e;have c:=bl.mp c;obtain ⟨T,b1,b2⟩:=BD nd C.pl C.ids (C.ids.len▸lp▸bN c.1) (C.ids.len▸d1.length▸bN c.2) d1.length S0 (zy hR (bY.xO (P:=λp x=>D.nm[x]? =some p) (λ_ _ z=>z) _ ek).flip h2) (zy hR (C.ids.drop _) d1) e1 i2.1 i2.2
 exact ⟨T,λs X=>b1 s (d2 _ X),b2⟩
theorem rD{α:Type}{x:Str}{l:List (Str×α)}(h:x∉l.map (·.1)):List.lookup x l=none:=by
 induction l with
 |nil=>rfl
 |cons a l ih=>rw [List.map_cons,bq,not_or] at h;rw [List.lookup_cons,beq_eq_false_iff_ne.mpr h.1];exact ih h.2
theorem vg{k:Str→Option NameKind}{x:Str}(hk:k x=some .local){r:List (Str×Value)}:∀{m:Str→Option Value},(r.map (·.1)).Nodup→bindL k r m x=(List.lookup x r).or (m x):=by
 induction r with
 |nil=>exact λ_=>rfl
 |cons a r ih=>
  intro m nd;have nd:=List.nodup_cons.mp nd;refine (ih nd.2).trans ?_
  by_cases e:x=a.1
  ·subst e
   rw [List.lookup_cons_self,rD nd.1,if_pos hk,if_pos rfl];rfl
  ·rw [List.lookup_cons,beq_eq_false_iff_ne.mpr e]
   split
   ·exact congrArg _ (if_neg e)
   ·rfl
theorem DF{k:Str→Option NameKind}{x:Str}(hk:k x≠some .local){r:List (Str×Value)}:∀{m:Str→Option Value},(r.map (·.1)).Nodup→bindC k r m x=(List.lookup x r).or (m x):=by
 induction r with
 |nil=>exact λ_=>rfl
 |cons a r ih=>
  intro m nd;have nd:=List.nodup_cons.mp nd;refine (ih nd.2).trans ?_
  by_cases e:x=a.1
  ·subst e
   rw [List.lookup_cons_self,rD nd.1,if_neg hk,if_pos rfl];rfl
  ·rw [List.lookup_cons,beq_eq_false_iff_ne.mpr e]
   split
   ·rfl
   ·exact congrArg _ (if_neg e)
theorem gR{α:Type}{x:Str}{k:α}:∀{l:List (Str×α)},(l.map (·.1)).Nodup→(x,k)∈l→l.lookup x=some k
 |[],_,h=>by cases h
 |(y,d)::r,nd,h=>by
  rw [List.lookup_cons];rcases bq.mp h with h'|h'
  ·cases h';simp
  ·have hx:x∈r.map (·.1):=List.mem_map_of_mem (f:=λ(p:Str×α)=>p.1) h'
   have:(x==y)=false:=by rw [beq_eq_false_iff_ne];intro e;rw [e] at hx;exact (List.nodup_cons.mp nd).1 hx
   rw [this];exact gR (List.nodup_cons.mp nd).2 h'
theorem s6{sc:Scope}(nd:(sc.names.map (·.1)).Nodup){x:Str}(h:x∈slotsOf sc):sc.names.lookup x=some .local∨sc.names.lookup x=some .cell:=by unfold slotsOf at h;obtain ⟨p,hp,rfl⟩:=List.mem_map.mp h;obtain ⟨hp,hk⟩:=List.mem_filter.mp hp;have q:=gR nd (k:=p.2) (x:=p.1) hp;rw [q];rw [Bool.or_eq_true,beq_iff_eq,beq_iff_eq] at hk;exact hk.imp (by rw [·]) (by rw [·])
noncomputable def ZM(D:cP)(G:Fz)(ρ:List PR):Fl→Flow→Prop
 |.next,f=>f=.next
 |.ret v,f=>∃w,f=.ret w∧VR D G ρ v w
noncomputable def ZN:Fl→MV
 |.next=>.none
 |.ret v=>v
theorem vj{names:List (Str×NameKind)}:∀{n:Nat} {acc:List (Str×Addr)},(names.map (·.1)).Nodup→(acc.map (·.1)).Nodup→(∀x∈acc.map (·.1),x∉names.map (·.1))→((cellsFrom n names acc).map (·.1)).Nodup:=by
 induction names with
 |nil=>exact λ_ h _=>h
 |cons a r ih=>
  intro n acc nd h hd;have nd:=List.nodup_cons.mp nd;unfold cellsFrom;split
  ·exact ih nd.2 (List.nodup_cons.mpr ⟨λq=>hd _ q (cy ..),h⟩) λx hx=>(bq.mp hx).elim (λe=>e▸nd.1) λhx q=>hd x hx (bR _ q)
  ·exact ih nd.2 h λx hx q=>hd x hx (bR _ q)
structure Ent(fd:FuncData)(T:SV)(s s1:Shared)(env:Env):Prop where
 aP:env.locals=s.heap.objs.size
 ZO:env.cells=cellsFrom (s.heap.objs.size+1) fd.scope.names []
 sc:env.scope=fd.scope
 gl:env.globals=mainGlobals
 bi:env.builtins=builtinsNs
 x:InCallC s env.locals (bindL env.kindOf T λ_=>none) env.cells (bindC env.kindOf T λ_=>none) s1
section
variable {D:cP}{h₀:Heap}{G:Fz}{ρ:List PR}{h:Hp}{s s1:Shared}{K:Frag}{mg mb:Str→Option Value}{fe:cU}{fd:FuncData}{body:List Stmt}{T:SV}{env:Env}{bs:List MV}{vs:List Value}
theorem enter(L:cX D K h₀ mg mb){A:Around}(hA:A.depth< recursionLimit)(X:K.In s.heap)(base:∀b o,h₀.get? b=some o→s.heap.get? b=some o){fa:Addr}{oc:Value}{od:Option Addr}{Bv:Array (Option Value)}(ho:K.lookup fa=some ⟨oc,od,.func fd,Bv⟩)(F:ZE D K fe fd body)
  (C:zz D fd.params body fd.scope fe) {args:Args} (hb:BindsTo s fd args T) (hT:(T.map (·.1)).Sublist (fd.params.args.map (·.arg))) {R:Result→Shared→Prop} (k:∀env s1,Ent fd T s s1 env→codeAny (model D.prog D.w) A (.func body env) R s1):codeAny (model D.prog D.w) A (.call (.ref fa) args) R s:=by
 refine codeAny_call_function hA (X _ _ ho) rfl C.cor C.gen F.hb (codeRec_of X F.code) (hb _ _ _ _ ?_);rw [F.cl,F.gl,F.bi];refine wpAny_newFunctionEnv_cells C.kind (λy hy=>(s6 C.nd ((hT.trans C.sub).subset (List.mem_map_of_mem hy))).imp id λe=>⟨e,cellsFrom_some _ _ _ (.inl e)⟩) λenv he s1 x=>?_
 exact ⟨L.nolimit.keeps λb o e=>x.toInCall.keep b o (base b o e),k env s1 ⟨he▸rfl,he▸rfl,he▸rfl,he▸rfl,he▸rfl,x⟩⟩
theorem Ent.new(x:Ent fd T s s1 env)(nd:(fd.scope.names.map (·.1)).Nodup)(b:Addr)(hb:b∈jy env):s.heap.objs.size≤b∧∃o,s1.heap.get? b=some o:=by
 rcases bq.mp hb with rfl|hb
 ·exact ⟨Nat.le_of_eq x.aP.symm,match x.x.toInCall.ns with|⟨o,_,_,h1,_⟩=>⟨o,h1⟩⟩
 ·obtain ⟨⟨y,c⟩,hy,rfl⟩:=List.mem_map.mp hb
  exact ⟨Nat.le_of_lt (x.aP▸x.x.above y c hy),match x.x.cell y c (gR (x.ZO▸vj nd .nil λ_ z=>(dm z).elim) hy) with|⟨o,ho,_⟩=>⟨o,ho⟩⟩
theorem Ent.Rl(x:Ent fd T s s1 env)(C:zz D fd.params body fd.scope fe):iU (Dj D.az D.nm D.fF fd.scope) env:=⟨x.sc▸rfl,x.sc▸C.kind,x.gl,x.bi,List.nodup_cons.mpr ⟨λq=>match List.mem_map.mp q with|⟨⟨y,c⟩,hy,e⟩=>Nat.lt_irrefl _ (e▸x.x.above y c hy),List.pairwise_map.mpr x.x.apart⟩⟩
theorem BE{bs:List MV}{n i:Nat}{mv:MV}(e:(bs.map some++List.replicate n Option.none)[i]? =some (some mv)):bs[i]? =some mv:=by
 rw [List.getElem?_append] at e;split at e
 ·rw [List.getElem?_map] at e
  obtain ⟨m,em,e⟩:=dR.mp e;exact em.trans e
 ·rw [List.getElem?_replicate] at e
  split at e<;>cases e
theorem Ent.lr(x:Ent fd T s s1 env)(C:zz D fd.params body fd.scope fe)(B:Bound D.nm (λ_ m v=>VR D G ρ m v) fe.params (fd.params.args.map (·.arg)) vs bs T):LR D G ρ (Dj D.az D.nm D.fF fd.scope) env (bs.map some++List.replicate (fe.jw - bs.length) Option.none) s1.heap:=by
 have nd:(T.map (·.1)).Nodup:=C.Wj.sublist B.sub;have ko:env.kindOf=λy=>fd.scope.names.lookup y:=x.sc▸rfl
 have at_:∀(i:Nat) (y:Str) (mv:MV),(slotsOf fd.scope).idxOf? y=some i→(bs.map some++List.replicate (fe.jw - bs.length) Option.none)[i]? =some (some mv)→∃w,List.lookup y T=some w∧VR D G ρ mv w:=λi y mv e1 e2=>by
  obtain ⟨p,z,w,_,e4,e5,e6⟩:=B.at_ i mv (BE e2);have e:=(C.slot (List.getElem?_eq_some_iff.mp e4).1).trans e4
  cases (dZ e1).symm.trans e
  exact ⟨w,e5,e6⟩
 refine ⟨?_,⟨_,x.x.toInCall.ns,λi y mv e1 ek e2=>?_⟩,λi y e1 ek=>?_⟩
 ·rw [aY,cu,List.length_replicate,C.jw,Nat.add_sub_cancel' (B.len▸C.sub.length_le)];rfl
 ·obtain ⟨w,hw,hr⟩:=at_ i y mv e1 e2
  exact ⟨w,(vg ((congrFun ko y).trans ek) nd).trans (by rw [hw];rfl),hr⟩
 ·obtain ⟨c,hc⟩:=Option.isSome_iff_exists.mp (x.ZO▸cellsFrom_some _ _ _ (.inl ek):(env.cells.lookup y).isSome=true)
  refine ⟨c,_,hc,x.x.cell y c hc,λmv e2=>?_⟩
  obtain ⟨w,hw,hr⟩:=at_ i y mv e1 e2;exact ⟨w,(DF (λz=>nomatch (ek.symm.trans ((congrFun ko y).symm.trans z):some NameKind.cell=some .local)) nd).trans (by rw [hw];rfl),hr⟩
end
theorem s7{D:cP}{A:Around}{E:Value→Shared→Prop}{s:Shared}{K:Frag}{C x dx:Addr}{m:Str→Option Value}{N:Nat}{y:Str}{v:Value}{Q:Unit→Shared→Prop}
  (X:K.In s.heap) (hsa:findIn K (.ref C) "__setattr__"=some (some (.builtin "object.__setattr__"))) (hpo:plainOver K C=true) (hhd:hasDictIn K C=true) (Vh:takerIn K C y=some none)
  (Lu:s.heap.get? x=some (instObj C dx)) (MX:zj s.heap dx m N) (hN:N< 1000)
  (hQ:∀h' N',N'≤N+1→zj h' dx (λz=>if z=y then some v else m z) N'→Heap.SameBut dx s.heap h'→∀t,Q () {s with heap:=h',toks:=t}):
  wpAny (model D.prog D.w) A (PySem.setAttr (.ref x) y v) Q E s:=by
 obtain ⟨od,V9,ZH⟩:=Dw MX.ns;have I:InstAt s.heap x (instObj C dx) C (some od):=⟨Lu,rfl,rfl,V9⟩;refine set_plain X I hsa ?_;refine osa_open (s:={s with toks:=s.toks+1}) X I hpo Vh λb=>?_
 obtain ⟨cd,Wb,CZ⟩:=any_some hhd;refine wpAny_bind (wpAny_pure (wpAny_bind (wpAny_bind (wpAny_loadPart Lu (wpAny_bind ((looks_clsIn (M:=model D.prog D.w) (h:=s.heap) X Wb) _ _ _ _ (λ_ _ z=>z) ?_))))))
 rw [CZ];refine wpAny_pure (a:=some dx) (wpAny_bind (wpAny_pure (wpAny_bind ?_)));refine lu (s:={s with toks:=s.toks+1}) MX λh1 zv rA=>?_
 obtain ⟨o1,ZL,ep1,Wc,MB,vm,hf1,Ls⟩:=id zv;have Rm:ZL.size≤N+1:=by refine ak Ls ?_;split<;>lia
 refine wpAny_bind (wpAny_lookBehind Wc (by rw [MB];exact pastItsLine_dict (by rw [sizeLine_eq];lia)) ?_)
 refine wpAny_pure ?_;exact hQ h1 _ (by split<;>lia) zv rA _
theorem IL{st:Stmt}{q:List Expr×Expr×Pos}(h:Lr st=some q):st=.Assign q.1 q.2.1 q.2.2:=by
 cases st with
 |Assign a b c=>exact bX h▸rfl
 |_=>exact (bx _ h.symm).elim
theorem DG{α:Type}{l:List α}{a:α}(h:Rd l=some a):l=[a]:=by
 cases l with
 |nil=>exact (bx _ h.symm).elim
 |cons b r=>cases r with
  |nil=>exact bX h▸rfl
  |cons c r=>exact (bx _ h.symm).elim
theorem rE{e:Expr}{q:Expr×Str×Pos}(h:mj e=some q):e=.Attribute q.1 q.2.1 q.2.2:=by
 cases e with
 |Attribute a b c=>exact bX h▸rfl
 |_=>exact (bx _ h.symm).elim
theorem gI{e:Expr}{x:Str}(h:fS e=some x):∃p,e=.Name x p:=by
 cases e with
 |Name y p=>exact ⟨p,bX h▸rfl⟩
 |_=>exact (bx _ h.symm).elim
structure Wk(nm pn:List Str)(st:Stmt)(q:Nat×Nat)(sf:Str)(p1:Pos)(a:Str)(p2:Pos)(p:Str)(p3 p4:Pos):Prop where
 e:st=.Assign [.Attribute (.Name sf p1) a p2] (.Name p p3) p4
 h0:pn[0]? =some sf
 d0:isDebug sf=false
 d:isDebug p=false
 ha:nm[q.1]? =some a
 hp:pn[q.2]? =some p
theorem vp{nm pn:List Str}{st:Stmt}{q:Nat×Nat}(e:nX nm pn st=some q):∃sf p1 a p2 p p3 p4,Wk nm pn st q sf p1 a p2 p p3 p4:=by obtain ⟨u,e1,e⟩:=aT.mp e;obtain ⟨t,e2,e⟩:=aT.mp e;obtain ⟨o,e3,e⟩:=aT.mp e;obtain ⟨sf,e4,e⟩:=aT.mp e;obtain ⟨p,e5,e⟩:=aT.mp e;have f:=bA e;obtain ⟨i,e6,e⟩:=aT.mp f.2;obtain ⟨j,e7,e⟩:=aT.mp e;obtain ⟨p1,q1⟩:=gI e4;obtain ⟨p3,q3⟩:=gI e5;have h:=bl.mp f.1;have h1:=bl.mp h.1;exact ⟨sf,p1,o.2.1,o.2.2,p,p3,u.2.2,by rw [IL e1,DG e2,rE e3,q1,q3],List.head?_eq_getElem? ▸beq_iff_eq.mp h1.1,(Bool.not_eq_true' _).mp h1.2,(Bool.not_eq_true' _).mp h.2,bX e▸dZ e6,bX e▸dZ e7⟩
structure Wl(D:cP)(K:Frag)(C x dx:Addr)(env:Env)(pn:List Str)(ml:Str→Option Value):Prop where
 sa:findIn K (.ref C) "__setattr__"=some (some (.builtin "object.__setattr__"))
 po:plainOver K C=true
 hd:hasDictIn K C=true
 fk:env.scope.kind=.function
 aP:∀y∈pn,env.kindOf y=some .local
 h0:∀y,pn[0]? =some y→ml y=some (.ref x)
 ne:dx≠env.locals
 ne':x≠dx
 hK:∀o,K.lookup dx≠some o
 nd:D.nm.Nodup
structure RSt(K:Frag)(C x dx:Addr)(L:Addr)(ml:Str→Option Value)(h:Heap)(m:Str→Option Value)(N:Nat):Prop where
 rm:K.In h
 hx:h.get? x=some (instObj C dx)
 ns:zj h dx m N
 lo:h.Ns L ml
noncomputable abbrev vq(pn:List Str)(ml:Str→Option Value)(j:Nat):Option Value:=(pn[j]?).bind ml
section
variable {D:cP}{A:Around}{E:Value→Shared→Prop}{K:Frag}{C x dx:Addr}{env:Env}{pn:List Str}{ml:Str→Option Value}
structure Wm(D:cP)(fs:List (Nat×Nat))(pn:List Str)(ml m:Str→Option Value)(dx:Addr)(h h':Heap)(m':Str→Option Value):Prop where
 ns:∃N,zj h' dx m' N
 sb:Heap.SameBut dx h h'
 at_:∀p∈fs,∀y,D.nm[p.1]? =some y→m' y=vq pn ml p.2
 no:∀y,(∀p∈fs,D.nm[p.1]? ≠some y)→m' y=m y
theorem IM(c:Wl D K C x dx env pn ml){stmts:List Stmt}{fs:List (Nat×Nat)}(ec:bY (λq st=>nX D.nm pn st=some q) fs stmts):∀{s:Shared} {m:Str→Option Value} {N:Nat} {Q:Flow→Shared→Prop},
   (∀p∈fs,∀y,D.nm[p.1]? =some y→takerIn K C y=some none)→(fs.map (·.1)).Nodup→(∀p∈fs,∃v,vq pn ml p.2=some v)→N+fs.length< 1000→RSt K C x dx env.locals ml s.heap m N→
   (∀h' t m',Wm D fs pn ml m dx s.heap h' m'→Q .next {s with heap:=h',toks:=t})→wpAny (model D.prog D.w) A (execs stmts env) Q E s:=by
 induction ec with
 |nil=>exact λ_ _ _ _ S k=>wpAny_pure (k _ _ _ ⟨⟨_,S.ns⟩,⟨rfl,λ_ _=>rfl⟩,λp hp=>(dm hp).elim,λ_ _=>rfl⟩)
 |@cons q st fs stmts e1 _ ih=>
  intro s m N Q Vh nd hv hN S k;obtain ⟨sf,p1,a,p2,p,p3,p4,r⟩:=vp e1;obtain ⟨v,Wn⟩:=hv q (cy ..);have hl:ml p=some v:=by rw [vq,r.hp] at Wn;exact Wn
  have MI:=List.nodup_cons.mp nd;rw [r.e];refine wpAny_execs_cons (plainObj_wpAny_Assign_Attribute (wpAny_Name (wpAny_loadName_local c.fk (c.aP p (List.mem_of_getElem? r.hp)) S.lo hl (wpAny_Name (wpAny_loadName_local c.fk (c.aP sf (List.mem_of_getElem? r.h0)) S.lo (c.h0 _ r.h0)
   (s7 S.rm c.sa c.po c.hd (Vh q (cy ..) a r.ha) S.hx S.ns (Nat.lt_of_le_of_lt (bZ _ _) hN) λh1 N1 hN1 zv rA t1=>?_)) r.d0)) r.d) rfl)
  refine ih (λp hp=>Vh p (bR _ hp)) MI.2 (λp hp=>hv p (bR _ hp)) (N:=N1) (by rw [List.length_cons] at hN;lia) ⟨λb o e=>(rA.2 b λz=>c.hK o (z▸e)).trans (S.rm b o e),(rA.2 x c.ne').trans S.hx,zv,S.lo.sameBut rA c.ne.symm⟩
   λh' t m' z=>k h' t m' ⟨z.ns,⟨z.sb.1.trans rA.1,λb nb=>(z.sb.2 b nb).trans (rA.2 b nb)⟩,λp hp y hy=>?_,λy hy=>?_⟩
  ·rcases bq.mp hp with rfl|hp
   ·cases r.ha.symm.trans hy
    exact (z.no a λr' hr er=>MI.1 (List.mem_map.mpr ⟨r',hr,getElem?_inj c.nd er r.ha⟩)).trans ((if_pos rfl).trans Wn.symm)
   ·exact z.at_ p hp y hy
  ·exact (z.no y λp hp=>hy p (bR _ hp)).trans (if_neg (c:=y=a) λe=>hy q (cy ..) (e▸r.ha))
end
theorem qP.made{n:Nat}{A:Around}(h:qP (n+1) A)(C:Addr)(vs:List Value)(kw:List (Str×Value)):qP n (A.under (.builtin "type.__call__" ⟨.ref C::vs,kw⟩)):=by
 have hf:(Code.builtin "type.__call__" ⟨.ref C::vs,kw⟩).frames=0:=by kernel_rfl
 have hc:(Code.builtin "type.__call__" ⟨.ref C::vs,kw⟩).isCreation=true:=rfl;have hk:(Code.builtin "type.__call__" ⟨.ref C::vs,kw⟩).isCaller=false:=by kernel_rfl
 have hg:(Code.builtin "type.__call__" ⟨.ref C::vs,kw⟩).isGuard=false:=by
  show guardIds.contains "type.__call__"=false
  decide+kernel
 have hw:(Code.builtin "type.__call__" ⟨.ref C::vs,kw⟩).weight=1:=by simp [Code.weight,hf,hc,hg,hk]
 have hu:(Code.builtin "type.__call__" ⟨.ref C::vs,kw⟩).cUnits=1:=by simp [Code.cUnits,hf]
 refine ⟨?_,?_,h.handled⟩
 ·have:=h.depth
  show A.depth+(Code.builtin "type.__call__" ⟨.ref C::vs,kw⟩).weight+n< _
  rw [hw];lia
 ·have:=h.units
  show A.units+(Code.builtin "type.__call__" ⟨.ref C::vs,kw⟩).cUnits+_+_< _
  rw [hu];lia
theorem s8{m:MV}{l:List MV}{r:List Nat}(e:aC (m::l)=some r):∃x z,m=.str x∧aC l=some z∧r=x++z:=by
 cases m with
 |str x=>exact map_some e λz e1 e2=>⟨x,z,rfl,e1,e2.symm⟩
 |_=>exact no e
theorem tu{D:cP}{G:Fz}{ρ:List PR}{l:List MV}:∀{vs:List Value} {r:List Nat},cY D G ρ l vs→aC l=some r→∃ys,StrsAre vs ys∧(ys.map (·.length)).sum=r.length∧Str.join (toStr []) ys=toStr r:=by
 induction l with
 |nil=>exact λh e=>h.nil_inv▸aI e▸⟨[],.nil,rfl,rfl⟩
 |cons m l ih=>
  intro vs r h e;obtain ⟨v,ws,rfl,hv,hr⟩:=h.cons_inv;obtain ⟨x,z,rfl,e1,rfl⟩:=s8 e;obtain ⟨t,rfl⟩:=dY hv;obtain ⟨ys,a,b,c⟩:=ih hr e1;refine ⟨toStr x::ys,.cons _ _ a,by rw [List.map_cons,List.sum_cons,b,bu,aY],?_⟩
  cases ys with
  |nil=>rw [jZ c.symm,cH];rfl
  |cons y ys=>
   show toStr x++toStr []++Str.join (toStr []) (y::ys)=_
   rw [c,gz,gz,cH]
section
variable {D:cP}{h₀:Heap}{G:Fz}{ρ:List PR}{h:Hp}{s:Shared}{A:Around}{E:Value→Shared→Prop}{K:Frag}{mg mb:Str→Option Value}
theorem DH{x:MV}{v:Value}{t:Tok}{l:List MV}{r:List Nat}{Q:Value→Shared→Prop}(R:Rep D h₀ G ρ h s)(hx:VR D G ρ x v)(e1:listOf x h=some l)(e2:aC l=some r)(hr:r.length≤aH)(k:cQ D h₀ G ρ s (.str r) h Q):
  wpAny (model D.prog D.w) A (call (.builtin "str.join") [.str (toStr []) t,v]) Q E s:=by
 obtain ⟨a,vs,rfl,hl,hvs,hz⟩:=fm R hx e1;obtain ⟨ys,a1,a2,a3⟩:=tu hvs e2;refine join_list hl (by simpa using a1) ?_ λt' c=>?_
 ·rw [a2,bu];unfold aH at hr;simp;lia
 ·have:Txt.join (toStr []) ys=toStr r:=by
   show Builtin.Str.glued (toStr []) ys=_
   rw [StrLaws.glued_eq_join,a3]
  rw [this];exact k.val R (VR.str hr) _
theorem IP{l:List MV}{vs:List Value}(hr:cY D G ρ l vs)(hl:l.length≤aH):((vs.toArray.size:Nat):Int)< 2 ^ 63:=by
 rw [List.size_toArray, ← hr.length];unfold aH at hl;have:(2:Int) ^ 63=9223372036854775808:=by decide
 lia
theorem xP{sup:List Nat}{m:MV}{l:List MV}{b:Bool}(e:jG sup (m::l)=some b):∃i c,m=.cls i∧jG sup l=some c∧b=(sup.contains i||c):=by
 cases m with
 |cls i=>exact map_some e λc e1 e2=>⟨i,c,rfl,e1,e2.symm⟩
 |_=>exact no e
theorem xQ{C:Addr}{sup:List Nat}(hK:∀(i:Nat) (A:Addr),D.ca[i]? =some A→kitOne K (.ref C) (.ref A)=some (sup.contains i)){l:List MV}:∀{vs:List Value} {b:Bool},cY D G ρ l vs→jG sup l=some b→kitAny K (.ref C) vs=some b:=by
 induction l with
 |nil=>exact λh e=>h.nil_inv▸e
 |cons m l ih=>
  intro vs b h e;obtain ⟨v,ws,rfl,hv,hr⟩:=h.cons_inv;obtain ⟨i,c,rfl,e1,rfl⟩:=xP e;obtain ⟨A,hA,rfl⟩:=id hv;have k:=ih hr e1;unfold kitAny;rw [hK i A hA]
  cases sup.contains i with
  |true=>rfl
  |false=>simpa using k
set_option tactic.hygienic true in
theorem BF{a:MV}{n:Nat}(e:uL a=some n):a=.int n∧n< 10:=by
 cases a with
 |int i=>
  unfold uL at e;dsimp only at e;split at e
  ·rename_i q
   have:=bX e;exact ⟨by rw [← this];congr 1;lia,by lia⟩
  ·cases e
 |_=>exact (bx n e.symm).elim
theorem IQ{a:MV}{v:Value}{n:Nat}{Q:Value→Shared→Prop}(R:Rep D h₀ G ρ h s)(hx:VR D G ρ a v)(e:lenOf a h=some n)(k:cQ D h₀ G ρ s (.int n) h Q):
  wpAny (model D.prog D.w) A (call (BI.val .len) [v] []) Q E s:=by
 rcases or_some e with e|⟨_,e⟩
 ·obtain ⟨x,e1,rfl⟩:=dR.mp e
  cases bI e1
  obtain ⟨hl,t,rfl⟩:=id hx;refine P.len_str ?_ ?_
  ·rw [bu];unfold aH at hl
   have:(2:Int) ^ 63=9223372036854775808:=by decide
   lia
  ·rw [bu];exact k.val R VR.int _
 ·obtain ⟨l,e1,rfl⟩:=dR.mp e
  obtain ⟨ad,vs,rfl,hl,hr,hz⟩:=fm R hx e1;refine call_len_list hl (IP hr hz) ?_;rw [k9 hr];exact k.val R VR.int _
theorem xR(L:cX D K h₀ mg mb){a c:MV}{va vc:Value}{b:Bool}{Q:Value→Shared→Prop}(R:Rep D h₀ G ρ h s)(ha:VR D G ρ a va)(hc:VR D G ρ c vc)(e:sJ D.pm a c=some b)(k:cQ D h₀ G ρ s (.bool b) h Q):
  wpAny (model D.prog D.w) A (call (BI.val .isinstance) [va,vc] []) Q E s:=by
 obtain ⟨y,e1,e⟩:=aT.mp e;obtain ⟨ce,e2,e9⟩:=aT.mp e
 cases l6 e1
 obtain ⟨x,C,dx,o,m,ws,rfl,⟨ce',MS,mw⟩,hC,g1,g2,_,_⟩:=ha
 cases e2.symm.trans MS
 have q:=mq L e2 hC;obtain ⟨k1,k2,k3,k4,k5⟩:=q.V5 mw;have kx:=kitx_own (x:=x) (ox:=instObj C dx) (od:=o) k1 q.hd k2 k3 k4 k5;have I:InstAt s.heap x (instObj C dx) C (some o):=⟨R.keep _ _ g1,rfl,rfl,R.keep _ _ g2⟩;rcases or_some e9 with e|⟨_,e⟩
 ·obtain ⟨i,e3,rfl⟩:=dR.mp e
  cases l7 e3
  obtain ⟨Ad,hA,rfl⟩:=id hc;exact kia_one kx (R.rm L) I (q.ZD mw i Ad hA) (by intro z;cases z) λtk=>k.val R VR.bool _
 ·obtain ⟨l,e3,e8⟩:=aT.mp e
  cases fN e3
  obtain ⟨hl,at_,⟨oc,od,dat,sl⟩,tvs,n,rfl,gt,DI,Wo,hr⟩:=hc;cases DI
  cases Wo
  exact kia_tup kx (R.rm L) I (R.keep _ _ gt) (xQ (q.ZD mw) hr e8) (by intro z;cases z) λtk=>k.val R VR.bool _
theorem cY.one{x:MV}{vs:List Value}(h:cY D G ρ [x] vs):∃v,vs=[v]∧VR D G ρ x v:=by obtain ⟨v,ws,rfl,a,b⟩:=h.cons_inv;exact ⟨v,by rw [b.nil_inv],a⟩
theorem tw{args:List MV}{vs:List Value}(hv:cY D G ρ args vs){a:MV}(q:jx args=some a):∃v,vs=[v]∧VR D G ρ a v:=(cW q▸hv:cY D G ρ [a] vs).one
theorem DJ{l:List MV}:∀{vs:List Value} {b:Bool},cY D G ρ l vs→allB l=some b→∃bs:List Bool,vs=bs.map .bool∧bs.all id=b:=by
 induction l with
 |nil=>exact λh e=>⟨[],h.nil_inv,aI e⟩
 |cons m l ih=>
  intro vs b h e;obtain ⟨v,ws,rfl,hv,hr⟩:=h.cons_inv
  cases m with
  |bool c=>
   cases (show v=.bool c from hv)
   refine map_some (x:=allB l) e λb' e1 e2=>?_
   obtain ⟨bs,rfl,h2⟩:=ih hr e1;exact ⟨c::bs,rfl,(congrArg (c&&·) h2).trans e2⟩
  |_=>exact no e
theorem vt:∀bs:List Bool,((List.range bs.length).all λi=>bs[i]? ==some true)=bs.all id:=λbs=>by
 induction bs with
 |nil=>rfl
 |cons c r ih=>
  rw [List.length_cons,List.range_succ_eq_map,List.all_cons,List.all_map];show (some c==some true&&(List.range r.length).all λi=>r[i]? ==some true)=(c&&r.all id)
  rw [ih];cases c<;>rfl
theorem IU(hh:A.handled=none){l:List MV}{v:Value}{b:Bool}{Q:Value→Shared→Prop}(R:Rep D h₀ G ρ h s)(hx:VR D G ρ (.lst l) v)(e:allB l=some b)(k:cQ D h₀ G ρ s (.bool b) h Q):
  wpAny (model D.prog D.w) A (call (BI.val .all) [v] []) Q E s:=by
 obtain ⟨ad,vs,rfl,hl,hr,hz⟩:=fm R hx (l:=l) rfl;obtain ⟨bs,rfl,rfl⟩:=DJ hr e;refine call_all_walk (wpAny_pyIter_list hl ⟨_,_,_,_,_,_,λi=>bs[i]? ==some true,rfl,Walks.list (by exact hh) _ ad (Nat.ne_of_lt (let ⟨_,e,_⟩:=hl;Heap.lt_size e)) _,⟨⟨_,Heap.get?_push_size _ rfl,rfl,rfl⟩,hl.push _⟩,λi v s Q E hP hQ=>?_,λh' tk hk=>?_⟩)
 ·have hP:(bs.map Value.bool)[i]? =some v:=(List.getElem?_toArray ..).symm.trans hP
  rw [List.getElem?_map] at hP;obtain ⟨c,e,rfl⟩:=dR.mp hP;have hQ:Q (bs[i]? ==some true) s:=hQ;rw [e,show (some c==some true)=c by cases c<;>rfl] at hQ
  exact wpAny_pure hQ
 ·rw [List.size_toArray,cu,vt]
  have kp:∀b o,s.heap.get? b=some o→h'.get? b=some o:=λb o e=>hk b o (λz=>Nat.lt_irrefl _ ((dN.mp z)▸Heap.lt_size e)) (Heap.get?_push_of_some _ e)
  exact k _ _ G ρ (.same (fH kp)) (R.keeps kp) ⟨rfl,rfl,rfl,λb o _ e=>kp b o e⟩ VR.bool
theorem xS(L:cX D K h₀ mg mb)(hh:A.handled=none){b:BI}{args:List MV}{vs:List Value}{r:MV}{Q:Value→Shared→Prop}(R:Rep D h₀ G ρ h s)(hv:cY D G ρ args vs)(e:iH D.pm b args h=some r)(k:cQ D h₀ G ρ s r h Q):
  wpAny (model D.prog D.w) A (call b.val vs []) Q E s:=by
 cases b with
 |len=>obtain ⟨a,e1,e⟩:=aT.mp e;obtain ⟨n,e2,rfl⟩:=dR.mp e;obtain ⟨v,rfl,hx⟩:=tw hv e1;exact IQ R hx e2 k
 |isinstance=>
  obtain ⟨a,e1,e⟩:=aT.mp e;obtain ⟨bb,e2,rfl⟩:=dR.mp e
  cases uK e1
  obtain ⟨va,ws,rfl,xT,hn⟩:=hv.cons_inv;obtain ⟨vc,rfl,hvc⟩:=hn.one;exact xR L R xT hvc e2 k
 |ord=>obtain ⟨a,e1,e⟩:=aT.mp e;obtain ⟨n,e2,rfl⟩:=dR.mp e;obtain ⟨v,rfl,hx⟩:=tw hv e1;have:a=.str [n]:=jX e2;subst this;obtain ⟨t,rfl⟩:=dY hx;exact P.ord_of_char (k.val R VR.int _)
 |str=>
  obtain ⟨a,e1,e⟩:=aT.mp e;obtain ⟨n,e2,rfl⟩:=dR.mp e;obtain ⟨v,rfl,hx⟩:=tw hv e1;obtain ⟨rfl,hn⟩:=BF e2;obtain ⟨t,rfl⟩:=eH hx;have key:∀n:Nat,n< 10→(Str.ofString (toString (n:Int)))=toStr [48+n]∧(n:Int).natAbs.log2< 1920:=by decide+kernel
  obtain ⟨k1,k2⟩:=key n hn;refine P.str_of_int k2 ?_;exact (show _=toStr [48+n] from k1)▸k.val R (VR.str (by unfold aH;simp)) _
 |all=>
  obtain ⟨a,e1,e⟩:=aT.mp e;obtain ⟨l,e2,e⟩:=aT.mp e;obtain ⟨bb,e3,rfl⟩:=dR.mp e
  cases b8 e2
  obtain ⟨v,rfl,hx⟩:=tw hv e1;exact IU hh R hx e3 k
end
noncomputable abbrev Rn(h:Heap)(C:Addr):Heap:=(h.push emptyDict).push (instObj C h.objs.size)
noncomputable abbrev Qa(s:Shared)(C:Addr):Shared:={s with heap:=Rn s.heap C}
theorem ly(h:Heap)(C:Addr)(b:Addr)(o:Obj)(e:h.get? b=some o):(Rn h C).get? b=some o:=Heap.get?_push_of_some _ (Heap.get?_push_of_some _ e)
theorem Lv(h:Heap)(C:Addr):(Rn h C).get? (h.objs.size+1)=some (instObj C h.objs.size):=by
 have:=Heap.get?_push_size (h.push emptyDict) (o:=instObj C h.objs.size) rfl
 rwa [Heap.size_push] at this
theorem Lx(h:Heap)(C:Addr):(Rn h C).get? h.objs.size=some emptyDict:=Heap.get?_push_of_some _ (Heap.get?_push_size _ rfl)
theorem vz{h:Heap}{d:Addr}(e:h.get? d=some emptyDict):zj h d (λ_=>none) 0:=⟨_,#[],0,e,rfl,λ_ he=>(Array.not_mem_empty _ he).elim,λ_=>rfl,bf _⟩
theorem DK(h:Heap)(C:Addr):(Rn h C).objs.size=h.objs.size+2:=by rw [Heap.size_push,Heap.size_push]
section
variable {D:cP}{h₀:Heap}{G:Fz}{ρ:List PR}{h:Hp}{s:Shared}{A:Around}{E:Value→Shared→Prop}{K:Frag}{mg mb:Str→Option Value}{n:Nat}{ce:gh}{C:Addr}
theorem vA(q:Dv D K h₀ C ce)(X:K.In s.heap){fi:Addr}(DA:D.fa[ce.init]? =some fi){vs:List Value}{kw:SV}{R:Result→Shared→Prop}(k:codeAny (model D.prog D.w) (A.under (.builtin "type.__call__" ⟨.ref C::vs,kw⟩)) (.call (.ref fi) ⟨.ref (s.heap.objs.size+1)::vs,kw⟩) (InitBack (s.heap.objs.size+1) R) (Qa s C)):
  codeAny (model D.prog D.w) A (.call (.ref C) ⟨vs,kw⟩) R s:=by
 obtain ⟨fi',Wq,Wt,P8⟩:=q.ini
 cases DA.symm.trans Wt
 exact make_core (makes_of X q.makes) (looks_findIn X Wq) (λself=>bind_fn X self (beq_iff_eq.mp P8)) (.inl rfl) k
theorem DL{ps:List Nat}{pn:List Str}(hn:bY (λp x=>D.nm[p]? =some x) ps pn){pos:List MV}{vs:List Value}(hv:cY D G ρ pos vs)(m:MV)(v:Value):u7 D.nm (λp m v=>D.nm[p]? ≠pn[0]? →VR D G ρ m v) (ps.zip (m::pos)) (pn.zip (v::vs)):=by
 cases hn with
 |nil=>exact .nil
 |@cons a b l l' q r=>exact .cons ⟨q,λz=>(z q).elim⟩ (zy (R:=λp m v=>D.nm[p]? ≠(b::l')[0]? →VR D G ρ m v) (λ_ _ _ z _=>z) r hv)
theorem IW{bs:List MV}{f:Nat→Option Value}{fs:List (Nat×Nat)}:∀{vs:List MV},(∀p∈fs,∀m,bs[p.2]? =some m→∃w,f p.2=some w∧VR D G ρ m w)→fs.mapM (λp=>bs[p.2]?)=some vs→∃ws,cY D G ρ vs ws∧bY (λp w=>f p.2=some w) fs ws:=by
 induction fs with
 |nil=>exact λ_ e=>⟨[],mapM_nil e▸.nil,.nil⟩
 |cons p fs ih=>
  intro vs H e;obtain ⟨b,r,e1,e2,rfl⟩:=mapM_cons e;obtain ⟨ws,a,c⟩:=ih (λp hp=>H p (bR _ hp)) e2
  obtain ⟨w,hw,hr⟩:=H p (cy ..) b e1;exact ⟨w::ws,.cons hr a,.cons hw c⟩
theorem bY.mem{α β:Type}{P:α→β→Prop}{l:List α}{r:List β}(h:bY P l r){a:α}(ha:a∈l):∃b,P a b:=by obtain ⟨i,hi⟩:=List.mem_iff_getElem?.mp ha;obtain ⟨b,_,q⟩:=h.at hi;exact ⟨b,q⟩
theorem IY(R:Rep D h₀ G ρ h s){i:Nat}{vals:List MV}{Q:Value→Shared→Prop}(k:cQ D h₀ G ρ s (.fU i vals) h Q){s2:Shared}{o':Obj}(hg:s2.gens=s.gens)(hd:s2.drawn=s.drawn)(hs:s2.os=s.os)(k4:∀b o,s.heap.get? b=some o→s2.heap.get? b=some o)
  (hx:s2.heap.get? (s.heap.objs.size+1)=some (instObj C s.heap.objs.size)) (ho:s2.heap.get? s.heap.objs.size=some o') (hv:∀G',jI G G'→G' (s.heap.objs.size+1) (instObj C s.heap.objs.size)→G' s.heap.objs.size o'→VR D G' ρ (.fU i vals) (.ref (s.heap.objs.size+1))):Q (.ref (s.heap.objs.size+1)) s2:=
 have l:=(Fz.jh G (s.heap.objs.size+1) (instObj C s.heap.objs.size)).trans (Fz.jh _ s.heap.objs.size o')
 k _ s2 _ ρ ⟨l,.refl _,λb o z=>z.elim (λz=>Or.imp id (λz:b=s.heap.objs.size+1∧_=>z.1▸c8 (Nat.le_succ _)) z) λz=>.inr (z.1▸c8 (bf _)),λ_ z=>.inl z,λ_ z=>z,fH k4⟩
  (((R.keeps k4).freeze hx (R.iD (Nat.le_succ _))).freeze ho (R.iD (bf _))) ⟨hg,hd,hs,λb o _ e=>k4 b o e⟩ (hv _ l (.inl (.inr ⟨rfl,rfl⟩)) (.inr ⟨rfl,rfl⟩))
theorem DM(L:cX D K h₀ mg mb)(hA:qP (n+1) A){i:Nat}{fe:cU}{pos kv bs vals:List MV}{kn:List Nat}{xs:List Str}{vs ws:List Value}{Q:Value→Shared→Prop}
  (sY:D.pm.eg[i]? =some ce) (MY:D.pm.fns[ce.init]? =some fe) (mw:ce.isRec=true) (hC:D.ca[i]? =some C) (R:Rep D h₀ G ρ h s) (h1:cY D G ρ pos vs) (h2:cY D G ρ kv ws) (ek:kn.mapM (λi=>D.nm[i]?)=some xs)
  (eb:fh fe (.none::pos) kn kv=some bs) (ef:ce.fields.mapM (λp=>bs[p.2]?)=some vals) (k:cQ D h₀ G ρ s (.fU i vals) h Q):
  wpAny (model D.prog D.w) A (call (.ref C) vs (xs.zip ws)) Q E s:=by
 have q:=mq L sY hC;have X:=R.rm L;obtain ⟨fi,DA,FL⟩:=L.fns _ _ MY;obtain ⟨oc,od,Bv,fd,body,ho,F⟩:=FL.obj;have r:=q.Rf mw fi fd oc od Bv body DA ho F.hb;have C':=o7 F.comp;obtain ⟨T,hb,B⟩:=o8 (R:=λp m v=>D.nm[p]? ≠(fd.params.args.map (·.arg))[0]? →VR D G ρ m v) (pos:=.none::pos) (vs:=.ref (s.heap.objs.size+1)::vs) L.IE (λ_ _ _ z _=>z) C' F.ZF (congrArg Nat.succ h1.length) (DL C'.ids h1 .none (.ref (s.heap.objs.size+1))) h2 ek eb
 have X2:K.In (Qa s C).heap:=λb o e=>ly _ _ b o (X b o e)
 have T0:∀y,(fd.params.args.map (·.arg))[0]? =some y→T.lookup y=some (.ref (s.heap.objs.size+1)):=λy e=>B.hd y _ e rfl
 obtain ⟨wf,hwf,xg⟩:=IW (f:=vq (fd.params.args.map (·.arg)) λy=>T.lookup y) (λp hp m e=>by obtain ⟨a,x,w,e1,e2,e3,e4⟩:=B.at_ p.2 m e;exact ⟨w,by rw [vq,e2];exact e3,e4 λz=>q.fnz mw p hp (getElem?_inj C'.Wj e2 (z.symm.trans e1))⟩) ef
 refine wpAny_call (vA q X DA (enter L (hA.made C vs (xs.zip ws)).Ds X2 (λb o e=>ly _ _ b o (R.keep b o (R.base b o e))) ho F C' (hb _ X2) B.sub λenv s1 x=>codeAny_func ?_))
 have kl:∀y∈fd.params.args.map (·.arg),env.kindOf y=some .local:=λy hy=>(congrArg (λsc:Scope=>sc.names.lookup y) x.sc).trans (r.aP y hy)
 have ZP:∀y∈fd.params.args.map (·.arg),bindL env.kindOf T (λ_=>none) y=T.lookup y:=λy hy=>(vg (kl y hy) (C'.Wj.sublist B.sub)).trans (Option.or_none)
 have DB:∀j,vq (fd.params.args.map (·.arg)) (bindL env.kindOf T λ_=>none) j=vq (fd.params.args.map (·.arg)) (λy=>T.lookup y) j:=λj=>by
  unfold vq
  cases e:(fd.params.args.map (·.arg))[j]? with
  |none=>rfl
  |some y=>exact ZP y (List.mem_of_getElem? e)
 have kk:∀b o,s.heap.get? b=some o→s1.heap.get? b=some o:=λb o e=>x.x.toInCall.keep b o (ly _ _ b o e)
 have zo:=x.aP.trans (DK _ _);have ZQ:=x.x.toInCall.keep _ _ (Lv s.heap C);refine IM (x:=s.heap.objs.size+1) ⟨q.sa,q.po,q.hd,x.sc▸C'.kind,kl,λy e=>(ZP y (List.mem_of_getElem? e)).trans (T0 y e),zo▸Nat.ne_of_lt (Nat.lt_add_of_pos_right (by decide)),Nat.ne_of_gt (Nat.lt_succ_self _),λo e=>Nat.lt_irrefl _ (Heap.lt_size (X _ _ e)),L.IE⟩
  (bY.xO (λ_ _ z=>z) _ r.ss) (λp hp y hy=>?_) r.nd (λp hp=>(xg.mem hp).imp λv e=>(DB p.2).trans e) (by have:=r.len;lia) ⟨λb o e=>kk b o (X b o e),ZQ,vz (x.x.toInCall.keep _ _ (Lx s.heap C)),x.x.toInCall.ns⟩ λh' t m' z=>⟨rfl,?_⟩
 ·obtain ⟨y',e1,e2,e3⟩:=q.MR mw p hp
  cases hy.symm.trans e1;exact e3
 ·have k4:∀b o,s.heap.get? b=some o→h'.get? b=some o:=λb o e=>(z.sb.2 b (Nat.ne_of_lt (Heap.lt_size e))).trans (kk b o e)
  obtain ⟨N,o',Qc,Ro,sR,CZ,DN,hf',_⟩:=z.ns;obtain ⟨hh1,tk,e,_⟩:=x.x.done;refine IY R k (by rw [e]) (by rw [e]) (by rw [e]) k4 ((z.sb.2 _ (Nat.ne_of_gt (Nat.lt_succ_self _))).trans ZQ) sR λG' g gx gd=>?_
  refine ⟨_,C,_,o',m',wf,rfl,⟨ce,sY,mw⟩,hC,gx,gd,⟨Qc,Ro,CZ,DN,hf'⟩,cY.mono g (.refl _) _ _ hwf,λj y hy=>?_⟩
  unfold cP.fld at hy;rw [sY] at hy;obtain ⟨p,hp,hy⟩:=dR.mp (List.getElem?_map▸hy);have pm:=List.mem_of_getElem? hp;obtain ⟨y',e1,_⟩:=q.MR mw p pm;obtain ⟨w,e3,e4⟩:=xg.at hp;rw [e1] at hy;cases hy
  exact (z.at_ p pm _ e1).trans ((DB _).trans (e4.trans e3.symm))
end
section
variable {D:cP}{h₀:Heap}{G:Fz}{ρ:List PR}{h:Hp}{s:Shared}{A:Around}{Ex:Value→Shared→Prop}{K:Frag}{mg mb:Str→Option Value}{n:Nat}
end
noncomputable def tB(D:cP)(G:Fz)(ρ:List PR):mY→Value→List Value→Prop
 |.fn fi self,f,first=>∃fa sv,D.fa[fi]? =some fa∧VR D G ρ self sv∧((f=.ref fa∧first=[sv])∨(∃q,f=.ref q∧first=[]∧G q (methodObj (.ref fa) sv)))
 |.join x,f,first=>f=.builtin "str.join"∧∃t,first=[.str (toStr x) t]
 |.starts x,f,first=>f=.builtin "str.startswith"∧∃t,first=[.str (toStr x) t]
 |.append o,f,first=>f=.builtin "list.append"∧∃v,first=[v]∧VR D G ρ (.obj o) v
 |.pop o,f,first=>f=.builtin "list.pop"∧∃v,first=[v]∧VR D G ρ (.obj o) v
 |.copy ks vs,f,first=>f=.builtin "dict.copy"∧∃v,first=[v]∧VR D G ρ (.jD ks vs) v
theorem tB.mono{D:cP}{G G':Fz}{ρ cZ:List PR}(hG:jI G G')(nV:uR ρ cZ){c:mY}{f:Value}{first:List Value}(h:tB D G ρ c f first):tB D G' cZ c f first:=by
 cases c with
 |fn fi self=>obtain ⟨fa,sv,a,b,c⟩:=h;exact ⟨fa,sv,a,VR.mono hG nV _ _ b,c.imp id λ⟨q,x,y,z⟩=>⟨q,x,y,hG _ _ z⟩⟩
 |join x=>exact h
 |starts x=>exact h
 |append o=>obtain ⟨a,v,b,c⟩:=h;exact ⟨a,v,b,VR.mono hG nV _ _ c⟩
 |pop o=>obtain ⟨a,v,b,c⟩:=h;exact ⟨a,v,b,VR.mono hG nV _ _ c⟩
 |copy ks vs=>obtain ⟨a,v,b,c⟩:=h;exact ⟨a,v,b,VR.mono hG nV _ _ c⟩
def vB(M:Model)(h:Heap)(f:Value):Prop:=∃k,(k=Keeper.frame∨k=Keeper.machine∨k=Keeper.boundFrame)∧Looks M h (keeperOf f) k
theorem eS{M:Model}{h:Heap}(id:String):vB M h (.builtin id):=⟨.machine,.inr (.inl rfl),Looks.of_pure rfl⟩
theorem BG{M:Model}{h:Heap}(id:String):vB M h (.type id):=⟨.machine,.inr (.inl rfl),Looks.of_pure rfl⟩
theorem zA{M:Model}{A:Around}{E:Value→Shared→Prop}{s:Shared}{a:Addr}{vs:Array Value}{n:Nat}{name:Str}{id:String}{pl:Sem Bool}{Q:Value×List Value→Shared→Prop}(i8:s.heap.get? a=some {cls:=.type "list",data:=.seq vs n})(slot:Slot "list" name id)
  (ty:typeOf (.builtin id)=pure (.type "method_descriptor")) (h:Q (.builtin id,[.ref a]) s):wpAny M A (getMethod (.ref a) name pl) Q E s:=
 getMethod_builtin ⟨_,i8,rfl⟩ F.plainAttrs_list slot ty (λb hb=>by cases hb;exact ⟨_,i8,rfl⟩) h
theorem IZ{M:Model}{A:Around}{E:Value→Shared→Prop}{s:Shared}{a:Addr}{o:Obj}{name:Str}{id:String}{pl:Sem Bool}{Q:Value×List Value→Shared→Prop}(ho:s.heap.get? a=some o)(hx:o.ExactDict)(slot:Slot "dict" name id)
  (ty:typeOf (.builtin id)=pure (.type "method_descriptor")) (h:Q (.builtin id,[.ref a]) s):wpAny M A (getMethod (.ref a) name pl) Q E s:=
 getMethod_builtin ⟨_,ho,hx.1⟩ F.plainAttrs_dict slot ty (λb hb=>by cases hb;exact ⟨_,ho,hx.2.1⟩) h
section
variable {D:cP}{h₀:Heap}{G:Fz}{ρ:List PR}{h:Hp}{s:Shared}{A:Around}{Ex:Value→Shared→Prop}{K:Frag}{mg mb:Str→Option Value}{n:Nat}
variable {v:MV}{a:Nat}{x:Str}{pl:Sem Bool}{Q:Value×List Value→Shared→Prop}
abbrev I1(D:cP)(h₀:Heap)(G:Fz)(ρ:List PR)(s:Shared)(h:Hp)(c:mY)(Q:Value×List Value→Shared→Prop):Prop:=∀f first s' G' cZ,fG G G' ρ cZ s s'→Rep D h₀ G' cZ h s'→gQ (cD ρ) s s'→tB D G' cZ c f first→Q (f,first) s'
theorem I1.now{c:mY}(k:I1 D h₀ G ρ s h c Q)(R:Rep D h₀ G ρ h s){f:Value}{first:List Value}(r:tB D G ρ c f first):Q (f,first) s:=k f first s G ρ (.refl _ _ _) R (.refl _ _) r
theorem vC{i:Nat}{y:Str}(hx:D.nm[a]? =some x)(e1:(a==i)=true)(e2:D.nm[i]? =some y):x=y:=bX (hx.symm.trans ((congrArg (D.nm[·]?) (eq_of_beq e1)).trans e2))
theorem MZ(L:cX D K h₀ mg mb){va:Value}{o:Nat}{c:mY}(R:Rep D h₀ G ρ h s)(hx:D.nm[a]? =some x)(hv:VR D G ρ (.obj o) va)(e:iB D.pm o a h=some c)(k:I1 D h₀ G ρ s h c Q):wpAny (model D.prog D.w) A (getMethod va x pl) Q Ex s:=by
 obtain ⟨y,e1,e⟩:=aT.mp e;obtain ⟨p,C,dx,m,od,ce,hp,rfl,V⟩:=sZ L R hv e1
 cases hl:aZ y.2 a with
 |some mv=>
  rw [hl] at e;obtain ⟨b,e2,rfl⟩:=dR.mp e
  cases oG e2
  refine method_usual (R.rm L) V.I V.q.ga V.q.V4 (V.own hx hl) rfl (get_own V (R.rm L) R hx hl λv s' G' cZ g' R' CY P9=>?_)
  obtain ⟨qa,fa,p',rfl,u5,Rq,hg⟩:=P9;exact k _ _ s' G' cZ g' R' CY ⟨fa,.ref p'.1,u5,⟨p',Rq,rfl⟩,.inr ⟨qa,rfl,rfl,hg⟩⟩
 |none=>rw [hl] at e;obtain ⟨f,hf,rfl⟩:=dR.mp (V.cls e);obtain ⟨fa,u5,DA,P8,ZI⟩:=(V.q.names V.rc a x hx).me f hf;refine method_fn (R.rm L) V.I V.q.ga V.q.V4 DA (beq_iff_eq.mp P8) ?_ (k.now R ⟨fa,.ref p.1,u5,hv,.inl ⟨rfl,rfl⟩⟩);unfold shadowIn;dsimp only;rw [V.lk,(V.r.at_ a x hx).no hl];rfl
theorem tC(L:cX D K h₀ mg mb){va:Value}{c:mY}(R:Rep D h₀ G ρ h s)(hx:D.nm[a]? =some x)(hv:VR D G ρ v va)(e:d8 D.pm v a h=some c)(k:I1 D h₀ G ρ s h c Q):wpAny (model D.prog D.w) A (getMethod va x pl) Q Ex s:=by
 cases v with
 |obj o=>
  rcases or_some e with e|⟨_,e⟩
  ·exact MZ L R hx hv e k
  ·obtain ⟨xs,e1,e⟩:=aT.mp e
   obtain ⟨p,vs,hp,rfl,_,_,⟨n,i8⟩,_⟩:=gy R hv e1
   by_cases q:(a==D.pm.jb)=true
   ·rw [if_pos q] at e
    cases e
    cases vC hx q L.jb
    have z:=k.now R ⟨rfl,_,rfl,hv⟩
    with_reducible exact zA i8 F.slot_list_append F.type_list_append z
   ·rw [if_neg q] at e
    obtain ⟨q,e⟩:=bA e;cases e
    cases vC hx q L.C8
    have z:=k.now R ⟨rfl,_,rfl,hv⟩
    with_reducible exact zA i8 F.slot_list_pop F.type_list_pop z
 |str y=>
  obtain ⟨hl,t,rfl⟩:=id hv;have e:(if (a==D.pm.kq)=true then some (mY.join y) else if (a==D.pm.iA)=true then some (.starts y) else none)=some c:=e
  by_cases q:(a==D.pm.kq)=true
  ·rw [if_pos q] at e
   cases e
   cases vC hx q L.kq
   have z:=k.now R (first:=[.str (toStr y) t]) ⟨rfl,_,rfl⟩
   with_reducible exact GM.join z
  ·rw [if_neg q] at e
   obtain ⟨q,e⟩:=bA e;cases e
   cases vC hx q L.iA
   have z:=k.now R (first:=[.str (toStr y) t]) ⟨rfl,_,rfl⟩
   with_reducible exact GM.startswith z
 |jD ks vs=>
  obtain ⟨q,e⟩:=bA e;cases e
  cases vC hx q L.zb
  have z:=k.now R (f:=.builtin "dict.copy") (first:=[va]) ⟨rfl,_,rfl,hv⟩
  obtain ⟨ad,o,es,n,rfl,hs,P6,g,hxd,MN,hl,Il,hvv⟩:=hv
  with_reducible exact IZ (R.keep _ _ g) hxd F.slot_dict_copy F.type_dict_copy z
 |_=>exact (bx _ e.symm).elim
end
noncomputable def xU:MV→Str
 |.str x=>toStr x
 |_=>Str.empty
structure vD(D:cP){κ:Type}[DecidableEq κ](K:KeyKind D.prog D.w κ)(dec:MV→κ)(ik:MV→Prop):Prop where
 Wu:∀{a b},ik a→ik b→iR a b=some (decide (dec a=dec b))
 key:∀{a},ik a→Lq K a (dec a)
 Wv:∀{a v G ρ},ik a→VR D G ρ a v→K.is (dec a) v=true
 bk:∀{a} {e:DictEntry},ik a→K.is (dec a) e.key=true→e.hash=K.hash (dec a)→uQ D.w a e
theorem qQ{α:Type}{l:List Str}{r:List α}(nd:l.Nodup):((l.zip r).map (·.1)).Nodup:=nd.sublist (by
 induction l generalizing r with
 |nil=>exact .slnil
 |cons a l ih=>cases r with
  |nil=>exact List.nil_sublist _
  |cons b r=>exact (ih (List.nodup_cons.mp nd).2).cons_cons a)
theorem Rr(D:cP):vD D (PySem.strKind D.prog D.w) xU λm=>∃x,m=.str x where
 Wu:=by rintro _ _ ⟨x,rfl⟩ ⟨y,rfl⟩;exact congrArg some (decide_eq_decide.mpr ⟨congrArg toStr,jZ⟩)
 key:=by rintro _ ⟨x,rfl⟩;exact ML x
 Wv:=by rintro _ v G ρ ⟨x,rfl⟩ hv;obtain ⟨t,rfl⟩:=dY hv;exact strKind_is _ _ _ _
 bk:=by rintro _ e ⟨x,rfl⟩ h1 h2;exact (Value.isStrOf_shape h1).imp λt ht=>⟨ht,h2⟩
section
variable {D:cP}{h₀:Heap}{G:Fz}{ρ:List PR}{h:Hp}{s:Shared}{A:Around}{Ex:Value→Shared→Prop}{K:Frag}{mg mb:Str→Option Value}{n:Nat}{κ:Type}[DecidableEq κ]{Kd:KeyKind D.prog D.w κ}{dec:MV→κ}{ik:MV→Prop}
theorem vD.Rt(Z:vD D Kd dec ik){x:MV}{ks:List MV}(hx:ik x)(hk:∀m∈ks,ik m)(e:eu x ks=some false):dec x∉ks.map dec:=by
 induction ks with
 |nil=>exact dm
 |cons y ks ih=>
  have e:(match iR y x,eu x ks with
   |some b,some c=>some (b||c)
   |_,_=>none)=some false:=e
  rw [Z.Wu (hk y (cy ..)) hx] at e
  cases q:eu x ks with
  |none=>rw [q] at e;exact (bx _ e.symm).elim
  |some c=>rw [q] at e;have e:=Bool.or_eq_false_iff.mp (bX e);exact λm=>(bq.mp m).elim (λz=>of_decide_eq_false e.1 z.symm) (ih (λm h=>hk m (bR _ h)) (q.trans (congrArg some e.2)))
theorem vD.nodup(Z:vD D Kd dec ik){ks:List MV}(hk:∀m∈ks,ik m)(e:keysOk ks=true):(ks.map dec).Nodup:=by
 induction ks with
 |nil=>exact List.nodup_nil
 |cons k ks ih=>
  have e:=bl.mp e;have DN:=λm h=>hk m (bR _ h)
  refine List.nodup_cons.mpr ⟨?_,ih DN e.2⟩
  cases q:eu k ks with
  |none=>rw [q] at e;exact (bU e.1).elim
  |some b=>cases b with
   |true=>rw [q] at e;exact (bU e.1).elim
   |false=>exact Z.Rt (hk k (cy ..)) DN q
theorem oR.pairs(Z:vD D Kd dec ik){ks vs:List MV}{es:List DictEntry}(H:oR D G ρ ks vs es)(hk:∀m∈ks,ik m):Pairs Kd es ((ks.map dec).zip (es.map (·.val))):=by
 induction H with
 |nil=>exact .nil
 |cons k v _ ih=>exact .cons (Z.key (hk _ (cy ..)) _ k).1 rfl (ih λm h=>hk m (bR _ h))
set_option tactic.hygienic true in
theorem rF{ks:List MV}:∀{vals:List Value} {es:List DictEntry},ks.length=vals.length→Pairs Kd es ((ks.map dec).zip vals)→(∀e∈es,∃k,Kd.is k e.key=true∧e.hash=Kd.hash k)→
  ks.length=es.length∧es.map (·.val)=vals∧∀(j:Nat) (k:MV) (e:DictEntry),ks[j]? =some k→es[j]? =some e→Kd.is (dec k) e.key=true∧e.hash=Kd.hash (dec k):=by
 induction ks with
 |nil=>
  intro vals es hl hp _;obtain rfl:=List.eq_nil_of_length_eq_zero hl.symm;cases hp
  exact ⟨rfl,rfl,λj k e a=>(bx _ a.symm).elim⟩
 |cons k ks ih=>
  intro vals es hl hp hk
  cases vals with
  |nil=>exact absurd hl (Nat.succ_ne_zero _)
  |cons v vals=>cases hp with
   |cons h1 h2 h3=>
    rename_i e es;have q:=ih (Nat.succ.inj hl) h3 λe he=>hk e (bR _ he)
    have e0:Kd.is (dec k) e.key=true∧e.hash=Kd.hash (dec k):=(hk e (cy ..)).elim λk' z=>⟨h1,z.2.trans (congrArg Kd.hash (Kd.inj _ _ _ h1 z.1:dec k=k').symm)⟩
    refine ⟨congrArg (·+1) q.1,?_,λj k' e' a b=>?_⟩
    ·rw [List.map_cons,q.2.1,h2]
    ·cases j with
     |zero=>exact bX a▸bX b▸e0
     |succ j=>exact q.2.2 j k' e' a b
theorem DO(L:cX D K h₀ mg mb){ks vs:List MV}{vd:Value}{Q:Value→Shared→Prop}(R:Rep D h₀ G ρ h s)(hd:VR D G ρ (.jD ks vs) vd)(hs:strKeys ks=true)(ho:keysOk ks=true)(k:cQ D h₀ G ρ s (.jD ks vs) h Q)(hz:ks.length≤100):
  wpAny (model D.prog D.w) A (call (.builtin "dict.copy") [vd]) Q Ex s:=by
 obtain ⟨a,o,es,n,rfl,We,P6,g,hx,MN,hl,Il,hv⟩:=hd;have Lu:=R.keep _ _ g;have M0:(a==sysModules)=false:=beq_eq_false_iff_ne.mpr We;have H:=zk hl Il hv;have hm:=λm (h:m∈ks)=>jK hs h
 refine call_meetsIn F.slot_dict_copy ⟨_,Lu,hx.1⟩ F.entry_dict_copy (F.args_dict_copy_1 _) (meets_dict_copy (PySem.strKind D.prog D.w) a M0) ⟨(ks.map xU).zip (es.map (·.val)),⟨o,es.toArray,n,Lu,hx,MN,λen P5=>H.all (P:=λen=>∃k,(PySem.strKind D.prog D.w).is k en.key=true∧en.hash=(PySem.strKind D.prog D.w).hash k) (λk hk e kr=>⟨_,(Rr D).key (hm k hk) e kr⟩) en (Array.mem_toList_iff.mpr P5),H.pairs (Rr D) hm,qQ ((Rr D).nodup hm ho)⟩,?_,λh' DP _ hk=>?_⟩
 ·rw [List.length_zip,cu,cu,sizeLine_eq];lia
 ·obtain ⟨o',Qc,Ro,sR,By,CZ,DN,Rq,_⟩:=DP
  obtain ⟨q1,q2,q3⟩:=rF (dec:=xU) (by rw [cu];exact hl) Rq λe he=>DN e (Array.mem_toList_iff.mp he)
  have nn:s.heap.objs.size∉cD ρ:=R.iD (bf _);have R1:=(R.keeps (s':={s with heap:=h'}) hk).freeze (a:=s.heap.objs.size) (o:=o') sR nn
  refine k (.ref s.heap.objs.size) {s with heap:=h'} _ ρ (.add G ρ s _ _ _ (bf _) (fH hk)) R1 ⟨rfl,rfl,rfl,λb o _ e=>hk b o e⟩ ?_
  refine ⟨s.heap.objs.size,o',Qc.toList,Ro,rfl,?_,.inl hs,.inr ⟨rfl,rfl⟩,By,by simpa using CZ,q1,λj k e a b=>(Rr D).bk (hm k (List.mem_of_getElem? a)) (q3 j k e a b).1 (q3 j k e a b).2,?_⟩
  ·obtain ⟨om,hm⟩:=L.Rg
   have:=Heap.lt_size (R.keep _ _ (R.base _ _ hm));exact Nat.ne_of_gt this
  ·rw [q2];exact cY.mono (Fz.jh _ _ _) (.refl _) _ _ hv
theorem xV{x y:List Nat}{t u:Tok}{Q:Value→Shared→Prop}(R:Rep D h₀ G ρ h s)(k:cQ D h₀ G ρ s (.bool (y.isPrefixOf x)) h Q):
  wpAny (model D.prog D.w) A (call (.builtin "str.startswith") [.str (toStr x) t,.str (toStr y) u]) Q Ex s:=by
 refine SC.startswith ?_;have:Txt.startswith (toStr x) (toStr y)=y.isPrefixOf x:=by
  unfold Txt.startswith;rw [StrLaws.subAt_eq,bu,bu,fQ,fQ,List.drop_zero];rw [Bool.eq_iff_iff,Bool.and_eq_true,beq_iff_eq,decide_eq_true_eq,List.isPrefixOf_iff_prefix];constructor
  ·rintro ⟨_,e⟩;rw [← e];exact List.take_prefix _ _
  ·intro p
   exact ⟨by have:=p.length_le;lia,(List.prefix_iff_eq_take.mp p).symm⟩
 rw [this];exact k.ir R VR.bool
end
section
variable {D:cP}{h₀:Heap}{G:Fz}{ρ:List PR}{h:Hp}{s:Shared}{A:Around}{Ex:Value→Shared→Prop}{K:Frag}{mg mb:Str→Option Value}{n:Nat}
end
end
section
open PySem PySem.W PySem.Calls PyProof.Rows PySem.SeqAt
set_option backward.match.sparseCases true
theorem ni{D:cP}{A:Around}{Ex:Value→Shared→Prop}{s:Shared}{env:Env}{e:Expr}{m:MV}{Q:Value→Shared→Prop}(ec:iJ e=some m)(k:∀v t,(∀G ρ,VR D G ρ m v)→Q v {s with toks:=t}):wpAny (model D.prog D.w) A (eval e env) Q Ex s:=by
 cases e with
 |Constant c p q=>
  cases c with
  |int i=>obtain rfl:=aI (bA ec).2;exact wpAny_Constant_int (k _ _ λG ρ=>VR.int)
  |str x=>obtain rfl:=aI (bA ec).2;exact wpAny_Constant_str (k _ _ λG ρ=>uS (x:=x)▸VR.str (D:=D) (G:=G) (ρ:=ρ) (x:=x.cps.toList) (t:=s.toks) (bA ec).1)
  |_=>exact no ec
 |_=>exact no ec
theorem o9{D:cP}{A:Around}{Ex:Value→Shared→Prop}{env:Env}{pos:Pos}:∀{keys:List (Option Expr)} {values:List Expr} {ks vs:List MV} {s:Shared} {Q:List (Value×Value)→Shared→Prop},keys.mapM (λk=>k.bind iJ)=some ks→values.mapM iJ=some vs→ks.length=vs.length→
  (∀as bs t,(∀G ρ,cY D G ρ ks as)→(∀G ρ,cY D G ρ vs bs)→Q (as.zip bs) {s with toks:=t})→wpAny (model D.prog D.w) A (evalPairs (pairTrees keys values env pos)) Q Ex s
 |[],[],ks,vs,s,Q,e1,e2,_,k=>by rw [mapM_nil e1,mapM_nil e2] at k;exact pairTrees_nil_walk (k [] [] s.toks (λ_ _=>.nil) λ_ _=>.nil)
 |[],_::_,ks,vs,s,Q,e1,e2,hl,k=>by obtain ⟨b,q,_,_,rfl⟩:=mapM_cons e2;rw [mapM_nil e1] at hl;simp at hl
 |_::_,[],ks,vs,s,Q,e1,e2,hl,k=>by obtain ⟨b,q,_,_,rfl⟩:=mapM_cons e1;rw [mapM_nil e2] at hl;simp at hl
 |ke::keys,ve::values,ks,vs,s,Q,e1,e2,hl,k=>by
  obtain ⟨m,q,e3,e4,rfl⟩:=mapM_cons e1;obtain ⟨m',q',e5,e6,rfl⟩:=mapM_cons e2;obtain ⟨kx,rfl,e3⟩:=aT.mp e3;refine pairTrees_cons_walk ?_;refine ni e3 λva t1 xT=>ni e5 λvb t2 Ww=>?_
  refine o9 e4 e6 (by simpa using hl) λas bs t ha hb=>?_
  exact k (va::as) (vb::bs) t (λG ρ=>.cons (xT G ρ) (ha G ρ)) λG ρ=>.cons (Ww G ρ) (hb G ρ)
section
variable {D:cP}{h₀:Heap}{G:Fz}{ρ:List PR}{h:Hp}{s:Shared}{A:Around}{Ex:Value→Shared→Prop}{K:Frag}{mg mb:Str→Option Value}{KT:Type}[DecidableEq KT]
theorem pg{knd:KeyKind D.prog D.w KT}{dec:MV→KT}:∀{ks:List MV} {as bs:List Value},(∀m∈ks,∀v,VR D G ρ m v→knd.is (dec m) v=true)→cY D G ρ ks as→ks.length=bs.length→Carries knd (as.zip bs) ((ks.map dec).zip bs)
 |[],as,bs,_,h,_=>by rw [h.nil_inv];trivial
 |m::ks,as,bs,hk,h,hl=>by
  obtain ⟨v,ws,rfl,hv,hr⟩:=h.cons_inv
  cases bs with
  |nil=>simp at hl
  |cons b bs=>exact ⟨hk m (cy ..) v hv,rfl,pg (λm hm=>hk m (bR _ hm)) hr (by simpa using hl)⟩
theorem BH(L:cX D K h₀ mg mb){knd:KeyKind D.prog D.w KT}{dec:MV→KT}{ks vs:List MV}{keys:List (Option Expr)}{values:List Expr}{pos:Pos}{env:Env}{Q:Value→Shared→Prop}(R:Rep D h₀ G ρ h s)
  (hk:∀m∈ks,∀v,VR D G ρ m v→knd.is (dec m) v=true) (hK:∀m∈ks,∀e:DictEntry,knd.is (dec m) e.key=true→e.hash=knd.hash (dec m)→uQ D.w m e) (hn:(ks.map dec).Nodup) (hty:strKeys ks=true∨intKeys ks=true)
  (e1:keys.mapM (λk=>k.bind iJ)=some ks) (e2:values.mapM iJ=some vs) (hl:ks.length=vs.length) (ZR:ks.length≤15) (h0:ks≠[]) (k:cQ D h₀ G ρ s (.jD ks vs) h Q):
  wpAny (model D.prog D.w) A (eval (.Dict keys values pos) env) Q Ex s:=by
 have xW:∀{keys:List (Option Expr)} {ks:List MV},keys.mapM (λk=>k.bind iJ)=some ks→keys.all (·.isSome)=true:=by
  intro keys
  induction keys with
  |nil=>intro ks _;rfl
  |cons a keys ih=>intro ks e;obtain ⟨m,q,e3,e4,rfl⟩:=mapM_cons e;obtain ⟨kx,rfl,e3⟩:=aT.mp e3;rw [List.all_cons,ih e4];rfl
 have l1:=(o6 e1).1;have l2:=(o6 e2).1;refine wpAny_Dict_walk (knd:=knd) (xW e1) (by lia) (λz=>h0 (by rw [z] at l1;exact List.length_eq_zero_iff.mp l1)) (by lia) ?_
 refine o9 e1 e2 hl λas bs t ha hb=>?_
 have lb:ks.length=bs.length:=hl.trans (hb G ρ).length;have lz:((ks.map dec).zip bs).map (·.1)=ks.map dec:=by rw [List.map_fst_zip];simp [lb]
 refine ⟨(ks.map dec).zip bs,pg hk (ha G ρ) lb,⟨emptyDict,#[],0,Heap.get?_push_size _ rfl,⟨rfl,rfl,rfl⟩,rfl,λe he=>by simp at he,.nil,List.nodup_nil⟩,λh' hd hs=>?_⟩
 rw [merged_nil_of_nodup _ (by rw [lz];exact hn)] at hd
 obtain ⟨o',Qc,Ro,sR,By,CZ,DN,Rq,_⟩:=hd;obtain ⟨q1,q2,q3⟩:=rF (dec:=dec) lb Rq λe he=>DN e (Array.mem_toList_iff.mp he)
 have nn:s.heap.objs.size∉cD ρ:=R.iD (bf _);have kp:∀b o,s.heap.get? b=some o→h'.get? b=some o:=λb o e=>(hs.2 b (Nat.ne_of_lt (Heap.lt_size e))).trans (Heap.get?_push_of_some _ e)
 have R1:=(R.keeps (s':={s with heap:=h',toks:=t+(as.zip bs).length}) kp).freeze (a:=s.heap.objs.size) (o:=o') sR nn
 refine k (.ref s.heap.objs.size) _ _ ρ (.add G ρ s _ _ _ (bf _) (fH kp)) R1 ⟨rfl,rfl,rfl,λb o _ e=>kp b o e⟩ ?_
 refine ⟨s.heap.objs.size,o',Qc.toList,Ro,rfl,?_,hty,.inr ⟨rfl,rfl⟩,By,by simpa using CZ,q1,λj m e a b=>?_,?_⟩
 ·obtain ⟨om,hm⟩:=L.Rg
  exact Nat.ne_of_gt (Heap.lt_size (R.keep _ _ (R.base _ _ hm)))
 ·obtain ⟨z1,z2⟩:=q3 j m e a b
  exact hK m (List.mem_of_getElem? a) e z1 z2
 ·rw [q2];exact hb _ _
noncomputable def M1:MV→Int
 |.int i=>i
 |_=>0
theorem kdI(D:cP):vD D (PySem.intKind D.prog D.w) M1 λm=>∃x,m=.int x where
 Wu:=by rintro _ _ ⟨x,rfl⟩ ⟨y,rfl⟩;rfl
 key:=by rintro _ ⟨x,rfl⟩;exact MM x
 Wv:=by rintro _ v G ρ ⟨x,rfl⟩ hv;obtain ⟨t,rfl⟩:=eH hv;exact decide_eq_true rfl
 bk:=by rintro _ e ⟨x,rfl⟩ h1 h2;exact (Value.isInt_shape h1).imp λt ht=>⟨ht,h2⟩
theorem DQ(L:cX D K h₀ mg mb){ks vs:List MV}{keys:List (Option Expr)}{values:List Expr}{pos:Pos}{env:Env}{Q:Value→Shared→Prop}(R:Rep D h₀ G ρ h s)
  (e1:keys.mapM (λk=>k.bind iJ)=some ks) (e2:values.mapM iJ=some vs) (hc:((strKeys ks||intKeys ks)&&keysOk ks&&ks.length==vs.length&&decide (ks.length≤15)&& !ks.isEmpty)=true) (k:cQ D h₀ G ρ s (.jD ks vs) h Q):
  wpAny (model D.prog D.w) A (eval (.Dict keys values pos) env) Q Ex s:=by
 simp only [Bool.and_eq_true,Bool.or_eq_true,beq_iff_eq,decide_eq_true_eq,Bool.not_eq_true',List.isEmpty_eq_false_iff] at hc;obtain ⟨⟨⟨⟨c1,c2⟩,c3⟩,c4⟩,c5⟩:=hc;have go:∀{κ:Type} [DecidableEq κ] {Kd:KeyKind D.prog D.w κ} {dec:MV→κ} {ik:MV→Prop},vD D Kd dec ik→(∀m∈ks,ik m)→wpAny (model D.prog D.w) A (eval (.Dict keys values pos) env) Q Ex s:=λZ hm=>BH L R (λm h v hv=>Z.Wv (hm m h) hv) (λm h e a b=>Z.bk (hm m h) a b) (Z.nodup hm c2) c1 e1 e2 c3 c4 c5 k
 exact c1.elim (λc=>go (Rr D) λm=>jK c) λc=>go (kdI D) λm=>m6 c
end
end
section
open PySem PySem.W PySem.Calls PyProof.Rows PySem.SeqAt
def Al{α:Type}(o:Option α)(P:α→Prop):Prop:=∀a,o=some a→P a
section
variable {α β:Type}{o:Option α}{f:α→Option β}{P:α→Prop}{R:β→Prop}
theorem Al.some{a:α}(h:P a):Al (some a) P:=λ_ e=>bX e▸h
theorem Al.none:Al none P:=λ_ e=>(bx _ e.symm).elim
theorem Al.bind(h:Al o P)(k:∀a,P a→Al (f a) R):Al (o.bind f) R:=λr e=>match aT.mp e with
 |⟨a,e1,e2⟩=>k a (h a e1) r e2
theorem Al.map{f:α→β}(h:Al o λa=>R (f a)):Al (o.map f) R:=λr e=>match dR.mp e with
 |⟨a,e1,e2⟩=>e2▸h a e1
theorem Al.ite{c:Prop}[Decidable c](h:c→Al o P):Al (if c then o else Option.none) P:=λr e=>if q:c then h q r (by rw [if_pos q] at e;exact e) else by rw [if_neg q] at e;cases e
theorem Al.pq{c:Prop}[Decidable c](h:¬ c→Al o P):Al (if c then Option.none else o) P:=λr e=>if q:c then by rw [if_pos q] at e;cases e else h q r (by rw [if_neg q] at e;exact e)
theorem Al.self:Al o λa=>o=Option.some a:=λ_ e=>e
end
theorem Al.mapM{α β:Type}{g:α→Option β}(l:List α):Al (l.mapM g) (bY (λa b=>g a=Option.some b) l):=by
 induction l with
 |nil=>exact λr e=>mapM_nil e▸.nil
 |cons a l ih=>exact λr e=>match mapM_cons e with|⟨b,q,e1,e2,e3⟩=>e3▸.cons e1 (ih q e2)
structure Wd where
 G:Fz
 ρ:List PR
 s:Shared
structure Ctx where
 D:cP
 h₀:Heap
 A:Around
structure Fr where
 ci:CI
 env:Env
abbrev Ok(X:Ctx)(h:Hp)(W:Wd):Prop:=Rep X.D X.h₀ W.G W.ρ h W.s
abbrev V(X:Ctx)(W:Wd)(m:MV)(v:Value):Prop:=VR X.D W.G W.ρ m v
abbrev Vs(X:Ctx)(W:Wd)(m:List MV)(v:List Value):Prop:=cY X.D W.G W.ρ m v
abbrev eF(X:Ctx)(f:Fr)(l:Loc)(h:Hp)(W:Wd):Prop:=SR X.D X.h₀ f.ci f.env W.G W.ρ l h W.s
structure Go(F:List Addr)(W W':Wd):Prop where
 g:fG W.G W'.G W.ρ W'.ρ W.s W'.s
 st:gQ (cD W.ρ++F) W.s W'.s
theorem Go.refl{F:List Addr}(W:Wd):Go F W W:=⟨.refl _ _ _,.refl _ _⟩
theorem Go.trans{F:List Addr}{W W' ZS:Wd}(x:Go F W W')(y:Go F W' ZS):Go F W ZS:=⟨x.g.trans y.g,x.st.seq x.g y.st⟩
theorem Go.Wx{W W':Wd}(x:Go [] W W'):gQ (cD W.ρ) W.s W'.s:=by have:=x.st;rwa [cH] at this
theorem Go.nL{F:List Addr}{W W':Wd}(x:Go [] W W'):Go F W W':=⟨x.g,x.Wx.nL⟩
theorem Go.of{G':Fz}{cZ:List PR}{s':Shared}{W:Wd}(g:fG W.G G' W.ρ cZ W.s s')(st:gQ (cD W.ρ) W.s s'):Go [] W ⟨G',cZ,s'⟩:=⟨g,st.nL⟩
theorem Go.v{X:Ctx}{F:List Addr}{W W':Wd}{m:MV}{v:Value}(x:Go F W W')(h:V X W m v):V X W' m v:=VR.mono x.g.g x.g.r _ _ h
theorem Go.vs{X:Ctx}{F:List Addr}{W W':Wd}{m:List MV}{v:List Value}(x:Go F W W')(h:Vs X W m v):Vs X W' m v:=cY.mono x.g.g x.g.r _ _ h
theorem Go.qR{X:Ctx}{f:Fr}{l:Loc}{h h':Hp}{W W':Wd}(S:eF X f l h W)(x:Go [] W W')(r:Ok X h' W'):eF X f l h' W':=S.after x.g r x.Wx
noncomputable abbrev Wd.tk(W:Wd)(t:Nat):Wd:=⟨W.G,W.ρ,{W.s with toks:=t}⟩
theorem Go.tk{F:List Addr}{W:Wd}(t:Nat):Go F W (W.tk t):=⟨.same (λ_ h=>h),.toks⟩
abbrev bS{α:Type}(X:Ctx)(c:Sem α)(Q:α→Shared→Prop)(Ex:Value→Shared→Prop)(s:Shared):Prop:=wpAny (model X.D.prog X.D.w) X.A c Q Ex s
def aJ(X:Ctx)(F:List Addr)(W:Wd){α β:Type}(c:Sem α)(o:Option β)(R:Wd→α→β→Prop):Prop:=∀b,o=some b→∀(Q:α→Shared→Prop) (Ex:Value→Shared→Prop),(∀W' a,Go F W W'→R W' a b→Q a W'.s)→bS X c Q Ex W.s
noncomputable def RV(X:Ctx):Wd→Value→MV×Hp→Prop:=λW v b=>Ok X b.2 W∧V X W b.1 v
noncomputable def Wy(X:Ctx):Wd→Bool→Bool×Hp→Prop:=λW t b=>Ok X b.2 W∧t=b.1
noncomputable def RB1(X:Ctx){β:Type}(x:β×Hp):Wd→Bool→Bool→Prop:=λW t b=>Ok X x.2 W∧t=b
noncomputable def RC1(X:Ctx){β:Type}(x:β×Hp):Wd→Value→Bool→Prop:=λW t b=>Ok X x.2 W∧V X W (.bool b) t
noncomputable def RF(X:Ctx)(f:Fr)(l:Loc):Wd→Value→MV×Hp→Prop:=λW v b=>eF X f l b.2 W∧V X W b.1 v
noncomputable def M3(X:Ctx)(f:Fr)(l:Loc):Wd→Bool→Bool×Hp→Prop:=λW t b=>eF X f l b.2 W∧t=b.1
noncomputable def ZT(X:Ctx)(f:Fr)(l:Loc):Wd→List Value→List MV×Hp→Prop:=λW v b=>eF X f l b.2 W∧Vs X W b.1 v
def Ru(X:Ctx)(W:Wd)(m:Option MV)(v:Value):Prop:=match m with|none=>v=.none|some m=>V X W m v
noncomputable def ROp(X:Ctx)(f:Fr)(l:Loc):Wd→Value→Option MV×Hp→Prop:=λW v b=>eF X f l b.2 W∧Ru X W b.1 v
section
variable {X:Ctx}{F:List Addr}{W:Wd}{f:Fr}{l:Loc}{h:Hp}{α β γ δ ε:Type}{c:Sem α}{o:Option β}{R:Wd→α→β→Prop}
theorem aJ.no:aJ X F W c (none:Option β) R:=λ_ e=>(bx _ e.symm).elim
theorem aJ.ret{a:α}{b:β}(r:R W a b):aJ X F W (pure a) (some b) R:=λ_ e _ _ K=>wpAny_pure (K W a (.refl _) (bX e▸r))
theorem aJ.to{c':Sem α}(r:∀Q Ex,bS X c Q Ex W.s→bS X c' Q Ex W.s)(s:aJ X F W c o R):aJ X F W c' o R:=λb e Q Ex K=>r Q Ex (s b e Q Ex K)
theorem aJ.eq{c':Sem α}(r:c'=c)(s:aJ X F W c o R):aJ X F W c' o R:=r▸s
theorem aJ.mono{R':Wd→α→β→Prop}(s:aJ X F W c o R)(r:∀W' a b,Go F W W'→R W' a b→R' W' a b):aJ X F W c o R':=λb e Q Ex K=>s b e Q Ex λW' a g q=>K W' a g (r W' a b g q)
theorem aJ.nL(s:aJ X [] W c o R):aJ X F W c o R:=λb e Q Ex K=>s b e Q Ex λW' a g q=>K W' a g.nL q
theorem aJ.Wz{c':Sem γ}{k:α→Sem γ}{g:β→Option δ}{R':Wd→γ→δ→Prop}(rule:∀Q Ex,bS X c (λa s1=>bS X (k a) Q Ex s1) Ex W.s→bS X c' Q Ex W.s)(s:aJ X F W c o R)
  (q:∀W' a b,Go F W W'→R W' a b→aJ X F W' (k a) (g b) R'):aJ X F W c' (o.bind g) R':=λr e Q Ex K=>match aT.mp e with
 |⟨b,e1,e2⟩=>rule Q Ex (s b e1 _ Ex λW' a g1 r1=>q W' a b g1 r1 r e2 Q Ex λW2 a2 g2 r2=>K W2 a2 (g1.trans g2) r2)
theorem pairs{β iu:Type}{P:β×iu→Prop}(h:∀a b,P (a,b))(x:β×iu):P x:=match x with|(a,b)=>h a b
theorem aJ.rG{iu:Type}{c':Sem γ}{o:Option (β×iu)}{R:Wd→α→β×iu→Prop}{k:α→Sem γ}{g:β×iu→Option δ}{R':Wd→γ→δ→Prop}(rule:∀Q Ex,bS X c (λa s1=>bS X (k a) Q Ex s1) Ex W.s→bS X c' Q Ex W.s)(s:aJ X F W c o R)
  (q:∀W' a v h',Go F W W'→R W' a (v,h')→aJ X F W' (k a) (g (v,h')) R'):aJ X F W c' (o.bind g) R':=s.Wz rule λW' a=>pairs (q W' a)
theorem aJ.bind{iu:Type}{o:Option (β×iu)}{R:Wd→α→β×iu→Prop}{k:α→Sem γ}{g:β×iu→Option δ}{R':Wd→γ→δ→Prop}(s:aJ X F W c o R)(q:∀W' a v h',Go F W W'→R W' a (v,h')→aJ X F W' (k a) (g (v,h')) R'):aJ X F W (c >>=k) (o.bind g) R':=s.rG (λ_ _=>wpAny_bind) q
theorem aJ.Rv{c':Sem γ}{j:α→γ}{g:β→Option δ}{R':Wd→γ→δ→Prop}(rule:∀Q Ex,bS X c (λa s1=>Q (j a) s1) Ex W.s→bS X c' Q Ex W.s)(s:aJ X F W c o R)
  (q:∀W' a b,Go F W W'→R W' a b→Al (g b) (R' W' (j a))):aJ X F W c' (o.bind g) R':=λr e Q Ex K=>match aT.mp e with
 |⟨b,e1,e2⟩=>rule Q Ex (s _ e1 _ Ex λW' a g1 r1=>K W' (j a) g1 (q W' a b g1 r1 r e2))
theorem aJ.fin{iu:Type}{c':Sem γ}{o:Option (β×iu)}{R:Wd→α→β×iu→Prop}{j:α→γ}{g:β×iu→Option δ}{R':Wd→γ→δ→Prop}(rule:∀Q Ex,bS X c (λa s1=>Q (j a) s1) Ex W.s→bS X c' Q Ex W.s)(s:aJ X F W c o R)
  (q:∀W' a v h',Go F W W'→R W' a (v,h')→Al (g (v,h')) (R' W' (j a))):aJ X F W c' (o.bind g) R':=s.Rv rule λW' a=>pairs (q W' a)
theorem aJ.then{iu:Type}{o:Option (β×iu)}{R:Wd→α→β×iu→Prop}{g:β×iu→Option δ}{R':Wd→α→δ→Prop}(s:aJ X F W c o R)(q:∀W' a v h',Go F W W'→R W' a (v,h')→Al (g (v,h')) (R' W' a)):aJ X F W c (o.bind g) R':=s.fin (λ_ _ h=>h) q
theorem aJ.rH{iu ε ζ:Type}{c':Sem ε}{o:Option (β×iu)}{R:Wd→α→β×iu→Prop}{d:α→Sem γ}{k:α→γ→Sem ε}{o2:β×iu→Option δ}{g:β×iu→δ→Option ζ}{R2:β×iu→Wd→γ→δ→Prop}{R':Wd→ε→ζ→Prop}
  (rule:∀Q Ex,bS X c (λa s1=>bS X (d a) (λb s2=>bS X (k a b) Q Ex s2) Ex s1) Ex W.s→bS X c' Q Ex W.s) (s:aJ X F W c o R) (s2:∀W' a v h',Go F W W'→R W' a (v,h')→aJ X F W' (d a) (o2 (v,h')) (R2 (v,h')))
  (q:∀W' W2 a v h' a2 b2,Go F W W'→R W' a (v,h')→Go F W' W2→R2 (v,h') W2 a2 b2→aJ X F W2 (k a a2) (g (v,h') b2) R'):aJ X F W c' (o.bind λx=>(o2 x).bind (g x)) R':=λr e Q Ex K=>match aT.mp e with
 |⟨(_,_),e1,e2⟩=>match aT.mp e2 with
  |⟨_,e3,e4⟩=>rule Q Ex (s _ e1 _ Ex λW' a g1 r1=>s2 W' a _ _ g1 r1 _ e3 _ Ex λW2 a2 g2 r2=>q W' W2 a _ _ a2 _ g1 r1 g2 r2 r e4 Q Ex λW3 a3 g3 r3=>K W3 a3 ((g1.trans g2).trans g3) r3)
theorem aJ.M4{iu M5 ε ζ:Type}{c':Sem ε}{o:Option (β×iu)}{R:Wd→α→β×iu→Prop}{d:α→Sem γ}{k:α→γ→Sem ε}{o2:β×iu→Option (δ×M5)}{g:β×iu→δ×M5→Option ζ}{R2:Wd→γ→δ×M5→Prop}{R':Wd→ε→ζ→Prop}
  (rule:∀Q Ex,bS X c (λa s1=>bS X (d a) (λb s2=>bS X (k a b) Q Ex s2) Ex s1) Ex W.s→bS X c' Q Ex W.s) (s:aJ X F W c o R) (s2:∀W' a v h',Go F W W'→R W' a (v,h')→aJ X F W' (d a) (o2 (v,h')) R2)
  (q:∀W' W2 a v h' a2 v2 h2,Go F W W'→R W' a (v,h')→Go F W' W2→R2 W2 a2 (v2,h2)→aJ X F W2 (k a a2) (g (v,h') (v2,h2)) R'):aJ X F W c' (o.bind λx=>(o2 x).bind (g x)) R':=s.rH (R2:=λ_=>R2) rule s2 λW' W2 a v h' a2=>pairs (q W' W2 a v h' a2)
theorem aJ.fin2{iu M5 ε ζ:Type}{c':Sem ε}{o:Option (β×iu)}{R:Wd→α→β×iu→Prop}{d:α→Sem γ}{j:α→γ→ε}{o2:β×iu→Option (δ×M5)}{g:β×iu→δ×M5→Option ζ}{R2:Wd→γ→δ×M5→Prop}{R':Wd→ε→ζ→Prop}
  (rule:∀Q Ex,bS X c (λa s1=>bS X (d a) (λb s2=>Q (j a b) s2) Ex s1) Ex W.s→bS X c' Q Ex W.s) (s:aJ X F W c o R) (s2:∀W' a v h',Go F W W'→R W' a (v,h')→aJ X F W' (d a) (o2 (v,h')) R2)
  (q:∀W' W2 a v h' a2 v2 h2,Go F W W'→R W' a (v,h')→Go F W' W2→R2 W2 a2 (v2,h2)→Al (g (v,h') (v2,h2)) (R' W2 (j a a2))):aJ X F W c' (o.bind λx=>(o2 x).bind (g x)) R':=λr e Q Ex K=>match aT.mp e with
 |⟨(_,_),e1,e2⟩=>match aT.mp e2 with
  |⟨(_,_),e3,e4⟩=>rule Q Ex (s _ e1 _ Ex λW' a g1 r1=>s2 W' a _ _ g1 r1 _ e3 _ Ex λW2 a2 g2 r2=>K W2 (j a a2) (g1.trans g2) (q W' W2 a _ _ a2 _ _ g1 r1 g2 r2 r e4))
theorem aJ.assoc{o2:β→Option γ}{g:γ→Option δ}{c':Sem ε}{R':Wd→ε→δ→Prop}(s:aJ X F W c' (o.bind λx=>(o2 x).bind g) R'):aJ X F W c' ((o.bind o2).bind g) R':=by rwa [Option.bind_assoc]
theorem aJ.pick{g:β→Option δ}{c':Sem γ}{R':Wd→γ→δ→Prop}(q:∀b,o=some b→aJ X F W c' (g b) R'):aJ X F W c' (o.bind g) R':=λr e=>match aT.mp e with
 |⟨b,e1,e2⟩=>q b e1 r e2
theorem aJ.cond{t v:Bool}{c2:Sem α}{o2:Option β}(e:t=v)(h1:aJ X F W c o R)(h2:aJ X F W c2 o2 R):aJ X F W (if t=true then c else c2) (if v=true then o else o2) R:=by
 subst e;cases t
 ·exact h2
 ·exact h1
theorem aJ.Ly{v:Bool}{c2:Sem α}{o2:Option β}(h1:aJ X F W c o R)(h2:v=false→aJ X F W c2 o2 R):aJ X F W (if v=true then c else c2) (if v=true then o else o2) R:=by
 cases v
 ·exact h2 rfl
 ·exact h1
theorem aJ.ite{p:Prop}[Decidable p](q:p→aJ X F W c o R):aJ X F W c (if p then o else none) R:=λb e=>if z:p then q z b (by rw [if_pos z] at e;exact e) else by rw [if_neg z] at e;cases e
theorem aJ.frame{c:Sem Value}{o:Option (MV×Hp)}(S:eF X f l h W)(s:aJ X [] W c o (RV X)):aJ X [] W c o (RF X f l):=s.mono λW' a b g r=>⟨g.qR S r.1,r.2⟩
theorem aJ.DR{c:Sem Bool}{o:Option (Bool×Hp)}(S:eF X f l h W)(s:aJ X [] W c o (Wy X)):aJ X [] W c o (M3 X f l):=s.mono λW' a b g r=>⟨g.qR S r.1,r.2⟩
theorem aJ.M6{c:Sem Value}{o:Option (MV×Hp)}(q:∀r h',o=some (r,h')→∀Q Ex,cQ X.D X.h₀ W.G W.ρ W.s r h' Q→bS X c Q Ex W.s):aJ X [] W c o (RV X):=λb e Q Ex K=>q b.1 b.2 e Q Ex λv s' G' cZ g R st hv=>K ⟨G',cZ,s'⟩ v (.of g st) ⟨R,hv⟩
theorem aJ.M7{c:Sem Value}{o:Option MV}(q:∀r,o=some r→∀Q Ex,cQ X.D X.h₀ W.G W.ρ W.s r h Q→bS X c Q Ex W.s):aJ X [] W c (o.bind λr=>some (r,h)) (RV X):=λb e Q Ex K=>match aT.mp e with
 |⟨r,e1,e2⟩=>q r e1 Q Ex λv s' G' cZ g R st hv=>K ⟨G',cZ,s'⟩ v (.of g st) (bX e2▸⟨R,hv⟩)
theorem aJ.ofB{c:Sem Bool}{o:Option Bool}(q:∀r,o=some r→∀Q Ex,Bm X.D X.h₀ W.G W.ρ W.s r h Q→bS X c Q Ex W.s):aJ X [] W c (o.bind λr=>some (r,h)) (Wy X):=λb e Q Ex K=>match aT.mp e with
 |⟨r,e1,e2⟩=>q r e1 Q Ex λs' G' cZ g R st=>K ⟨G',cZ,s'⟩ r (.of g st) (bX e2▸⟨R,rfl⟩)
theorem aJ.WA{c:Sem Value}{v:Value}{m:MV}(S:eF X f l h W)(rule:∀Q Ex,Q v W.s→bS X c Q Ex W.s)(hv:V X W m v):aJ X [] W c (some (m,h)) (RF X f l):=λ_ e Q Ex K=>rule Q Ex (K W v (.refl _) (bX e▸⟨S,hv⟩))
theorem aJ.atT{c:Sem Value}{v:Value}{m:MV}{t:Nat}(S:eF X f l h W)(rule:∀Q Ex,Q v {W.s with toks:=t}→bS X c Q Ex W.s)(hv:V X W m v):aJ X [] W c (some (m,h)) (RF X f l):=λ_ e Q Ex K=>rule Q Ex (K (W.tk t) v (.tk t) (bX e▸⟨(Go.tk t).qR S S.rep.toks,hv⟩))
end
structure fY(X:Ctx)(n:Nat)(f:Fr):Prop where
 ci:Dt X.D f.ci
 env:iU f.ci f.env
 A:qP n X.A
theorem fY.pred{X:Ctx}{n:Nat}{f:Fr}(h:fY X (n+1) f):fY X n f:=⟨h.ci,h.env,h.A.pred⟩
def iM(X:Ctx)(n:Nat)(f:Fr)(e:Expr)(m:ai):Prop:=∀l h W,eF X f l h W→aJ X [] W (eval e f.env) ((E X.D.pm n).ev m l h) (RF X f l)
def M8(X:Ctx)(n:Nat)(f:Fr)(e:Expr)(m:ai):Prop:=∀l h W,eF X f l h W→aJ X [] W (PySem.isTrue e f.env (eval e f.env)) (test (E X.D.pm n) m l h) (M3 X f l)
def kh(X:Ctx)(n:Nat):Prop:=∀k f e,fY X n f→Al (aD k f.ci e) (iM X n f e)
def ST(X:Ctx)(n:Nat):Prop:=∀k f e,fY X n f→Al (aD k f.ci e) (M8 X n f e)
abbrev CE(k:Nat)(ci:CI)(e:Expr)(m:ai):Prop:=aD k ci e=some m
theorem j5{k:Nat}{ci:CI}{e:Expr}{m:ai}(he:CE k ci e m)(rest:List Expr)(env:Env):starEach (e::rest) env=(false,eval e env)::starEach rest env:=by cases e<;>first|rfl|exact absurd (he.symm.trans (by cases k<;>rfl)) (bx _)
theorem BJ{k:Nat}{ci:CI}{op:CmpOp}{e:Expr}{m:ai}(he:CE k ci e m):behindInMarks op e=false:=by cases e<;>first|rfl|exact absurd (he.symm.trans (by cases k<;>rfl)) (bx _)
theorem BK{k:Nat}{ci:CI}{e:Expr}{m:ai}(he:CE k ci e m):lg e=true:=by cases e<;>first|rfl|exact absurd (he.symm.trans (by cases k<;>rfl)) (bx _)
inductive Ch(k:Nat)(ci:CI):List CmpOp→List Expr→List ai→Prop
 |one {op e m}:CE k ci e m→Ch k ci [op] [e] [m]
 |more {op o ops e d es m m' ms}:CE k ci e m→Ch k ci (o::ops) (d::es) (m'::ms)→Ch k ci (op::o::ops) (e::d::es) (m::m'::ms)
theorem Ch.mk{k:Nat}{ci:CI}{es:List Expr}{ms:List ai}(r:bY (CE k ci) es ms):∀{e m},CE k ci e m→∀{op:CmpOp} {ops:List CmpOp},ops.length=es.length→Ch k ci (op::ops) (e::es) (m::ms):=by
 induction r with
 |nil=>intro e m c op ops hl;exact List.length_eq_zero_iff.mp hl▸.one c
 |cons d r ih=>
  intro e m c op ops hl
  cases ops with
  |nil=>exact (Nat.succ_ne_zero _ hl.symm).elim
  |cons o ops=>exact .more c (ih d (Nat.succ.inj hl))
theorem vE{k:Nat}{ci:CI}{ops:List CmpOp}{es:List Expr}{ms:List ai}(c:Ch k ci ops es ms):lastMarks ops es=false:=by
 induction c with
 |one c=>exact BJ c
 |more _ _ ih=>exact ih
inductive Se(k:Nat)(ci:CI):List Expr→List ai→Prop
 |one {e m}:CE k ci e m→Se k ci [e] [m]
 |more {e d es m m' ms}:CE k ci e m→Se k ci (d::es) (m'::ms)→Se k ci (e::d::es) (m::m'::ms)
theorem Se.mk{k:Nat}{ci:CI}{es:List Expr}{ms:List ai}(r:bY (CE k ci) es ms):∀{e m},CE k ci e m→Se k ci (e::es) (m::ms):=by
 induction r with
 |nil=>exact .one
 |cons d r ih=>exact λc=>.more c (ih d)
section
variable {X:Ctx}{K:Frag}{mg mb:Str→Option Value}{n k:Nat}{f:Fr}{l:Loc}{h:Hp}{W:Wd}
theorem lA{pos:Pos}(I:∀e,Al (aD k f.ci e) (iM X n f e)){es:List Expr}{ms:List ai}(c:bY (CE k f.ci) es ms):∀l h W,eF X f l h W→aJ X [] W (spliced (backTo pos (starEach es f.env))) (qZ (E X.D.pm n) ms l h) (ZT X f l):=by
 induction c with
 |nil=>exact λl h W S _ e Q Ex K=>wpAny_items_nil (K W [] (.refl _) (bX e▸⟨S,.nil⟩))
 |cons c r ih=>exact λl h W S=>aJ.fin2 (λ_ _ z=>wpAny_items_cons z (j5 c _ _)) (I _ _ c l h W S) (λW1 a v h1 _ r1=>ih l h1 W1 r1.1) λW1 W2 a v h1 b vs h2 _ r1 g r2=>Al.some ⟨r2.1,.cons (g.v r1.2) r2.2⟩
theorem vF(I:∀k e,Al (aD k f.ci e) (iM X n f e))(k:Nat):∀eo,Al (fT k f.ci eo) λmo=>∀l h W,eF X f l h W→aJ X [] W (evalPart eo f.env) (rf (E X.D.pm n) mo l h) (ROp X f l)
 |none=>λm e=>by
  obtain rfl:m=none:=by cases k<;>(unfold fT at e;cases e;rfl)
  exact λl h W S _ e Q Ex K=>wpAny_evalPart_none (K W .none (.refl _) (bX e▸⟨S,rfl⟩))
 |some e=>match k with
  |0=>λm e=>by unfold fT at e;cases e
  |k+1=>Al.bind (I k e) λm im=>Al.some λl h W S=>aJ.then (im l h W S) λW1 v m h1 g r=>Al.some r
theorem pG{v:Value}{m:MV}(R:Ok X h W)(hv:V X W m v):aJ X [] W (PySem.truthy v) ((Mine.truthy m h).bind λb=>some (b,h)) (Wy X):=aJ.ofB λr e Q Ex q=>oO R hv e q
theorem nj{v:Value}{m:MV}(R:Ok X h W)(hv:V X W m v):aJ X [] W (PySem.truthy v) (Mine.truthy m h) (RB1 X (m,h)):=λb e Q Ex K=>oO R hv e λs' G' cZ g R st=>K ⟨G',cZ,s'⟩ b (.of g st) ⟨R,rfl⟩
theorem nY{op:CmpOp}{va vx:Value}{a x:MV}(R:Ok X h W)(ha:V X W a va)(hx:V X W x vx):aJ X [] W (compareOp op va vx) (dz op a x) (RC1 X (x,h)):=λb e Q Ex K=>Im R ha hx e λv s' G' cZ g R st hv=>K ⟨G',cZ,s'⟩ v (.of g st) ⟨R,hv⟩
theorem I2{op:Operator}{va vx:Value}{a x:MV}(R:Ok X h W)(ha:V X W a va)(hx:V X W x vx):aJ X [] W (binaryOp op va vx) ((binOp op a x h).bind λr=>some (r,h)) (RV X):=aJ.M7 λr e Q Ex q=>Iw R ha hx e q
theorem vG(L:cX X.D K X.h₀ mg mb){v:MV}{va:Value}{a:Nat}{x:Str}{ex:Bool}(R:Ok X h W)(hx:X.D.nm[a]? =some x)(hv:V X W v va):aJ X [] W (PySem.getAttr va x ex) ((Mine.getAttr X.D.pm v a h).bind λr=>some (r,h)) (RV X):=aJ.M7 λr e Q Ex q=>m8 L R hx hv e q
theorem iW(H:Dt X.D f.ci)(a:Str):Al (nameId f.ci a) λi=>X.D.nm[i]? =some a:=λi e=>by
 have e:=dZ e
 rwa [H.nm] at e
theorem j6(H:iU f.ci f.env)(x:Str):f.env.kindOf x=f.ci.kinds.lookup x:=by unfold Env.kindOf;rw [H.kinds]
theorem mz{o:Option NameKind}(h:fO o=true):o=some .local∨o=some .cell:=by
 match o,h with
 |some .local,_=>exact .inl rfl
 |some .cell,_=>exact .inr rfl
theorem tD{o:Option NameKind}{k:NameKind}(h:(o==some k)=true):o=some k:=by
 cases o with
 |none=>cases h
 |some q=>cases q<;>cases k<;>first|rfl|cases h
theorem rI(H:iU f.ci f.env)(S:eF X f l h W){x:Str}{i:Nat}{v:MV}{Q:Value→Shared→Prop}{Ex:Value→Shared→Prop}(hk:f.ci.kinds.lookup x=some .local∨f.ci.kinds.lookup x=some .cell)(hi:f.ci.slots.idxOf? x=some i)(hw:l[i]? =some (some v))(q:∀va,V X W v va→Q va W.s):
  bS X (loadName f.env x) Q Ex W.s:=by
 rcases hk with hk|hk
 ·obtain ⟨ml,hn,hm⟩:=S.lr.aP
  obtain ⟨va,xT,hr⟩:=hm i x v hi hk hw;exact wpAny_loadName_local H.fn ((j6 H x).trans hk) hn xT (q va hr)
 ·obtain ⟨c,w,DI,DS,hr⟩:=S.lr.cell i x hi hk
  obtain ⟨va,xT,Vd⟩:=hr v hw;exact wpAny_loadName_cell H.fn ((j6 H x).trans hk) DI (xT▸DS) (q va Vd)
theorem I3{i:Nat}{l:Loc}{h:Hp}{b:MV×Hp}(e:(match l[i]? with|some (some v)=>some (v,h)|_=>none)=some b):∃v,l[i]? =some (some v)∧b=(v,h):=by
 match q:l[i]?,e with
 |some (some v),e=>exact ⟨v,rfl,(bX e).symm⟩
theorem Rx(S:Ok X h W):∀b o,X.h₀.get? b=some o→W.s.heap.get? b=some o:=λb o e=>S.keep b o (S.base b o e)
theorem DT(L:cX X.D K X.h₀ mg mb)(H:fY X n f){x:Str}{p:Pos}:Al (uP f.ci x) (iM X (n+1) f (.Name x p)):=
 Al.pq λhd=>have hd:(x==("__debug__":Str))=false:=by rwa [Bool.not_eq_true] at hd
 λm ec=>if hs:fO (f.ci.kinds.lookup x)=true then by rw [if_pos hs] at ec;obtain ⟨i,hi,rfl⟩:=dR.mp ec;intro l h W S b e Q Ex K;obtain ⟨v,hw,rfl⟩:=I3 (i:=i) e;exact wpAny_Name (rI H.env S (mz hs) hi hw λva hv=>K W va (.refl _) ⟨S,hv⟩) hd
 else by
  rw [if_neg hs] at ec
  by_cases hk:(f.ci.kinds.lookup x==some .globalImplicit)=true
  ·rw [if_pos hk] at ec
   obtain ⟨mv,hg,rfl⟩:=dR.mp ec;rw [H.ci.az] at hg;obtain ⟨va,xT,hr⟩:=L.az x mv hg;refine λl h W S=>aJ.WA S (λQ Ex q=>Name_function_global H.env.fn ((j6 H.env x).trans (tD hk)) ?_ hd) (hr _ _ S.rep.base)
   rcases xT with xT|⟨hn,xT⟩
   ·exact loadGlobal_global (by rw [H.env.az];exact L.g.keeps (Rx S.rep)) xT q
   ·exact loadGlobal_builtin (by rw [H.env.az];exact L.g.keeps (Rx S.rep)) hn (by rw [H.env.bi];exact L.b.keeps (Rx S.rep)) xT q
  ·rw [if_neg hk] at ec;cases ec
theorem DU{α:Type}{t:Bool}{a b:Sem α}{Q:α→Shared→Prop}{Ex:Value→Shared→Prop}{s:Shared}(h:bS X (if t=true then a else b) Q Ex s):if t=true then bS X a Q Ex s else bS X b Q Ex s:=by cases t<;>exact h
theorem BL{pos:Pos}{x y:Sem Value}{r:List (Sem Value)}{Q:Value→Shared→Prop}{Ex:Value→Shared→Prop}{s:Shared}(h:bS X x (λv dJ=>bS X (PySem.truthy v) (λt gD=>bS X (if t=true then boolOp pos .And (y::r) else pure v) Q Ex gD) Ex dJ) Ex s):bS X (boolOp pos .And (x::y::r)) Q Ex s:=by
 unfold boolOp;refine wpAny_bind (wpAny_mono h (λv dJ iw=>wpAny_bind (wpAny_standAt (wpAny_bind (wpAny_holding (wpAny_mono iw (λt gD kI=>?_) λ_ _ z=>z))))) λ_ _ z=>z)
 cases t<;>exact kI
theorem BN{pos:Pos}{x y:Sem Value}{r:List (Sem Value)}{Q:Value→Shared→Prop}{Ex:Value→Shared→Prop}{s:Shared}(h:bS X x (λv dJ=>bS X (PySem.truthy v) (λt gD=>bS X (if t=true then pure v else boolOp pos .Or (y::r)) Q Ex gD) Ex dJ) Ex s):bS X (boolOp pos .Or (x::y::r)) Q Ex s:=by
 unfold boolOp;refine wpAny_bind (wpAny_mono h (λv dJ iw=>wpAny_bind (wpAny_standAt (wpAny_bind (wpAny_holding (wpAny_mono iw (λt gD kI=>?_) λ_ _ z=>z))))) λ_ _ z=>z)
 cases t<;>exact kI
theorem I4{pos:Pos}(I:∀e,Al (aD k f.ci e) (iM X n f e)){es:List Expr}{ms:List ai}(c:Se k f.ci es ms):∀l h W,eF X f l h W→aJ X [] W (boolOp pos .And (evalEach es f.env)) (uM (E X.D.pm n) ms l h) (RF X f l):=by
 induction c with
 |one c=>exact λl h W S=>I _ _ c l h W S
 |more c d ih=>exact λl h W S=>aJ.rH (λ_ _=>BL) (I _ _ c l h W S) (λW1 v m h1 _ r1=>nj r1.1.rep r1.2) λW1 W2 v m h1 t b _ r1 g r2=>aJ.cond r2.2 (ih l h1 W2 (g.qR r1.1 r2.1)) (aJ.ret ⟨g.qR r1.1 r2.1,g.v r1.2⟩)
theorem M9{pos:Pos}(I:∀e,Al (aD k f.ci e) (iM X n f e)){es:List Expr}{ms:List ai}(c:Se k f.ci es ms):∀l h W,eF X f l h W→aJ X [] W (boolOp pos .Or (evalEach es f.env)) (Dd (E X.D.pm n) ms l h) (RF X f l):=by
 induction c with
 |one c=>exact λl h W S=>I _ _ c l h W S
 |more c d ih=>exact λl h W S=>aJ.rH (λ_ _=>BN) (I _ _ c l h W S) (λW1 v m h1 _ r1=>nj r1.1.rep r1.2) λW1 W2 v m h1 t b _ r1 g r2=>aJ.cond r2.2 (aJ.ret ⟨g.qR r1.1 r2.1,g.v r1.2⟩) (ih l h1 W2 (g.qR r1.1 r2.1))
theorem I5{v:Value}{m:MV}(R:Ok X h W)(hv:V X W m v):aJ X [] W (unaryOp .USub v) (match m with|.int i=>if bC i then some (MV.int (-i),h) else none|_=>none) (RV X):=by
 cases m with
 |int i=>obtain ⟨t,rfl⟩:=eH hv;exact aJ.ite λ_=>aJ.M6 λr h' e Q Ex q=>P.neg_int (by cases e;exact q.val R VR.int _)
 |_=>exact aJ.no
end
section
variable {X:Ctx}{K:Frag}{mg mb:Str→Option Value}{n k:Nat}{f:Fr}{l:Loc}{h:Hp}{W:Wd}
theorem rJ{α β:Type}{vs:List Value}{x:Sem α}{g:α→Sem β}{Q:β→Shared→Prop}{Ex:Value→Shared→Prop}{s:Shared}(h:bS X (x >>=g) Q Ex s):bS X (holding vs x >>=g) Q Ex s:=λΓ p hΓ=>by have:=h Γ p hΓ;rw [Sem.wp_bind'] at this⊢;rw [Sem.wp_holding];exact this
noncomputable def RCv(X:Ctx)(f:Fr)(l:Loc):Wd→Value→Bool×Hp→Prop:=λW v b=>eF X f l b.2 W∧V X W (.bool b.1) v
theorem DV{pos:Pos}{a:Value}{op Na:CmpOp}{ops:List CmpOp}{r r':Sem Value}{rs:List (Sem Value)}{Q:Value→Shared→Prop}{Ex:Value→Shared→Prop}{s:Shared}
  (h:bS X r (λb dJ=>bS X (compareOp op a b) (λc gD=>bS X (PySem.truthy c >>=λt=>if t=true then compareChain pos b (Na::ops) (r'::rs) else pure c) Q Ex gD) Ex dJ) Ex s):bS X (compareChain pos a (op::Na::ops) (r::r'::rs)) Q Ex s:=by
 show bS X (do
  let rv ← holding [a] r
  standAt pos
  let c ← holding [a,rv] (compareOp op a rv)
  release [a,rv] [c]
  if ← holding [c,rv] (PySem.truthy c) then compareChain pos rv (Na::ops) (r'::rs) else pure c) Q Ex s
 exact wpAny_bind (wpAny_holding (wpAny_mono h (λb dJ iw=>wpAny_bind (wpAny_standAt (wpAny_bind (wpAny_holding (wpAny_mono iw (λc gD kI=>wpAny_bind (wpAny_release' (rJ kI))) λ_ _ x=>x))))) λ_ _ x=>x))
theorem I6{pos:Pos}{a:Value}{op Na:CmpOp}{ops:List CmpOp}{r r':Sem Value}{rs:List (Sem Value)}{Q:Bool→Shared→Prop}{Ex:Value→Shared→Prop}{s:Shared}
  (h:bS X r (λb dJ=>bS X (compareOp op a b) (λc gD=>bS X (PySem.truthy c >>=λt=>if t=true then testChain pos b (Na::ops) (r'::rs) else pure false) Q Ex gD) Ex dJ) Ex s):bS X (testChain pos a (op::Na::ops) (r::r'::rs)) Q Ex s:=by
 show bS X (do
  let rv ← holding [a] r
  standAt pos
  let c ← holding [a,rv] (compareOp op a rv)
  release [a,rv] [c]
  if ← holding [c,rv] (PySem.truthy c) then testChain pos rv (Na::ops) (r'::rs) else pure false) Q Ex s
 exact wpAny_bind (wpAny_holding (wpAny_mono h (λb dJ iw=>wpAny_bind (wpAny_standAt (wpAny_bind (wpAny_holding (wpAny_mono iw (λc gD kI=>wpAny_bind (wpAny_release' (rJ kI))) λ_ _ x=>x))))) λ_ _ x=>x))
theorem vH{v:Value}{b:Bool}(hv:V X W (.bool b) v){α β:Type}{F:List Addr}{g:Bool→Sem α}{o:Option β}{R':Wd→α→β→Prop}(q:aJ X F W (g b) o R'):aJ X F W (PySem.truthy v >>=g) o R':=λr e Q Ex K=>wpAny_bind (by subst hv;exact wpAny_truthy_bool (q r e Q Ex K))
theorem DW{v:Value}{b:Bool}(hv:V X W (.bool b) v)(S:eF X f l h W):aJ X [] W (PySem.truthy v) (some (b,h)) (M3 X f l):=λr e Q Ex K=>by subst hv;exact wpAny_truthy_bool (K W b (.refl _) (bX e▸⟨S,rfl⟩))
theorem BO{pos:Pos}(I:∀e,Al (aD k f.ci e) (iM X n f e)){ops:List CmpOp}{es:List Expr}{ms:List ai}(c:Ch k f.ci ops es ms):∀l h W va a,eF X f l h W→V X W a va→aJ X [] W (compareChain pos va ops (evalEach es f.env)) (uN (E X.D.pm n) a ops ms l h) (RCv X f l):=by
 induction c with
 |one c=>exact λl h W va a S hv=>aJ.rG (λ_ _=>chain_last) (I _ _ c l h W S) λW1 vb m h1 g r=>aJ.Rv (λ_ _ z=>z) (nY r.1.rep (g.v hv) r.2) λW2 t b g2 r2=>Al.some ⟨g2.qR r.1 r2.1,r2.2⟩
 |more c d ih=>exact λl h W va a S hv=>aJ.rH (λ_ _=>DV) (I _ _ c l h W S) (λW1 vb m h1 g r1=>nY r1.1.rep (g.v hv) r1.2) λW1 W2 vb m h1 vc b g r1 g2 r2=>vH r2.2 (aJ.Ly (ih l h1 W2 vb m (g2.qR r1.1 r2.1) (g2.v r1.2)) λz=>aJ.ret ⟨g2.qR r1.1 r2.1,z▸r2.2⟩)
theorem DX{pos:Pos}(I:∀e,Al (aD k f.ci e) (iM X n f e)){ops:List CmpOp}{es:List Expr}{ms:List ai}(c:Ch k f.ci ops es ms):∀l h W va a,eF X f l h W→V X W a va→aJ X [] W (testChain pos va ops (evalEach es f.env)) (uN (E X.D.pm n) a ops ms l h) (M3 X f l):=by
 induction c with
 |one c=>exact λl h W va a S hv=>aJ.rH (λ_ _=>test_last) (I _ _ c l h W S) (λW1 vb m h1 g r1=>nY r1.1.rep (g.v hv) r1.2) λW1 W2 vb m h1 vc b g r1 g2 r2=>DW r2.2 (g2.qR r1.1 r2.1)
 |more c d ih=>exact λl h W va a S hv=>aJ.rH (λ_ _=>I6) (I _ _ c l h W S) (λW1 vb m h1 g r1=>nY r1.1.rep (g.v hv) r1.2) λW1 W2 vb m h1 vc b g r1 g2 r2=>vH r2.2 (aJ.Ly (ih l h1 W2 vb m (g2.qR r1.1 r2.1) (g2.v r1.2)) λ_=>aJ.ret ⟨g2.qR r1.1 r2.1,rfl⟩)
end
end
section
open PySem PySem.W PySem.Calls PyProof.Rows PySem.SeqAt
set_option backward.match.sparseCases true
theorem zB{o:Expr}{x:Str}{env:Env}(hs:fP o=false):attributeBase o x env (eval o env)=eval o env:=by
 cases o with
 |Call f a k p=>
  cases f with
  |Name id q=>
   cases a with
   |nil=>
    cases k with
    |nil=>
     have:(id !=Str.ofString "super")=true:=congrArg (!·) hs;unfold attributeBase;show (if (id !=Str.ofString "super"||_||_||_)=true then _ else _)=_
     rw [this];rfl
    |cons _ _=>rfl
   |cons _ _=>rfl
  |_=>rfl
 |_=>rfl
theorem vI{D:cP}{h₀:Heap}{G:Fz}{ρ:List PR}{h:Hp}{s:Shared}{l:List MV}{vs:List Value}{Q:Value→Shared→Prop}(R:Rep D h₀ G ρ h s)(hr:cY D G ρ l vs)(hl:l.length≤aH)(k:cQ D h₀ G ρ s (.obj h.length) (h++[.list l]) Q):
  Q (.ref s.heap.objs.size) {s with heap:=s.heap.push {cls:=.type "list",data:=.seq vs.toArray}}:=by
 have kp:∀b o,s.heap.get? b=some o→(s.heap.push {cls:=.type "list",data:=.seq vs.toArray}).get? b=some o:=λb o e=>Heap.get?_push_of_some _ e
 have g:fG G G ρ (ρ++[(s.heap.objs.size,none)]) s {s with heap:=s.heap.push {cls:=.type "list",data:=.seq vs.toArray}}:=.new _ _ _ _ _ (λb hb=>by simp only [iK,Option.toList,bq,List.mem_nil_iff,or_false] at hb;subst hb;exact c8 (bf _)) (fH kp)
 refine k _ _ _ _ g (R.new kp (λb hb=>?_) (by simp [iK]) ⟨rfl,hl,vs,⟨0,Heap.get?_push_size _ rfl⟩,cY.mono (.refl _) g.r _ _ hr⟩) (.push _ s _) ?_
 ·simp only [iK,Option.toList,bq,List.mem_nil_iff,or_false] at hb
  subst hb;exact ⟨R.iD (bf _),λob gb=>absurd (R.Vc _ ob gb) (Nat.lt_irrefl _)⟩
 ·skip
  exact ⟨(s.heap.objs.size,none),by rw [← R.len];simp,rfl⟩
section
variable {X:Ctx}{K:Frag}{mg mb:Str→Option Value}{n k:Nat}{f:Fr}{l:Loc}{h:Hp}{W:Wd}
theorem I7{o:Expr}{x:Str}{pos:Pos}{env:Env}{Q:Value→Shared→Prop}{Ex:Value→Shared→Prop}{s:Shared}(hs:fP o=false)(hh:bS X (eval o env) (λov dJ=>bS X (PySem.getAttr ov x true) Q Ex dJ) Ex s):bS X (eval (.Attribute o x pos) env) Q Ex s:=by rw [arm_eval_Attribute,zB hs];exact wpAny_bind (wpAny_mono hh (λov dJ iw=>wpAny_bind (wpAny_standAt (wpAny_bind (wpAny_holding (wpAny_mono iw (λr gD kI=>wpAny_bind (wpAny_letTemporaryGo (wpAny_pure kI))) λ_ _ z=>z))))) λ_ _ z=>z)
theorem DY{c a b:Expr}{pos:Pos}{env:Env}{Q:Value→Shared→Prop}{Ex:Value→Shared→Prop}{s:Shared}(h:bS X (PySem.isTrue c env (eval c env)) (λt dJ=>bS X (if t=true then eval a env else eval b env) Q Ex dJ) Ex s):bS X (eval (.IfExp c a b pos) env) Q Ex s:=wpAny_IfExp (wpAny_mono h (λ_ _=>DU) λ_ _ z=>z)
theorem BP{c:Const}{ku:Nat}{p:Pos}:Al (ri c) (iM X (n+1) f (.Constant c ku p)):=by
 cases c with
 |none=>exact Al.some λl h W S=>aJ.WA S (λ_ _=>wpAny_Constant_none) VR.none
 |bool b=>exact Al.some λl h W S=>aJ.WA S (λ_ _=>wpAny_Constant_bool) VR.bool
 |int i=>exact Al.ite λ_=>Al.some λl h W S=>aJ.atT S (λ_ _=>wpAny_Constant_int) VR.int
 |str x=>exact Al.ite λhx=>Al.some λl h W S=>aJ.atT S (λ_ _=>wpAny_Constant_str) (uS x▸VR.str (t:=W.s.toks) (x:=x.cps.toList) hx)
 |_=>exact Al.none
theorem xX{b:Bool}{vs:List MV}{ws:List Value}(R:Ok X h W)(hv:Vs X W vs ws):aJ X [] W (newList ws) (if vs.length≤aH then some (sL b vs h) else none) (RV X):=aJ.ite λhl=>aJ.M6 λr h' e Q Ex q=>wpAny_newList (by
 cases b<;>cases e
 ·exact iL R hv hl q
 ·exact vI R hv hl q) (by rw [← hv.length];exact ak hl dh)
theorem BQ{vs:List MV}{ws:List Value}(R:Ok X h W)(hv:Vs X W vs ws):aJ X [] W (newTuple ws) (if vs.length≤aH then some (.tup vs,h) else none) (RV X):=aJ.ite λhl=>aJ.M6 λr h' e Q Ex q=>wpAny_newTuple (by
 cases e
 exact q _ _ _ _ (.add _ _ _ _ _ _ (bf _) (dX _ _)) (R.xB _ rfl) (.push _ _ _) (by exact ⟨hl,_,_,ws,0,rfl,.inr ⟨rfl,rfl⟩,rfl,rfl,cY.mono (Fz.jh _ _ _) (.refl _) _ _ hv⟩)) (by rw [← hv.length];exact ak hl dh)
theorem I8{v sl:Expr}{a i:MV}{va vi:Value}(hn:lg sl=true)(R:Ok X h W)(ha:V X W a va)(hi:V X W i vi):aJ X [] W (subscriptTail v sl va vi) ((dP a i h).bind λr=>some (r,h)) (RV X):=aJ.M7 λr e Q Ex q=>IA hn R ha hi e q
theorem Ru.go{F:List Addr}{W':Wd}{m:Option MV}{v:Value}(g:Go F W W')(h:Ru X W m v):Ru X W' m v:=match m,h with
 |none,h=>h
 |some _,h=>g.v h
theorem BR(I:∀k e,Al (aD k f.ci e) (iM X n f e)){v:Expr}{lo hi:Option Expr}{p:Pos}{WB WC:Option ai}(c1:fT k f.ci lo=some WB)(c2:fT k f.ci hi=some WC){a:MV}{va:Value}(S:eF X f l h W)(ha:V X W a va):
  ∀r,((rf (E X.D.pm n) WB l h).bind λy=>(rf (E X.D.pm n) WC l y.2).bind λz=>(dM a y.1 z.1 z.2).bind λr=>some (r,z.2))=some r→∀(Q Ex:Value→Shared→Prop),(∀W' v',Go [] W W'→RF X f l W' v' r→Q v' W'.s)→bS X (eval (.Slice lo hi none p) f.env) (λi gD=>bS X (subscriptTail v (.Slice lo hi none p) va i) Q Ex gD) Ex W.s:=λr e Q Ex KQ=>match aT.mp e with
 |⟨(vlo,h1),e1,e⟩=>match aT.mp e with
  |⟨(vhi,h2),e2,e⟩=>match aT.mp e with
   |⟨x,e3,e⟩=>wpAny_Slice (vF I k lo _ c1 l h W S _ e1 _ Ex λW1 vl g1 r1=>vF I k hi _ c2 l h1 W1 r1.1 _ e2 _ Ex λW2 vu g2 r2=>wpAny_evalPart_none
    (Bu r2.1.rep (g2.v (g1.v ha)) (Ru.go g2 r1.2) r2.2 e3 λv' s' G' cZ g' R' CY P9=>KQ ⟨G',cZ,s'⟩ v' ((g1.trans g2).trans (.of g' CY)) (bX e▸⟨r2.1.after g' R' CY,P9⟩)))
end
end
section
open PySem PySem.W PySem.Calls PyProof.Rows PySem.SeqAt
def Nb(X:Ctx)(W:Wd)(c:Code)(o:Option (MV×Hp)):Prop:=∀b,o=some b→∀R:Result→Shared→Prop,(∀W' w,Go [] W W'→RV X W' w b→R (.ok (.ret w)) W'.s)→codeAny (model X.D.prog X.D.w) X.A c R W.s
def SC(D:cP)(h₀:Heap)(n:Nat):Prop:=∀(A:Around) (i:Nat) (fe:cU) (fa:Addr) (pos kv bs:List MV) (kn:List Nat) (xs:List Str) (vs ws:List Value) (h:Hp) (W:Wd),D.pm.fns[i]? =some fe→D.fa[i]? =some fa→qP n A→Ok ⟨D,h₀,A⟩ h W→cY D W.G W.ρ pos vs→cY D W.G W.ρ kv ws→kn.mapM (λi=>D.nm[i]?)=some xs→fh fe pos kn kv=some bs→Nb ⟨D,h₀,A⟩ W (.call (.ref fa) ⟨vs,xs.zip ws⟩) ((E D.pm n).ca i bs h)
abbrev KE(k:Nat)(ci:CI)(kw:Keyword)(m:ai):Prop:=aD k ci kw.value=some m
abbrev KN(ci:CI)(kw:Keyword)(i:Nat):Prop:=oM ci kw=some i
section
variable {X:Ctx}{K:Frag}{mg mb:Str→Option Value}{n k:Nat}{f:Fr}{l:Loc}{h:Hp}{W:Wd}
theorem Nb.call{fv:Value}{a:Args}{o:Option (MV×Hp)}(s:Nb X W (.call fv a) o):aJ X [] W (PySem.call fv a.pos a.kw) o (RV X):=λb e Q Ex K=>wpAny_call (s b e _ λW' w g r=>K W' w g r)
theorem vJ(H:Dt X.D f.ci){pos:Pos}{eO:List Keyword}{kn:List Nat}(c:bY (KN f.ci) eO kn):
  kn.mapM (λi=>X.D.nm[i]?)=some ((backToKw pos (keywordEach eO f.env)).filterMap (·.1))∧(backToKw pos (keywordEach eO f.env)).all (·.1.isSome)=true∧(backToKw pos (keywordEach eO f.env)).any (·.1.isNone)=false∧∀kw∈eO,kw.arg.isSome=true:=by
 induction c with
 |nil=>exact ⟨rfl,rfl,rfl,λ_ z=>(dm z).elim⟩
 |@cons kw b eO kn e r ih=>
  obtain ⟨i1,i2,i3,i4⟩:=ih;obtain ⟨ka,kv,kp⟩:=kw
  cases ka with
  |none=>exact (bx _ (show none=some b from e).symm).elim
  |some x=>
   have e3:=iW H x b e;refine ⟨?_,i2,i3,λkw z=>(bq.mp z).elim (λz=>z▸rfl) (i4 kw)⟩
   show (b::kn).mapM _=some (x::_)
   rw [List.mapM_cons,e3,i1];rfl
theorem I9{pos:Pos}(I:∀e,Al (aD k f.ci e) (iM X n f e)){eO:List Keyword}{ms:List ai}(c:bY (KE k f.ci) eO ms):(∀kw∈eO,kw.arg.isSome=true)→∀l h W,eF X f l h W→aJ X [] W (evalAll ((backToKw pos (keywordEach eO f.env)).map (·.2))) (qZ (E X.D.pm n) ms l h) (ZT X f l):=by
 induction c with
 |nil=>exact λ_ l h W S _ e Q Ex K=>kwAll_nil (K W [] (.refl _) (bX e▸⟨S,.nil⟩))
 |@cons kw b eO ms c r ih=>
  intro hs l h W S;obtain ⟨ka,kv,kp⟩:=kw
  cases ka with
  |none=>exact absurd (hs _ (cy ..)) bU
  |some x=>exact aJ.fin2 (λ_ _ z=>kwAll_cons z) (I _ _ c l h W S) (λW1 a v h1 _ r1=>ih (λkw z=>hs kw (bR _ z)) l h1 W1 r1.1) λW1 W2 a v h1 b vs h2 _ r1 g r2=>Al.some ⟨r2.1,.cons (g.v r1.2) r2.2⟩
theorem kJ{pos:Pos}{env:Env}{ci:CI}{args:List Expr}{ms:List ai}(c:bY (CE k ci) args ms):(backTo pos (starEach args env)).any (·.1)=false:=by
 induction c with
 |nil=>rfl
 |cons c r ih=>rw [j5 c];exact ih
theorem lC(H:Dt X.D f.ci)(I:∀e,Al (aD k f.ci e) (iM X n f e)){pos:Pos}{fv:Value}{first:List Value}{args:List Expr}{eO:List Keyword}{ms mk:List ai}{kn:List Nat}(ca:bY (CE k f.ci) args ms)(cn:bY (KN f.ci) eO kn)(ck:bY (KE k f.ci) eO mk)(S:eF X f l h W)
  {δ:Type} {g:List MV→List MV→Hp→Option δ} {R':Wd→Value→δ→Prop} (Ry:∀as ks h2 r,g as ks h2=some r→∀(M:Model) (hp:Heap),(∀b o,W.G b o→hp.get? b=some o)→vB M hp fv)
  (q:∀W2 as ks h2 vs ws xs,Go [] W W2→eF X f l h2 W2→Vs X W2 as vs→Vs X W2 ks ws→kn.mapM (λi=>X.D.nm[i]?)=some xs→aJ X [] W2 (call fv (first++vs) (xs.zip ws)) (g as ks h2) R'):
  aJ X [] W (callWith pos fv first (backTo pos (starEach args f.env)) (backToKw pos (keywordEach eO f.env))) ((qZ (E X.D.pm n) ms l h).bind λx=>(qZ (E X.D.pm n) mk l x.2).bind λy=>g x.1 y.1 y.2) R':=λr e Q Ex KQ=>match aT.mp e with
 |⟨(as,h1),e1,e⟩=>match aT.mp e with
  |⟨(ks,h2),e2,e3⟩=>by
   obtain ⟨n1,n2,n3,n4⟩:=vJ H (pos:=pos) cn;have last:∀W1 vs,Go [] W W1→eF X f l h1 W1→Vs X W1 as vs→bS X (evalAll ((backToKw pos (keywordEach eO f.env)).map (·.2))) (λks gD=>(∀b o,W.G b o→gD.heap.get? b=some o)∧bS X (call fv (first++vs) (((backToKw pos (keywordEach eO f.env)).filterMap (·.1)).zip ks)) Q Ex gD) Ex W1.s:=λW1 vs g1 S1 hv=>I9 I ck n4 l h1 W1 S1 _ e2 _ Ex λW2 ws g2 r2=>⟨λb o z=>r2.1.rep.keep b o (g2.g.g _ _ (g1.g.g _ _ z)),q W2 as ks h2 vs ws _ (g1.trans g2) r2.1 (g2.vs hv) r2.2 n1 r e3 Q Ex λW3 v g3 r3=>KQ W3 v ((g1.trans g2).trans g3) r3⟩
   refine callWith_of (P:=λh'=>∀b o,W.G b o→h'.get? b=some o) (by rw [kJ ca,n3];rfl) (λhp z=>Ry as ks h2 r e3 _ hp z) ?_
   cases ca with
   |nil=>cases e1;exact evalArgs_kw2_nil n2 (last W [] (.refl _) S .nil)
   |cons c ca=>exact evalArgs_kw2 n2 (lA I (.cons c ca) l h W S _ e1 _ Ex λW1 vs g1 r1=>last W1 vs g1 r1.1 r1.2) (j5 c _ _)
end
noncomputable def WD(X:Ctx)(f:Fr):Wd→Flow→Fl×Loc×Hp→Prop:=λW fl r=>eF X f r.2.1 r.2.2 W∧ZM X.D W.G W.ρ r.1 fl
def SX(X:Ctx)(n:Nat):Prop:=∀k f ss l h W,fY X n f→eF X f l h W→aJ X (jy f.env) W (execs ss f.env) ((E X.D.pm n).ex (fj k f.ci ss) l h) (WD X f)
section
variable {D:cP}{h₀:Heap}{G:Fz}{ρ:List PR}{h:Hp}{s:Shared}{A:Around}{Ex:Value→Shared→Prop}{K:Frag}{mg mb:Str→Option Value}{n:Nat}
theorem DZ(L:cX D K h₀ mg mb){c:mY}{v:MV}{f:Value}{first:List Value}{pos:List MV}{vs:List Value}{h':Hp}{Q:Value→Shared→Prop}(R:Rep D h₀ G ρ h s)(hf:tB D G ρ c f first)(h1:cY D G ρ pos vs)(e:xx c pos h=some (v,h'))(k:cQ D h₀ G ρ s v h' Q):
  wpAny (model D.prog D.w) A (call f (first++vs) []) Q Ex s:=by
 cases c with
 |fn=>exact (bx _ e.symm).elim
 |join sep=>
  obtain ⟨q,e⟩:=bA e;obtain ⟨x,e1,e⟩:=aT.mp e;obtain ⟨l,e2,e⟩:=aT.mp e;obtain ⟨r,e3,e⟩:=aT.mp e;obtain ⟨w,e4,e⟩:=dR.mp e;obtain ⟨hr,e4⟩:=bA e4
  cases cW e1
  cases List.isEmpty_iff.mp q
  cases e4
  cases e
  obtain ⟨va,rfl,hx⟩:=h1.one;obtain ⟨rfl,t,rfl⟩:=hf;exact DH R hx e2 e3 hr k
 |starts y=>
  obtain ⟨x,e1,e⟩:=aT.mp e;obtain ⟨z,e2,e⟩:=dR.mp e
  cases cW e1
  cases bI e2
  cases e
  obtain ⟨va,rfl,hx⟩:=h1.one;obtain ⟨rfl,t,rfl⟩:=hf;obtain ⟨_,u,rfl⟩:=id hx;exact xV R k
 |append o=>
  obtain ⟨x,e1,e⟩:=aT.mp e;obtain ⟨l,e2,e⟩:=aT.mp e;obtain ⟨hz,e9⟩:=bA e
  cases cW e1
  cases e9
  obtain ⟨va,rfl,hx⟩:=h1.one;obtain ⟨rfl,vo,rfl,Nc⟩:=hf;exact xK R Nc hx e2 hz k
 |pop o=>
  obtain ⟨l,e1,e⟩:=aT.mp e;obtain ⟨j,e2,e⟩:=aT.mp e;obtain ⟨w,e3,e⟩:=dR.mp e;cases e
  obtain ⟨rfl,vo,rfl,Nc⟩:=hf;have z:=IJ (A:=A) (E:=Ex) R Nc e1 e3 k
  cases pos with
  |nil=>rw [h1.nil_inv];exact z.1 (bX e2).symm
  |cons x r=>
   obtain ⟨q,e2⟩:=bA e2;have q:=bl.mp q
   cases List.isEmpty_iff.mp q.2
   obtain ⟨va,rfl,hx⟩:=h1.one
   cases ze q.1
   obtain ⟨t,rfl⟩:=id hx;exact z.2 (bX e2).symm t
 |copy ks vals=>
  obtain ⟨q,e⟩:=bA e;cases e
  have q:=bl.mp q;have q1:=bl.mp q.2;have q2:=bl.mp q1.1
  cases List.isEmpty_iff.mp q.1
  obtain ⟨rfl,vo,rfl,Nc⟩:=hf;rw [h1.nil_inv];exact DO L R Nc q2.1 q2.2 k (bN q1.2)
theorem xY(L:cX D K h₀ mg mb)(IHC:SC D h₀ n)(hA:qP (n+1) A){i:Nat}{ce:gh}{fe:cU}{C:Addr}{pos kv bs:List MV}{kn:List Nat}{xs:List Str}{vs ws:List Value}{h':Hp}{Q:Value→Shared→Prop}
  (sY:D.pm.eg[i]? =some ce) (MY:D.pm.fns[ce.init]? =some fe) (mw:ce.isRec=false) (hC:D.ca[i]? =some C) (R:Rep D h₀ G ρ h s) (h1:cY D G ρ pos vs) (h2:cY D G ρ kv ws) (ek:kn.mapM (λi=>D.nm[i]?)=some xs)
  (eb:fh fe (.obj h.length::pos) kn kv=some bs) (ec:(E D.pm n).ca ce.init bs (h++[.inst i []])=some (.none,h')) (k:cQ D h₀ G ρ s (.obj h.length) h' Q):
  wpAny (model D.prog D.w) A (call (.ref C) vs (xs.zip ws)) Q Ex s:=by
 have q:=mq L sY hC;obtain ⟨fi,DA,_⟩:=L.fns _ _ MY;have k2:=ly s.heap C;have DP:∀b∈iK (s.heap.objs.size+1,some s.heap.objs.size),s.heap.objs.size≤b:=λb hb=>(bq.mp hb).elim (λe=>e▸Nat.le_succ _) λhb=>dN.mp hb▸bf _
 have R1:Rep D h₀ G (ρ++[(s.heap.objs.size+1,some s.heap.objs.size)]) (h++[.inst i []]) (Qa s C):=
  R.new k2 (λb hb=>⟨R.iD (DP b hb),λob gb=>Nat.not_lt.mpr (DP b hb) (R.Vc b ob gb)⟩) (List.nodup_cons.mpr ⟨λz=>Nat.succ_ne_self _ (dN.mp z),List.pairwise_singleton ..⟩)
   ⟨C,_,λ_=>none,hC,rfl,Lv _ _,vz (Lx _ _),λa x e=>⟨rfl,λ_ e=>no e⟩,λa z=>(bU z).elim,ce,sY,mw⟩
 have g1:fG G G ρ (ρ++[(s.heap.objs.size+1,some s.heap.objs.size)]) s (Qa s C):=.new _ _ _ _ _ (λb hb=>c8 (DP b hb)) (fH k2)
 have Lz:VR D G (ρ++[(s.heap.objs.size+1,some s.heap.objs.size)]) (.obj h.length) (.ref (s.heap.objs.size+1)):=by exact ⟨(s.heap.objs.size+1,some s.heap.objs.size),R.len▸List.getElem?_concat_length,rfl⟩
 refine wpAny_call (vA q (R.rm L) DA (IHC _ ce.init fe fi (.obj h.length::pos) kv bs kn xs (.ref (s.heap.objs.size+1)::vs) ws _ ⟨G,ρ++[(s.heap.objs.size+1,some s.heap.objs.size)],Qa s C⟩ MY DA (hA.made C vs (xs.zip ws)) R1 (.cons Lz (cY.mono (.refl _) g1.r _ _ h1)) (cY.mono (.refl _) g1.r _ _ h2) ek eb _ ec _ λW' w g2 r2=>?_))
 exact ⟨j0 r2.2,k _ _ _ _ (g1.trans g2.g) r2.1 (gQ.Q8 (s':=Qa s C) ⟨rfl,rfl,rfl,λb o _ e=>k2 b o e⟩ g1 g2.Wx) (g2.v (X:=⟨D,h₀,A⟩) Lz)⟩
theorem Ent.sr(L:cX D K h₀ mg mb){fe:cU}{fd:FuncData}{body:List Stmt}{T:SV}{s1:Shared}{env:Env}{bs:List MV}{vs:List Value}(R:Rep D h₀ G ρ h s)(x:Ent fd T s s1 env)(C:zz D fd.params body fd.scope fe)
  (B:Bound D.nm (λ_ m v=>VR D G ρ m v) fe.params (fd.params.args.map (·.arg)) vs bs T):SR D h₀ (Dj D.az D.nm D.fF fd.scope) env G ρ (bs.map some++List.replicate (fe.jw - bs.length) Option.none) h s1:=
 ⟨R.keeps x.x.toInCall.keep,x.lr C B,λb o g hb=>Nat.not_lt.mpr (x.new C.nd b hb).1 (R.Vc b o g),λb hb H9=>Nat.not_lt.mpr (x.new C.nd b H9).1 (R.lt hb),λb hb=>(x.new C.nd b hb).2⟩
theorem Nd{P:Prog}{ih:Ev}{i:Nat}{fe:cU}{bs:List MV}{h:Hp}{b:MV×Hp}(hf:P.fns[i]? =some fe)(e:sM P ih i bs h=some b):∃r,ih.ex fe.body (bs.map some++List.replicate (fe.jw - bs.length) Option.none) h=some r∧b=(ZN r.1,r.2.2):=by
 obtain ⟨fe',e1,e⟩:=aT.mp e
 cases hf.symm.trans e1
 obtain ⟨⟨fl,l,hh⟩,e2,e⟩:=aT.mp e;exact ⟨_,e2,by cases fl<;>exact (bX e).symm⟩
set_option backward.match.sparseCases true in
theorem Nf{fl:Fl}{f:Flow}:ZM D G ρ fl f→VR D G ρ (ZN fl) (match (f:Flow) with|.ret v=>v|_=>Value.none):=by
 cases fl with
 |next=>rintro rfl;exact VR.none
 |ret m=>rintro ⟨w,rfl,hr⟩;exact hr
theorem D0(L:cX D K h₀ mg mb)(IH:∀A,SX ⟨D,h₀,A⟩ n):SC D h₀ (n+1):=by
 rintro A i fe fa pos kv bs kn xs vs ws h ⟨G,ρ,s⟩ MY u5 hA R h1 h2 ek eb b ec Rz KR;obtain ⟨ZU,WE,FL⟩:=L.fns i fe MY
 cases u5.symm.trans WE
 obtain ⟨oc,od,Bv,fd,body,ho,F⟩:=FL.obj;have R:Rep D h₀ G ρ h s:=R;have C:=o7 F.comp;have X:=R.rm L;obtain ⟨T,hb,B⟩:=o8 L.IE (R:=λ_ m v=>VR D G ρ m v) (λ_ _ _ z=>z) C F.ZF h1.length (zy (λ_ _ _ z=>z) C.ids h1) h2 ek eb
 obtain ⟨r,e2,rfl⟩:=Nd MY ec;rw [C.body] at e2;refine enter L hA.Ds X (λb o e=>R.keep b o (R.base b o e)) ho F C (hb _ X) B.sub λenv s1 x=>codeAny_func ?_
 have S:=x.sr L R C B;refine IH _ 60 ⟨_,env⟩ body _ h ⟨G,ρ,s1⟩ ⟨⟨rfl,rfl,rfl⟩,x.Rl C,hA.deep env⟩ S _ e2 _ _ λW' f g r'=>?_
 obtain ⟨hh,tk,e,_⟩:=x.x.done;have st:gQ (cD ρ) s W'.s:=⟨g.st.gens.trans (by rw [e]),g.st.drawn.trans (by rw [e]),g.st.os.trans (by rw [e]),λb o nb e=>g.st.keep b o (λz=>(List.mem_append.mp z).elim nb λz=>Nat.not_lt.mpr (x.new C.nd b z).1 (Heap.lt_size e)) (x.x.toInCall.keep b o e)⟩
 exact KR W' _ (.of ((fG.same (fH x.x.toInCall.keep)).trans g.g) st) ⟨r'.1.rep,Nf r'.2⟩
end
section
variable {X:Ctx}{K:Frag}{mg mb:Str→Option Value}{n k:Nat}{f:Fr}{l:Loc}{h:Hp}{W:Wd}
noncomputable def RM(X:Ctx){β:Type}(x:β×Hp):Wd→Value×List Value→mY→Prop:=λW fx c=>Ok X x.2 W∧tB X.D W.G W.ρ c fx.1 fx.2
theorem Ng(L:cX X.D K X.h₀ mg mb){v:MV}{va:Value}{a:Nat}{x:Str}{pl:Sem Bool}(R:Ok X h W)(hx:X.D.nm[a]? =some x)(hv:V X W v va):aJ X [] W (getMethod va x pl) (d8 X.D.pm v a h) (RM X (v,h)):=λc e Q Ex KQ=>tC L R hx hv e λf first s' G' cZ g R' st hc=>KQ ⟨G',cZ,s'⟩ (f,first) (.of g st) ⟨R',hc⟩
theorem Nh(L:cX X.D K X.h₀ mg mb)(IC:SC X.D X.h₀ n)(hA:qP (n+1) X.A){c:mY}{fv:Value}{first:List Value}{pos kv:List MV}{kn:List Nat}{xs:List Str}{vs ws:List Value}(R:Ok X h W)(hf:tB X.D W.G W.ρ c fv first)(h1:Vs X W pos vs)(h2:Vs X W kv ws)(ek:kn.mapM (λi=>X.D.nm[i]?)=some xs):
  aJ X [] W (call fv (first++vs) (xs.zip ws)) (gP X.D.pm (E X.D.pm n) c pos kn kv h) (RV X):=by
 have bi:V1 c=none→aJ X [] W (call fv (first++vs) (xs.zip ws)) (if kn.isEmpty=true then xx c pos h else none) (RV X):=λ_=>aJ.ite λhk=>aJ.M6 λr h' e Q Ex q=>by
  cases List.isEmpty_iff.mp hk
  rw [mapM_nil ek];exact DZ L R hf h1 e q
 cases c with
 |fn fi self=>
  obtain ⟨fa,sv,u5,ZV,z⟩:=hf;refine aJ.pick λfe e1=>aJ.pick λbs e2=>?_
  have q:=IC X.A fi fe fa (self::pos) kv bs kn xs (sv::vs) ws h W e1 u5 hA.pred R (.cons ZV h1) h2 ek e2;rcases z with ⟨rfl,rfl⟩|⟨m,rfl,rfl,g⟩
  ·exact q.call
  ·exact λb e Q Ex KQ=>wpAny_call (method_call (R.keep _ _ g) (q b e _ λW' w g r=>KQ W' w g r))
 |_=>exact bi rfl
theorem xZ(L:cX X.D K X.h₀ mg mb)(hh:X.A.handled=none){b:BI}{args:List MV}{vs:List Value}(R:Ok X h W)(hv:Vs X W args vs):aJ X [] W (call b.val vs []) ((iH X.D.pm b args h).map λv=>(v,h)) (RV X):=λr e Q Ex KQ=>match dR.mp e with
 |⟨v,e1,e2⟩=>xS L hh R hv e1 λw s' G' cZ g R' st hw=>KQ ⟨G',cZ,s'⟩ w (.of g st) (e2▸⟨R',hw⟩)
theorem x6(L:cX X.D K X.h₀ mg mb)(IC:SC X.D X.h₀ n)(hA:qP (n+1) X.A){v:MV}{fv:Value}{pos kv:List MV}{kn:List Nat}{xs:List Str}{vs ws:List Value}(R:Ok X h W)(hf:V X W v fv)(h1:Vs X W pos vs)(h2:Vs X W kv ws)(ek:kn.mapM (λi=>X.D.nm[i]?)=some xs):
  aJ X [] W (call fv vs (xs.zip ws)) (l8 X.D.pm (E X.D.pm n) v pos kn kv h) (RV X):=by
 cases v with
 |fn i=>obtain ⟨fa,u5,rfl⟩:=hf;exact aJ.pick λfe e1=>aJ.pick λbs e2=>(IC X.A i fe fa pos kv bs kn xs vs ws h W e1 u5 hA.pred R h1 h2 ek e2).call
 |cls i=>
  obtain ⟨C,hC,rfl⟩:=hf;refine aJ.pick λce e1=>aJ.pick λfe e2=>?_
  cases hr:ce.isRec with
  |true=>exact aJ.M6 λr h' e Q Ex q=>match aT.mp e with
   |⟨bs,e3,e⟩=>match aT.mp e with
    |⟨vals,e4,e⟩=>by cases e;exact DM L hA e1 e2 hr hC R h1 h2 ek e3 e4 q
  |false=>exact aJ.M6 λr h' e Q Ex q=>match aT.mp e with
   |⟨bs,e3,e⟩=>match aT.mp e with
    |⟨(w,hh),e4,e⟩=>by
     cases w<;>first|exact (bx _ e.symm).elim|skip
     cases e
     exact xY L IC hA e1 e2 hr hC R h1 h2 ek e3 e4 q
 |bi b=>
  subst hf;refine aJ.ite λhk=>?_
  obtain rfl:=List.isEmpty_iff.mp hk;rw [mapM_nil ek];exact xZ L hA.handled R h1
 |_=>exact aJ.no
end
def SK(X:Ctx)(n:Nat):Prop:=∀k f elt gs sc p,fY X (n+1) f→Al (aD k f.ci (.ListComp elt gs sc p)) (iM X (n+1) f (.ListComp elt gs sc p))
section
variable {X:Ctx}{K:Frag}{mg mb:Str→Option Value}{n k:Nat}{f:Fr}{l:Loc}{h:Hp}{W:Wd}
theorem aJ.WG{α β iu γ δ ε ζ ι:Type}{F:List Addr}{c:Sem α}{c':Sem ε}{o:Option (β×iu)}{R:Wd→α→β×iu→Prop}{d:ι→α→Sem γ}{k:α→γ→Sem ε}{o2:β×iu→Option δ}{g:β×iu→δ→Option ζ}{R2:β×iu→Wd→γ→δ→Prop}{R':Wd→ε→ζ→Prop}
  (rule:∀Q Ex,bS X c (λa s1=>∀i,bS X (d i a) (λb s2=>bS X (k a b) Q Ex s2) Ex s1) Ex W.s→bS X c' Q Ex W.s) (s:aJ X F W c o R) (s2:∀W' a v h' i,Go F W W'→R W' a (v,h')→aJ X F W' (d i a) (o2 (v,h')) (R2 (v,h')))
  (q:∀W' W2 a v h' a2 b2,Go F W W'→R W' a (v,h')→Go F W' W2→R2 (v,h') W2 a2 b2→aJ X F W2 (k a a2) (g (v,h') b2) R'):aJ X F W c' (o.bind λx=>(o2 x).bind (g x)) R':=λr e Q Ex K=>match aT.mp e with
 |⟨(_,_),e1,e2⟩=>match aT.mp e2 with
  |⟨_,e3,e4⟩=>rule Q Ex (s _ e1 _ Ex λW' a g1 r1 i=>s2 W' a _ _ i g1 r1 _ e3 _ Ex λW2 a2 g2 r2=>q W' W2 a _ _ a2 _ g1 r1 g2 r2 r e4 Q Ex λW3 a3 g3 r3=>K W3 a3 ((g1.trans g2).trans g3) r3)
theorem BS{o:Expr}{x:Str}{apos pos:Pos}{args:List Expr}{eO:List Keyword}{env:Env}{Q:Value→Shared→Prop}{Ex:Value→Shared→Prop}{s:Shared}(hs:fP o=false)(RD:(apos.endLine==pos.line)=true)(hn:args.length+eO.length< 25)
  (h1:(backTo pos (starEach args env)).any (·.1)=false) (h2:(backToKw pos (keywordEach eO env)).all (·.1.isSome)=true)
  (hh:bS X (eval o env) (λov dJ=>∀pl,bS X (getMethod ov x pl) (λfx gD=>bS X (callWith pos fx.1 fx.2 (backTo pos (starEach args env)) (backToKw pos (keywordEach eO env))) Q Ex gD) Ex dJ) Ex s):
  bS X (eval (.Call (.Attribute o x apos) args eO pos) env) Q Ex s:=by
 rw [arm_eval_Call,zB hs];refine wpAny_bind (wpAny_mono hh (λov dJ iw=>wpAny_bind (wpAny_standAt ?_)) λ_ _ z=>z)
 have RG:methodCallForm (args.length+eO.length) (backTo pos (starEach args env)) (backToKw pos (keywordEach eO env))=true:=by
  unfold methodCallForm;have h1':(backTo pos (starEach args env)).all (!·.1)=true:=by rw [List.all_eq_true];exact λz hz=>by simpa using List.any_eq_false.mp h1 z hz
  rw [h1',h2,decide_eq_true (show args.length+eO.length+(if (backToKw pos (keywordEach eO env)).isEmpty then 0 else 1)< 30 by split<;>lia)];rfl
 have WH:methodCallPos true o env apos pos=pure pos:=by unfold methodCallPos;simp [RD]
 unfold methodCall calleeOf;rw [RG,WH];exact wpAny_bind (wpAny_holding (wpAny_mono (iw _) (λfx gD kI=>wpAny_bind (wpAny_pure kI)) λ_ _ z=>z))
theorem Ja{fe:Expr}{args:List Expr}{eO:List Keyword}{pos:Pos}{env:Env}(hf:mj fe=none):eval (.Call fe args eO pos) env=(do callWith pos (← eval fe env) [] (backTo pos (starEach args env)) (backToKw pos (keywordEach eO env))):=by cases fe<;>first|rfl|cases hf
theorem BU(L:cX X.D K X.h₀ mg mb){c:mY}{fv:Value}{first:List Value}(R:Ok X h W)(hc:tB X.D W.G W.ρ c fv first){as ks:List MV}{kn:List Nat}{h2:Hp}{r:MV×Hp}{ih:Ev}(e:gP X.D.pm ih c as kn ks h2=some r)(M:Model)(hp:Heap)(hk:∀b o,W.G b o→hp.get? b=some o):vB M hp fv:=by
 cases c with
 |fn fi self=>
  obtain ⟨fa,sv,u5,ZV,z⟩:=hc;obtain ⟨fe,e7,_⟩:=aT.mp e;obtain ⟨ZU,e8,FL⟩:=L.fns fi fe e7;rw [u5] at e8;cases e8
  obtain ⟨oc,od,Bv,fd,body,ho,_⟩:=FL.obj;have X':K.In hp:=λb o z=>hk b o (R.base b o (L.rm b o z))
  rcases z with ⟨rfl,rfl⟩|⟨q,rfl,rfl,gq⟩
  ·exact keeps_K (by unfold keepIn;dsimp only;rw [ho]) _ X'
  ·exact keeps_M (by unfold fnIn;rw [ho]) _ ⟨hk _ _ gq,X'⟩
 |join x=>exact hc.1▸eS _
 |starts x=>exact hc.1▸eS _
 |append o=>exact hc.1▸eS _
 |pop o=>exact hc.1▸eS _
 |copy ks vs=>exact hc.1▸eS _
theorem BV(L:cX X.D K X.h₀ mg mb){v:MV}{fv:Value}(R:Ok X h W)(hv:V X W v fv){as ks:List MV}{kn:List Nat}{h2:Hp}{r:MV×Hp}{ih:Ev}(e:l8 X.D.pm ih v as kn ks h2=some r)(M:Model)(hp:Heap)(hk:∀b o,W.G b o→hp.get? b=some o):vB M hp fv:=by
 have X':K.In hp:=λb o z=>hk b o (R.base b o (L.rm b o z))
 cases v with
 |fn i=>
  obtain ⟨fa,u5,rfl⟩:=hv;obtain ⟨fe,e7,_⟩:=aT.mp e;obtain ⟨ZU,e8,FL⟩:=L.fns _ fe e7;rw [u5] at e8;cases e8
  obtain ⟨oc,od,Bv,fd,body,ho,_⟩:=FL.obj;exact keeps_K (by unfold keepIn;dsimp only;rw [ho]) _ X'
 |cls i=>obtain ⟨C,hC,rfl⟩:=hv;obtain ⟨ce,e7,_⟩:=aT.mp e;exact keeps_K (mq L e7 hC).keep _ X'
 |bi b=>
  subst hv
  cases b<;>first|exact eS _|exact BG _
 |_=>exact (bx _ e.symm).elim
theorem BW{e:Expr}{q:Option Expr×Option Expr×Option Expr}(h:k6 e=some q):∃p,e=.Slice q.1 q.2.1 q.2.2 p:=by
 cases e with
 |Slice x y z p=>exact bX h▸⟨p,rfl⟩
 |_=>exact (bx _ h.symm).elim
theorem Jb{RI:Expr}{ops:List CmpOp}{es:List Expr}{p:Pos}{env:Env}(hm:lastMarks ops es=false){Q:Value→Shared→Prop}{Ex:Value→Shared→Prop}{s:Shared}(h:bS X (eval RI env) (λa s1=>bS X (compareChain p a ops (evalEach es env)) Q Ex s1) Ex s):bS X (eval (.Compare RI ops es p) env) Q Ex s:=by rw [arm_eval_Compare,markedEach_of_false _ _ _ hm];exact wpAny_bind h
theorem vK{α:Type}{pos:Pos}{x:Sem (List Value)}{g:List Value→Sem α}{Q:α→Shared→Prop}{Ex:Value→Shared→Prop}{s:Shared}(h:bS X x (λa s1=>bS X (g a) Q Ex s1) Ex s):bS X (standAt pos >>=λ_=>x >>=g) Q Ex s:=wpAny_bind (wpAny_standAt (wpAny_bind h))
end
section
variable {X:Ctx}{K:Frag}{mg mb:Str→Option Value}{n k:Nat}{f:Fr}{l:Loc}{h:Hp}{W:Wd}
theorem D3(L:cX X.D K X.h₀ mg mb)(H:Dt X.D f.ci)(I:∀e,Al (aD k f.ci e) (iM X n f e)){o:Expr}{a:Str}{p:Pos}:Al (aD (k+1) f.ci (.Attribute o a p)) (iM X (n+1) f (.Attribute o a p)):=Al.pq λhs=>Al.bind (I o) λm im=>Al.bind (iW H a) λi hi=>Al.some λl h W S=>aJ.rG (λ_ _=>I7 (by simpa using hs)) (im l h W S) λW1 va v h1 g r=>(vG L r.1.rep hi r.2).frame r.1
theorem BX(I:∀e,Al (aD k f.ci e) (iM X n f e)){a b:Expr}{op:Operator}{p:Pos}:Al (aD (k+1) f.ci (.BinOp a op b p)) (iM X (n+1) f (.BinOp a op b p)):=Al.bind (I a) λma ia=>Al.bind (I b) λmb ib=>Al.some λl h W S=>aJ.M4 (λ_ _=>wpAny_BinOp) (ia l h W S) (λW1 va v h1 _ r1=>ib l h1 W1 r1.1) λW1 W2 va v h1 vb w h2 _ r1 g r2=>(I2 r2.1.rep (g.v r1.2) r2.2).frame r2.1
theorem x7(I:∀e,Al (aD k f.ci e) (iM X n f e)){es:List Expr}{op:BoolOp}{p:Pos}:Al (aD (k+1) f.ci (.BoolOp op es p)) (iM X (n+1) f (.BoolOp op es p)):=Al.bind (Al.mapM es) λms c=>Al.some λl h W S=>aJ.eq (arm_eval_BoolOp ..) (by cases op<;>cases c<;>first|exact aJ.no|exact I4 I (.mk ‹_› ‹_›) l h W S|exact M9 I (.mk ‹_› ‹_›) l h W S)
theorem D5(I:∀e,Al (aD k f.ci e) (iM X n f e)){x:Expr}{op:UnaryOp}{p:Pos}:Al (aD (k+1) f.ci (.UnaryOp op x p)) (iM X (n+1) f (.UnaryOp op x p)):=
 Al.bind (I x) λm im=>by
  cases op with
  |Not=>exact Al.some λl h W S=>aJ.assoc (aJ.fin2 (λ_ _ z=>wpAny_UnaryOp (wpAny_mono z (λ_ _=>not_value) λ_ _ z=>z)) (im l h W S) (λW1 va v h1 _ r1=>(pG r1.1.rep r1.2).DR r1.1) λW1 W2 va v h1 t b h2 _ r1 g r2=>Al.some ⟨r2.1,r2.2▸VR.bool⟩)
  |USub=>exact Al.some λl h W S=>aJ.rG (λ_ _=>wpAny_UnaryOp) (im l h W S) λW1 va v h1 g r=>(I5 r.1.rep r.2).frame r.1
  |_=>exact Al.none
theorem D6(I:∀e,Al (aD k f.ci e) (iM X n f e)){a:Expr}{ops:List CmpOp}{es:List Expr}{p:Pos}:Al (aD (k+1) f.ci (.Compare a ops es p)) (iM X (n+1) f (.Compare a ops es p)):=
 Al.ite λhl=>Al.bind (I a) λm im=>Al.bind (Al.mapM es) λms c=>Al.some λl h W S=>by
  have hl:=beq_iff_eq.mp hl
  cases c with
  |nil=>obtain rfl:=List.length_eq_zero_iff.mp hl;exact aJ.rG (λQ Ex z=>by rw [arm_eval_Compare];exact wpAny_bind z) (im l h W S) λW1 va v h1 g r=>aJ.no
  |cons c r=>
   cases ops with
   |nil=>cases hl
   |cons op ops=>have ch:Ch k f.ci (op::ops) _ _:=.mk r c (Nat.succ.inj hl);exact aJ.rG (λ_ _=>Jb (vE ch)) (im l h W S) λW1 va v h1 g r=>aJ.then (BO I ch l h1 W1 va v r.1 r.2) λW2 t b h2 g2 r2=>Al.some r2
theorem BY(I:∀e,Al (aD k f.ci e) (iM X n f e))(T:∀e,Al (aD k f.ci e) (M8 X n f e)){c a b:Expr}{p:Pos}:Al (aD (k+1) f.ci (.IfExp c a b p)) (iM X (n+1) f (.IfExp c a b p)):=Al.bind (T c) λmc ic=>Al.bind (I a) λma ia=>Al.bind (I b) λmb ib=>Al.some λl h W S=>aJ.rG (λ_ _=>DY) (ic l h W S) λW1 t b h1 g r=>aJ.cond r.2 (ia l h1 W1 r.1) (ib l h1 W1 r.1)
theorem D7(I:∀k e,Al (aD k f.ci e) (iM X n f e)){a i:Expr}{p:Pos}:Al (aD (k+1) f.ci (.Subscript a i p)) (iM X (n+1) f (.Subscript a i p)):=by
 show Al (match k6 i with
   |some (lo,hi,st)=>if st.isNone=true then (aD k f.ci a).bind λa=>(fT k f.ci lo).bind λlo=>(fT k f.ci hi).bind λhi=>some (ai.slice a lo hi) else none
   |none=>(aD k f.ci a).bind λa=>(aD k f.ci i).bind λi=>some (ai.sub a i)) _
 cases hs:k6 i with
 |some q=>
  obtain ⟨lo,hi,st⟩:=q;obtain ⟨sp,rfl⟩:=BW hs;exact Al.ite λD8=>Al.bind (I k a) λma ia=>Al.bind Al.self λWB e1=>Al.bind Al.self λWC e2=>Al.some λl h W S=>by
   obtain rfl:=Option.isNone_iff_eq_none.mp D8;exact λr e Q Ex KQ=>match aT.mp e with
    |⟨(v,h1),e3,e4⟩=>Subscript_ (ia l h W S _ e3 _ Ex λW1 va g1 r1=>BR I e1 e2 r1.1 r1.2 r e4 Q Ex λW2 v' g2 r2=>KQ W2 v' (g1.trans g2) r2)
 |none=>exact Al.bind (I k a) λma ia=>Al.bind (λm e=>(⟨I k i m e,BK e⟩:_∧lg i=true)) λmi ii=>Al.some λl h W S=>aJ.M4 (λ_ _=>Subscript_) (ia l h W S) (λW1 va v h1 _ r1=>ii.1 l h1 W1 r1.1) λW1 W2 va v h1 vb w h2 _ r1 g r2=>(I8 ii.2 r2.1.rep (g.v r1.2) r2.2).frame r2.1
theorem D9(I:∀e,Al (aD k f.ci e) (iM X n f e)){es:List Expr}{p:Pos}:Al (aD (k+1) f.ci (.List es p)) (iM X (n+1) f (.List es p)):=Al.bind (Al.mapM es) λms c=>Al.some λl h W S=>aJ.rG (λ_ _=>vK) (lA I c l h W S) λW1 va v h1 g r=>(xX r.1.rep r.2).frame r.1
theorem BZ(I:∀e,Al (aD k f.ci e) (iM X n f e)){es:List Expr}{c:Nat}{p:Pos}:Al (aD (k+1) f.ci (.Tuple es c p)) (iM X (n+1) f (.Tuple es c p)):=Al.bind (Al.mapM es) λms c=>Al.some λl h W S=>aJ.rG (λ_ _=>vK) (lA I c l h W S) λW1 va v h1 g r=>(BQ r.1.rep r.2).frame r.1
theorem Ea(L:cX X.D K X.h₀ mg mb){ks:List (Option Expr)}{vs:List Expr}{p:Pos}:Al (aD (k+1) f.ci (.Dict ks vs p)) (iM X (n+1) f (.Dict ks vs p)):=Al.bind Al.self λmk e1=>Al.bind Al.self λmv e2=>Al.some λl h W S=>aJ.ite λhc=>aJ.frame S (aJ.M6 λr h' e Q Ex q=>DQ L S.rep e1 e2 hc (by cases e;exact q))
theorem B0(L:cX X.D K X.h₀ mg mb)(H:fY X (n+1) f)(IC:SC X.D X.h₀ n)(I:∀e,Al (aD k f.ci e) (iM X n f e)){fe:Expr}{args:List Expr}{eO:List Keyword}{p:Pos}:Al (aD (k+1) f.ci (.Call fe args eO p)) (iM X (n+1) f (.Call fe args eO p)):=by
 show Al (match mj fe with
   |some (o,a,apos)=>if (fP o|| !(apos.endLine==p.line)|| !(args.length+eO.length< 25))=true then none else (aD k f.ci o).bind λm=>(nameId f.ci a).bind λi=>(args.mapM (aD k f.ci)).bind λms=>(eO.mapM (oM f.ci)).bind λkn=>(eO.mapM λk'=>aD k f.ci k'.value).bind λkv=>some (ai.aQ m i ms kn kv)
   |none=>if args.length+2 * eO.length< 25 then (aD k f.ci fe).bind λm=>(args.mapM (aD k f.ci)).bind λms=>(eO.mapM (oM f.ci)).bind λkn=>(eO.mapM λk'=>aD k f.ci k'.value).bind λkv=>some (ai.call m ms kn kv) else none) _
 cases hs:mj fe with
 |some q=>
  obtain ⟨o,a,apos⟩:=q;obtain rfl:=rE hs;refine Al.pq λhc=>?_
  rw [Bool.not_eq_true,Bool.or_eq_false_iff,Bool.or_eq_false_iff,Bool.not_eq_false',Bool.not_eq_false',decide_eq_true_eq] at hc;exact Al.bind (I o) λm im=>Al.bind (iW H.ci a) λi hi=>Al.bind (Al.mapM args) λms ca=>Al.bind (Al.mapM eO) λkn cn=>Al.bind (Al.mapM eO) λkv ck=>Al.some λl h W S=>by
   show aJ X [] W _ (((E X.D.pm n).ev m l h).bind λx=>(d8 X.D.pm x.1 i x.2).bind λc=>(qZ (E X.D.pm n) ms l x.2).bind λy=>(qZ (E X.D.pm n) kv l y.2).bind λz=>gP X.D.pm (E X.D.pm n) c y.1 kn z.1 z.2) _
   refine aJ.WG (λ_ _=>BS hc.1.1 hc.1.2 hc.2 (kJ ca) (vJ H.ci cn).2.1) (im l h W S) (λW1 va v h1 pl _ r1=>Ng L r1.1.rep hi r1.2) λW1 W2 va v h1 fx c _ r1 g r2=>?_
   exact lC (g:=λas ks h2=>gP X.D.pm (E X.D.pm n) c as kn ks h2) H.ci I ca cn ck (g.qR r1.1 r2.1) (λas ks h2 r e=>BU L r2.1 r2.2 e) λW3 as ks h2 vs ws xs g3 S3 hv hw hx=>(Nh L IC H.A S3.rep (r2.2.mono g3.g.g g3.g.r) hv hw hx).frame S3
 |none=>exact Al.ite λ_=>Al.bind (I fe) λm im=>Al.bind (Al.mapM args) λms ca=>Al.bind (Al.mapM eO) λkn cn=>Al.bind (Al.mapM eO) λkv ck=>Al.some λl h W S=>aJ.eq (Ja hs) (by
   show aJ X [] W _ (((E X.D.pm n).ev m l h).bind λx=>(qZ (E X.D.pm n) ms l x.2).bind λy=>(qZ (E X.D.pm n) kv l y.2).bind λz=>l8 X.D.pm (E X.D.pm n) x.1 y.1 kn z.1 z.2) _
   exact aJ.bind (im l h W S) λW1 va v h1 g r=>lC (first:=[]) (g:=λas ks h2=>l8 X.D.pm (E X.D.pm n) v as kn ks h2) H.ci I ca cn ck r.1 (λas ks h2 r' e=>BV L r.1.rep r.2 e) λW3 as ks h2 vs ws xs g3 S3 hv hw hx=>(x6 L IC H.A S3.rep (g3.v r.2) hv hw hx).frame S3)
theorem Eb(L:cX X.D K X.h₀ mg mb)(IH:kh X n)(IT:ST X n)(IC:SC X.D X.h₀ n)(HK:SK X n):kh X (n+1):=λk f e H=>match k with
 |0=>Al.none
 |k+1=>by
  have I:=λk e=>IH k f e H.pred
  cases e with
  |Constant c ku p=>exact BP
  |Name x p=>exact DT L H.pred
  |Attribute o a p=>exact D3 L H.ci (I k)
  |BinOp a op b p=>exact BX (I k)
  |BoolOp op es p=>exact x7 (I k)
  |UnaryOp op x p=>exact D5 (I k)
  |Compare a ops es p=>exact D6 (I k)
  |IfExp c a b p=>exact BY (I k) λe=>IT k f e H.pred
  |Subscript a i p=>exact D7 I
  |List es p=>exact D9 (I k)
  |Tuple es c p=>exact BZ (I k)
  |Dict ks vs p=>exact Ea L
  |Call fe args eO p=>exact B0 L H IC (I k)
  |ListComp elt gs sc p=>exact HK _ f elt gs sc p H
  |_=>exact Al.none
end
noncomputable def Hl(v:MV×Hp):Option (Bool×Hp):=(truthy v.1 v.2).bind λb=>some (b,v.2)
theorem Ni{a:Option (MV×Hp)}{rest:Hp→Option (MV×Hp)}:(a.bind λv=>(truthy v.1 v.2).bind λb=>if b=true then rest v.2 else some (v.1,v.2)).bind Hl=(a.bind Hl).bind λx=>if x.1=true then (rest x.2).bind Hl else some (false,x.2):=by
 cases a with
 |none=>rfl
 |some v=>
  show (Option.bind (truthy v.1 v.2) _).bind Hl=(Option.bind (truthy v.1 v.2) _).bind _
  cases q:truthy v.1 v.2 with
  |none=>rfl
  |some b=>
   cases b with
   |true=>rfl
   |false=>show (truthy v.1 v.2).bind _=_;rw [q];rfl
theorem RJ{a:Option (MV×Hp)}{rest:Hp→Option (MV×Hp)}:(a.bind λv=>(truthy v.1 v.2).bind λb=>if b=true then some (v.1,v.2) else rest v.2).bind Hl=(a.bind Hl).bind λx=>if x.1=true then some (true,x.2) else (rest x.2).bind Hl:=by
 cases a with
 |none=>rfl
 |some v=>
  show (Option.bind (truthy v.1 v.2) _).bind Hl=(Option.bind (truthy v.1 v.2) _).bind _
  cases q:truthy v.1 v.2 with
  |none=>rfl
  |some b=>
   cases b with
   |false=>rfl
   |true=>show (truthy v.1 v.2).bind _=_;rw [q];rfl
section
variable {X:Ctx}{K:Frag}{mg mb:Str→Option Value}{n k:Nat}{f:Fr}{l:Loc}{h:Hp}{W:Wd}
theorem aJ.Vi{α β:Type}{F:List Addr}{c:Sem α}{o o':Option β}{R:Wd→α→β→Prop}(e:o=o')(s:aJ X F W c o' R):aJ X F W c o R:=e▸s
theorem aJ.condB{α β γ:Type}{F:List Addr}{c c2:Sem α}{t v:Bool}{o o2:Option β}{g:β→Option γ}{R:Wd→α→γ→Prop}(e:t=v)(s:aJ X F W c (o.bind g) R)(s2:aJ X F W c2 (o2.bind g) R):aJ X F W (if t=true then c else c2) ((if v=true then o else o2).bind g) R:=by
 subst e;cases t
 ·exact s2
 ·exact s
set_option backward.match.sparseCases true in
theorem B3{x:Expr}{rest:List Expr}{env:Env}{Q:Bool→Shared→Prop}{Ex:Value→Shared→Prop}{s:Shared}(h:bS X (PySem.isTrue x env (eval x env)) (λb dJ=>bS X (if b=true then allTrue .And rest env else pure false) Q Ex dJ) Ex s):bS X (allTrue .And (x::rest) env) Q Ex s:=by
 show bS X (do match BoolOp.And, ← PySem.isTrue x env (eval x env) with|.And,false=>pure false|.Or,true=>pure true|_,_=>allTrue .And rest env) Q Ex s
 exact wpAny_bind (wpAny_mono h (λb dJ iw=>by cases b<;>exact iw) λ_ _ x=>x)
set_option backward.match.sparseCases true in
theorem Ec{x:Expr}{rest:List Expr}{env:Env}{Q:Bool→Shared→Prop}{Ex:Value→Shared→Prop}{s:Shared}(h:bS X (PySem.isTrue x env (eval x env)) (λb dJ=>bS X (if b=true then pure true else allTrue .Or rest env) Q Ex dJ) Ex s):bS X (allTrue .Or (x::rest) env) Q Ex s:=by
 show bS X (do match BoolOp.Or, ← PySem.isTrue x env (eval x env) with|.And,false=>pure false|.Or,true=>pure true|_,_=>allTrue .Or rest env) Q Ex s
 exact wpAny_bind (wpAny_mono h (λb dJ iw=>by cases b<;>exact iw) λ_ _ x=>x)
theorem Jc(T:∀e,Al (aD k f.ci e) (M8 X n f e)){es:List Expr}{ms:List ai}(c:Se k f.ci es ms):∀l h W,eF X f l h W→aJ X [] W (allTrue .And es f.env) ((uM (E X.D.pm n) ms l h).bind Hl) (M3 X f l):=by
 induction c with
 |one c=>exact λl h W S=>aJ.to (λQ Ex z=>wpAny_allTrue_And_cons (wpAny_mono z (λb s z=>by cases b;exact z;exact wpAny_allTrue_And_nil z) λ_ _ z=>z)) (T _ _ c l h W S)
 |more c d ih=>exact λl h W S=>aJ.Vi Ni (aJ.rG (λ_ _=>B3) (T _ _ c l h W S) λW1 t b h1 g r=>aJ.cond r.2 (ih l h1 W1 r.1) (aJ.ret ⟨r.1,rfl⟩))
theorem Nj(T:∀e,Al (aD k f.ci e) (M8 X n f e)){es:List Expr}{ms:List ai}(c:Se k f.ci es ms):∀l h W,eF X f l h W→aJ X [] W (allTrue .Or es f.env) ((Dd (E X.D.pm n) ms l h).bind Hl) (M3 X f l):=by
 induction c with
 |one c=>exact λl h W S=>aJ.to (λQ Ex z=>wpAny_allTrue_Or_cons (wpAny_mono z (λb s z=>by cases b;exact wpAny_allTrue_Or_nil z;exact z) λ_ _ z=>z)) (T _ _ c l h W S)
 |more c d ih=>exact λl h W S=>aJ.Vi RJ (aJ.rG (λ_ _=>Ec) (T _ _ c l h W S) λW1 t b h1 g r=>aJ.cond r.2 (aJ.ret ⟨r.1,rfl⟩) (ih l h1 W1 r.1))
theorem Nk{c a b:Expr}{pos:Pos}{env:Env}{whole:Sem Value}{Q:Bool→Shared→Prop}{Ex:Value→Shared→Prop}{s:Shared}(h:bS X (PySem.isTrue c env (eval c env)) (λt dJ=>bS X (if t=true then PySem.isTrue a env (eval a env) else PySem.isTrue b env (eval b env)) Q Ex dJ) Ex s):bS X (PySem.isTrue (.IfExp c a b pos) env whole) Q Ex s:=isTrue_IfExp (wpAny_mono h (λ_ _=>DU) λ_ _ z=>z)
theorem Ed{RI:Expr}{ops:List CmpOp}{es:List Expr}{p:Pos}{env:Env}{whole:Sem Value}(hm:lastMarks ops es=false){Q:Bool→Shared→Prop}{Ex:Value→Shared→Prop}{s:Shared}(h:bS X (eval RI env) (λa s1=>bS X (testChain p a ops (evalEach es env)) Q Ex s1) Ex s):bS X (PySem.isTrue (.Compare RI ops es p) env whole) Q Ex s:=by rw [arm_isTrue_Compare,markedEach_of_false _ _ _ hm];exact wpAny_bind h
theorem Ef{e:Expr}{m:ai}(i:iM X n f e m)(ha:PySem.isTrue e f.env (eval e f.env)=(do let v ← eval e f.env;standAt e.pos;holding [v] (PySem.truthy v))):M8 X n f e m:=λl h W S=>aJ.rG (λ_ _ z=>wpAny_isTrue_value z ha) (i l h W S) λW1 v m h1 g r=>(pG r.1.rep r.2).DR r.1
theorem B4(IH:kh X n)(IT:ST X n)(IS:kh X (n+1)):ST X (n+1):=λk f e H=>by
 have V:=λm c=>Ef (IS k f e H m c)
 cases k with
 |zero=>exact Al.none
 |succ k=>
 have T:=λe=>IT k f e H.pred
 cases e with
 |BoolOp op es p=>exact Al.bind (Al.mapM es) λms c=>Al.some λl h W S=>aJ.to (λ_ _=>wpAny_isTrue_BoolOp) (by cases op<;>cases c<;>first|exact aJ.no|exact Jc T (.mk ‹_› ‹_›) l h W S|exact Nj T (.mk ‹_› ‹_›) l h W S)
 |UnaryOp op x p=>
  cases op with
  |Not=>exact Al.bind (T x) λm im=>Al.some λl h W S=>aJ.assoc (aJ.fin (λ_ _=>wpAny_isTrue_Not) (im l h W S) λW1 t b h1 g r=>Al.some ⟨r.1,congrArg (!·) r.2⟩)
  |_=>exact λm c=>V m c rfl
 |IfExp c a b p=>exact Al.bind (T c) λmc ic=>Al.bind (T a) λma ia=>Al.bind (T b) λmb ib=>Al.some λl h W S=>aJ.assoc (aJ.rG (λ_ _=>Nk) (ic l h W S) λW1 t b h1 g r=>aJ.condB r.2 (ia l h1 W1 r.1) (ib l h1 W1 r.1))
 |Compare a ops es p=>
  exact Al.ite λhl=>Al.bind (IH k f a H.pred) λm im=>Al.bind (Al.mapM es) λms c=>Al.some λl h W S=>by
   have hl:=beq_iff_eq.mp hl
   cases c with
   |nil=>obtain rfl:=List.length_eq_zero_iff.mp hl;exact aJ.assoc (aJ.rG (λQ Ex z=>by rw [arm_isTrue_Compare];exact wpAny_bind z) (im l h W S) λW1 va v h1 g r=>aJ.no)
   |cons c r=>
    cases ops with
    |nil=>cases hl
    |cons op ops=>have ch:Ch k f.ci (op::ops) _ _:=.mk r c (Nat.succ.inj hl);exact aJ.assoc (aJ.rG (λ_ _=>Ed (vE ch)) (im l h W S) λW1 va v h1 g r=>aJ.assoc (aJ.then (DX (λe=>IH k f e H.pred) ch l h1 W1 va v r.1 r.2) λW2 t b h2 g2 r2=>Al.some r2))
 |_=>exact λm c=>V m c rfl
end
noncomputable def RU(X:Ctx)(f:Fr):Wd→Unit→Loc×Hp→Prop:=λW _ r=>eF X f r.1 r.2 W
theorem Eg{l:List Str}{x:Str}{i:Nat}(e:l.idxOf? x=some i):i< l.length:=(List.getElem?_eq_some_iff.mp (dZ e)).1
theorem Eh{l:List Str}{x y:Str}{i:Nat}(e:l.idxOf? x=some i)(e':l.idxOf? y=some i):y=x:=bX ((dZ e').symm.trans (dZ e))
theorem set_slot{slots:List Str}{l:Loc}{i j:Nat}{x y:Str}{v mv:MV}(il:i< l.length)(hs:slots.idxOf? x=some i)(ej:slots.idxOf? y=some j)(e:(fD l i v)[j]? =some (some mv)):(y=x∧mv=v)∨(y≠x∧l[j]? =some (some mv)):=by
 by_cases q:i=j
 ·subst q
  exact .inl ⟨Eh hs ej,(bX (bX ((List.getElem?_set_self il).symm.trans e))).symm⟩
 ·exact .inr ⟨λz=>q (bX ((z▸hs).symm.trans ej)),(List.getElem?_set_ne q).symm.trans e⟩
theorem vL{cells:List (Str×Addr)}(nd:(cells.map (·.2)).Nodup){x y:Str}{c:Addr}(a:(x,c)∈cells)(b:(y,c)∈cells):x=y:=by
 induction cells with
 |nil=>cases a
 |cons p r ih=>
  rw [List.map_cons,List.nodup_cons] at nd;rcases bq.mp a with a|a<;>rcases bq.mp b with b|b
  ·rw [← a] at b;exact (Prod.mk.inj b).1.symm
  ·exact absurd (by rw [← a];exact List.mem_map.mpr ⟨(y,c),b,rfl⟩) nd.1
  ·exact absurd (by rw [← b];exact List.mem_map.mpr ⟨(x,c),a,rfl⟩) nd.1
  ·exact ih nd.2 a b
section
variable {X:Ctx}{K:Frag}{mg mb:Str→Option Value}{n k:Nat}{f:Fr}{l:Loc}{h:Hp}{W:Wd}{F:List Addr}
theorem Rep.but{D:cP}{h₀:Heap}{G:Fz}{ρ:List PR}{h:Hp}{s s':Shared}(R:Rep D h₀ G ρ h s)(F:List Addr)(k:∀b o,b∉F→s.heap.get? b=some o→s'.heap.get? b=some o)(sg:∀b o,G b o→b∉F)(sr:∀b∈cD ρ,b∉F):Rep D h₀ G ρ h s':=⟨R.base,λb o g=>k b o (sg b o g) (R.keep b o g),R.sep,R.nodup,R.len,λi p o a b=>(R.objs i p o a b).mono (.refl _) (.refl _) λb hb ob e=>k b ob (sr b (fX a hb)) e⟩
noncomputable abbrev Wd.hp(W:Wd)(H:Heap)(t:Nat):Wd:=⟨W.G,W.ρ,{W.s with heap:=H,toks:=t}⟩
theorem eF.write(S:eF X f l h W){b0:Addr}(hb:b0∈jy f.env)(hF:b0∈F){H:Heap}{t:Nat}{l':Loc}(hs:∀b,b≠b0→H.get? b=W.s.heap.get? b){o0:Obj}(ho:H.get? b0=some o0)(L:LR X.D W.G W.ρ f.ci f.env l' H):Go F W (W.hp H t)∧eF X f l' h (W.hp H t):=by
 have kp:∀b o,b∉[b0]→W.s.heap.get? b=some o→H.get? b=some o:=λb o nb e=>(hs b λz=>nb (z▸cy ..)).trans e
 have up:∀{b:Addr},b∈[b0]→b=b0:=λq=>dN.mp q
 refine ⟨⟨.same λb q=>?_,⟨rfl,rfl,rfl,λb o nb e=>kp b o (λz=>nb (List.mem_append_right _ (up z▸hF))) e⟩⟩,S.rep.but [b0] kp (λb o g z=>S.sg b o g (up z▸hb)) (λb r z=>S.sr b r (up z▸hb)),L,S.sg,S.sr,λb q=>?_⟩
 ·by_cases z:b=b0
  ·rw [z,ho] at q;cases q
  ·rwa [← hs b z]
 ·by_cases z:b=b0
  ·exact ⟨o0,z▸ho⟩
  ·exact (S.lt b q).imp λo e=>(hs b z).trans e
theorem zC(H:iU f.ci f.env){x:Str}{c:Addr}(e:f.env.cells.lookup x=some c):c≠f.env.locals:=λz=>(List.nodup_cons.mp H.nodup).1 (z▸List.mem_map_of_mem (f:=λ(p:Str×Addr)=>p.2) (mem_lookup e))
theorem nk(H:iU f.ci f.env)(hF:f.env.locals∈F){x:Str}{i:Nat}(hk:f.ci.kinds.lookup x=some .local)(hs:f.ci.slots.idxOf? x=some i){v:MV}{va:Value}(S:eF X f l h W)(hv:V X W v va):aJ X F W (storeName f.env x va) (some (fD l i v,h)) (RU X f):=λb e Q Ex K=>by
 obtain ⟨ml,hn,hm⟩:=S.lr.aP;have il:i< l.length:=by rw [S.lr.len];exact Eg hs
 refine wpAny_storeName_local ((j6 H x).trans hk) hn (λh1 zv rA=>?_) (by rw [H.fn];rfl)
 obtain ⟨o,es,ep,h2,h3⟩:=id zv;have w:=S.write (F:=F) (l':=fD l i v) (t:=W.s.toks+1) (cy ..) hF rA.2 h2 ⟨List.length_set.trans S.lr.len,⟨_,zv,λj y mv ej ek e=>?_⟩,λj y ej ek=>?_⟩
 ·exact K (W.hp h1 (W.s.toks+1)) () w.1 (bX e▸w.2)
 ·rcases set_slot il hs ej e with ⟨rfl,rfl⟩|⟨q,e⟩
  ·exact ⟨va,if_pos rfl,hv⟩
  ·obtain ⟨w,hw,hr⟩:=hm j y mv ej ek e
   exact ⟨w,(if_neg q).trans hw,hr⟩
 ·obtain ⟨c,w,e1,⟨o,e2,e3⟩,r⟩:=S.lr.cell j y ej ek
  refine ⟨c,w,e1,⟨o,(rA.2 c (zC H e1)).trans e2,e3⟩,λmv e=>?_⟩
  rcases set_slot il hs ej e with ⟨rfl,_⟩|⟨_,e⟩
  ·rw [hk] at ek;cases ek
  ·exact r mv e
theorem x8(H:iU f.ci f.env){x:Str}{i:Nat}(hk:f.ci.kinds.lookup x=some .cell)(hs:f.ci.slots.idxOf? x=some i){v:MV}{va:Value}(S:eF X f l h W)(hv:V X W v va):aJ X (jy f.env) W (storeName f.env x va) (some (fD l i v,h)) (RU X f):=λb e Q Ex K=>by
 obtain ⟨c,w,e1,DS,r⟩:=S.lr.cell i x hs hk;have il:i< l.length:=by rw [S.lr.len];exact Eg hs
 refine wpAny_storeName_cell H.fn ((j6 H x).trans hk) e1 DS λh1 zv rA=>?_
 obtain ⟨o,h2,h3⟩:=id zv;have w:=S.write (F:=jy f.env) (l':=fD l i v) (t:=W.s.toks) (jJ e1) (jJ e1) rA.2 h2 ⟨List.length_set.trans S.lr.len,?_,λj y ej ek=>?_⟩
 ·exact K (W.hp h1 W.s.toks) () w.1 (bX e▸w.2)
 ·obtain ⟨ml,hn,hm⟩:=S.lr.aP
  refine ⟨ml,hn.sameBut rA (Ne.symm (zC H e1)),λj y mv ej ek e=>?_⟩
  rcases set_slot il hs ej e with ⟨rfl,_⟩|⟨_,e⟩
  ·rw [hk] at ek;cases ek
  ·exact hm j y mv ej ek e
 ·obtain ⟨c',w',f1,⟨o',f2,f3⟩,r'⟩:=S.lr.cell j y ej ek
  by_cases q:y=x
  ·subst q
   rw [e1] at f1;cases f1
   refine ⟨c,some va,e1,zv,λmv e=>?_⟩
   rcases set_slot il hs ej e with ⟨_,rfl⟩|⟨q,_⟩
   ·exact ⟨va,rfl,hv⟩
   ·exact absurd rfl q
  ·refine ⟨c',w',f1,⟨o',(rA.2 c' λz=>q (vL (List.nodup_cons.mp H.nodup).2 (mem_lookup f1) (z▸mem_lookup e1))).trans f2,f3⟩,λmv e=>?_⟩
   rcases set_slot il hs ej e with ⟨z,_⟩|⟨_,e⟩
   ·exact absurd z q
   ·exact r' mv e
def pJ(X:Ctx)(f:Fr)(F:List Addr)(P:Str→Option Nat):Prop:=∀x i,P x=some i→∀l h W v va,eF X f l h W→V X W v va→aJ X F W (storeName f.env x va) (some (fD l i v,h)) (RU X f)
theorem pK(H:iU f.ci f.env):pJ X f (jy f.env) (jf f.ci):=λx i e l h W v va S hv=>by
 unfold jf at e
 by_cases q:fO (f.ci.kinds.lookup x)=true
 ·rw [if_pos q] at e
  exact (mz q).elim (λq=>nk H (cy ..) q e S hv) λq=>x8 H q e S hv
 ·rw [if_neg q] at e;cases e
theorem Ei(H:iU f.ci f.env):pJ X f [f.env.locals] (zf f.ci):=λx i e l h W v va S hv=>by
 unfold zf at e
 by_cases q:(f.ci.kinds.lookup x==some .local)=true
 ·rw [if_pos q] at e
  exact nk H (cy ..) (tD q) e S hv
 ·rw [if_neg q] at e;cases e
def NE(P:Str→Option Nat)(e:Expr)(i:Nat):Prop:=∃x p,e=.Name x p∧P x=some i
theorem vM{P:Str→Option Nat}{es:List Expr}{xs:List Str}(c:bY (λe x=>fS e=some x) es xs):Al (xs.mapM P) (bY (NE P) es):=λis e=>by
 have d:=Al.mapM (g:=P) xs is e;clear e
 induction c generalizing is with
 |nil=>cases d;exact .nil
 |cons c r ih=>
  cases d with
  |cons d q=>obtain ⟨p,rfl⟩:=gI c;exact .cons ⟨_,p,rfl,d⟩ (ih _ q)
theorem pM{P:Str→Option Nat}{es:List Expr}{is:List Nat}{env:Env}(c:bY (NE P) es is):(assignEach es env).length=is.length∧(assignEach es env).findIdx? (·.1)=none:=by
 induction c with
 |nil=>exact ⟨rfl,rfl⟩
 |cons c r ih=>
  obtain ⟨x,p,rfl,_⟩:=c;refine ⟨congrArg (·+1) ih.1,?_⟩;show ((false,_)::assignEach _ env).findIdx? _=none
  rw [List.findIdx?_cons,ih.2];rfl
theorem zD:∀{is:List Nat} {l:Loc} {vs:List MV} {l':Loc},jd l is vs=some l'→is.length=vs.length:=by
 intro is
 induction is with
 |nil=>intro l vs l' e;cases vs<;>first|rfl|cases e
 |cons i is ih=>intro l vs l' e;cases vs<;>first|cases e|exact congrArg (·+1) (ih (l:=fD l i _) e)
theorem rK{P:Str→Option Nat}(ST:pJ X f F P){es:List Expr}{is:List Nat}(c:bY (NE P) es is):∀l h W vs vals,eF X f l h W→Vs X W vs vals→aJ X F W (assignInOrder ((assignEach es f.env).map (·.2)) vals) ((jd l is vs).bind λl'=>some (l',h)) (RU X f):=by
 induction c with
 |nil=>
  intro l h W vs vals S hv
  cases vs with
  |nil=>rw [hv.nil_inv];exact aJ.ret S
  |cons _ _=>exact aJ.no
 |cons c r ih=>
  intro l h W vs vals S hv;obtain ⟨x,p,rfl,hP⟩:=c
  cases vs with
  |nil=>exact aJ.no
  |cons v vs=>obtain ⟨va,ws,rfl,hm,hr⟩:=hv.cons_inv;exact aJ.Vi (o':=(some (fD l _ v,h)).bind λr=>(jd r.1 _ vs).bind λl'=>some (l',r.2)) rfl (aJ.rG (λQ Ex z=>wpAny_assignInOrder_more (wpAny_assign_Name z)) (ST x _ hP l h W v va S hm) λW1 _ l1 h1 g r=>ih l1 h1 W1 vs ws r (g.vs hr))
theorem Go.ext{H:Heap}(hx:Heap.ExtBut W.s.heap.objs.size W.s.heap H)(S:eF X f l h W):Go [] W (W.hp H W.s.toks)∧eF X f l h (W.hp H W.s.toks):=by
 have kp:∀b o,W.s.heap.get? b=some o→H.get? b=some o:=λb o z=>hx b o (Nat.ne_of_lt (Heap.lt_size z)) z
 have g:Go [] W (W.hp H W.s.toks):=.of (.same (fH kp)) ⟨rfl,rfl,rfl,λb o _ z=>kp b o z⟩
 exact ⟨g,g.qR S (S.rep.keeps kp)⟩
theorem Ej(hh:X.A.handled=none){P:Str→Option Nat}(ST:pJ X f F P){es:List Expr}{is:List Nat}(c:bY (NE P) es is){q:Nat}{p:Pos}{ms:List MV}{a:Addr}{vals:List Value}(S:eF X f l h W)(ht:IsTup W.s.heap a vals.toArray)(hr:Vs X W ms vals):
  aJ X F W (assign (.Tuple es q p) f.env (.ref a)) ((jd l is ms).bind λl'=>some (l',h)) (RU X f):=aJ.pick λl' el r e Q Ex KQ=>by
 obtain ⟨n1,n2⟩:=pM (env:=f.env) c;rw [PyProof.Rows.assign_Tuple];refine wpAny_bind (wpAny_standAt (PyProof.Rows.unpack_tuple hh (items:=vals.toArray) ht (by rw [n1,List.size_toArray, ← hr.length,zD el]) n2 λh' hx=>?_))
 obtain ⟨g,S'⟩:=Go.ext hx S;exact rK ST c l h _ ms vals S' (g.vs hr) r ((congrArg (Option.bind · _) el).trans e) Q Ex λW2 u g2 r2=>KQ W2 u (g.nL.trans g2) r2
theorem zF(hh:X.A.handled=none){P:Str→Option Nat}(ST:pJ X f F P){es:List Expr}{is:List Nat}(c:bY (NE P) es is){q:Nat}{p:Pos}{v:MV}{va:Value}(S:eF X f l h W)(hv:V X W v va):aJ X F W (assign (.Tuple es q p) f.env va) ((dU l is true v).bind λl'=>some (l',h)) (RU X f):=by
 cases v with
 |tup vs=>obtain ⟨hl,a,o,vals,nn,rfl,g,hc,hd,hr⟩:=hv;exact Ej hh ST c S ⟨o,S.rep.keep _ _ g,hc,nn,hd⟩ hr
 |lst vs=>
  obtain ⟨hl,a,o,vals,nn,rfl,g,hc,hd,hr⟩:=hv;refine aJ.pick λl' el r e Q Ex KQ=>?_
  obtain ⟨n1,n2⟩:=pM (env:=f.env) c;rw [PyProof.Rows.assign_Tuple];refine wpAny_bind (wpAny_standAt ?_);unfold unpack;rw [n2,show (assignEach es f.env).length=vals.toArray.size by rw [n1,List.size_toArray, ← hr.length,zD el]]
  refine wpAny_bind (wpAny_holding (kun_itemsOf hh ⟨o,S.rep.keep _ _ g,hc,nn,hd⟩ λh' hx=>?_))
  obtain ⟨g,S'⟩:=Go.ext hx S;exact rK ST c l h _ vs vals S' (g.vs (X:=X) hr) r ((congrArg (Option.bind · _) el).trans e) Q Ex λW2 u g2 r2=>KQ W2 u (g.nL.trans g2) r2
 |_=>exact aJ.no
end
theorem gS{α β γ:Type}{o:Option (α×β)}{f:α×β→Option γ}{r:γ}{C:Prop}(e:o.bind f=some r)(k:∀a b,o=some (a,b)→f (a,b)=some r→C):C:=match aT.mp e with
 |⟨(a,b),e1,e2⟩=>k a b e1 e2
theorem lD{α γ:Type}{o:Option α}{f:α→Option γ}{r:γ}{C:Prop}(e:o.bind f=some r)(k:∀a,o=some a→f a=some r→C):C:=match aT.mp e with
 |⟨a,e1,e2⟩=>k a e1 e2
theorem B5{β:Type}{l:Loc}{i:Nat}{g:MV→Option β}{r:β}(e:(match l[i]? with|some (some v)=>g v|_=>none)=some r):∃v,l[i]? =some (some v)∧g v=some r:=by
 match q:l[i]?,e with
 |some (some v),e=>exact ⟨v,rfl,e⟩
theorem x9{α:Type}{c:Prop}[Decidable c]{a b:α}(e:(if c then some a else none)=some b):c∧a=b:=by
 by_cases q:c
 ·exact ⟨q,bX ((if_pos q).symm.trans e)⟩
 ·exact (bx _ ((if_neg q).symm.trans e).symm).elim
theorem zG{α:Type}{c:Prop}[Decidable c]{o:Option α}{b:α}(e:(if c then o else none)=some b):c∧o=some b:=by
 by_cases q:c
 ·exact ⟨q,(if_pos q).symm.trans e⟩
 ·exact (bx _ ((if_neg q).symm.trans e).symm).elim
section
variable {X:Ctx}{K:Frag}{mg mb:Str→Option Value}{n k:Nat}{f:Fr}{l:Loc}{h:Hp}{W:Wd}{F:List Addr}
def ZW(X:Ctx)(n:Nat)(f:Fr)(t:Expr)(mt:dK):Prop:=∀l h W v va,eF X f l h W→V X W v va→aJ X (jy f.env) W (assign t f.env va) (store X.D.pm (E X.D.pm n) mt v l h) (RU X f)
theorem aJ.ofU{c:Sem Unit}{o:Option Hp}(S:eF X f l h W)(q:∀h',o=some h'→∀Q Ex,xJ X.D X.h₀ W.G W.ρ W.s h' Q→bS X c Q Ex W.s):aJ X (jy f.env) W c (o.bind λh=>some (l,h)) (RU X f):=λb e Q Ex KQ=>lD e λh' e1 e2=>q h' e1 Q Ex λs' G' cZ g R st=>KQ ⟨G',cZ,s'⟩ () (Go.of g st).nL (bX e2▸S.after g R st)
theorem Ek{o:Expr}{x:Str}{pos:Pos}{env:Env}{v:Value}{Q:Unit→Shared→Prop}{Ex:Value→Shared→Prop}{s:Shared}(hh:bS X (eval o env) (λov dJ=>bS X (PySem.setAttr ov x v) Q Ex dJ) Ex s):bS X (assign (.Attribute o x pos) env v) Q Ex s:=by rw [assign_Attribute];exact wpAny_bind (wpAny_holding (wpAny_mono hh (λov dJ iw=>wpAny_bind (wpAny_standAt (wpAny_bind (wpAny_holding (wpAny_mono iw (λ_ gD kI=>wpAny_release' kI) λ_ _ z=>z))))) λ_ _ z=>z))
theorem El(L:cX X.D K X.h₀ mg mb)(H:fY X n f)(I:∀e,Al (aD k f.ci e) (iM X n f e))(t:Expr):Al (oN k f.ci t) (ZW X n f t):=by
 cases t with
 |Name x p=>exact Al.map λi e l h W v va S hv=>aJ.to (λ_ _=>wpAny_assign_Name) (pK H.env x i e l h W v va S hv)
 |Attribute o a p=>exact Al.pq λ_=>Al.bind (I o) λm im=>Al.bind (iW H.ci a) λi hi=>Al.some λl h W v va S hv=>aJ.rG (λ_ _=>Ek) (im l h W S).nL λW1 vo ov h1 g r=>aJ.ofU r.1 λh' e Q Ex q=>ng L r.1.rep hi r.2 (g.v hv) e q
 |Subscript o i p=>exact Al.pq λ_=>Al.bind (I o) λm im=>Al.bind (I i) λj ij=>Al.some λl h W v va S hv=>aJ.M4 (λ_ _=>kas_sub) (im l h W S).nL (λW1 vo ov h1 _ r=>(ij l h1 W1 r.1).nL) λW1 W2 vo ov h1 vi iv h2 g r g2 r2=>aJ.ofU r2.1 λh' e Q Ex q=>u6 r2.1.rep (g2.v r.2) r2.2 (g2.v (g.v hv)) e q
 |Tuple es c p=>exact Al.bind (Al.mapM es) λxs c1=>Al.bind (vM c1) λis c2=>Al.some λl h W v va S hv=>zF H.A.handled (pK H.env) c2 S hv
 |_=>exact Al.none
theorem zH{t:Expr}{mt:dK}{env:Env}{ci:CI}(e:oN k ci t=some mt)(rest:List Expr):(assignEach (t::rest) env).map (·.2)=assign t env::(assignEach rest env).map (·.2):=by cases t<;>first|rfl|exact (bx _ e.symm).elim
theorem En{va:Value}{x y:Value→Sem Unit}{r:List (Value→Sem Unit)}{Q:Unit→Shared→Prop}{Ex:Value→Shared→Prop}{s:Shared}(h:bS X (x va) (λ_ s1=>bS X (assignAll va (y::r)) Q Ex s1) Ex s):bS X (assignAll va (x::y::r)) Q Ex s:=wpAny_bind (wpAny_holding h)
theorem ya(D:∀t,Al (oN k f.ci t) (ZW X n f t)){ts:List Expr}{ms:List dK}(c:bY (λt m=>oN k f.ci t=some m) ts ms):∀l h W v va,eF X f l h W→V X W v va→aJ X (jy f.env) W (assignAll va ((assignEach ts f.env).map (·.2))) (storeAll X.D.pm (E X.D.pm n) ms v l h) (RU X f):=by
 induction c with
 |nil=>exact λl h W v va S hv=>aJ.ret S
 |cons c r ih=>
  intro l h W v va S hv;rw [zH c]
  cases r with
  |nil=>exact aJ.then (D _ _ c l h W v va S hv) λW1 u l1 h1 g r=>Al.some r
  |cons d r=>rw [zH d] at ih⊢;exact aJ.rG (λ_ _=>En) (D _ _ c l h W v va S hv) λW1 u l1 h1 g r=>ih l1 h1 W1 v va r (g.v hv)
theorem Jd{x:Str}{q p:Pos}{op:Operator}{v:Expr}{env:Env}{Q:Flow→Shared→Prop}{Ex:Value→Shared→Prop}{s:Shared}(h:bS X (loadName env x) (λold s1=>bS X (eval v env) (λw s2=>bS X (inplaceOp op old w) (λnw s3=>bS X (storeName env x nw) (λ_ s4=>Q .next s4) Ex s3) Ex s2) Ex s1) Ex s):bS X (exec (.AugAssign (.Name x q) op v p) env) Q Ex s:=by rw [arm_exec_AugAssign];exact wpAny_bind (wpAny_standAt (wpAny_bind (wpAny_mono h (λ_ _ h=>wpAny_bind (wpAny_holding (wpAny_mono h (λ_ _ h=>wpAny_bind (wpAny_standAt (wpAny_bind (wpAny_operateT (wpAny_mono h (λ_ _ h=>wpAny_bind (wpAny_standAt (wpAny_bind (wpAny_bindName (wpAny_mono h (λ_ _ h=>wpAny_pure h) λ_ _ z=>z))))) λ_ _ z=>z))))) λ_ _ z=>z))) λ_ _ z=>z)))
theorem Je{o:Expr}{a:Str}{q p:Pos}{op:Operator}{v:Expr}{env:Env}{Q:Flow→Shared→Prop}{Ex:Value→Shared→Prop}{s:Shared}(h:bS X (eval o env) (λov s0=>bS X (PySem.getAttr ov a true) (λold s1=>bS X (eval v env) (λw s2=>bS X (inplaceOp op old w) (λnw s3=>bS X (PySem.setAttr ov a nw) (λ_ s4=>Q .next s4) Ex s3) Ex s2) Ex s1) Ex s0) Ex s):bS X (exec (.AugAssign (.Attribute o a q) op v p) env) Q Ex s:=by rw [arm_exec_AugAssign_2];exact wpAny_bind (wpAny_standAt (wpAny_bind (wpAny_mono h (λ_ _ h=>wpAny_bind (wpAny_holding (wpAny_bind (wpAny_standAt (wpAny_bind (wpAny_mono h (λ_ _ h=>wpAny_bind (wpAny_holding (wpAny_mono h (λ_ _ h=>wpAny_bind (wpAny_standAt (wpAny_operateT (wpAny_mono h (λ_ _ h=>wpAny_bind (wpAny_standAt (wpAny_bind (wpAny_holding (wpAny_mono h (λ_ _ h=>wpAny_bind (wpAny_release' (wpAny_pure h))) λ_ _ z=>z))))) λ_ _ z=>z)))) λ_ _ z=>z))) λ_ _ z=>z)))))) λ_ _ z=>z)))
end
section
variable {X:Ctx}{K:Frag}{mg mb:Str→Option Value}{n k:Nat}{f:Fr}{l:Loc}{h:Hp}{W:Wd}{F:List Addr}
theorem vN{op:Operator}{a b:MV}{va vb:Value}(R:Ok X h W)(ha:V X W a va)(hb:V X W b vb){r:MV}(e:iT op a b h=some r){Q Ex:Value→Shared→Prop}(q:∀W' v,Go [] W W'→RV X W' v (r,h)→Q v W'.s):bS X (inplaceOp op va vb) Q Ex W.s:=by
 have k:cQ X.D X.h₀ W.G W.ρ W.s r h Q:=λv s' G' cZ g R st hv=>q ⟨G',cZ,s'⟩ v (.of g st) ⟨R,hv⟩
 clear q
 cases op with
 |Add=>
  rcases or_some e with e|⟨_,e⟩
  ·obtain ⟨i,j,t,u,rfl,rfl,_,_,rfl⟩:=iV ha hb e
   exact wpAny_iadd_int (k.val R VR.int _)
  ·obtain ⟨x,y,t,u,rfl,rfl,hl,rfl⟩:=uW ha hb e
   exact PyProof.Rows.iadd_str (λt' tk=>gz x y▸k.val R (VR.str hl) _) (zp hl)
 |Sub=>obtain ⟨i,j,t,u,rfl,rfl,_,_,rfl⟩:=iV ha hb e;exact P.isub_int (k.val R VR.int _)
 |_=>exact no e
def pO(X:Ctx)(n:Nat)(f:Fr)(st:Stmt)(ms:aB):Prop:=∀l h W,eF X f l h W→aJ X (jy f.env) W (exec st f.env) (gp X.D.pm (E X.D.pm n) ms l h) (WD X f)
theorem Nl(L:cX X.D K X.h₀ mg mb)(H:fY X n f)(I:∀e,Al (aD k f.ci e) (iM X n f e)){op:Operator}{v:Expr}{p:Pos}(t:Expr):Al ((oN k f.ci t).bind λmt=>(aD k f.ci v).bind λm=>some (aB.aug mt op m)) (pO X n f (.AugAssign t op v p)):=by
 cases t with
 |Name x q=>exact Al.bind (Al.map (o:=jf f.ci x) (R:=λmt=>∃i,jf f.ci x=some i∧mt=dK.aP i) λi e=>⟨i,e,rfl⟩) λmt ⟨i,hs,Nn⟩=>Al.bind (I v) λm im=>Al.some λl h W S r e Q Ex KQ=>by subst Nn;obtain ⟨old,hw,e⟩:=B5 e;have hk:fO (f.ci.kinds.lookup x)=true∧f.ci.slots.idxOf? x=some i:=zG hs;exact gS e λvv h1 e1 e=>lD e λw e2 e=>Jd (rI H.env S (mz hk.1) hk.2 hw λvo Nc=>im l h W S _ e1 _ Ex λW1 va g1 r1=>vN r1.1.rep (g1.v Nc) r1.2 e2 λW2 vn g2 r2=>pK H.env x i hs l h1 W2 w vn (g2.qR r1.1 r2.1) r2.2 _ rfl _ Ex λW3 u g3 r3=>KQ W3 .next ((g1.trans g2).nL.trans g3) (bX e▸⟨r3,rfl⟩))
 |Attribute o a q=>
  exact Al.bind (Al.pq λ_=>Al.bind (I o) λm im=>Al.bind (iW H.ci a) λi hi=>Al.some (P:=λmt=>∃m i,iM X n f o m∧X.D.nm[i]? =some a∧mt=dK.aX m i) ⟨m,i,im,hi,rfl⟩) λmt ⟨mo,i,io,hi,Nn⟩=>Al.bind (I v) λm im=>Al.some λl h W S r e Q Ex KQ=>by
   subst Nn;exact gS e λov h1 e1 e=>lD e λold e2 e=>gS e λvv h2 e3 e=>lD e λw e4 e=>lD e λh3 e5 e=>Je (io l h W S _ e1 _ Ex λW1 vo g1 r1=>m8 L r1.1.rep hi r1.2 e2 λaad s2 G2 Jf gg R2 Vj hold=>
    have g2:Go [] W1 ⟨G2,Jf,s2⟩:=.of gg Vj
    im l h1 ⟨G2,Jf,s2⟩ (g2.qR r1.1 R2) _ e3 _ Ex λW3 va g3 r3=>vN r3.1.rep (g3.v (X:=X) hold) r3.2 e4 λW4 vn g4 r4=>ng L r4.1 hi (g4.v (g3.v (g2.v r1.2))) r4.2 e5 λs5 G5 ZX gg5 R5 st5=>
     have g5:Go [] W4 ⟨G5,ZX,s5⟩:=.of gg5 st5
     KQ ⟨G5,ZX,s5⟩ .next ((((g1.trans g2).trans g3).trans g4).trans g5).nL (bX e▸⟨(g4.trans g5).qR r3.1 R5,rfl⟩))
 |Subscript o i q=>exact Al.bind (Al.pq λhs=>Al.bind Al.self λm im=>Al.bind Al.self λj ij=>Al.some (P:=λmt=>∃m j,mt=dK.sub m j) ⟨m,j,rfl⟩) λmt ⟨mo,mi,Nn⟩=>Al.bind (I v) λm im=>Al.some λl h W S=>by subst Nn;exact aJ.no
 |Tuple es c q=>exact Al.bind (Al.bind Al.self λxs _=>Al.bind Al.self λis _=>Al.some (P:=λmt=>∃is,mt=dK.tup is) ⟨is,rfl⟩) λmt ⟨is,Nn⟩=>Al.bind (I v) λm im=>Al.some λl h W S=>by subst Nn;exact aJ.no
 |_=>exact λ_ e=>(bx _ e.symm).elim
end
def Qd(X:Ctx)(n:Nat):Prop:=∀k f elt gs sc p x q i,fY X (n+1) f→jf f.ci x=some i→Al (aD k f.ci (.ListComp elt gs sc p)) λm=>∀l h W,eF X f l h W→aJ X (jy f.env) W (evalThenUse (.ListComp elt gs sc p) f.env (assign (.Name x q) f.env)) (((E X.D.pm (n+1)).ev m l h).bind λr=>some (fD l i r.1,r.2)) (RU X f)
def WI(X:Ctx)(n:Nat):Prop:=∀k f x q it b p i,fY X n f→jf f.ci x=some i→Al (jg k f.ci it) λmi=>mZ mi=false→pO X n f (.For (.Name x q) it b [] p) (.fz (.aP i) mi (fj k f.ci b))
section
variable {X:Ctx}{K:Frag}{mg mb:Str→Option Value}{n k:Nat}{f:Fr}{l:Loc}{h:Hp}{W:Wd}{F:List Addr}
theorem B6(H:fY X n f)(IX:SX X n){c:Expr}{m:ai}{b:List Stmt}{p:Pos}(im:M8 X n f c m):pO X n f (.While c b [] p) (.cR m (fj k f.ci b)):=λl h W S r e Q Ex KQ=>by
 refine wpAny_While (codeAny_whileLoop (λfu s1=>∃l1 h1 W1,W1.s=s1∧eF X f l1 h1 W1∧eU (E X.D.pm n) m (fj k f.ci b) fu l1 h1=some r∧Go (jy f.env) W W1) (λfu s1 hI=>?_) dF ⟨l,h,W,rfl,S,e,.refl _⟩)
 obtain ⟨l1,h1,W1,rfl,S1,e1,g1⟩:=hI
 cases fu with
 |zero=>exact (bx _ e1.symm).elim
 |succ fu=>
  refine gS e1 λt h2 e2 e1=>im l1 h1 W1 S1 _ e2 _ _ λW2 t' g2 r2=>?_
  obtain rfl:t'=t:=r2.2;have WJ:=g1.trans g2.nL
  cases t' with
  |false=>exact wpAny_execs_nil (KQ W2 .next WJ (bX e1▸⟨r2.1,rfl⟩))
  |true=>
   refine gS e1 λf1 q e3 e1=>IX k f b l1 h2 W2 H r2.1 _ e3 _ _ λW3 fw g3 r3=>?_
   obtain ⟨l3,h3⟩:=q
   cases f1 with
   |next=>
    obtain rfl:fw=.next:=r3.2
    exact ⟨fu,Nat.lt_succ_self _,l3,h3,W3,rfl,r3.1,e1,WJ.trans g3⟩
   |ret v=>obtain ⟨w,rfl,hr⟩:=r3.2;exact KQ W3 (.ret w) (WJ.trans g3) (bX e1▸⟨r3.1,w,rfl,hr⟩)
theorem Jg{e:Expr}{pos:Pos}{env:Env}{Q:Flow→Shared→Prop}{Ex:Value→Shared→Prop}{s:Shared}(hk:env.scope.kind=.function)(hs:swapsWith e none pos.line env=pure false)(hh:bS X (eval e env) (λv dJ=>Q .next dJ) Ex s):bS X (exec (.Expr e pos) env) Q Ex s:=by
 rw [exec_Expr _ e pos (by unfold interactive;rw [hk];rfl) hs]
 exact wpAny_bind (wpAny_standAt (wpAny_bind (wpAny_mono hh (λv dJ iw=>wpAny_dropValue iw) λ_ _ z=>z)))
theorem mC{e:Expr}{t:Option Expr}{ln:Nat}{env:Env}{ci:CI}{m:ai}(ec:aD k ci e=some m)(hc:kG e=false):swapsWith e t ln env=pure false:=by cases e<;>first|rfl|(cases hc;done)|exact (bx _ (ec.symm.trans (by cases k<;>rfl))).elim
theorem yb{ts:List Expr}{e:Expr}{env:Env}(h:(ts.any Dh&& !(rj e))=false):swappedStores ts e env=pure none:=by
 cases ts with
 |nil=>rfl
 |cons t r=>cases r with
  |cons a b=>cases t<;>rfl
  |nil=>cases t with
   |Tuple a b c=>cases e<;>first|rfl|cases h
   |List a b=>cases e<;>first|rfl|cases h
   |_=>rfl
theorem pP{x:Expr}(h:kG x=true):∃a b c d,x=.ListComp a b c d:=by
 cases x with
 |ListComp a b c d=>exact ⟨a,b,c,d,rfl⟩
 |_=>exact Bool.noConfusion h
theorem Jh{a:Expr}{b:List Comprehension}{c:Scope}{d:Pos}{t:Expr}{ln:Nat}{env:Env}(h:fS t=none):swapsWith (.ListComp a b c d) (some t) ln env=pure false:=by
 cases t with
 |Name x p=>exact (bx _ h).elim
 |_=>rfl
theorem Ji{ts:List Expr}{x:Expr}{ln:Nat}{env:Env}{ci:CI}{m:ai}(ec:aD k ci x=some m)(hc:kG x=false∨∀y q,ts≠[.Name y q]):swapsWithSole ts x ln env=pure false:=by
 cases ts with
 |nil=>rfl
 |cons t r=>cases r with
  |cons a b=>rfl
  |nil=>
   show swapsWith x (some t) ln env=_
   rcases hc with hc|hn
   ·exact mC ec hc
   ·cases hx:kG x with
    |false=>exact mC ec hx
    |true=>
     obtain ⟨a,b,c,d,rfl⟩:=pP hx;refine Jh ?_
     cases ht:fS t with
     |none=>rfl
     |some y=>obtain ⟨q,rfl⟩:=gI ht;exact (hn _ _ rfl).elim
theorem Jj{y:Str}{q p:Pos}{x:Expr}{env:Env}{Q:Flow→Shared→Prop}{Ex:Value→Shared→Prop}{s:Shared}(hb:swapsWithSole [.Name y q] x p.line env=pure true)(h:bS X (evalThenUse x env (assign (.Name y q) env)) (λ_ s1=>Q .next s1) Ex s):bS X (exec (.Assign [.Name y q] x p) env) Q Ex s:=by rw [arm_exec_Assign,hb];exact wpAny_bind (wpAny_standAt (wpAny_bind (wpAny_pure (wpAny_bind (wpAny_mono h (λ_ _ z=>wpAny_pure z) λ_ _ z=>z)))))
theorem B7(L:cX X.D K X.h₀ mg mb)(H:fY X n f)(I:∀e,Al (aD k f.ci e) (iM X n f e))(HU:∀m,n=m+1→Qd X m){ts:List Expr}{x:Expr}{p:Pos}:Al (Di (fj k f.ci) k f.ci (.Assign ts x p)) (pO X n f (.Assign ts x p)):=
 Al.pq λWK=>Al.bind (Al.mapM ts) λms ct=>Al.bind (λm e=>(⟨I x m e,e⟩:_∧CE k f.ci x m)) λm im=>Al.some λl h W S=>by
  have WK:=Bool.eq_false_iff.mpr WK;have norm:swapsWithSole ts x p.line f.env=pure false→aJ X (jy f.env) W (exec (.Assign ts x p) f.env) (gp X.D.pm (E X.D.pm n) (.assign ms m) l h) (WD X f):=λhs=>aJ.fin2 (R:=RF X f l) (R2:=RU X f) (j:=λ_ _=>Flow.next) (λQ Ex z=>wpAny_Assign_stores z hs (yb WK)) (im.1 l h W S).nL (λW1 va v h1 _ r=>ya (El L H I) ct l h1 W1 v va r.1 r.2) λW1 W2 va v h1 u l2 h2 _ r g r2=>Al.some ⟨r2,rfl⟩
  by_cases hx:kG x=true∧∃y q,ts=[.Name y q]
  ·obtain ⟨hx,y,q,rfl⟩:=hx
   obtain ⟨elt,gs,sc,cp,rfl⟩:=pP hx;obtain ⟨b,hb⟩:∃b,swapsWithSole [.Name y q] (.ListComp elt gs sc cp) p.line f.env=pure b:=⟨_,rfl⟩
   cases b with
   |false=>exact norm hb
   |true=>
    cases ct with
    |cons c r=>
     cases r
     obtain ⟨i,hs,rfl⟩:=dR.mp c
     cases n with
     |zero=>exact aJ.no
     |succ n=>
      refine aJ.Vi (o':=(((E X.D.pm (n+1)).ev m l h).bind λr=>some (fD l i r.1,r.2)).bind λr=>some (Fl.next,r.1,r.2)) (by rw [Option.bind_assoc];rfl) ?_
      exact aJ.fin (j:=λ_=>Flow.next) (λQ Ex=>Jj hb) (HU n rfl k f elt gs sc cp y q i H hs m im.2 l h W S) λW1 u l1 h1 g r=>Al.some ⟨r,rfl⟩
  ·refine norm (Ji im.2 ?_)
   cases hc:kG x with
   |false=>exact .inl rfl
   |true=>exact .inr λy q e=>hx ⟨hc,y,q,e⟩
theorem Jk(L:cX X.D K X.h₀ mg mb)(H:fY X n f)(IH:kh X n)(IT:ST X n)(IX:SX X n)(HF:WI X n)(HU:∀m,n=m+1→Qd X m)(st:Stmt):Al (Di (fj k f.ci) k f.ci st) (pO X n f st):=by
 have I:=λe=>IH k f e H
 cases st with
 |Expr e p=>exact Al.pq λhc=>Al.map λm ec l h W S=>aJ.fin (j:=λ_=>Flow.next) (λQ Ex=>Jg H.env.fn (mC ec (by simpa using hc))) (I e m ec l h W S).nL λW1 va v h1 g r=>Al.some ⟨r.1,rfl⟩
 |Pass p=>exact Al.some λl h W S r e Q Ex KQ=>wpAny_Pass (KQ W .next (.refl _) (bX e▸⟨S,rfl⟩))
 |Return eo p=>
  cases eo with
  |none=>exact Al.some λl h W S r e Q Ex KQ=>wpAny_Return_none (KQ W _ (.refl _) (bX e▸⟨S,_,rfl,VR.none⟩))
  |some x=>exact Al.map (Al.bind (I x) λm im=>Al.some λl h W S=>aJ.fin (j:=Flow.ret) (λQ Ex=>wpAny_Return_some) (im l h W S).nL λW1 va v h1 g r=>Al.some ⟨r.1,va,rfl,r.2⟩)
 |Assign ts x p=>exact B7 L H I HU
 |AugAssign t op x p=>exact Nl L H I t
 |If c a b p=>exact Al.map λm ec l h W S=>aJ.rG (k:=λt=>if t=true then execs a f.env else execs b f.env) (λQ Ex z=>wpAny_If (wpAny_mono z (λ_ _=>DU) λ_ _ z=>z)) (IT k f c H m ec l h W S).nL λW1 t b' h1 g r=>aJ.cond r.2 (IX k f a l h1 W1 H r.1) (IX k f b l h1 W1 H r.1)
 |While c b e p=>exact Al.ite λhe=>Al.map λm ec=>by rw [List.isEmpty_iff.mp he];exact B6 H IX (IT k f c H m ec)
 |For t it b e p=>exact Al.ite λhe=>Al.bind Al.self λx hx=>Al.bind Al.self λi hi=>Al.bind (λmi e=>(e:jg k f.ci it=some mi)) λmi ei=>Al.pq λhz=>Al.some (by rw [List.isEmpty_iff.mp he];obtain ⟨q,rfl⟩:=gI hx;exact HF k f x q it b p i H hi mi ei (by simpa using hz))
 |_=>exact Al.none
theorem Jl(L:cX X.D K X.h₀ mg mb)(IH:kh X n)(IT:ST X n)(IX:SX X n)(HF:WI X n)(HU:∀m,n=m+1→Qd X m):SX X (n+1):=λk f ss l h W H S=>by
 cases k with
 |zero=>exact aJ.no
 |succ k=>
 cases ss with
 |nil=>exact λr e Q Ex KQ=>wpAny_execs_nil (KQ W .next (.refl _) (bX e▸⟨S,rfl⟩))
 |cons st r=>
  cases k with
  |zero=>exact aJ.no
  |succ k=>
  have q:pO X n f st (Ln (k+1) f.ci st):=by
   show pO X n f st ((Di (fj k f.ci) k f.ci st).getD .fail)
   cases e:Di (fj k f.ci) k f.ci st with
   |none=>exact λl h W S=>aJ.no
   |some ms=>exact Jk L H.pred IH IT IX HF HU st ms e
  intro b e Q Ex KQ;refine gS e λf1 lh e1 e=>wpAny_execs_cons (q l h W S _ e1 _ Ex λW1 fw g1 r1=>?_)
  obtain ⟨l1,h1⟩:=lh
  cases f1 with
  |next=>
   obtain rfl:fw=.next:=r1.2
   exact IX (k+1) f r l1 h1 W1 H.pred r1.1 b e Q Ex λW2 a g2 r2=>KQ W2 a (g1.trans g2) r2
  |ret v=>obtain ⟨w,rfl,hr⟩:=r1.2;exact KQ W1 (.ret w) g1 (bX e▸⟨r1.1,w,rfl,hr⟩)
end
def Eo(D:cP)(G:Fz)(ρ:List PR)(tup:Bool)(x:MV)(v:Value)(h:Heap):Prop:=VR D G ρ x v∨tup=true∧∃ms a vals,x=.tup ms∧v=.ref a∧IsTup h a (vals:List Value).toArray∧cY D G ρ ms vals
noncomputable abbrev vO(env:Env):Expr→Bool→Sem (ForInStep Bool):=λc r=>if r=true then do let ok ← PySem.isTrue c env (eval c env);pure (ForInStep.yield ok) else pure (ForInStep.yield r)
noncomputable abbrev Np(X:Ctx)(env:Env)(R:Result→Shared→Prop):Value→Shared→Prop:=notedBy (model X.D.prog X.D.w) X.A env λe s'=>R (.error e) s'
noncomputable def RK(X:Ctx)(elt target:Expr)(ifs:List Expr)(it acc:Value)(env:Env)(R:Result→Shared→Prop)(RP:Shared→Prop):Shared→Prop:=
 bS X (pyNext it) (λr dJ=>match r with
  |none=>R (.ok .next) dJ
  |some v=>bS X (letOwnedTupleGo target it v) (λ_ xA=>bS X (assign target env v) (λ_ gD=>bS X (forIn ifs true (vO env)) (λok Nq=>match ok with
    |true=>bS X (eval elt env) (λx RW=>bS X (call (.builtin "list.append") [acc,x]) (λ_ RY=>RP RY) (Np X env R) RW) (Np X env R) Nq
    |false=>RP Nq) (Np X env R) gD) (Np X env R) xA) (Np X env R) dJ) (Np X env R)
theorem B8{X:Ctx}{R:Result→Shared→Prop}{elt target iter:Expr}{ifs:List Expr}{scope:Scope}{pos:Pos}{it acc:Value}{env:Env}(I:Nat→Shared→Prop)(turn:∀n s,I n s→RK X elt target ifs it acc env R (λs'=>∃m,m< n∧I m s') s)(n:Nat){s:Shared}(h:I n s):
  codeAny (model X.D.prog X.D.w) X.A (.compLoop (.ListComp elt [⟨target,iter,ifs,0⟩] scope pos) 0 it acc env) R s:=by
 refine codeAny_loop rfl I (λn s hI=>?_) n h
 have t:=turn n s hI;clear turn;show bS X ((compTurn (.ListComp elt [⟨target,iter,ifs,0⟩] scope pos) 0 it acc env).onRaise (λx=>do noteFrame x env;theTreesLotGoes x)) _ _ s
 refine wpAny_noted ?_;rw [compTurn_list];refine wpAny_bind (wpAny_standAt (wpAny_bind (wpAny_mono t (λr dJ iw=>?_) λ_ _ h'=>h')))
 cases r with
 |none=>exact wpAny_pure iw
 |some v=>
  refine wpAny_bind (wpAny_mono iw (λ_ xA h₀=>wpAny_bind (wpAny_mono h₀ (λ_ gD kI=>wpAny_bind (wpAny_mono kI (λok Nq pQ=>?_) λ_ _ h'=>h')) λ_ _ h'=>h')) λ_ _ h'=>h')
  cases ok with
  |false=>exact wpAny_pure ⟨rfl,pQ⟩
  |true=>exact wpAny_bind (wpAny_bind (wpAny_mono pQ (λx RW WL=>wpAny_bind (wpAny_mono WL (λ_ RY WM=>wpAny_pure (wpAny_pure ⟨rfl,WM⟩)) λ_ _ h'=>h')) λ_ _ h'=>h'))
section
variable {D:cP}{h₀:Heap}{K:Frag}{mg mb:Str→Option Value}{n:Nat}
theorem B9{G0 G:Fz}{Nr ρ:List PR}{s0 s s1:Shared}{W F:List Addr}(g:fG G0 G Nr ρ s0 s)(st:gQ (cD Nr++F) s0 s)(fresh:∀b∈W,s0.heap.get? b=none)(k:∀b o,b∉W→s.heap.get? b=some o→s1.heap.get? b=some o)(e1:s1.gens=s.gens)(e2:s1.drawn=s.drawn)(e3:s1.os=s.os):
  fG G0 G Nr ρ s0 s1∧gQ (cD Nr++F) s0 s1:=by
 refine ⟨⟨g.g,g.r,g.gn,g.rn,g.rs,λb q=>?_⟩,⟨e1.trans st.gens,e2.trans st.drawn,e3.trans st.os,λb o nb e=>k b o (λz=>by rw [fresh b z] at e;cases e) (st.keep b o nb e)⟩⟩
 by_cases z:b∈W
 ·exact fresh b z
 ·refine g.lv b ?_
  cases e:s.heap.get? b with
  |none=>rfl
  |some o=>rw [k b o z e] at q;cases q
structure Src(D:cP)(h₀:Heap)(A:Around)(target:Expr)(tup:Bool)(it:Value)(at_:Nat→Hp→Option (Option MV))(pv:List Addr)(T:Nat→Fz→List PR→Heap→Prop):Prop where
 mono:∀i G ρ H G' cZ H',T i G ρ H→jI G G'→uR ρ cZ→(∀b o,G b o→H.get? b=some o)→(∀b o,G b o→H'.get? b=some o)→(∀b∈pv,∀o,H.get? b=some o→H'.get? b=some o)→T i G' cZ H'
 next:∀i G ρ h (s:Shared) x (Q:Option Value→Shared→Prop) (Ex:Value→Shared→Prop),T i G ρ s.heap→Rep D h₀ G ρ h s→at_ i h=some (some x)→(∀v h1 tk,(∀b o,b∉pv→s.heap.get? b=some o→h1.get? b=some o)→(∀(Q':Unit→Shared→Prop) (Jm:Value→Shared→Prop),(∀h2,(∀b o,b∉pv→s.heap.get? b=some o→h2.get? b=some o)→T (i+1) G ρ h2→Eo D G ρ tup x v h2→Q' () {s with heap:=h2,toks:=tk})→wpAny (model D.prog D.w) A (letOwnedTupleGo target it v) Q' Jm {s with heap:=h1,toks:=tk})→Q (some v) {s with heap:=h1,toks:=tk})→wpAny (model D.prog D.w) A (pyNext it) Q Ex s
 stop:∀i G ρ h (s:Shared) (Q:Option Value→Shared→Prop) (Ex:Value→Shared→Prop),T i G ρ s.heap→Rep D h₀ G ρ h s→at_ i h=some none→(∀h1 tk,(∀b o,b∉pv→s.heap.get? b=some o→h1.get? b=some o)→Q none {s with heap:=h1,toks:=tk})→wpAny (model D.prog D.w) A (pyNext it) Q Ex s
 live:∀i G ρ H,T i G ρ H→∀b∈pv,∃o,H.get? b=some o
 self:∀i G ρ (s:Shared) (Q:Value→Shared→Prop) (Ex:Value→Shared→Prop),T i G ρ s.heap→Q it s→wpAny (model D.prog D.w) A (pyIter it) Q Ex s
end
section
variable {D:cP}{h₀:Heap}{A:Around}
theorem Src.ofWalks{target:Expr}{tup:Bool}{I:Addr}{fp:List Addr}{xs:List MV}{P:Nat→Value→Prop}{St:Nat→Heap→Prop}{Good:Fz→List PR→Prop}(W:Walks D.prog D.w A I fp [I] xs.length P St)
  (hgm:∀G ρ G' cZ,Good G ρ→jI G G'→uR ρ cZ→Good G' cZ) (hfp:∀G ρ,Good G ρ→∀b∈fp,b=I∨∃o,G b o) (hP:∀G ρ i v x,Good G ρ→P i v→xs[i]? =some x→VR D G ρ x v)
  (hgo:∀i j v (s:Shared) (Q:Unit→Shared→Prop) (E:Value→Shared→Prop),St i s.heap→P j v→Q () s→wpAny (model D.prog D.w) A (letOwnedTupleGo target (.ref I) v) Q E s) (Ep:∀i H,St i H→∃o,H.get? I=some o):
  Src D h₀ A target tup (.ref I) (fE xs) [I] (λi G ρ H=>St i H∧i≤xs.length∧Good G ρ) where
 mono:=λi G ρ H G' cZ H' t hG nV k1 k2 k3=>⟨W.frame i H H' t.1 λb hb o e=>by
  rcases hfp G ρ t.2.2 b hb with rfl|⟨o',g⟩
  ·exact k3 b (cy ..) o e
  ·have:=k1 b o' g
   rw [e] at this;cases this
   exact k2 b o g,t.2.1,hgm _ _ _ _ t.2.2 hG nV⟩
 next:=λi G ρ h s x Q Ex t R qL KQ=>by
  have hx:xs[i]? =some x:=aI qL;have il:i< xs.length:=by obtain ⟨z,_⟩:=List.getElem?_eq_some_iff.mp hx;exact z
  refine W.item i s Q Ex il t.1 λv h' tk p CY hk=>KQ v h' tk hk λQ' Jm RZ=>?_
  exact hgo (i+1) i v {s with heap:=h',toks:=tk} Q' Jm CY p (RZ h' hk ⟨CY,il,t.2.2⟩ (.inl (hP G ρ i v x t.2.2 p hx)))
 stop:=λi G ρ h s Q Ex t R qL KQ=>by
  have hx:xs[i]? =none:=aI qL;have il:i=xs.length:=by
   have:=List.getElem?_eq_none_iff.mp hx;have:=t.2.1
   lia
  subst il;exact W.done s Q Ex t.1 KQ
 live:=λi G ρ H t b hb=>by rw [dN] at hb;subst hb;exact Ep i H t.1
 self:=λi G ρ s Q Ex t q=>W.self i s Q Ex t.1 q
theorem src_list{target:Expr}{tup:Bool}{xs:List MV}{vs:List Value}{I ax:Addr}{o:Obj}{n:Nat}{G0:Fz}{Nr:List PR}(hh:A.handled=none)(oY:ax≠I)(g:G0 ax o)(hr:cY D G0 Nr xs vs):
  Src D h₀ A target tup (.ref I) (fE xs) [I] (λi G ρ H=>(H.IsListIter I ax i∧H.IsList ax vs.toArray)∧i≤xs.length∧(jI G0 G∧uR Nr ρ)):=by
 have hl:vs.toArray.size=xs.length:=by simp [hr.length]
 have W:=Walks.list (prog:=D.prog) (w:=D.w) hh I ax oY vs.toArray;rw [hl] at W;refine Src.ofWalks W (λG ρ G' cZ a b c=>⟨a.1.trans b,a.2.trans c⟩) (λG ρ a b hb=>?_) (λG ρ i v x a p hx=>?_) (λi j v s Q E st _ q=>letGo_listiter st.1 q) λi H st=>?_
 ·simp only [bq,List.mem_nil_iff,or_false] at hb
  rcases hb with rfl|rfl
  ·exact .inl rfl
  ·exact .inr ⟨o,a.1 _ _ g⟩
 ·obtain ⟨w,hw,hv⟩:=hr.get hx
  have p:vs[i]? =some v:=by simpa using p
  rw [hw] at p;cases p
  exact VR.mono a.1 a.2 _ _ hv
 ·obtain ⟨o,e,_⟩:=st.1
  exact ⟨o,e⟩
theorem zI{target:Expr}{tup:Bool}{x:List Nat}{I:Addr}{St:Nat→Heap→Prop}(W:Walks D.prog D.w A I [I] [I] (toStr x).cps.size (SignAt (toStr x)) St)(Ep:∀i H,St i H→∃o,H.get? I=some o):
  Src D h₀ A target tup (.ref I) (fE (x.map λc=>.str [c])) [I] (λi G ρ H=>St i H∧i≤(x.map λc=>MV.str [c]).length∧True):=by
 have hl:(toStr x).cps.size=(x.map λc=>MV.str [c]).length:=by simp [toStr]
 rw [hl] at W;refine Src.ofWalks (Good:=λ_ _=>True) W (λ_ _ _ _ _ _ _=>trivial) (λG ρ _ b hb=>.inl (dN.mp hb)) (λG ρ i v y _ p hx=>?_) (λi j v s Q E st p q=>?_) Ep
 ·obtain ⟨c,u,hc,rfl⟩:=p
  rw [List.getElem?_map] at hx;obtain ⟨c',C0,rfl⟩:=dR.mp hx;have:x[i]? =some c:=by simpa [toStr] using hc
  rw [C0] at this;cases this
  exact VR.str (by unfold aH;simp)
 ·obtain ⟨c,u,hc,rfl⟩:=p
  have:letOwnedTupleGo target (.ref I) (.str ⟨#[c]⟩ u)=pure ():=by cases target<;>rfl
  rw [this];exact wpAny_pure q
theorem Ca{n:Int}{i:Nat}{x:MV}(h:(gj n)[i]? =some x):x=.int (i:Nat):=by
 unfold gj at h;rw [List.getElem?_map] at h;refine map_some h λj hj e=>?_
 have h1:=(List.getElem?_eq_some_iff.mp hj).1;rw [List.length_range] at h1;rw [← e, ← aI ((List.getElem?_range h1).symm.trans hj)]
theorem src_range{target:Expr}{tup:Bool}{I:Addr}{b:Int}(hh:A.handled=none):
  Src D h₀ A target tup (.ref I) (fE (gj b)) [I] (λi G ρ H=>IsRangeIter H I (0+(i:Nat) * 1) ((b.toNat:Int) - (i:Nat)) 1∧i≤(gj b).length∧True):=by
 have W:=Walks.range (prog:=D.prog) (w:=D.w) hh I 0 1 b.toNat;rw [show b.toNat=(gj b).length from ((cu ..).trans List.length_range).symm] at W⊢
 refine Src.ofWalks (Good:=λ_ _=>True) W (λ_ _ _ _ _ _ _=>trivial) (λG ρ _ b hb=>.inl (dN.mp hb)) (λG ρ i v y _ p hx=>?_) (λi j v s Q E st p q=>?_) λi H st=>⟨_,st⟩
 ·obtain ⟨t,rfl⟩:=p
  rw [Ca hx,Int.mul_one,Int.zero_add];exact VR.int
 ·obtain ⟨t,rfl⟩:=p
  have:letOwnedTupleGo target (.ref I) (.int (0+j * 1) t)=pure ():=by cases target<;>rfl
  rw [this];exact wpAny_pure q
theorem Jo{target:Expr}{tup:Bool}{o:Nat}{p:PR}{I:Addr}(hh:A.handled=none)(oY:p.1≠I):
  Src D h₀ A target tup (.ref I) (kE o) [I] (λi G ρ H=>H.IsListIter I p.1 i∧ρ[o]? =some p) where
 mono:=λi G ρ H G' cZ H' t hG nV k1 k2 k3=>⟨by
  obtain ⟨ob,e,r⟩:=t.1;exact ⟨ob,k3 I (cy ..) ob e,r⟩,nV _ _ t.2⟩
 next:=λi G ρ h s x Q Ex t R qL KQ=>map_some qL λcur Er hx=>by
  obtain ⟨q,vs,hq,_,_,hl,i8,hr⟩:=gy R ⟨p,t.2,rfl⟩ Er
  cases aI (t.2.symm.trans hq)
  obtain ⟨w,hw,hv⟩:=hr.get hx;refine wpAny_pyNext_list_item t.1 i8.isList ((List.getElem?_toArray ..).trans hw) λh' R0 zJ=>?_
  have kp:∀b ob,b∉[I]→s.heap.get? b=some ob→h'.get? b=some ob:=λb ob nb e=>(zJ.2 b (λz=>nb (z▸cy ..))).trans e
  exact KQ w h' s.toks kp λQ' Jm RZ=>letGo_listiter (s':={s with heap:=h'}) R0 (RZ h' kp ⟨R0,t.2⟩ (.inl hv))
 stop:=λi G ρ h s Q Ex t R qL KQ=>map_some qL λcur Er hx=>by
  obtain ⟨q,vs,hq,_,_,hl,i8,hr⟩:=gy R ⟨p,t.2,rfl⟩ Er
  cases aI (t.2.symm.trans hq)
  exact wpAny_pyNext_list_end hh t.1 i8.isList ((List.getElem?_toArray ..).trans (List.getElem?_eq_none (hr.length▸List.getElem?_eq_none_iff.mp hx))) λh' he'=>KQ h' s.toks λb ob nb e=>he' b ob (λz=>nb (z▸cy ..)) e
 live:=λi G ρ H t b hb=>by rw [dN] at hb;subst hb;obtain ⟨ob,e,_⟩:=t.1;exact ⟨ob,e⟩
 self:=λi G ρ s Q Ex t q=>wpAny_pyIter_listiter t.1 q
end
def R3(G:Fz)(ρ:List PR)(s:Shared)(b:Addr):Prop:=b∉cD ρ∧(∀o,¬ G b o)∧∃o,s.heap.get? b=some o
theorem R3.step{G G':Fz}{ρ cZ:List PR}{s s':Shared}{F:List Addr}{b:Addr}(x:R3 G ρ s b)(g:fG G G' ρ cZ s s')(st:gQ (cD ρ++F) s s')(hb:b∉F):R3 G' cZ s' b:=by
 obtain ⟨x1,x2,o,x3⟩:=x;refine ⟨λq=>?_,λo' q=>?_,o,st.keep b o (λq=>?_) x3⟩
 ·rcases g.rn b q with q|q
  ·exact x1 q
  ·rw [q] at x3;cases x3
 ·rcases g.gn b o' q with q|q
  ·exact x2 _ q
  ·rw [q] at x3;cases x3
 ·rcases List.mem_append.mp q with q|q
  ·exact x1 q
  ·exact hb q
abbrev Jp(D:cP)(h₀:Heap)(A:Around)(target:Expr)(tup:Bool)(I:It)(G:Fz)(ρ:List PR)(s:Shared)(h':Hp)(Q:Value→Shared→Prop):Prop:=∀(iv:Value) (s2:Shared) (G2:Fz) (Jf:List PR) (pv:List Addr) (T:Nat→Fz→List PR→Heap→Prop),fG G G2 ρ Jf s s2→Rep D h₀ G2 Jf h' s2→gQ (cD ρ) s s2→Src D h₀ A target tup iv (Bl I) pv T→T 0 G2 Jf s2.heap→(∀b∈pv,s.heap.get? b=none∧R3 G2 Jf s2 b)→Q iv s2
section
variable {D:cP}{h₀:Heap}{G:Fz}{ρ:List PR}{h:Hp}{s:Shared}{A:Around}{Ex:Value→Shared→Prop}{n:Nat}
theorem jM{target:Expr}{tup:Bool}{I:It}{Q:Value→Shared→Prop}{T:Nat→Fz→List PR→Heap→Prop}{o:Obj}(ho:o.isFreed=false)(R:Rep D h₀ G ρ h s)(sc:Src D h₀ A target tup (.ref s.heap.objs.size) (Bl I) [s.heap.objs.size] T)(t0:T 0 G ρ (s.heap.push o))(k:Jp D h₀ A target tup I G ρ s h Q):
  Q (.ref s.heap.objs.size) {s with heap:=s.heap.push o}:=by
 refine k _ _ G ρ _ T (.same (dX s o)) (R.push o) (.push _ s o) sc t0 λb hb=>?_
 rw [dN] at hb;subst hb;exact ⟨c8 (bf _),R.iD (bf _),λob g=>absurd (R.Vc _ ob g) (Nat.lt_irrefl _),o,Heap.get?_push_size _ ho⟩
theorem Es{target:Expr}{tup:Bool}{v:MV}{va:Value}{I:It}{Q:Value→Shared→Prop}(hh:A.handled=none)(R:Rep D h₀ G ρ h s)(hv:VR D G ρ v va)
  (e:rg v h=some I) (k:Jp D h₀ A target tup I G ρ s h Q):
  wpAny (model D.prog D.w) A (pyIter va) Q Ex s:=by
 rcases or_some e with e|⟨_,e⟩
 ·refine map_some e λx e1 e2=>?_
  subst e2
  cases bI e1
  obtain ⟨t,rfl⟩:=dY hv
  cases ha:(toStr x).cps.all (·< 128) with
  |false=>exact wpAny_pyIter_wide ha (jM rfl R (zI (Walks.strWide hh _ (toStr x) t) λi H st=>st.imp λ_ z=>z.1) ⟨⟨_,Heap.get?_push_size _ rfl,rfl,rfl⟩,Nat.zero_le _,trivial⟩ k)
  |true=>exact wpAny_pyIter_ascii ha (jM rfl R (zI (Walks.strAscii hh _ (toStr x) t) λi H st=>st.imp λ_ z=>z.1) ⟨⟨_,Heap.get?_push_size _ rfl,rfl,rfl⟩,Nat.zero_le _,trivial⟩ k)
 rcases or_some e with e|⟨_,e⟩
 ·refine map_some e λvs e1 e2=>?_
  subst e2
  cases b8 e1
  obtain ⟨hl,a,o,vals,m,rfl,g,hc,hd,hr⟩:=hv;have Lu:=R.keep _ _ g;have vP:s.heap.IsList a vals.toArray:=⟨o,Lu,hc,m,hd⟩;exact wpAny_pyIter_list vP (jM rfl R (src_list hh (Nat.ne_of_lt (Heap.lt_size Lu)) g hr (n:=m)) ⟨⟨⟨_,Heap.get?_push_size _ rfl,rfl,rfl⟩,vP.push _⟩,Nat.zero_le _,.refl _,.refl _⟩ k)
 ·obtain ⟨o,e1,e⟩:=aT.mp e
  refine map_some e λcur Er e2=>?_
  subst e2
  cases di e1
  obtain ⟨p,vs,hp,rfl,_,_,i8,hr⟩:=gy R hv Er;have vP:=i8.isList;exact wpAny_pyIter_list vP (jM (I:=.oJ o) rfl R (Jo hh (Nat.ne_of_lt (vP.elim λ_ z=>Heap.lt_size z.1))) ⟨⟨_,Heap.get?_push_size _ rfl,rfl,rfl⟩,hp⟩ k)
theorem yc{target:Expr}{tup:Bool}{b:Int}{t u v:Tok}{r:Addr}{Q:Value→Shared→Prop}(hh:A.handled=none)(R:Rep D h₀ G ρ h s)(hr:IsRange s.heap r 0 b 1 t u v)(Nt:Builtin.Range.small 0 b 1=true)(k:Jp D h₀ A target tup (.items (gj b)) G ρ s h Q):
  wpAny (model D.prog D.w) A (pyIter (.ref r)) Q Ex s:=by
 refine wpAny_pyIter_range hr Nt (jM rfl R (src_range hh (b:=b)) ⟨?_,Nat.zero_le _,trivial⟩ k);have e:Builtin.Range.rangeSize 0 b 1=(b.toNat:Int):=by rw [rangeSize_one];split<;>lia
 rw [e];exact Heap.get?_push_size _ rfl
end
section
variable {X:Ctx}{K:Frag}{mg mb:Str→Option Value}{n k:Nat}{f:Fr}{l:Loc}{h:Hp}{W W0:Wd}{F:List Addr}
theorem Et{env:Env}{s:Shared}{Q:Bool→Shared→Prop}{Ex:Value→Shared→Prop}(ifs:List Expr)(q:Q false s):bS X (forIn ifs false (vO env)) Q Ex s:=by
 induction ifs with
 |nil=>rw [List.forIn_nil];exact wpAny_pure q
 |cons c r ih=>rw [List.forIn_cons];exact wpAny_bind (show bS X (pure (ForInStep.yield false)) _ _ _ from wpAny_pure ih)
theorem yd{c:Expr}{r:List Expr}{env:Env}{s:Shared}{Q:Bool→Shared→Prop}{Ex:Value→Shared→Prop}(h:bS X (PySem.isTrue c env (eval c env)) (λok s1=>bS X (forIn r ok (vO env)) Q Ex s1) Ex s):bS X (forIn (c::r) true (vO env)) Q Ex s:=by rw [List.forIn_cons];exact wpAny_bind (show bS X (PySem.isTrue c env (eval c env) >>=λok=>pure (ForInStep.yield ok)) _ _ _ from wpAny_bind (wpAny_mono h (λ_ _ z=>wpAny_pure z) λ_ _ z=>z))
theorem Cd(T:∀e,Al (aD k f.ci e) (M8 X n f e)){es:List Expr}{ms:List ai}(c:bY (CE k f.ci) es ms):∀l h W,eF X f l h W→aJ X [] W (forIn es true (vO f.env)) (tests (E X.D.pm n) ms l h) (M3 X f l):=by
 induction c with
 |nil=>exact λl h W S=>aJ.eq (List.forIn_nil ..) (aJ.ret ⟨S,rfl⟩)
 |cons c r ih=>
  exact λl h W S=>aJ.rG (λ_ _=>yd) (T _ _ c l h W S) λW1 t b h1 g r=>by
   obtain rfl:t=b:=r.2
   cases t with
   |true=>exact ih l h1 W1 r.1
   |false=>exact λx e Q Ex KQ=>Et _ (KQ W1 false (.refl _) (bX e▸⟨r.1,rfl⟩))
abbrev vQ(X:Ctx)(t:Expr)(tup:Bool)(it:Value)(at_:Nat→Hp→Option (Option MV))(pv:List Addr)(T:Nat→Fz→List PR→Heap→Prop):Prop:=Src X.D X.h₀ X.A t tup it at_ pv T
abbrev Pv(W:Wd)(b:Addr):Prop:=R3 W.G W.ρ W.s b
theorem Pv.go{W':Wd}{b:Addr}(p:Pv W b)(g:Go F W W')(hb:b∉F):Pv W' b:=p.step g.g g.st hb
theorem Pv.kept{W':Wd}{b:Addr}(p:Pv W b)(g:Go F W W')(hb:b∉F){o:Obj}(e:W.s.heap.get? b=some o):W'.s.heap.get? b=some o:=g.st.keep b o (λq=>(List.mem_append.mp q).elim p.1 hb) e
theorem Go.tE(g:Go F W0 W){P:List Addr}{H:Heap}{t:Nat}(fresh:∀b∈P,W0.s.heap.get? b=none)(k:∀b o,b∉P→W.s.heap.get? b=some o→H.get? b=some o):Go F W0 (W.hp H t):=
 have q:=B9 (s1:=(W.hp H t).s) g.g g.st fresh k rfl rfl rfl
 ⟨q.1,q.2⟩
theorem eF.tE(S:eF X f l h W){P:List Addr}{H:Heap}{t:Nat}(k:∀b o,b∉P→W.s.heap.get? b=some o→H.get? b=some o)(hw:∀b∈P,Pv W b∧b∉jy f.env):eF X f l h (W.hp H t):=⟨S.rep.but P k (λb o g z=>(hw b z).1.2.1 o g) (λb hb z=>(hw b z).1.1 hb),S.lr.keep (.refl _) (.refl _) λb hb o e=>k b o (λz=>(hw b z).2 hb) e,S.sg,S.sr,λb hb=>(S.lt b hb).imp λo e=>k b o (λz=>(hw b z).2 hb) e⟩
structure zK(X:Ctx)(f:Fr)(T:Nat→Fz→List PR→Heap→Prop)(pv F:List Addr)(W0:Wd)(i:Nat)(l:Loc)(h:Hp)(W:Wd):Prop where
 g:Go F W0 W
 S:eF X f l h W
 t:T i W.G W.ρ W.s.heap
 pv:∀b∈pv,Pv W b
structure R4(f:Fr)(pv F:List Addr)(W0:Wd):Prop where
 fresh:∀b∈pv,W0.s.heap.get? b=none
 nf:∀b∈pv,b∉jy f.env
 nF:∀b∈pv,b∉F
variable {t:Expr}{tup:Bool}{it:Value}{at_:Nat→Hp→Option (Option MV)}{pv:List Addr}{T:Nat→Fz→List PR→Heap→Prop}{i:Nat}
theorem zK.move(SC:vQ X t tup it at_ pv T)(P:R4 f pv F W0)(L:zK X f T pv F W0 i l h W){W':Wd}{l':Loc}{h':Hp}(g:Go F W W')(S':eF X f l' h' W'):zK X f T pv F W0 i l' h' W':=⟨L.g.trans g,S',SC.mono _ _ _ _ _ _ _ L.t g.g.g g.g.r L.S.rep.keep (λb o gb=>S'.rep.keep b o (g.g.g _ _ gb)) λb hb o e=>(L.pv b hb).kept g (P.nF b hb) e,λb hb=>(L.pv b hb).go g (P.nF b hb)⟩
theorem zK.next(SC:vQ X t tup it at_ pv T)(P:R4 f pv F W0)(L:zK X f T pv F W0 i l h W){x:MV}(qL:at_ i h=some (some x)){Q:Option Value→Shared→Prop}{Ex:Value→Shared→Prop}
  (K:∀v H1 tk,(∀(Q':Unit→Shared→Prop) (Jm:Value→Shared→Prop),(∀H2,zK X f T pv F W0 (i+1) l h (W.hp H2 tk)→(∀b o,b∉pv→W.s.heap.get? b=some o→H2.get? b=some o)→Eo X.D W.G W.ρ tup x v H2→Q' () (W.hp H2 tk).s)→bS X (letOwnedTupleGo t it v) Q' Jm (W.hp H1 tk).s)→Q (some v) (W.hp H1 tk).s):bS X (pyNext it) Q Ex W.s:=
 SC.next i W.G W.ρ h W.s x Q Ex L.t L.S.rep qL λv H1 tk kp go=>K v H1 tk λQ' Jm q=>go Q' Jm λH2 WN hT hx=>q H2 ⟨L.g.tE P.fresh WN,L.S.tE WN λb hb=>⟨L.pv b hb,P.nf b hb⟩,hT,λb hb=>⟨(L.pv b hb).1,(L.pv b hb).2.1,SC.live _ _ _ _ hT b hb⟩⟩ WN hx
theorem zK.stop(SC:vQ X t tup it at_ pv T)(P:R4 f pv F W0)(L:zK X f T pv F W0 i l h W)(qL:at_ i h=some none){Q:Option Value→Shared→Prop}{Ex:Value→Shared→Prop}
  (K:∀H tk,Go F W0 (W.hp H tk)→eF X f l h (W.hp H tk)→(∀b o,b∉pv→W.s.heap.get? b=some o→H.get? b=some o)→Q none (W.hp H tk).s):bS X (pyNext it) Q Ex W.s:=
 SC.stop i W.G W.ρ h W.s Q Ex L.t L.S.rep qL λH tk kp=>K H tk (L.g.tE P.fresh kp) (L.S.tE kp λb hb=>⟨L.pv b hb,P.nf b hb⟩) kp
def Qe(X:Ctx)(n:Nat)(f:Fr)(t:Expr)(tup:Bool)(it:Expr)(mi:dw):Prop:=∀l h W,eF X f l h W→∀I h',je (E X.D.pm n) mi l h=some (I,h')→∀(Q Ex:Value→Shared→Prop),(∀iv W2 pv T,Go [] W W2→eF X f l h' W2→vQ X t tup iv (Bl I) pv T→T 0 W2.G W2.ρ W2.s.heap→(∀b∈pv,W.s.heap.get? b=none∧Pv W2 b)→Q iv W2.s)→bS X (eval it f.env) (λxv s1=>bS X (pyIter xv) Q Ex s1) Ex W.s
theorem R6{I:It}{h':Hp}{Q:Value→Shared→Prop}{W1:Wd}(g1:Go [] W W1)(S1:eF X f l h' W1)(q:∀iv W2 pv T,Go [] W W2→eF X f l h' W2→vQ X t tup iv (Bl I) pv T→T 0 W2.G W2.ρ W2.s.heap→(∀b∈pv,W.s.heap.get? b=none∧Pv W2 b)→Q iv W2.s):Jp X.D X.h₀ X.A t tup I W1.G W1.ρ W1.s h' Q:=λiv s2 G2 Jf pv T g2 R2 Vj sc t0 hp=>q iv ⟨G2,Jf,s2⟩ pv T (g1.trans (.of g2 Vj)) (S1.after g2 R2 Vj) sc t0 λb hb=>⟨g1.g.lv b (hp b hb).1,(hp b hb).2⟩
theorem Nu(H:fY X n f){e:Expr}{m:ai}(im:iM X n f e m):Qe X n f t tup e (.val m):=λl h W S I h' e Q Ex q=>gS e λv h1 e1 e=>map_some e λJ e2 e3=>im l h W S _ e1 _ Ex λW1 va g1 r1=>Es H.A.handled r1.1.rep r1.2 (e2.trans (congrArg some (congrArg Prod.fst e3))) (R6 g1 r1.1 λiv W2 pv T g S=>q iv W2 pv T g ((show h1=h' from congrArg Prod.snd e3)▸S))
theorem pR{ci:CI}{nm:String}{x:Str}(h:dg ci nm x=true):x=Str.ofString nm∧ci.kinds.lookup x=some .globalImplicit:=by unfold dg at h;rw [Bool.and_eq_true,Bool.and_eq_true,beq_iff_eq] at h;exact ⟨h.1.1,tD h.1.2⟩
theorem vR(H:fY X n f)(L:cX X.D K X.h₀ mg mb)(S:eF X f l h W){T:String}{x:Str}{np p:Pos}{a:Expr}{args:List Expr}{m:ai}(c:CE k f.ci a m){ms:List ai}(c2:bY (CE k f.ci) args ms)(hx:x=Str.ofString T)(hk:f.ci.kinds.lookup x=some .globalImplicit)(hd:(x==("__debug__":Str))=false)(h1:mg x=none)(h2:mb x=some (.type T)){Q Ex:Value→Shared→Prop}
  (q:bS X (spliced (backTo p (starEach (a::args) f.env))) (λvs s1=>bS X (call (.type T) vs []) Q Ex s1) Ex W.s):bS X (eval (.Call (.Name x np) (a::args) [] p) f.env) Q Ex W.s:=by
 refine wpAny_Call_NameR (Calls.Name_function_global H.env.fn ((j6 H.env x).trans hk) (Calls.loadGlobal_builtin (by rw [H.env.az];exact L.g.keeps (Rx S.rep)) h1 (by rw [H.env.bi];exact L.b.keeps (Rx S.rep)) h2 ?_) hd)
 have II:=kJ (pos:=p) (env:=f.env) (bY.cons c c2);rw [j5 c] at II q⊢;exact PyProof.Rows.callWith_type (first:=[]) II (Calls.evalArgs_plain q)
end
structure jN(prog:Program)(w:World)(I:Addr)(x:Str)(St:Nat→Heap→Prop):Prop where
 frame:∀i h h',St i h→(∀o,h.get? I=some o→h'.get? I=some o)→St i h'
 live:∀i h,St i h→∃o,h.get? I=some o
 item:∀(A:Around) i c (s:Shared) (Q E:Value→Shared→Prop),St i s.heap→x.cps[i]? =some c→(∀h',St (i+1) h'→Heap.SameBut I s.heap h'→Q (.str ⟨#[c]⟩ s.toks) {s with heap:=h',toks:=s.toks+1})→wpAny (model prog w) A (Builtin.SmallTypes.nextOf (.ref I)) Q E s
 stop:∀(A:Around) i (s:Shared) (Q E:Value→Shared→Prop),A.handled=none→St i s.heap→x.cps[i]? =none→(∀h' e,Heap.ExtBut I s.heap h'→(∃o,h'.get? e=some o∧o.cls=.type "StopIteration")→E (.ref e) {s with heap:=h'})→wpAny (model prog w) A (Builtin.SmallTypes.nextOf (.ref I)) Q E s
theorem vS{prog:Program}{w:World}(I:Addr)(x:Str)(t:Tok):jN prog w I x (λi h=>h.IsStrIter I "str_ascii_iterator" x t i) where
 frame:=λi h h' ⟨o,e,r⟩ k=>⟨o,k o e,r⟩
 live:=λi h ⟨o,e,_⟩=>⟨o,e⟩
 item:=λA i c s Q E hit hx hQ=>by
  obtain ⟨o,ho,hc,hd⟩:=id hit;unfold Builtin.SmallTypes.nextOf;refine wpAny_bind (wpAny_callSpecial?_slot (name:=Str.ofString "__next__") hit.typeIs F.slot_str_ascii_iterator_next
   (wpAny_call_entry F.slot_str_ascii_iterator_next hit.typeIs F.entry_str_ascii_iterator_next ?_ (F.args_str_ascii_iterator_next_1 _)))
  show wpAny _ _ (field (.ref I) 0 >>=_) _ _ s
  refine wpAny_bind (wpAny_field ho hd (x:=.str x t) rfl ?_);show wpAny _ _ (field (.ref I) 1 >>=_) _ _ s
  refine wpAny_bind (wpAny_field ho hd (x:=.int i 0) rfl ?_);simp only [Int.toNat_natCast,hx];refine wpAny_bind (wpAny_setField ho hd (by simp) (wpAny_bind (wpAny_mkStr (wpAny_pure ⟨_,rfl,wpAny_pure (hQ _ ?_ (Heap.SameBut.update ..))⟩) (by show 1≤sizeLine;decide))))
  exact ⟨_,Heap.get?_update_self _ ho (Obj.isFreed_of_fields (Obj.data_mapFields hd _)),(Obj.cls_mapFields ..).trans hc,by rw [Obj.data_mapFields hd];simp [rawInt]⟩
 stop:=λA i s Q E hh hit hx hE=>by
  obtain ⟨o,ho,hc,hd⟩:=id hit;unfold Builtin.SmallTypes.nextOf;refine wpAny_bind (wpAny_callSpecial?_slot (name:=Str.ofString "__next__") hit.typeIs F.slot_str_ascii_iterator_next
   (wpAny_call_entry F.slot_str_ascii_iterator_next hit.typeIs F.entry_str_ascii_iterator_next ?_ (F.args_str_ascii_iterator_next_1 _)))
  show wpAny _ _ (field (.ref I) 0 >>=_) _ _ s
  refine wpAny_bind (wpAny_field ho hd (x:=.str x t) rfl ?_);show wpAny _ _ (field (.ref I) 1 >>=_) _ _ s
  refine wpAny_bind (wpAny_field ho hd (x:=.int i 0) rfl ?_);simp only [Int.toNat_natCast,hx];refine wpAny_bind (wpAny_rule (wpAny_bind (wpAny_setField ho hd (by simp) (wpAny_bind (wpAny_letGo ?_)))))
  show wpAny _ _ (newExc (.type "StopIteration") [] >>=_) _ _ _
  refine wpAny_bind ?_;simp only [newExc,newTuple];refine wpAny_bind (wpAny_newObj_type ?_ (by size_fits))
  refine wpAny_bind (m:=firstArgMember _ _) (wpAny_of_eq (a:=Value.none) (by first|rfl|(simp only [firstArgMember];rfl)) ?_)
  refine wpAny_newObj_type ?_ (by size_fits)
  simp only [raiseNew];refine wpAny_bind (wpAny_handled ?_)
  first|rw [show A.in1.handled=none from hh]|rw [hh]
  refine wpAny_bind (wpAny_pure (wpAny_throw ?_));exact hE _ _ (((Heap.SameBut.update ..).extBut.push _).push _) ⟨_,Heap.get?_push_size _ rfl,rfl⟩
theorem ye{prog:Program}{w:World}(I:Addr)(x:Str)(t:Tok):jN prog w I x (λi h=>h.IsStrIter I "str_iterator" x t i) where
 frame:=λi h h' ⟨o,e,r⟩ k=>⟨o,k o e,r⟩
 live:=λi h ⟨o,e,_⟩=>⟨o,e⟩
 item:=λA i c s Q E hit hx hQ=>by
  obtain ⟨o,ho,hc,hd⟩:=id hit;unfold Builtin.SmallTypes.nextOf;refine wpAny_bind (wpAny_callSpecial?_slot (name:=Str.ofString "__next__") hit.typeIs F.slot_str_iterator_next
   (wpAny_call_entry F.slot_str_iterator_next hit.typeIs F.entry_str_iterator_next ?_ (F.args_str_iterator_next_1 _)))
  show wpAny _ _ (field (.ref I) 0 >>=_) _ _ s
  refine wpAny_bind (wpAny_field ho hd (x:=.str x t) rfl ?_);show wpAny _ _ (field (.ref I) 1 >>=_) _ _ s
  refine wpAny_bind (wpAny_field ho hd (x:=.int i 0) rfl ?_);simp only [Int.toNat_natCast,hx];refine wpAny_bind (wpAny_setField ho hd (by simp) (wpAny_bind (wpAny_mkStr (wpAny_pure ⟨_,rfl,wpAny_pure (hQ _ ?_ (Heap.SameBut.update ..))⟩) (by show 1≤sizeLine;decide))))
  exact ⟨_,Heap.get?_update_self _ ho (Obj.isFreed_of_fields (Obj.data_mapFields hd _)),(Obj.cls_mapFields ..).trans hc,by rw [Obj.data_mapFields hd];simp [rawInt]⟩
 stop:=λA i s Q E hh hit hx hE=>by
  obtain ⟨o,ho,hc,hd⟩:=id hit;unfold Builtin.SmallTypes.nextOf;refine wpAny_bind (wpAny_callSpecial?_slot (name:=Str.ofString "__next__") hit.typeIs F.slot_str_iterator_next
   (wpAny_call_entry F.slot_str_iterator_next hit.typeIs F.entry_str_iterator_next ?_ (F.args_str_iterator_next_1 _)))
  show wpAny _ _ (field (.ref I) 0 >>=_) _ _ s
  refine wpAny_bind (wpAny_field ho hd (x:=.str x t) rfl ?_);show wpAny _ _ (field (.ref I) 1 >>=_) _ _ s
  refine wpAny_bind (wpAny_field ho hd (x:=.int i 0) rfl ?_);simp only [Int.toNat_natCast,hx];refine wpAny_bind (wpAny_rule (wpAny_bind (wpAny_setField ho hd (by simp) (wpAny_bind (wpAny_letGo ?_)))))
  show wpAny _ _ (newExc (.type "StopIteration") [] >>=_) _ _ _
  refine wpAny_bind ?_;simp only [newExc,newTuple];refine wpAny_bind (wpAny_newObj_type ?_ (by size_fits))
  refine wpAny_bind (m:=firstArgMember _ _) (wpAny_of_eq (a:=Value.none) (by first|rfl|(simp only [firstArgMember];rfl)) ?_)
  refine wpAny_newObj_type ?_ (by size_fits)
  simp only [raiseNew];refine wpAny_bind (wpAny_handled ?_)
  first|rw [show A.in1.handled=none from hh]|rw [hh]
  refine wpAny_bind (wpAny_pure (wpAny_throw ?_));exact hE _ _ (((Heap.SameBut.update ..).extBut.push _).push _) ⟨_,Heap.get?_push_size _ rfl,rfl⟩
structure Ho(z TI TO i1 i2:Addr)(S1 S2:Nat→Heap→Prop)(f0:Value)(k1 k2:Nat)(h:Heap):Prop where
 hz:IsZip h z TI TO f0
 R8:IsPair h TI (.ref i1) (.ref i2)
 R9:∃a b,IsPair h TO a b
 h1:S1 k1 h
 h2:S2 k2 h
structure kK(z TI TO i1 i2:Addr):Prop where
 TIz:TI≠z
 TOz:TO≠z
 i1z:i1≠z
 i2z:i2≠z
 TITO:TI≠TO
 TIi1:TI≠i1
 TIi2:TI≠i2
 TOi1:TO≠i1
 TOi2:TO≠i2
 i12:i1≠i2
theorem Ho.to{prog:Program}{w:World}{x y:Str}{z TI TO i1 i2:Addr}{S1 S2:Nat→Heap→Prop}{f0 f1:Value}{k1 k2:Nat}{H H':Heap}(N1:jN prog w i1 x S1)(N2:jN prog w i2 y S2)(Z:Ho z TI TO i1 i2 S1 S2 f0 k1 k2 H)(hz:IsZip H' z TI TO f1)(kp:∀b∈[TI,TO,i1,i2],∀o,H.get? b=some o→H'.get? b=some o):Ho z TI TO i1 i2 S1 S2 f1 k1 k2 H':=⟨hz,kp _ (.head _) _ Z.R8,Z.R9.imp λ_ h=>h.imp λ_ h=>kp _ (.tail _ (.head _)) _ h,N1.frame _ _ _ Z.h1 (kp _ (.tail _ (.tail _ (.head _)))),N2.frame _ _ _ Z.h2 (kp _ (.tail _ (.tail _ (.tail _ (.head _)))))⟩
theorem tG{α:Type}{P:α→Prop}{a:α}{l:List α}(h:P a)(t:∀b∈l,P b):∀b∈a::l,P b:=λb hb=>(bq.mp hb).elim (λe=>e▸h) (t b)
theorem Sb{α:Type}{P:α→Prop}:∀b∈([]:List α),P b:=λ_ h=>(dm h).elim
theorem kK.nz{z TI TO i1 i2:Addr}(D:kK z TI TO i1 i2):∀b∈[TI,TO,i1,i2],b≠z:=tG D.TIz (tG D.TOz (tG D.i1z (tG D.i2z Sb)))
section
variable {prog:Program}{w:World}{A:Around}{E:Value→Shared→Prop}{s:Shared}{z TI TO i1 i2:Addr}{x y:Str}{S1 S2:Nat→Heap→Prop}
def nq(z TO i1 i2:Addr)(H H':Heap):Prop:=∀c o,c≠z→c≠TO→c≠i1→c≠i2→H.get? c=some o→H'.get? c=some o
theorem vU{z e:Addr}{TI TO:Addr}{H:Heap}{f:Value}(hz:IsZip H z TI TO f)(he:∃o,H.get? e=some o∧o.cls=.type "StopIteration"):e≠z:=λq=>he.elim λo h=>by
 rw [q,show H.get? z=some _ from hz] at h
 rw [← aI h.1] at h;exact absurd h.2 (by simp)
theorem Eu{k:Nat}{Q:Value→Shared→Prop}(hh:A.handled=none)(N1:jN prog w i1 x S1)(N2:jN prog w i2 y S2)(D:kK z TI TO i1 i2)(Z:Ho z TI TO i1 i2 S1 S2 .none k k s.heap)
  (hQ:∀c d h',x.cps[k]? =some c→y.cps[k]? =some d→Ho z TI TO i1 i2 S1 S2 (rawInt s.heap.objs.size) (k+1) (k+1) h'→IsPair h' s.heap.objs.size (.str ⟨#[c]⟩ s.toks) (.str ⟨#[d]⟩ (s.toks+1))→nq z TO i1 i2 s.heap h'→Q (.ref s.heap.objs.size) {s with heap:=h',toks:=s.toks+1+1})
  (hE:(x.cps[k]? =none∨y.cps[k]? =none)→∀h' tk e,nq z TO i1 i2 s.heap h'→(∃o,h'.get? e=some o∧o.cls=.type "StopIteration")→E (.ref e) {s with heap:=h',toks:=tk}):
  wpAny (model prog w) A (Builtin.«zip.__next__» ⟨[.ref z],[]⟩) (λfin s'=>∃v,fin=.done (.ret v)∧Q v s') E s:=by
 obtain ⟨hz,R8,⟨a,b,R9⟩,h1,h2⟩:=Z;show wpAny _ _ (field (.ref z) 2 >>=_) _ _ _
 refine wpAny_bind (wpAny_field hz rfl (x:=.bool false) rfl ?_);show wpAny _ _ (field (.ref z) 3 >>=_) _ _ _
 refine wpAny_bind (wpAny_field hz rfl (x:=.ref TI) rfl (wpAny_bind (wpAny_seqItems R8 rfl ?_)));show wpAny _ _ (Builtin.SmallTypes.ownedTupleIsFree (.ref z) >>=_) _ _ _
 refine wpAny_bind ?_;unfold Builtin.SmallTypes.ownedTupleIsFree;refine wpAny_bind (wpAny_field hz rfl (x:=.none) rfl (wpAny_pure ?_));simp only [if_true];refine wpAny_bind (wpAny_rule (wpAny_bind (wpAny_field hz rfl (x:=.ref TO) rfl (wpAny_bind (wpAny_setField_rec hz (by simp) λH1 Ls k1=>wpAny_bind ?_)))))
 replace Ls:IsZip H1 z TI TO .ellipsis:=Ls;simp only [List.zipIdx_cons,List.zipIdx_nil,List.forIn_cons,List.forIn_nil];refine wpAny_bind (wpAny_bind (wpAny_onRaise ?_));show wpAny _ _ (Builtin.SmallTypes.nextOf (.ref i1) >>=_) _ _ _
 have h1:=N1.frame _ _ _ h1 λo e=>k1.extBut _ _ D.i1z e
 cases hx:x.cps[k]? with
 |none=>
  clear hQ;exact wpAny_bind (N1.stop _ k _ _ _ hh h1 hx λH2 e k2 he=>
   have Rm:IsZip H2 z TI TO .ellipsis:=k2 _ _ D.i1z.symm Ls
   wpAny_setField_rec Rm (by simp) λH3 _ k3=>hE (.inl hx) H3 _ e (λc o c1 _ c3 _ q=>k3.extBut _ _ c1 (k2 _ _ c3 (k1.extBut _ _ c1 q))) (he.imp λo h=>⟨k3.extBut _ _ (vU Rm he) h.1,h.2⟩))
 |some c=>
  refine wpAny_bind (N1.item _ k c _ _ _ h1 hx λH2 ZY k2=>wpAny_pure ?_)
  have Nv:IsPair H2 TO a b:=k2.extBut _ _ D.TOi1 (k1.extBut _ _ D.TOz R9);refine wpAny_bind (wpAny_seqItems Nv rfl (wpAny_bind (wpAny_updateSeq_pair Nv λH3 Jq k3=>wpAny_bind (wpAny_letGo (wpAny_pure (wpAny_bind (wpAny_bind (wpAny_onRaise ?_))))))))
  replace Jq:IsPair H3 TO (.str ⟨#[c]⟩ s.toks) b:=Jq;show wpAny _ _ (Builtin.SmallTypes.nextOf (.ref i2) >>=_) _ _ _
  have h2:=N2.frame _ _ _ h2 λo e=>k3.extBut _ _ D.TOi2.symm (k2.extBut _ _ D.i12.symm (k1.extBut _ _ D.i2z e))
  have WO:IsZip H3 z TI TO .ellipsis:=k3.extBut _ _ D.TOz.symm (k2.extBut _ _ D.i1z.symm Ls);have WQ:nq z TO i1 i2 s.heap H3:=λc o c1 c2 c3 _ e=>k3.extBut _ _ c2 (k2.extBut _ _ c3 (k1.extBut _ _ c1 e))
  have ZZ:S1 (k+1) H3:=N1.frame _ _ _ ZY λo e=>k3.extBut _ _ D.TOi1.symm e
  have Z0:H3.objs.size=s.heap.objs.size:=by rw [k3.1,k2.1,k1.1]
  clear h1 ZY Nv Ls k1 k2 k3 R9 hz
  cases hy:y.cps[k]? with
  |none=>
   exact wpAny_bind (N2.stop _ k _ _ _ hh h2 hy λH4 e k4 he=>
    have Z1:IsZip H4 z TI TO .ellipsis:=k4 _ _ D.i2z.symm WO
    wpAny_setField_rec Z1 (by simp) λH5 _ k5=>hE (.inr hy) H5 _ e (λc o c1 c2 c3 c4 q=>k5.extBut _ _ c1 (k4 _ _ c4 (WQ c o c1 c2 c3 c4 q))) (he.imp λo h=>⟨k5.extBut _ _ (vU Z1 he) h.1,h.2⟩))
  |some d=>
   clear hE;refine wpAny_bind (N2.item _ k d _ _ _ h2 hy λH4 Z2 k4=>wpAny_pure ?_)
   have Nx:IsPair H4 TO (.str ⟨#[c]⟩ s.toks) b:=k4.extBut _ _ D.TOi2 Jq;refine wpAny_bind (wpAny_seqItems Nx rfl (wpAny_bind (wpAny_updateSeq_pair Nx λH5 Jr k5=>wpAny_bind (wpAny_letGo (wpAny_pure (wpAny_pure ?_))))))
   replace Jr:IsPair H5 TO (.str ⟨#[c]⟩ s.toks) (.str ⟨#[d]⟩ (s.toks+1)):=Jr;have zo:H5.objs.size=s.heap.objs.size:=by rw [k5.1,k4.1,Z0]
   have WR:IsZip H5 z TI TO .ellipsis:=k5.extBut _ _ D.TOz.symm (k4.extBut _ _ D.i2z.symm WO);have kk:nq z TO i1 i2 s.heap H5:=λc o c1 c2 c3 c4 e=>k5.extBut _ _ c2 (k4.extBut _ _ c4 (WQ c o c1 c2 c3 c4 e))
   have ZR:S1 (k+1) H5:=N1.frame _ _ _ ZZ λo e=>k5.extBut _ _ D.TOi1.symm (k4.extBut _ _ D.i12 e)
   have h25:S2 (k+1) H5:=N2.frame _ _ _ Z2 λo e=>k5.extBut _ _ D.TOi2.symm e
   clear Nx Jq WO WQ ZZ Z2 h2 k4 k5 Z0;refine wpAny_bind (wpAny_seqItems Jr rfl (wpAny_bind (wpAny_newTuple ?_)));have Sd:z≠H5.objs.size:=Nat.ne_of_lt (Heap.lt_size WR);show wpAny _ _ (Builtin.SmallTypes.ownedTupleHandOut (.ref z) (.ref H5.objs.size) >>=_) _ _ _
   refine wpAny_bind ?_;unfold Builtin.SmallTypes.ownedTupleHandOut;have hz6:IsZip (H5.push {cls:=.type "tuple",data:=.seq #[.str ⟨#[c]⟩ s.toks,.str ⟨#[d]⟩ (s.toks+1)]}) z TI TO .ellipsis:=Heap.get?_push_of_some _ WR;refine wpAny_bind (wpAny_setField_rec hz6 (by simp) λH7 WS k7=>?_)
   replace WS:IsZip H7 z TI TO (rawInt H5.objs.size):=WS;refine wpAny_setField_rec WS (by simp) λH8 Vk k8=>wpAny_pure ⟨_,rfl,?_⟩
   replace Vk:IsZip H8 z TI TO (rawInt H5.objs.size):=Vk;have up:∀c o,c≠z→H5.get? c=some o→H8.get? c=some o:=λc o c1 e=>k8.extBut _ _ c1 (k7.extBut _ _ c1 (Heap.get?_push_of_some _ e))
   have Z3:IsPair H8 H5.objs.size (.str ⟨#[c]⟩ s.toks) (.str ⟨#[d]⟩ (s.toks+1)):=k8.extBut _ _ Sd.symm (k7.extBut _ _ Sd.symm (Heap.get?_push_size _ rfl));show Q (.ref H5.objs.size) _
   rw [zo] at Vk Z3⊢;exact hQ c d H8 hx hy (Ho.to N1 N2 ⟨WR,kk _ _ D.TIz D.TITO D.TIi1 D.TIi2 R8,⟨_,_,Jr⟩,ZR,h25⟩ Vk λb hb o e=>up b o (D.nz b hb) e) Z3 λc o c1 c2 c3 c4 e=>up c o c1 (kk c o c1 c2 c3 c4 e)
end
end
section
open PySem
noncomputable abbrev Qf(T:String)(h:Heap)(x:Str)(t:Tok):Heap:=h.push {cls:=.type T,data:=.fields #[.str x t,.int 0 0]}
noncomputable abbrev Sf(T U:String)(h:Heap)(x:Str)(t:Tok)(y:Str)(u:Tok):Heap:=Qf U (Qf T h x t) y u
noncomputable abbrev Sg(T U:String)(h:Heap)(x:Str)(t:Tok)(y:Str)(u:Tok):Heap:=(Sf T U h x t y u).push {cls:=.type "tuple",data:=.seq #[.ref h.objs.size,.ref (Qf T h x t).objs.size]}
noncomputable abbrev Sh(T U:String)(h:Heap)(x:Str)(t:Tok)(y:Str)(u:Tok):Heap:=(Sg T U h x t y u).push {cls:=.type "tuple",data:=.seq #[.none,.none]}
noncomputable abbrev Qg(T U:String)(h:Heap)(x:Str)(t:Tok)(y:Str)(u:Tok):Heap:=(Sh T U h x t y u).push {cls:=.type "zip",data:=.fields #[.none,.bool false,.bool false,.ref (Sf T U h x t y u).objs.size,.ref (Sg T U h x t y u).objs.size]}
def Ew(T:String)(x:Str)(t:Tok):Prop:=∀{prog:Program} {w:World} {A:Around} {E:Value→Shared→Prop} {s:Shared} {Q:Value→Shared→Prop},Q (.ref s.heap.objs.size) {s with heap:=s.heap.push {cls:=.type T,data:=.fields #[.str x t,.int 0 0]}}→wpAny (model prog w) A (pyIter (.str x t)) Q E s
set_option maxHeartbeats 4000000 in
theorem qS{T U:String}(x:Str)(t:Tok)(y:Str)(u:Tok)(hx:Ew T x t)(hy:Ew U y u):Meets (Builtin.«zip.__new__» ⟨[.type "zip",.str x t,.str y u],[]⟩) (λ_ R s=>R (.ok (.ret (.ref (Sh T U s.heap x t y u).objs.size))) {s with heap:=Qg T U s.heap x t y u}):=
 .of_wp λprog w A R s h=>by
  obtain ⟨hp,g,d,tk,os⟩:=s;have aae:=sub_zip;unfold Ew at hx hy
  wp_walk using (hx (prog:=prog) (w:=w)),(hy (prog:=prog) (w:=w))
  exact ⟨_,rfl,h⟩
end
section
open PySem PySem.W PySem.Calls PyProof.Rows PySem.SeqAt
section
variable {D:cP}{h₀:Heap}{A:Around}{x y:List Nat}{z TI TO i1 i2:Addr}{S1 S2:Nat→Heap→Prop}
theorem lF(x:List Nat)(i:Nat):(toStr x).cps[i]? =x[i]? :=by simp [toStr]
theorem vV{i:Nat}{s:Shared}{Q:Option Value→Shared→Prop}{Ex:Value→Shared→Prop}(hh:A.handled=none)(N1:jN D.prog D.w i1 (toStr x) S1)(N2:jN D.prog D.w i2 (toStr y) S2)(dj:kK z TI TO i1 i2)(Z:Ho z TI TO i1 i2 S1 S2 .none i i s.heap)
  (hQ:∀c d h',x[i]? =some c→y[i]? =some d→Ho z TI TO i1 i2 S1 S2 (rawInt s.heap.objs.size) (i+1) (i+1) h'→IsPair h' s.heap.objs.size (.str ⟨#[c]⟩ s.toks) (.str ⟨#[d]⟩ (s.toks+1))→nq z TO i1 i2 s.heap h'→Q (some (.ref s.heap.objs.size)) {s with heap:=h',toks:=s.toks+1+1})
  (hE:(x[i]? =none∨y[i]? =none)→∀h' tk,nq z TO i1 i2 s.heap h'→Q none {s with heap:=h',toks:=tk}):wpAny (model D.prog D.w) A (pyNext (.ref z)) Q Ex s:=by
 have hT:s.TypeIs (.ref z) "zip":=⟨_,Z.hz,rfl⟩;unfold pyNext;refine wpAny_bind (wpAny_attempt (wpAny_callSpecial?_slot (name:=Str.ofString "__next__") hT F.slot_zip_next (wpAny_call_entry F.slot_zip_next hT F.entry_zip_next (Eu hh N1 N2 dj Z (λc d h' hc hd Z' hp k=>wpAny_pure (hQ c d h' ((lF x i).symm.trans hc) ((lF y i).symm.trans hd) Z' hp k)) λNy h' tk e k he=>?_) (F.args_zip_next_1 _))))
 obtain ⟨o,ho,hc⟩:=he;exact wpAny_bind (wpAny_isInstance (T:="StopIteration") (b:=true) ⟨o,ho,hc⟩ isSubtype_stop (wpAny_pure (hE (by rw [← lF, ← lF];exact Ny) h' tk k)))
theorem tH(x y:List Nat)(i:Nat):(De x y)[i]? =(x[i]?).bind λc=>(y[i]?).map λd=>.tup [.str [c],.str [d]]:=by
 unfold De List.zip;rw [List.getElem?_map,List.getElem?_zipWith]
 cases x[i]? <;>cases y[i]? <;>rfl
theorem nq.out{H H':Heap}(k:nq z TO i1 i2 H H')(b:Addr)(o:Obj)(nb:b∉[z,TI,TO,i1,i2])(e:H.get? b=some o):H'.get? b=some o:=k b o (λq=>nb (q▸.head _)) (λq=>nb (q▸.tail _ (.tail _ (.head _)))) (λq=>nb (q▸.tail _ (.tail _ (.tail _ (.head _))))) (λq=>nb (q▸.tail _ (.tail _ (.tail _ (.tail _ (.head _)))))) e
theorem Js{es:List Expr}{q:Nat}{p:Pos}(hh:A.handled=none)(N1:jN D.prog D.w i1 (toStr x) S1)(N2:jN D.prog D.w i2 (toStr y) S2)(dj:kK z TI TO i1 i2):
  Src D h₀ A (.Tuple es q p) true (.ref z) (fE (De x y)) [z,TI,TO,i1,i2] (λi _ _ H=>Ho z TI TO i1 i2 S1 S2 .none i i H) where
 mono:=λi G ρ H G' cZ H' t _ _ _ _ k=>t.to N1 N2 (k _ (.head _) _ t.hz) λb hb=>k b (.tail _ hb)
 next:=λi G ρ h s v Q Ex Z R qL KQ=>vV hh N1 N2 dj Z (λc d h' hc hd Z' hp k=>KQ _ h' _ k.out λQ' Jm RZ=>wpAny_letOwnedTupleGo_zip Z'.hz λh2 Rm WT=>by
   have hv:some (MV.tup [.str [c],.str [d]])=some v:=by rw [← aI qL,tH,hc,hd];rfl
   refine RZ h2 (λb o nb e=>WT.extBut _ _ (λq=>nb (q▸.head _)) (k.out b o nb e)) (Z'.to N1 N2 Rm λb hb o e=>WT.extBut _ _ (dj.nz b hb) e) (.inr ⟨rfl,_,_,[.str ⟨#[c]⟩ s.toks,.str ⟨#[d]⟩ (s.toks+1)],(aI hv).symm,rfl,⟨_,WT.extBut _ _ (Nat.ne_of_gt (Heap.lt_size Z.hz)) hp,rfl,_,rfl⟩,.cons (VR.str (x:=[c]) (cM rfl)) (.cons (VR.str (x:=[d]) (cM rfl)) .nil)⟩))
  λNy=>by
   have e:(x[i]?).bind (λc=>(y[i]?).map λd=>MV.tup [.str [c],.str [d]])=some v:=(tH x y i).symm.trans (aI qL)
   rcases Ny with q|q
   ·rw [q] at e;exact no e
   ·rw [q] at e;cases h:x[i]? <;>(rw [h] at e;exact no e)
 stop:=λi G ρ h s Q Ex Z R qL KQ=>vV hh N1 N2 dj Z (λc d h' hc hd=>by
   have e:some (MV.tup [.str [c],.str [d]])=none:=by rw [← aI qL,tH,hc,hd];rfl
   exact no e.symm) λ_ h' tk k=>KQ h' tk k.out
 live:=λi G ρ H t=>tG ⟨_,t.hz⟩ (tG ⟨_,t.R8⟩ (tG (t.R9.elim λ_ h=>h.elim λ_ h=>⟨_,h⟩) (tG (N1.live _ _ t.h1) (tG (N2.live _ _ t.h2) Sb))))
 self:=λi G ρ s Q Ex t q=>wpAny_pyIter_zip t.hz q
end
noncomputable def i9(x:Str):String:=if x.cps.all (·< 128)=true then "str_ascii_iterator" else "str_iterator"
theorem pU{prog:Program}{w:World}{A:Around}{E:Value→Shared→Prop}{s:Shared}{x:Str}{t:Tok}{Q:Value→Shared→Prop}
  (hQ:Q (.ref s.heap.objs.size) {s with heap:=s.heap.push {cls:=.type (i9 x),data:=.fields #[.str x t,.int 0 0]}}):wpAny (model prog w) A (pyIter (.str x t)) Q E s:=by
 cases ha:x.cps.all (·< 128) with
 |false=>unfold i9 at hQ;rw [ha] at hQ;exact wpAny_pyIter_wide ha hQ
 |true=>unfold i9 at hQ;rw [ha] at hQ;exact wpAny_pyIter_ascii ha hQ
theorem rL{prog:Program}{w:World}(I:Addr)(x:Str)(t:Tok):jN prog w I x (λi h=>h.IsStrIter I (i9 x) x t i):=by
 unfold i9;split
 ·exact vS I x t
 ·exact ye I x t
theorem Nz(n:Nat):kK (n+4) (n+2) (n+3) n (n+1):=by constructor<;>(intro h;have h:(_:Nat)=(_:Nat):=h;lia)
section
variable {D:cP}{h₀:Heap}{A:Around}{K:Frag}{mg mb:Str→Option Value}{n:Nat}{s:Shared}{E:Value→Shared→Prop}
theorem tK{x:Str}{t:Tok}{y:Str}{u:Tok}{prog:Program}{w:World}{Q:Value→Shared→Prop}
  (h:∀h' z TI TO i1 i2,kK z TI TO i1 i2→Ho z TI TO i1 i2 (λi h=>h.IsStrIter i1 (i9 x) x t i) (λi h=>h.IsStrIter i2 (i9 y) y u i) .none 0 0 h'→(∀b∈[z,TI,TO,i1,i2],s.heap.objs.size≤b)→(∀c o,s.heap.get? c=some o→h'.get? c=some o)→Q (.ref z) {s with heap:=h'}):
  wpAny (model prog w) A (call (.type "zip") [.str x t,.str y u]) Q E s:=by
 refine callType_new F.called_zip (by decide) (F.typeCall_zip_2 _ _) (F.newCall_zip_2 _ _) (λobj=>F.args_object_init_3 obj _ _) F.entry_zip_new (qS (T:=i9 x) (U:=i9 y) x t y u (λq=>pU q) (λq=>pU q)) ?_
 have z1:(Qf (i9 x) s.heap x t).objs.size=s.heap.objs.size+1:=Heap.size_push ..;have z2:(Sf (i9 x) (i9 y) s.heap x t y u).objs.size=s.heap.objs.size+2:=by rw [Heap.size_push,z1]
 have z3:(Sg (i9 x) (i9 y) s.heap x t y u).objs.size=s.heap.objs.size+3:=by rw [Heap.size_push,z2]
 have z4:(Sh (i9 x) (i9 y) s.heap x t y u).objs.size=s.heap.objs.size+4:=by rw [Heap.size_push,z3]
 have g5:(Qg (i9 x) (i9 y) s.heap x t y u).get? (Sh (i9 x) (i9 y) s.heap x t y u).objs.size=some _:=Heap.get?_push_size _ rfl;have g4:(Qg (i9 x) (i9 y) s.heap x t y u).get? (Sg (i9 x) (i9 y) s.heap x t y u).objs.size=some _:=Heap.get?_push_of_some _ (Heap.get?_push_size _ rfl);have g3:(Qg (i9 x) (i9 y) s.heap x t y u).get? (Sf (i9 x) (i9 y) s.heap x t y u).objs.size=some _:=Heap.get?_push_of_some _ (Heap.get?_push_of_some _ (Heap.get?_push_size _ rfl));have g2:(Qg (i9 x) (i9 y) s.heap x t y u).get? (Qf (i9 x) s.heap x t).objs.size=some _:=Heap.get?_push_of_some _ (Heap.get?_push_of_some _ (Heap.get?_push_of_some _ (Heap.get?_push_size _ rfl)));have g1:(Qg (i9 x) (i9 y) s.heap x t y u).get? s.heap.objs.size=some _:=Heap.get?_push_of_some _ (Heap.get?_push_of_some _ (Heap.get?_push_of_some _ (Heap.get?_push_of_some _ (Heap.get?_push_size _ rfl))));show _∧_
 refine ⟨⟨_,g5,rfl⟩,h _ (Sh (i9 x) (i9 y) s.heap x t y u).objs.size (Sf (i9 x) (i9 y) s.heap x t y u).objs.size (Sg (i9 x) (i9 y) s.heap x t y u).objs.size s.heap.objs.size (Qf (i9 x) s.heap x t).objs.size (by rw [z1,z2,z3,z4];exact Nz _) ⟨g5,g3,⟨_,_,g4⟩,⟨_,g1,rfl,rfl⟩,⟨_,g2,rfl,rfl⟩⟩ (λb hb=>?_) λc o q=>Heap.get?_push_of_some _ (Heap.get?_push_of_some _ (Heap.get?_push_of_some _ (Heap.get?_push_of_some _ (Heap.get?_push_of_some _ q))))⟩
 simp only [bq,List.mem_nil_iff,or_false] at hb;rcases hb with rfl|rfl|rfl|rfl|rfl<;>lia
end
theorem yf{e:Expr}{q:Str×List Expr}(h:sO e=some q):∃np p,e=.Call (.Name q.1 np) q.2 [] p:=by
 cases e with
 |Call g args eO p=>obtain ⟨hk,h⟩:=zG h;obtain ⟨x,hx,rfl⟩:=dR.mp h;obtain ⟨np,rfl⟩:=gI hx;exact ⟨np,p,by rw [List.isEmpty_iff.mp hk]⟩
 |_=>exact (bx _ h.symm).elim
theorem vW{ms:List ai}{mi:dw}(h:sP ms=some mi):∃a b,ms=[a,b]∧mi=.zip a b:=by
 match ms,h with
 |[a,b],h=>exact ⟨a,b,rfl,(bX h).symm⟩
section
variable {X:Ctx}{K:Frag}{mg mb:Str→Option Value}{n k:Nat}{f:Fr}{l:Loc}{h:Hp}{W W0:Wd}{F:List Addr}{t:Expr}{tup:Bool}
theorem Jt{o:Obj}{tk:Nat}{l:Loc}(S:eF X f l h W):Go [] W (W.hp (W.s.heap.push o) tk)∧eF X f l h (W.hp (W.s.heap.push o) tk):=
 have g:Go [] W (W.hp (W.s.heap.push o) tk):=.of (.same (dX _ _)) ⟨rfl,rfl,rfl,λ_ _ _ e=>Heap.get?_push_of_some _ e⟩
 ⟨g,g.qR S (S.rep.keeps λ_ _ e=>Heap.get?_push_of_some _ e)⟩
theorem Ju(L:cX X.D K X.h₀ mg mb)(H:fY X n f)(I:∀e,Al (aD k f.ci e) (iM X n f e)){x:Str}{np p:Pos}{args:List Expr}{ms:List ai}(hx:dg f.ci "range" x=true)(c:bY (CE k f.ci) args ms):Qe X n f t tup (.Call (.Name x np) args [] p) (.range ms):=λl h W S J h' e Q Ex q=>by
 obtain ⟨hx,hk⟩:=pR hx;refine lD e λvs e1 e=>map_some e λ_ e2 e3=>?_
 obtain ⟨v,e4,e2⟩:=aT.mp e2;obtain ⟨N,e5,e2⟩:=aT.mp e2;obtain ⟨hN,e6⟩:=x9 e2;have bd:=fR hN
 cases c with
 |nil=>
  cases (show ([],h)=vs from aI e1)
  exact no e4
 |cons c c2=>
  refine vR H L S c c2 hx hk (by rw [hx];decide+kernel) (by rw [hx];exact L.range.1) (by rw [hx];exact L.range.2) (lA I (.cons c c2) l h W S _ e1 _ Ex λW1 ws g1 r1=>?_)
  have hv:Vs X W1 [v] ws:=cW e4▸r1.2;obtain ⟨v1,r1',rfl,Wa,hn⟩:=cY.cons_inv hv;obtain ⟨t,rfl⟩:=eH (cN e5▸Wa);rw [hn.nil_inv];obtain ⟨g2,S2⟩:=Jt (tk:=W1.s.toks+1+1) (o:={cls:=.type "range",data:=.fields #[.int 0 W1.s.toks,.int N t,.int 1 (W1.s.toks+1)]}) r1.1;have eJ:It.items (gj N)=J:=e6.trans (congrArg Prod.fst e3);have eh:vs.2=h':=congrArg Prod.snd e3;subst eJ;exact call_range_1 (yc H.A.handled S2.rep (IsRange.new ..) (small_one (by decide) (by decide) (by lia) (by lia)) (R6 (g1.trans g2) S2 λiv W2 pv T g S=>q iv W2 pv T g (eh▸S)))
theorem Ey(L:cX X.D K X.h₀ mg mb)(H:fY X n f)(I:∀e,Al (aD k f.ci e) (iM X n f e)){x:Str}{np p:Pos}{a b:Expr}{ma Vl:ai}{es:List Expr}{qn:Nat}{qp:Pos}(hx:dg f.ci "zip" x=true)(ca:CE k f.ci a ma)(cb:CE k f.ci b Vl):Qe X n f (.Tuple es qn qp) true (.Call (.Name x np) [a,b] [] p) (.zip ma Vl):=λl h W S J h' e Q Ex q=>by
 obtain ⟨hx,hk⟩:=pR hx;refine gS e λv h1 e1 e=>gS e λw h2 e2 e=>map_some e λ_ e3 e4=>?_
 have c2:bY (CE k f.ci) [b] [Vl]:=.cons cb .nil;refine vR H L S ca c2 hx hk (by rw [hx];decide+kernel) (by rw [hx];exact L.zip.1) (by rw [hx];exact L.zip.2) (lA I (.cons ca c2) l h W S ([v,w],h2) (by show ((E X.D.pm n).ev ma l h).bind _=_;rw [e1];show (((E X.D.pm n).ev Vl l h1).bind _).bind _=_;rw [e2];rfl) _ Ex λW1 ws g1 r1=>?_)
 obtain ⟨xs,e5,e3⟩:=aT.mp e3;refine map_some e3 λys e6 e7=>?_
 clear e e1 e2 e3;have eJ:It.items (De xs ys)=J:=e7.trans (congrArg Prod.fst e4);have eh:h2=h':=congrArg Prod.snd e4;subst eJ;obtain ⟨va,r1',rfl,xT,hn⟩:=cY.cons_inv r1.2;obtain ⟨vb,r2',rfl,Ww,Ve⟩:=hn.cons_inv;rw [Ve.nil_inv];obtain ⟨t,rfl⟩:=dY ((show v=MV.str xs from bI e5)▸xT)
 obtain ⟨u,rfl⟩:=dY ((show w=MV.str ys from bI e6)▸Ww)
 refine tK λh3 z TI TO i1 i2 dj Z fr k3=>?_
 have g3:Go [] W1 (W1.hp h3 W1.s.toks):=.of (.same (fH k3)) ⟨rfl,rfl,rfl,λb o _ e=>k3 b o e⟩
 have sc:=Js (D:=X.D) (h₀:=X.h₀) (es:=es) (q:=qn) (p:=qp) H.A.handled (rL i1 (toStr xs) t) (rL i2 (toStr ys) u) dj;refine wpAny_pyIter_zip Z.hz (q _ (W1.hp h3 W1.s.toks) [z,TI,TO,i1,i2] _ (g1.trans g3) (eh▸g3.qR r1.1 (r1.1.rep.keeps k3)) sc Z λb hb=>?_)
 have f1:=c8 (fr b hb);exact ⟨g1.g.lv _ f1,λq=>(r1.1.rep.live q).elim λo eo=>no (f1.symm.trans eo),λo q=>no (f1.symm.trans (r1.1.rep.keep _ _ q)),sc.live 0 W1.G W1.ρ h3 Z b hb⟩
set_option tactic.hygienic true in
theorem zL(L:cX X.D K X.h₀ mg mb)(H:fY X n f)(I:∀k e,Al (aD k f.ci e) (iM X n f e))(k:Nat)(it:Expr):Al (jg k f.ci it) λmi=>(mZ mi=true→∃es q p,t=.Tuple es q p∧tup=true)→Qe X n f t tup it mi:=match k with
 |0=>Al.none
 |k+1=>by
  show Al (match sO it with
   |none=>(aD k f.ci it).map dw.val
   |some q=>if dg f.ci "zip" q.1=true then (q.2.mapM (aD k f.ci)).bind sP
    else if dg f.ci "range" q.1=true then (q.2.mapM (aD k f.ci)).map dw.range
    else (aD k f.ci it).map dw.val) _
  have hv:Al ((aD k f.ci it).map dw.val) λmi=>(mZ mi=true→∃es q p,t=.Tuple es q p∧tup=true)→Qe X n f t tup it mi:=Al.map λm e _=>Nu H (I k it m e)
  cases hc:sO it with
  |none=>exact hv
  |some q=>
   obtain ⟨np,p,rfl⟩:=yf hc;dsimp only;split
   ·rename_i hz
    exact Al.bind (Al.mapM _) λms c mi e hzz=>by
     obtain ⟨a,b,rfl,rfl⟩:=vW e;obtain ⟨es,qn,qp,rfl,rfl⟩:=hzz rfl;generalize q.2=args at c
     cases c with
     |cons ca c=>cases c with
      |cons cb c=>cases c;exact Ey L H (I k) hz ca cb
   ·split
    ·rename_i hr
     exact Al.map λms e _=>Ju L H (I k) hr (Al.mapM _ _ e)
    ·exact hv
theorem Ez{ci:CI}{it:Expr}{mi:dw}{env:Env}(ec:jg k ci it=some mi)(x:Value):foldedSetIterable it env x=pure x:=by
 cases it with
 |Set a b c=>
  cases k with
  |zero=>exact (bx _ ec.symm).elim
  |succ k=>cases k<;>exact (bx _ ec.symm).elim
 |_=>rfl
end
section
variable {X:Ctx}{K:Frag}{mg mb:Str→Option Value}{n k:Nat}{f:Fr}{l:Loc}{h:Hp}{W W0:Wd}{F:List Addr}{t:Expr}{tup:Bool}{it:Value}{at_:Nat→Hp→Option (Option MV)}{pv:List Addr}{T:Nat→Fz→List PR→Heap→Prop}{i:Nat}
inductive Si(X:Ctx)(f:Fr)(n i:Nat)(b:List aB)(xs:List MV)(r:Fl×Loc×Hp)(T:Nat→Fz→List PR→Heap→Prop)(pv:List Addr)(W0:Wd)(m:Nat)(s:Shared):Prop
 |mk {j:Nat} {l:Loc} {h:Hp} {W:Wd} (hs:W.s=s) (hm:m=(xs.drop j).length+1) (e:bO (E X.D.pm n) (.aP i) b (xs.drop j) l h=some r) (L:zK X f T pv (jy f.env) W0 j l h W)
set_option tactic.hygienic true in
theorem Jv(L:cX X.D K X.h₀ mg mb)(IH:kh X n)(IX:SX X n):WI X n:=λk f x q it b p i H hs mi ei hz l h W S r e Q Ex KQ=>gS e λI h1 e1 e=>by
 have HI:Qe X n f (.Name x q) false it mi:=zL L H (λk e=>IH k f e H) k it mi ei λz=>Bool.noConfusion (hz.symm.trans z)
 cases I with
 |oJ _=>exact no e
 |items xs=>
  refine wpAny_For (HI l h W S _ _ e1 _ _ λiv W2 pv T g2 S2 sc t0 Jw=>?_) (Ez ei)
  have nf:∀b∈pv,b∉jy f.env:=λb hb H9=>(S.lt b H9).elim λo eo=>no ((Jw b hb).1.symm.trans eo)
  have P:R4 f pv (jy f.env) W:=⟨λb hb=>(Jw b hb).1,nf,nf⟩
  have I0:Si X f n i (fj k f.ci b) xs r T pv W (xs.length+1) W2.s:=.mk (j:=0) rfl rfl e ⟨g2.nL,S2,t0,λb hb=>(Jw b hb).2⟩
  clear Jw e e1 HI g2 S2 t0 nf;refine codeAny_forLoop_any (Si X f n i (fj k f.ci b) xs r T pv W) (λm s' hI=>?_) _ I0
  obtain ⟨rfl,rfl,e2,Y⟩:=hI;rename_i j l1 h2 W3
  cases hd:xs.drop j with
  |nil=>rw [hd] at e2;exact Y.stop sc P (congrArg some (List.getElem?_eq_none (List.drop_eq_nil_iff.mp hd))) λH2 tk g4 S4 _=>wpAny_execs_nil (KQ (W3.hp H2 tk) .next g4 (aI e2▸⟨S4,rfl⟩))
  |cons y r'=>
   rw [hd] at e2;have hx:xs[j]? =some y:=by rw [← Nat.add_zero j, ← List.getElem?_drop,hd];rfl
   have CZ:xs.drop (j+1)=r':=by rw [← List.drop_drop,hd];rfl
   refine Y.next sc P (x:=y) (congrArg some hx) λv H1 tk go=>go _ _ λH2 Y2 _ hv=>wpAny_assign_Name (pK H.env x i hs l1 h2 _ y v Y2.S (hv.resolve_right λz=>Bool.noConfusion z.1) _ rfl _ _ λW5 u g5 S5=>?_)
   have e2:((E X.D.pm n).ex (fj k f.ci b) (fD l1 i y) h2).bind _=some r:=e2;refine gS e2 λf1 q e3 e2=>IX k f b _ h2 W5 H S5 _ e3 _ _ λW6 fw g6 r6=>?_
   have Y6:=(Y2.move sc P g5 S5).move sc P g6 r6.1
   cases f1 with
   |next=>
    obtain rfl:fw=.next:=r6.2
    exact ⟨_,Nat.lt_succ_self _,.mk (j:=j+1) rfl (by rw [CZ];rfl) (by rw [CZ];exact e2) Y6⟩
   |ret w=>obtain ⟨wv,rfl,hr⟩:=r6.2;exact KQ W6 (.ret wv) Y6.g (aI e2▸⟨r6.1,wv,rfl,hr⟩)
theorem NB(H:fY X n f)(t:Expr):Al (c7 f.ci t) λp=>∀l h W x v,eF X f l h W→Eo X.D W.G W.ρ p.2 x v W.s.heap→aJ X [f.env.locals] W (assign t f.env v) ((dU l p.1 p.2 x).bind λl'=>some (l',h)) (RU X f):=by
 cases t with
 |Name x p=>exact Al.map λi e l h W v va S hv=>aJ.to (λ_ _=>wpAny_assign_Name) (Ei H.env x i e l h W v va S (hv.resolve_right λz=>Bool.noConfusion z.1))
 |Tuple es c p=>
  exact Al.bind (Al.mapM es) λxs c1=>Al.bind (vM c1) λis c2=>Al.some λl h W v va S hv=>by
   rcases hv with hv|⟨_,ms,a,vals,rfl,rfl,ht,hr⟩
   ·exact zF H.A.handled (Ei H.env) c2 S hv
   ·exact Ej H.A.handled (Ei H.env) c2 S ht hr
 |_=>exact Al.none
structure ju(X:Ctx)(acc:Addr)(done:List MV)(vals:List Value)(W:Wd):Prop where
 pl:W.s.heap.PlainList acc vals.toArray
 v:Vs X W done vals
 pa:Pv W acc
theorem ju.go{acc:Addr}{done:List MV}{vals:List Value}{W':Wd}(x:ju X acc done vals W)(g:Go F W W')(hF:acc∉F):ju X acc done vals W':=⟨x.pl.imp λ_ e=>x.pa.kept g hF e,g.vs x.v,x.pa.go g hF⟩
theorem ju.hp{acc:Addr}{done:List MV}{vals:List Value}{H:Heap}{tk:Nat}(x:ju X acc done vals W)(k:∀o,W.s.heap.get? acc=some o→H.get? acc=some o):ju X acc done vals (W.hp H tk):=⟨x.pl.imp λ_ e=>k _ e,x.v,x.pa.1,x.pa.2.1,x.pa.2.2.imp λ_ e=>k _ e⟩
theorem zK.app{acc:Addr}{done:List MV}{vals:List Value}{v:MV}{y:Value}{H:Heap}{t0:Expr}(SC:vQ X t0 tup it at_ pv T)(EA:W0.s.heap.get? acc=none)(Sj:acc∉pv)(Vm:acc∉jy f.env)(L:zK X f T pv F W0 i l h W)(A:ju X acc done vals W)(hv:V X W v y)(hp:H.PlainList acc (vals.toArray.push y))(hs:Heap.SameBut acc W.s.heap H):
  zK X f T pv F W0 i l h (W.hp H W.s.toks)∧ju X acc (done++[v]) (vals++[y]) (W.hp H W.s.toks):=
 have kp:∀b o,b∉[acc]→W.s.heap.get? b=some o→H.get? b=some o:=λb o nb e=>(hs.2 b λz=>nb (z▸cy ..)).trans e
 have ka:∀b∈pv,b∉[acc]:=λb hb z=>Sj (dN.mp z▸hb)
 ⟨⟨L.g.tE (λb hb=>dN.mp hb▸EA) kp,L.S.tE kp λb hb=>dN.mp hb▸⟨A.pa,Vm⟩,SC.mono _ _ _ _ _ _ _ L.t (.refl _) (.refl _) L.S.rep.keep (λb o gb=>kp b o (λz=>A.pa.2.1 o (dN.mp z▸gb)) (L.S.rep.keep b o gb)) λb hb o e=>kp b o (ka b hb) e,λb hb=>⟨(L.pv b hb).1,(L.pv b hb).2.1,(L.pv b hb).2.2.imp λo e=>kp b o (ka b hb) e⟩⟩,(List.push_toArray ..)▸hp,A.v.append (.cons hv .nil),A.pa.1,A.pa.2.1,hp.imp' _ λ_ e=>e⟩
inductive Sk(X:Ctx)(f:Fr)(n:Nat)(me:ai)(is:List Nat)(tup:Bool)(gT:List ai)(at_:Nat→Hp→Option (Option MV))(all:List MV)(yg:Hp)(acc:Addr)(T:Nat→Fz→List PR→Heap→Prop)(pv:List Addr)(W0:Wd)(sz:Nat)(s:Shared):Prop
 |mk {i:Nat} {l:Loc} {h:Hp} {rest done:List MV} {vals:List Value} {W:Wd} (hs:W.s=s) (e:dW (E X.D.pm n) me is tup gT at_ sz i l h=some (rest,yg)) (xW:all=done++rest) (L:zK X f T pv [f.env.locals] W0 i l h W) (A:ju X acc done vals W)
set_option tactic.hygienic true in
theorem Jx(H:fY X n f)(IH:kh X n)(IT:ST X n){elt iter:Expr}{ifs:List Expr}{sc:Scope}{pos:Pos}{me:ai}{gT:List ai}{is:List Nat}{acc:Addr}{R:Result→Shared→Prop}{zM:List MV}{yg:Hp}(ct:c7 f.ci t=some (is,tup))(ce:aD k f.ci elt=some me)(cf:bY (CE k f.ci) ifs gT)
  (SC:vQ X t tup it at_ pv T) (P:R4 f pv [f.env.locals] W0) (EA:W0.s.heap.get? acc=none) (Sj:acc∉pv) (Vm:acc∉jy f.env) (hlen:zM.length≤aH)
  (KR:∀W' l' vals,Go [f.env.locals] W0 W'→eF X f l' yg W'→ju X acc zM vals W'→R (.ok .next) W'.s) {sz:Nat} {s:Shared} (I:Sk X f n me is tup gT at_ zM yg acc T pv W0 sz s):
  codeAny (model X.D.prog X.D.w) X.A (.compLoop (.ListComp elt [⟨t,iter,ifs,0⟩] sc pos) 0 it (.ref acc) f.env) R s:=by
 have Vn:acc∉[f.env.locals]:=λq=>Vm (dN.mp q▸cy ..)
 refine B8 (Sk X f n me is tup gT at_ zM yg acc T pv W0) (λsz s I=>?_) sz I
 generalize Np X f.env R=Ex;obtain ⟨rfl,e,xW,L,A⟩:=I;rename_i i l h rest done vals W
 cases sz with
 |zero=>exact no e
 |succ sz=>
 refine lD e λo qL e=>?_
 cases o with
 |none=>exact L.stop SC P qL λH1 tk g S kp=>KR _ l vals g ((show h=yg from congrArg Prod.snd (aI e))▸S) ((xW.trans ((congrArg (done++·) (show []=rest from congrArg Prod.fst (aI e)).symm).trans (cH _)))▸A.hp λo e=>kp _ _ Sj e)
 |some x=>
  refine lD e λl1 hb e=>gS e λb h1 ht e=>L.next SC P qL λv H1 tk go=>go _ _ λH2 L2 kp hx=>NB H t _ ct l h _ x v L2.S hx (l1,h) (by dsimp only;rw [hb];rfl) _ _ λW3 u g3 S3=>Cd (λe=>IT k f e H) cf l1 h W3 S3 _ ht _ _ λW4 b' g4 r4=>?_
  have L4:=(L2.move SC P g3 S3).move SC P g4.nL r4.1;have A4:=((A.hp (H:=H2) (tk:=tk) λo e=>kp _ _ Sj e).go g3 Vn).go g4.nL Vn
  obtain rfl:b'=b:=r4.2;clear hx kp go r4 g4 g3 S3 L2 qL hb ht
  cases b' with
  |false=>exact Exists.intro sz ⟨Nat.lt_succ_self _,.mk rfl e xW L4 A4⟩
  |true=>
   refine gS e λv h2 WU e=>lD e λq e1 e2=>IH k f elt H me ce l1 h1 W4 L4.S _ WU _ _ λW5 y g5 r5=>wpAny_list_append_plain (A4.go g5.nL Vn).pl (λh6 hp6 hs6=>?_) ?_
   ·have q6:=zK.app SC EA Sj Vm (L4.move SC P g5.nL r5.1) (A4.go g5.nL Vn) r5.2 hp6 hs6
    exact Exists.intro sz ⟨Nat.lt_succ_self _,.mk rfl (e1.trans (congrArg some (Prod.ext rfl (show q.2=yg from congrArg Prod.snd (aI e2))))) ((xW.trans (congrArg (done++·) (show v::q.1=rest from congrArg Prod.fst (aI e2)).symm)).trans (bJ done [v] q.1).symm) q6.1 q6.2⟩
   ·rw [List.size_toArray, ← A4.v.length]
    exact ak (ak (by rw [xW,aY];exact bZ ..) hlen) dh
end
theorem Ce{ci:CI}{env:Env}(he:iU ci env)(x:Str):env.kindOf x=ci.kinds.lookup x:=by unfold Env.kindOf;rw [he.kinds]
noncomputable abbrev tL(env:Env):Str×NameKind→List (Str×Addr)→Sem (ForInStep (List (Str×Addr))):=λx cs=>if (x.2==.free)=true then do let a ← cellOf env x.1;pure (ForInStep.yield ((x.1,a)::cs)) else pure (ForInStep.yield cs)
noncomputable def frees(names:List (Str×NameKind))(env:Env):List (Str×Addr):=(names.filter (·.2==.free)).map λp=>(p.1,(env.cells.lookup p.1).getD 0)
theorem tM{scope:Scope}{env:Env}(h:∀p∈scope.names,p.2=.free→∃c,env.cells.lookup p.1=some c):
  closureFor scope env=pure (frees scope.names env).reverse:=by
 have main:∀(names:List (Str×NameKind)) (cs:List (Str×Addr)),(∀p∈names,p.2=.free→∃c,env.cells.lookup p.1=some c)→
   (forIn names cs (tL env)=(pure ((frees names env).reverse++cs):Sem (List (Str×Addr)))):=by
  intro names
  induction names with
  |nil=>intro cs _;rw [List.forIn_nil];rfl
  |cons p r ih=>
   intro cs h1;obtain ⟨x,k⟩:=p
   by_cases hk:k=.free
   ·subst hk
    obtain ⟨c,hc⟩:=h1 (x,.free) (cy ..) rfl;have e:=ih ((x,c)::cs) (λp hp=>h1 p (bR _ hp))
    rw [List.forIn_cons];have:cellOf env x=pure c:=by unfold cellOf;rw [hc]
    have hf:frees ((x,NameKind.free)::r) env=(x,c)::frees r env:=by unfold frees;rw [List.filter_cons_of_pos (by rfl),List.map_cons,hc];rfl
    rw [hf,List.reverse_cons,bJ];show (cellOf env x >>=λa=>pure (ForInStep.yield ((x,a)::cs))) >>=_=_
    rw [this];exact e
   ·have DN:(k==NameKind.free)=false:=by cases k<;>first|rfl|exact absurd rfl hk
    have e:=ih cs (λp hp=>h1 p (bR _ hp))
    have hf:frees ((x,k)::r) env=frees r env:=by unfold frees;rw [List.filter_cons_of_neg (by rw [DN];exact bU)]
    rw [List.forIn_cons,hf];have hb:tL env (x,k) cs=pure (ForInStep.yield cs):=by unfold tL;dsimp only;rw [DN];rfl
    rw [hb];exact e
 have e:=main scope.names [] h;rw [cH] at e;unfold closureFor;exact (congrArg (λ(z:Sem (List (Str×Addr)))=>z >>=λcs=>pure cs) e)
theorem mD{names:List (Str×NameKind)}{env:Env}{x:Str}{c:Addr}(hl:∀p∈names,p.2=.free→∃c,env.cells.lookup p.1=some c)(h:(x,c)∈(frees names env).reverse):(x,NameKind.free)∈names∧env.cells.lookup x=some c:=by
 rw [List.mem_reverse] at h;unfold frees at h;obtain ⟨⟨y,k⟩,hp,e⟩:=List.mem_map.mp h;obtain ⟨hm,hk⟩:=List.mem_filter.mp hp;have hk:k=.free:=by cases k<;>first|rfl|cases hk
 subst hk;obtain ⟨c',hc⟩:=hl _ hm rfl;rw [hc] at e;cases e
 exact ⟨hm,hc⟩
theorem Cf{names:List (Str×NameKind)}{env:Env}{x:Str}(hl:∀p∈names,p.2=.free→∃c,env.cells.lookup p.1=some c)(h:(x,NameKind.free)∈names):∃c,(x,c)∈(frees names env).reverse∧env.cells.lookup x=some c:=by obtain ⟨c,hc⟩:=hl _ h rfl;refine ⟨c,?_,hc⟩;rw [List.mem_reverse];unfold frees;refine List.mem_map.mpr ⟨(x,.free),List.mem_filter.mpr ⟨h,rfl⟩,?_⟩;rw [hc];rfl
theorem nt{names:List (Str×NameKind)}{env:Env}(nd:(names.map (·.1)).Nodup):((frees names env).reverse.map (·.1)).Nodup:=by rw [List.map_reverse,(List.reverse_perm _).nodup_iff];unfold frees;rw [List.map_map];exact (List.Sublist.map _ List.filter_sublist).nodup nd
theorem tN{l:List (Str×Addr)}{cells:List (Str×Addr)}(nd:(l.map (·.1)).Nodup)(ndc:(cells.map (·.2)).Nodup)(h:∀x c,(x,c)∈l→(x,c)∈cells):(l.map (·.2)).Nodup:=by
 induction l with
 |nil=>exact List.nodup_nil
 |cons p r ih=>
  rw [List.map_cons,List.nodup_cons] at nd⊢;refine ⟨λq=>?_,ih nd.2 λx c hx=>h x c (bR _ hx)⟩
  obtain ⟨⟨y,c⟩,hy,e⟩:=List.mem_map.mp q;have e:c=p.2:=e;subst e;have:=vL ndc (h y _ (bR _ hy)) (h p.1 p.2 (cy ..));exact nd.1 (by rw [← this];exact List.mem_map.mpr ⟨(y,p.2),hy,rfl⟩)
theorem qT{l:List (Str×Addr)}{x:Str}{c:Addr}(nd:(l.map (·.1)).Nodup)(h:(x,c)∈l):l.lookup x=some c:=by
 induction l with
 |nil=>cases h
 |cons p r ih=>
  rw [List.map_cons,List.nodup_cons] at nd;rw [List.lookup_cons];rcases bq.mp h with h|h
  ·rw [← h];simp
  ·have:(x==p.1)=false:=by
    rw [beq_eq_false_iff_ne];intro e;exact nd.1 (by rw [← e];exact List.mem_map.mpr ⟨(x,c),h,rfl⟩)
   rw [this];exact ih nd.2 h
theorem eK{sc:Scope}(h:gw sc=true):sc.kind=.function∧(∀p∈sc.names,p.2≠.cell)∧(sc.names.map (·.1)).Nodup:=by
 unfold gw at h;simp only [Bool.and_eq_true] at h;obtain ⟨⟨⟨⟨a,_⟩,_⟩,b⟩,c⟩:=h;refine ⟨?_,λp hp e=>?_,bN c⟩
 ·cases q:sc.kind<;>first|rfl|(rw [q] at a;cases a)
 ·have:=List.all_eq_true.mp b p hp
  rw [e] at this;cases this
theorem pV{ci:CI}{sc:Scope}(h:freeOk ci sc=true):∀p∈sc.names,p.2=.free→ci.kinds.lookup p.1=some .cell∧p.1∈ci.slots:=λp hp e=>by
 have:=List.all_eq_true.mp h p hp;rw [e] at this;have:(ci.kinds.lookup p.1==some .cell&&ci.slots.contains p.1)=true:=this;rw [Bool.and_eq_true] at this;refine ⟨?_,List.contains_iff_mem.mp this.2⟩;have h1:=this.1
 cases q:ci.kinds.lookup p.1 with
 |none=>rw [q] at h1;exact absurd h1 (by decide)
 |some kd=>rw [q] at h1;cases kd<;>first|rfl|exact absurd h1 (by decide)
theorem zN{x:Str}:∀{a b:List Str},x∉a→(a++b).idxOf? x=(b.idxOf? x).map (·+a.length)
 |[],b,_=>by simp
 |y::a,b,h=>by
  have hy:(y==x)=false:=by rw [beq_eq_false_iff_ne];rintro rfl;exact h (cy ..)
  rw [List.cons_append,List.idxOf?_cons,hy,zN λq=>h (bR _ q)]
  cases b.idxOf? x with
  |none=>rfl
  |some j=>exact congrArg some (Nat.add_assoc j a.length 1)
set_option tactic.hygienic true in
theorem nu{x:Str}:∀{a b:List Str} {i:Nat},x∈a→(a++b).idxOf? x=some i→i< a.length
 |[],b,_,h,_=>by cases h
 |y::a,b,i,h,e=>by
  rw [List.cons_append,List.idxOf?_cons] at e;split at e
  ·cases e;exact Nat.zero_lt_succ _
  ·rename_i q
   obtain ⟨j,hj,rfl⟩:=dR.mp e;have hm:x∈a:=by
    rcases bq.mp h with rfl|h
    ·exact absurd (beq_self_eq_true x) q
    ·exact h
   exact Nat.succ_lt_succ (nu hm hj)
theorem pW{x:Str}:∀{b:List Str},x∈b→∃i,b.idxOf? x=some i
 |[],h=>by cases h
 |y::b,h=>by
  rw [List.idxOf?_cons]
  by_cases q:(y==x)=true
  ·exact ⟨0,by rw [if_pos q]⟩
  ·rw [if_neg q]
   have hm:x∈b:=by
    rcases bq.mp h with rfl|h
    ·exact absurd (beq_self_eq_true x) q
    ·exact h
   obtain ⟨i,e⟩:=pW hm;exact ⟨i+1,by rw [e];rfl⟩
theorem EB{ci:CI}{env:Env}(he:iU ci env)(sc:Scope):(relabel sc env).names=oK ci.kinds sc.names:=by
 unfold relabel oK;dsimp only;refine List.map_congr_left λp hp=>?_
 obtain ⟨x,k⟩:=p;dsimp only;rw [Ce he x,he.fn];have:(k==NameKind.free&&(ScopeKind.function==ScopeKind.function)&&(ci.kinds.lookup x==some NameKind.cell))=(k==.free&&ci.kinds.lookup x==some .cell):=by cases (k==NameKind.free)<;>rfl
 rw [this]
set_option tactic.hygienic true in
theorem jO{o:List (Str×NameKind)}{x:Str}:∀{names:List (Str×NameKind)},(oK o names).lookup x=some .local→(x,NameKind.local)∈names
 |[],h=>by cases h
 |(n,k)::r,h=>by
  have h:List.lookup x ((if k==.free&&o.lookup n==some .cell then (n,NameKind.cell) else (n,k))::oK o r)=some .local:=h;split at h
  ·rw [List.lookup_cons] at h
   split at h
   ·cases h
   ·exact bR _ (jO h)
  ·rw [List.lookup_cons] at h
   split at h
   ·rename_i q;cases h;rw [beq_iff_eq] at q;rw [q];exact cy ..
   ·exact bR _ (jO h)
set_option tactic.hygienic true in
theorem kL{o:List (Str×NameKind)}{x:Str}:∀{names:List (Str×NameKind)},(∀p∈names,p.2≠.cell)→(oK o names).lookup x=some .cell→(x,NameKind.free)∈names
 |[],_,h=>by cases h
 |(n,k)::r,hc,h=>by
  have h:List.lookup x ((if k==.free&&o.lookup n==some .cell then (n,NameKind.cell) else (n,k))::oK o r)=some .cell:=h;have C0:∀p∈r,p.2≠.cell:=λp hp=>hc p (bR _ hp)
  split at h
  ·rename_i z
   rw [Bool.and_eq_true] at z;have hk:k=.free:=by have:=z.1;cases k<;>first|rfl|cases this
   rw [List.lookup_cons] at h;split at h
   ·rename_i q;rw [beq_iff_eq] at q;rw [q,hk];exact cy ..
   ·exact bR _ (kL C0 h)
  ·rw [List.lookup_cons] at h
   split at h
   ·cases h;exact absurd rfl (hc (n,.cell) (cy ..))
   ·exact bR _ (kL C0 h)
theorem EC{names:List (Str×NameKind)}(nd:(names.map (·.1)).Nodup){x:Str}{k k':NameKind}(a:(x,k)∈names)(b:(x,k')∈names):k=k':=by
 induction names with
 |nil=>cases a
 |cons p r ih=>
  rw [List.map_cons,List.nodup_cons] at nd;rcases bq.mp a with a|a<;>rcases bq.mp b with b|b
  ·rw [← a] at b;exact (Prod.mk.inj b).2.symm
  ·exact absurd (by rw [← a];exact List.mem_map.mpr ⟨(x,k'),b,rfl⟩) nd.1
  ·exact absurd (by rw [← b];exact List.mem_map.mpr ⟨(x,k),a,rfl⟩) nd.1
  ·exact ih nd.2 a b
theorem Cg{names:List (Str×NameKind)}(nd:(names.map (·.1)).Nodup){x:Str}{k:NameKind}(h:(x,k)∈names):names.lookup x=some k:=by
 cases e:names.lookup x with
 |none=>
  exfalso;have:∀{l:List (Str×NameKind)},(x,k)∈l→l.lookup x≠none:=λ{l}=>by
   induction l with
   |nil=>intro h;cases h
   |cons p r ih=>
    intro h;rw [List.lookup_cons];rcases bq.mp h with h|h
    ·rw [← h];simp
    ·split
     ·simp
     ·exact ih h
  exact this h e
 |some k'=>rw [EC nd h (mem_lookup e)]
noncomputable abbrev yh(sc:Scope):Nat:=(sc.names.filter (·.2==.local)).length
section
variable {D:cP}{h₀:Heap}{G:Fz}{ρ:List PR}{h:Hp}{s:Shared}{A:Around}{Ex:Value→Shared→Prop}{K:Frag}{mg mb:Str→Option Value}{n:Nat}
theorem kM{ci:CI}{env:Env}{sc:Scope}{l:Loc}(zO:freeOk ci sc=true)(S:LR D G ρ ci env l s.heap):∀p∈sc.names,p.2=.free→∃c,env.cells.lookup p.1=some c:=λp hp e=>by obtain ⟨h1,h2⟩:=pV zO p hp e;obtain ⟨i,hi⟩:=pW h2;obtain ⟨c,_,e1,_⟩:=S.cell i p.1 hi h1;exact ⟨c,e1⟩
theorem nZ{env:Env}{sc:Scope}{C:Addr}{b:Addr}(hf:∀p∈sc.names,p.2=.free→∃c,env.cells.lookup p.1=some c)(hb:b∈jy (compEnvC sc (frees sc.names env).reverse C env)):b=C∨b∈jy env:=by
 rcases bq.mp hb with hb|hb
 ·exact .inl hb
 ·obtain ⟨⟨x,c⟩,hx,rfl⟩:=List.mem_map.mp hb
  exact .inr (jJ (mD hf hx).2)
theorem ED{ci:CI}{env:Env}{sc:Scope}{C:Addr}(he:iU ci env)(vX:gw sc=true)(hf:∀p∈sc.names,p.2=.free→∃c,env.cells.lookup p.1=some c)(hC:C∉jy env):iU (eW ci sc) (compEnvC sc (frees sc.names env).reverse C env) where
 kinds:=EB he sc
 fn:=(eK vX).1
 az:=he.az
 bi:=he.bi
 nodup:=by
  have nd:=he.nodup;unfold jy at nd⊢;rw [List.nodup_cons] at nd⊢;refine ⟨λq=>?_,tN (nt (eK vX).2.2) nd.2 λx c hx=>mem_lookup (mD hf hx).2⟩
  obtain ⟨⟨x,c⟩,hx,e⟩:=List.mem_map.mp q;have e:c=C:=e;subst e;exact hC (jJ (mD hf hx).2)
theorem Jy{ci:CI}{env:Env}{sc:Scope}{C:Addr}{l:Loc}{m:Str→Option Value}(vX:gw sc=true)(zO:freeOk ci sc=true)(S:SR D h₀ ci env G ρ l h s)(hn:s.heap.Ns C m)(h1:C∉cD ρ)(h2:∀o,¬ G C o):
  SR D h₀ (eW ci sc) (compEnvC sc (frees sc.names env).reverse C env) G ρ (List.replicate (yh sc) none++l) h s:=by
 have hf:=kM zO S.lr;obtain ⟨_,nc,nd⟩:=eK vX;have NC:((sc.names.filter (·.2==.local)).map (·.1)).length=yh sc:=cu ..;refine ⟨S.rep,⟨?_,⟨m,hn,λi x mv ei ek e=>?_⟩,λi x ei ek=>?_⟩,λb o g hb=>?_,λb hr hb=>?_,λb hb=>?_⟩
 ·show (List.replicate _ none++l).length=(List.map _ _++ci.slots).length
  rw [aY,aY,List.length_replicate,NC,S.lr.len]
 ·exfalso
  have hx:=jO ek;have hm:x∈(sc.names.filter (·.2==.local)).map (·.1):=List.mem_map.mpr ⟨(x,.local),List.mem_filter.mpr ⟨hx,rfl⟩,rfl⟩;have hi:=nu hm ei;rw [NC] at hi;rw [List.getElem?_append_left (by rw [List.length_replicate];exact hi),List.getElem?_replicate,if_pos hi] at e
  cases e
 ·have hx:=kL nc ek
  have hm:x∉(sc.names.filter (·.2==.local)).map (·.1):=λq=>by
   obtain ⟨⟨y,k⟩,hy,e⟩:=List.mem_map.mp q;have e:y=x:=e;subst e;obtain ⟨hy,hk⟩:=List.mem_filter.mp hy;have hk:k=.local:=by cases k<;>first|rfl|cases hk
   subst hk;exact absurd (EC nd hx hy) (by decide)
  have ei:((sc.names.filter (·.2==.local)).map (·.1)++ci.slots).idxOf? x=some i:=ei;rw [zN hm] at ei;obtain ⟨j,hj,rfl⟩:=dR.mp ei;obtain ⟨f1,_⟩:=pV zO _ hx rfl;obtain ⟨c,w,e1,hc,r⟩:=S.lr.cell j x hj f1;obtain ⟨c',C0,Z4⟩:=Cf hf hx;rw [e1] at Z4;cases Z4
  refine ⟨c,w,qT (nt nd) C0,hc,λmv q=>r mv ?_⟩
  rw [NC,List.getElem?_append_right (by rw [List.length_replicate];exact Nat.le_add_left ..),List.length_replicate,Nat.add_sub_cancel] at q
  exact q
 ·rcases nZ hf hb with rfl|hb
  ·exact h2 o g
  ·exact S.sg b o g hb
 ·rcases nZ hf hb with rfl|hb
  ·exact h1 hr
  ·exact S.sr b hr hb
 ·rcases nZ hf hb with rfl|hb
  ·obtain ⟨o,es,ep,e,_⟩:=hn
   exact ⟨o,e⟩
  ·exact S.lt b hb
end
section
variable {D:cP}{h₀:Heap}{K:Frag}{mg mb:Str→Option Value}{n:Nat}
theorem yi{gs:List Comprehension}{t it:Expr}{ifs:List Expr}(h:sN gs=some (t,it,ifs)):gs=[⟨t,it,ifs,0⟩]:=by
 cases gs with
 |nil=>exact no h
 |cons g r=>cases g with
  |mk a b c d=>
  obtain ⟨h1,h2⟩:=x9 (show (if (r.isEmpty&&d==0)=true then some (a,b,c) else none)=some (t,it,ifs) from h)
  obtain ⟨h3,h4⟩:=bl.mp h1;rw [List.isEmpty_iff.mp h3,show a=t from congrArg Prod.fst h2,show b=it from congrArg (λz:Expr×Expr×List Expr=>z.2.1) h2,show c=ifs from congrArg (λz:Expr×Expr×List Expr=>z.2.2) h2,show d=0 from beq_iff_eq.mp h4]
theorem Ci{m:Bool}{me:ai}{nv:Nat}{is:List Nat}{tup:Bool}{i:dw}{gT:List ai}{l:Loc}{h:Hp}{r:MV×Hp}(e:iI D.pm (E D.pm n) (.comp m me nv is tup i gT) l h=some r):
  ∃I h1 vs sz,je (E D.pm n) i l h=some (I,h1)∧dW (E D.pm n) me is tup gT (Bl I) sz 0 (List.replicate nv none++l) h1=some (vs,r.2)∧vs.length≤aH∧r.1=.lst vs:=
 gS e λI h1 e1 e=>gS e λvs h2 e2 e=>
  have e:=x9 e
  ⟨I,h1,vs,_,e1,(show r.2=h2 from congrArg Prod.snd e.2.symm)▸e2,bN (bl.mp e.1).2,congrArg Prod.fst e.2.symm⟩
end
section
variable {X:Ctx}{K:Frag}{mg mb:Str→Option Value}{n k:Nat}{f:Fr}{l:Loc}{h:Hp}{W W0:Wd}{F:List Addr}
theorem eF.over(S:eF X f l h W){W':Wd}{P:List Addr}{h':Hp}(g:Go P W W')(R:Ok X h' W')(hP:∀b∈P,b∉jy f.env):eF X f l h' W':=by
 have kf:∀b∈jy f.env,∀o,W.s.heap.get? b=some o→W'.s.heap.get? b=some o:=λb hb o e=>g.st.keep b o (λq=>(List.mem_append.mp q).elim (λq=>S.sr b q hb) λq=>hP b q hb) e
 have ND:∀{b:Addr},W.s.heap.get? b=none→b∉jy f.env:=λ{b} z hb=>by obtain ⟨o,eo⟩:=S.lt b hb;rw [z] at eo;cases eo
 exact ⟨R,S.lr.keep g.g.g g.g.r kf,λb o hg hb=>(g.g.gn b o hg).elim (λq=>S.sg b o q hb) λq=>ND q hb,λb hr hb=>(g.g.rn b hr).elim (λq=>S.sr b q hb) λq=>ND q hb,λb hb=>(S.lt b hb).imp λo eo=>kf b hb o eo⟩
theorem Go.wide{W':Wd}{P:List Addr}(g:Go P W W')(h:∀b∈P,b∈F):Go F W W':=⟨g.g,g.st.weaken λb q=>(List.mem_append.mp q).elim (List.mem_append_left _) λq=>List.mem_append_right _ (h b q)⟩
theorem Go.drop{W':Wd}{C:Addr}{H:Heap}{t:Nat}(g:Go (C::F) W W')(fC:W.s.heap.get? C=none)(hs:Heap.SameBut C W'.s.heap H):Go F W (W'.hp H t):=by
 refine ⟨⟨g.g.g,g.g.r,g.g.gn,g.g.rn,g.g.rs,λb q=>?_⟩,⟨g.st.gens,g.st.drawn,g.st.os,λb o nb e=>?_⟩⟩
 ·by_cases z:b=C
  ·exact z▸fC
  ·exact g.g.lv b ((hs.2 b z)▸q)
 ·have z:b≠C:=λz=>by rw [z,fC] at e;cases e
  refine (hs.2 b z).trans (g.st.keep b o (λq=>?_) e)
  rcases List.mem_append.mp q with q|q
  ·exact nb (List.mem_append_left _ q)
  ·exact (bq.mp q).elim z λq=>nb (List.mem_append_right _ q)
theorem EE{acc:Addr}{vs:List MV}{vals:List Value}{W':Wd}{P:List Addr}{hE:Hp}(A:ju X acc vs vals W')(g:Go P W W')(EA:W.s.heap.get? acc=none)(hl:vs.length≤aH)(R:Ok X hE W'):
  ∃W2,W2.s=W'.s∧Go P W W2∧Ok X hE W2∧V X W2 (.lst vs) (.ref acc)∧∀b,b≠acc→Pv W' b→Pv W2 b:=by
 obtain ⟨m,ho⟩:=A.pl;exact ⟨⟨W'.G.add acc _,W'.ρ,W'.s⟩,rfl,⟨⟨g.g.g.trans (Fz.jh _ _ _),g.g.r,λx o q=>q.elim (g.g.gn x o) λq=>.inr (q.1▸EA),g.g.rn,g.g.rs,g.g.lv⟩,g.st⟩,R.freeze ho A.pa.1,⟨hl,_,_,vals,m,rfl,.inr ⟨rfl,rfl⟩,rfl,rfl,cY.mono (Fz.jh _ _ _) (.refl _) _ _ A.v⟩,λb nb p=>⟨p.1,λo q=>q.elim (p.2.1 o) λq=>nb q.1,p.2.2⟩⟩
end
section
variable {X:Ctx}{K:Frag}{mg mb:Str→Option Value}{n k:Nat}{f:Fr}{l:Loc}{h:Hp}{W W0:Wd}{F:List Addr}
theorem eF.ND(S:eF X f l h W){b:Addr}(z:W.s.heap.get? b=none):b∉jy f.env:=λhb=>by obtain ⟨o,eo⟩:=S.lt b hb;rw [z] at eo;cases eo
theorem zP(R:Ok X h W){b:Addr}(z:W.s.heap.get? b=none):b∉cD W.ρ∧∀o,¬ W.G b o:=⟨λq=>(R.live q).elim λo eo=>(bx _ (eo.symm.trans z)).elim,λo q=>bx _ ((R.keep _ _ q).symm.trans z)⟩
noncomputable abbrev rM(f:Fr)(sc:Scope)(C:Addr):Fr:=⟨eW f.ci sc,compEnvC sc (frees sc.names f.env).reverse C f.env⟩
noncomputable abbrev vY:Obj:={cls:=.type "list",dict:=none,data:=.seq ([]:List Value).toArray}
theorem Cj{H pQ:Heap}{ob:Obj}(M0:Heap.SameBut (H.push vY).objs.size ((H.push vY).push ob) pQ){m:Str→Option Value}(hn:pQ.Ns (H.push vY).objs.size m):
  H.objs.size≠(H.push vY).objs.size∧H.get? H.objs.size=none∧H.get? (H.push vY).objs.size=none∧(∀b o,H.get? b=some o→pQ.get? b=some o)∧pQ.PlainList H.objs.size ([]:List Value).toArray∧(∃o,pQ.get? H.objs.size=some o):=by
 have hz:(H.push vY).objs.size=H.objs.size+1:=Heap.size_push ..;have ne:H.objs.size≠(H.push vY).objs.size:=by rw [hz];exact Nat.ne_of_lt (Nat.lt_succ_self _)
 have e:=M0.extBut _ _ ne (Heap.get?_push_of_some _ (Heap.get?_push_size _ rfl));exact ⟨ne,c8 (bf _),c8 (by rw [hz];exact Nat.le_succ _),λb o e=>M0.extBut b o (by rw [hz];exact Nat.ne_of_lt (Nat.lt_succ_of_lt (Heap.lt_size e))) (Heap.get?_push_of_some _ (Heap.get?_push_of_some _ e)),⟨_,e⟩,⟨_,e⟩⟩
theorem Ck(H:fY X n f)(IH:kh X n)(IT:ST X n){elt it t:Expr}{ifs:List Expr}{sc:Scope}{pos:Pos}{tup:Bool}{me:ai}{gT:List ai}{is:List Nat}{R:Result→Shared→Prop}{at_:Nat→Hp→Option (Option MV)}{pv:List Addr}{T:Nat→Fz→List PR→Heap→Prop}{iv:Value}{acc C:Addr}{h1 hE:Hp}{vs:List MV}{sz:Nat}{W4:Wd}
  (vX:gw sc=true) (zO:freeOk f.ci sc=true) (ct:c7 (eW f.ci sc) t=some (is,tup)) (ee:CE k (eW f.ci sc) elt me) (ef:bY (CE k (eW f.ci sc)) ifs gT)
  (S:eF X f l h W) (g4:Go [] W W4) (S4:eF X (rM f sc C) (List.replicate (yh sc) none++l) h1 W4) (A4:ju X acc [] [] W4) (ne:acc≠C) (fa:W.s.heap.get? acc=none) (fC:W.s.heap.get? C=none)
  (src:vQ X t tup iv at_ pv T) (t4:T 0 W4.G W4.ρ W4.s.heap) (hp:∀b∈pv,(W.s.heap.get? b=none∧Pv W4 b)∧b≠acc∧b≠C) (run:dW (E X.D.pm n) me is tup gT at_ sz 0 (List.replicate (yh sc) none++l) h1=some (vs,hE)) (hlen:vs.length≤aH)
  (KP:∀m W2,Go [C] W W2→eF X f l hE W2→V X W2 (.lst vs) (.ref acc)→Pv W2 C→W2.s.heap.Ns C m→R (.ok .next) W2.s):
  codeAny (model X.D.prog X.D.w) X.A (.compLoop (.ListComp elt [⟨t,it,ifs,0⟩] sc pos) 0 iv (.ref acc) (rM f sc C).env) R W4.s:=by
 have hf:=kM zO S.lr;have Hf:fY X n (rM f sc C):=⟨⟨H.ci.az,H.ci.nm,H.ci.fF⟩,ED H.env vX hf (S.ND fC),H.A⟩;have fr:∀b,W.s.heap.get? b=none→b≠C→b∉jy (rM f sc C).env:=λb z nb hb=>(nZ hf hb).elim nb (S.ND z)
 have hC:C∈jy (rM f sc C).env:=cy ..;exact Jx (f:=rM f sc C) (W0:=W) Hf IH IT ct ee ef src ⟨λb hb=>(hp b hb).1.1,λb hb=>fr b (hp b hb).1.1 (hp b hb).2.2,λb hb z=>(hp b hb).2.2 (dN.mp z)⟩ fa (λq=>(hp _ q).2.1 rfl) (fr acc fa ne) hlen (λW' l' vals g' S' A'=>by obtain ⟨W2,hs,g2,R2,hv,kp⟩:=EE A' g' fa hlen S'.rep;obtain ⟨m,hm,_⟩:=S'.lr.aP;exact hs▸KP m W2 g2 (S.over g2 R2 λb hb=>dN.mp hb▸S.ND fC) hv (kp C (Ne.symm ne) ⟨λq=>S'.sr _ q hC,λo q=>S'.sg _ o q hC,S'.lt _ hC⟩) (hs▸hm)) (.mk (done:=[]) rfl run rfl ⟨g4.nL,S4,t4,λb hb=>(hp b hb).1.2⟩ A4)
theorem rN(L:cX X.D K X.h₀ mg mb)(H:fY X n f)(IH:kh X n)(IT:ST X n){elt it t:Expr}{ifs:List Expr}{sc:Scope}{pos WW:Pos}{mu tup:Bool}{me:ai}{mi:dw}{gT:List ai}{is:List Nat}{r:MV×Hp}{Q Ex:Value→Shared→Prop}{use:Option (Value→Sem Unit)}
  (vX:gw sc=true) (zO:freeOk f.ci sc=true) (ei:jg k f.ci it=some mi) (ct:c7 (eW f.ci sc) t=some (is,tup)) (hz:mZ mi=true→∃es q p,t=.Tuple es q p∧tup=true) (ee:CE k (eW f.ci sc) elt me) (ef:bY (CE k (eW f.ci sc)) ifs gT)
  (S:eF X f l h W) (e:iI X.D.pm (E X.D.pm n) (.comp mu me (yh sc) is tup mi gT) l h=some r)
  (KP:∀acc C m W2,Go [C] W W2→eF X f l r.2 W2→V X W2 r.1 (.ref acc)→Pv W2 C→W.s.heap.get? C=none→C∉jy f.env→W2.s.heap.Ns C m→compPost (model X.D.prog X.D.w) X.A Ex use Q (.ref acc) C (.ok .next) W2.s):
  bS X (comprehension (.ListComp elt [⟨t,it,ifs,0⟩] sc pos) sc f.env WW (newList []) false (eval it f.env) use) Q Ex W.s:=by
 obtain ⟨I,h1,vs,sz,e1,run,hlen,er⟩:=Ci e;have hf:=kM zO S.lr;refine wpAny_comprehension_free (g:=⟨t,it,ifs,0⟩) (gs:=[]) rfl (Ez ei) (tM hf) (eK vX).1 (λx hx hl=>Cg (eK vX).2.2 (by rw [← hl];exact hx)) ?_
 refine zL L H (λk e=>IH k f e H) k it mi ei hz l h W S I h1 e1 _ Ex λiv W2 pv T g2 S2 src t0 Jw=>?_
 refine wpAny_newObj_type (wpAny_newFunctionEnv (eK vX).2.1 (by intro y hy;simp at hy) (λpQ MX M0=>?_) (eK vX).1)
 obtain ⟨ne,fa,fC,kp,i8,Sl⟩:=Cj M0 MX;dsimp only at MX⊢;generalize (W2.s.heap.push vY).objs.size=C at MX ne fC⊢;generalize W2.s.heap.objs.size=acc at fa ne i8 Sl⊢;clear M0;have Vo:=g2.g.lv _ fa;have fC0:=g2.g.lv _ fC;have g4:Go [] W2 (W2.hp pQ (W2.s.toks+0)):=.of (.same (fH kp)) ⟨rfl,rfl,rfl,λb o _ z=>kp b o z⟩
 have S4:=g4.qR S2 (S2.rep.keeps kp);have main:=λ(Z:Wd) (hZ:Z=W2.hp pQ (W2.s.toks+0))=>Ck (n:=n) (pos:=pos) (it:=it) (W4:=Z) H IH IT vX zO ct ee ef S (hZ▸g2.trans g4) (hZ▸Jy vX zO S4 MX (zP S2.rep fC).1 (zP S2.rep fC).2) (hZ▸⟨i8,.nil,(zP S2.rep fa).1,(zP S2.rep fa).2,Sl⟩) ne (g2.g.lv _ fa) (g2.g.lv _ fC) src (hZ▸src.mono _ _ _ _ _ _ _ t0 (.refl _) (.refl _) S2.rep.keep S4.rep.keep λb _ o z=>kp b o z) (λb hb=>⟨⟨(Jw b hb).1,hZ▸(Jw b hb).2.go g4 dm⟩,λz=>(Jw b hb).2.2.2.elim λo eo=>(bx _ (eo.symm.trans (z▸fa))).elim,λz=>(Jw b hb).2.2.2.elim λo eo=>(bx _ (eo.symm.trans (z▸fC))).elim⟩) run hlen λm W3 g S3 hv p hn=>KP acc C m W3 g S3 (er▸hv) p (g2.g.lv _ fC) (S.ND (g2.g.lv _ fC)) hn
 refine codeAny_compStart_list (main _ rfl) ?_;exact src.self 0 W2.G W2.ρ _ _ _ (src.mono _ _ _ _ _ _ _ t0 (.refl _) (.refl _) S2.rep.keep (λb o g=>kp b o (S2.rep.keep b o g)) λb _ o z=>kp b o z) (main _ rfl)
theorem yj{ci:CI}{t:Expr}{is:List Nat}(e:c7 ci t=some (is,true)):∃es q p,t=.Tuple es q p:=by
 cases t with
 |Name x p=>exact (dR.mp e).elim λi z=>Bool.noConfusion (Prod.mk.inj z.2).2
 |Tuple es q p=>exact ⟨_,_,_,rfl⟩
 |_=>exact (bx _ e.symm).elim
theorem Jz{ci:CI}{t:Expr}{p:List Nat×Bool}(e:c7 ci t=some p)(h:p.2≠false):∃es q r,t=.Tuple es q r∧p.2=true:=by
 obtain ⟨is,tup⟩:=p
 cases tup with
 |false=>exact (h rfl).elim
 |true=>exact (yj e).elim λa b=>b.elim λb c=>c.elim λc d=>⟨a,b,c,d,rfl⟩
theorem zQ{ci:CI}{elt:Expr}{gs:List Comprehension}{sc:Scope}{pos:Pos}{P:ai→Prop}(q:∀k t it ifs mi is tup me gT,gs=[⟨t,it,ifs,0⟩]→gw sc=true→freeOk ci sc=true→jg k ci it=some mi→c7 (eW ci sc) t=some (is,tup)→(mZ mi=true→∃es q p,t=.Tuple es q p∧tup=true)→
  CE k (eW ci sc) elt me→bY (CE k (eW ci sc)) ifs gT→P (.comp (zg ci pos) me (yh sc) is tup mi gT)):Al (aD k ci (.ListComp elt gs sc pos)) P:=by
 cases k with
 |zero=>exact Al.none
 |succ k=>
 show Al (match sN gs with
  |some (t,it,ifs)=>if (gw sc&&freeOk ci sc)=true then (jg k ci it).bind λmi=>(c7 (eW ci sc) t).bind λp=>match p with
   |(is,tup)=>if (mZ mi&& !tup)=true then none else
    (aD k (eW ci sc) elt).bind λme=>(ifs.mapM (aD k (eW ci sc))).bind λgT=>some (.comp (zg ci pos) me (yh sc) is tup mi gT) else none
  |none=>none) P
 cases hg:sN gs with
 |none=>exact Al.none
 |some p=>
 obtain ⟨t,it,ifs⟩:=p;exact Al.ite λok=>Al.bind Al.self λmi ei=>Al.bind Al.self λ(is,tup) ct=>Al.pq λhz=>Al.bind Al.self λme ee=>Al.bind (Al.mapM ifs) λgT ef=>Al.some
  (q k t it ifs mi is tup me gT (yi hg) (bl.mp ok).1 (bl.mp ok).2 ei ct (λz=>Jz ct (λy=>hz (by rw [z,show tup=false from y];rfl))) ee ef)
theorem rO{C:Addr}{H H':Heap}(s:Heap.SameBut C H H')(b:Addr)(o:Obj)(nb:b∉[C])(e:H.get? b=some o):H'.get? b=some o:=(s.2 b λz=>nb (z▸cy ..)).trans e
theorem sk(L:cX X.D K X.h₀ mg mb)(IH:kh X n)(IT:ST X n):SK X n:=λk f elt gs sc p H=>zQ λk t it ifs mi is tup me gT hg vX zO ei ct hz ee ef l h W S r e Q Ex KQ=>by
 subst hg;rw [eval_ListComp];refine rN L H.pred IH IT vX zO ei ct hz ee ef S e λacc C m W2 g S2 hv pC fC hC hn=>?_
 exact ⟨m,hn,λh2 hs=>KQ (W2.hp h2 W2.s.toks) _ (g.drop fC hs) ⟨S2.tE (rO hs) λb hb=>dN.mp hb▸⟨pC,hC⟩,hv⟩⟩
theorem sku(L:cX X.D K X.h₀ mg mb)(IH:kh X n)(IT:ST X n):Qd X n:=λk f elt gs sc p x q i H hs=>zQ λk t it ifs mi is tup me gT hg vX zO ei ct hz ee ef l h W S r e Q Ex KQ=>by
 subst hg;obtain ⟨r0,e1,e2⟩:=aT.mp e;cases e2
 show bS X (do let _ ← comprehension (.ListComp elt [⟨t,it,ifs,0⟩] sc p) sc f.env _ (newList []) false (eval it f.env) (some (assign (.Name x q) f.env))) _ _ W.s
 refine wpAny_bind (wpAny_mono (rN (Q:=λ_ s'=>Q () s') L H.pred IH IT vX zO ei ct hz ee ef S e1 λacc C m W2 g S2 hv pC fC hC hn=>?_) (λ_ s' hq=>wpAny_pure hq) λ_ _ z=>z)
 refine wpAny_assign_Name (pK H.env x i hs l r0.2 W2 r0.1 _ S2 hv _ rfl _ _ λW3 u g3 S3=>?_)
 exact ⟨m,hn.at' λo e=>pC.kept g3 hC e,λh4 Z5=>KQ (W3.hp h4 W3.s.toks) () (((g.wide λb hb=>dN.mp hb▸cy ..).trans (g3.wide λb hb=>bR _ hb)).drop fC Z5) (S3.tE (rO Z5) λb hb=>dN.mp hb▸⟨pC.go g3 hC,hC⟩)⟩
end
theorem WX(X:Ctx):kh X 0∧ST X 0∧SX X 0:=⟨λk f e H m _ l h W S=>aJ.no,λk f e H m _ l h W S=>aJ.no,λk f ss l h W H S=>aJ.no⟩
theorem EF{X:Ctx}{n:Nat}{K:Frag}{mg mb:Str→Option Value}(L:cX X.D K X.h₀ mg mb)(HU:∀m,n=m+1→Qd X m)(h:kh X n∧ST X n∧SX X n)(c:SC X.D X.h₀ n):kh X (n+1)∧ST X (n+1)∧SX X (n+1):=
 have e:=Eb L h.1 h.2.1 c (sk L h.1 h.2.1)
 ⟨e,B4 h.1 h.2.1 e,Jl L h.1 h.2.1 h.2.2 (Jv L h.1 h.2.2) HU⟩
def Snd(X:Ctx)(n:Nat):Prop:=(∀m,n=m+1→Qd X m)∧kh X n∧ST X n∧SX X n
theorem sound{D:cP}{h₀:Heap}{K:Frag}{mg mb:Str→Option Value}(L:cX D K h₀ mg mb)(n:Nat):(∀A,Snd ⟨D,h₀,A⟩ n)∧SC D h₀ n:=by
 induction n with
 |zero=>exact ⟨λA=>⟨λ_ e=>(Nat.succ_ne_zero _ e.symm).elim,WX _⟩,λA i fe fa pos kv bs kn xs vs ws h W _ _ _ _ _ _ _ _ _ e=>(bx _ e.symm).elim⟩
 |succ n ih=>exact ⟨λA=>⟨λm e=>Nat.succ.inj e▸sku (X:=⟨D,h₀,A⟩) L (ih.1 A).2.1 (ih.1 A).2.2.1,EF (X:=⟨D,h₀,A⟩) L (ih.1 A).1 (ih.1 A).2 ih.2⟩,D0 L λA=>(ih.1 A).2.2.2⟩
end
section
open PySem
structure eN where
 v:Nat→MV
 l:Nat→List MV
 o:Nat→Option MV
noncomputable def Sm:MV→Bool
 |.fn i=>Nat.ble 1000 i
 |_=>false
mutual
noncomputable def MV.I(ρ:eN):MV→MV
 |.none=>.none
 |.bool b=>.bool b
 |.int i=>.int i
 |.str s=>.str s
 |.tup l=>.tup (MV.Is ρ l)
 |.lst l=>.lst (MV.Is ρ l)
 |.jD ks vs=>.jD ks vs
 |.fU c l=>.fU c (MV.Is ρ l)
 |.obj i=>.obj i
 |.fn i=>cond (Nat.ble 1000 i) (ρ.v (i - 1000)) (.fn i)
 |.cls i=>.cls i
 |.bm o f=>.bm o f
 |.bi b=>.bi b
noncomputable def MV.Is(ρ:eN):List MV→List MV
 |[]=>[]
 |a::r=>MV.I ρ a::MV.Is ρ r
end
mutual
noncomputable def yk:MV→Bool
 |.tup l=>Cm l
 |.lst l=>Cm l
 |.fU _ l=>Cm l
 |.fn i=> !Nat.ble 1000 i
 |.none=>true
 |.bool _=>true
 |.int _=>true
 |.str _=>true
 |.jD _ _=>true
 |.obj _=>true
 |.cls _=>true
 |.bm _ _=>true
 |.bi _=>true
noncomputable def Cm:List MV→Bool
 |[]=>true
 |a::r=>yk a&&Cm r
end
inductive mF where
 |inst (c:Nat) (attrs:List (Nat×MV))
 |list (p:Option Nat) (l:List MV)
noncomputable abbrev bg:=List mF
inductive SL where
 |u
 |v (m:MV)
 |o (i:Nat)
noncomputable abbrev aR:=List SL
noncomputable def pI(ρ:eN):Option Nat→List MV
 |none=>[]
 |some i=>ρ.l i
noncomputable def cat(ρ:eN)(p:Option Nat)(l:List MV):List MV:=match p with
 |none=>l
 |some i=>(match l with
  |[]=>ρ.l i
  |a::r=>ρ.l i++a::r)
noncomputable def kN(ρ:eN)(l:List (Nat×MV)):List (Nat×MV):=l.map λp=>(p.1,p.2.I ρ)
noncomputable def mF.I(ρ:eN):mF→nK
 |.inst c a=>.inst c (kN ρ a)
 |.list p l=>.list (cat ρ p (MV.Is ρ l))
noncomputable def aV(ρ:eN)(h:bg):Hp:=h.map (mF.I ρ)
noncomputable def SL.I(ρ:eN):SL→Option MV
 |.u=>none
 |.v m=>some (m.I ρ)
 |.o i=>ρ.o i
noncomputable def aG(ρ:eN)(l:aR):Loc:=l.map (SL.I ρ)
noncomputable def Fl.I(ρ:eN):Fl→Fl
 |.next=>.next
 |.ret v=>.ret (v.I ρ)
noncomputable def fnOf:MV→Option Nat
 |.fn i=>some i
 |_=>none
noncomputable def Sn:MV→Option BI
 |.bi b=>some b
 |_=>none
noncomputable def gU{α:Type}(o:Option α)(f:α→Bool):Bool:=match o with
 |none=>false
 |some a=>f a
noncomputable def yl:List Nat→List Nat→Bool
 |[],b=>b.isEmpty
 |a::r,b=>match b with
  |[]=>false
  |c::q=>Nat.beq a c&&yl r q
mutual
noncomputable def nM:MV→MV→Bool
 |.none,b=>isNone b
 |.bool x,b=>gU (boolOf b) λy=>decide (x=y)
 |.int x,b=>gU (intOf b) λy=>decide (x=y)
 |.str x,b=>gU (strOf b) λy=>yl x y
 |.tup l,b=>gU (uI b) λr=>nN l r
 |.lst l,b=>gU (gi b) λr=>nN l r
 |.jD ks vs,b=>gU (uJ b) λr=>nN ks r.1&&nN vs r.2
 |.fU c l,b=>gU (C9 b) λr=>Nat.beq c r.1&&nN l r.2
 |.obj i,b=>gU (objOf b) λj=>Nat.beq i j
 |.fn i,b=>gU (fnOf b) λj=>Nat.beq i j
 |.cls i,b=>gU (zc b) λj=>Nat.beq i j
 |.bm o f,b=>gU (Bj b) λj=>Nat.beq o j.1&&Nat.beq f j.2
 |.bi k,b=>gU (Sn b) λj=>decide (k=j)
noncomputable def nN:List MV→List MV→Bool
 |[],b=>b.isEmpty
 |a::r,b=>match b with
  |[]=>false
  |c::q=>nM a c&&nN r q
end
noncomputable def Hq{α:Type}(f:α→α→Bool):List α→List α→Bool
 |[],b=>b.isEmpty
 |a::r,b=>match b with
  |[]=>false
  |c::q=>f a c&&Hq f r q
noncomputable def So(a b:Option Nat):Bool:=decide (a=b)
noncomputable def Z6:mF→mF→Bool
 |.inst c a,o=>(match o with
  |.inst d b=>Nat.beq c d&&Hq (λp q=>Nat.beq p.1 q.1&&nM p.2 q.2) a b
  |.list _ _=>false)
 |.list p l,o=>(match o with
  |.list q m=>So p q&&nN l m
  |.inst _ _=>false)
noncomputable def EG(a b:bg):Bool:=Hq Z6 a b
noncomputable def Cn:SL→SL→Bool
 |.u,b=>(match b with|.u=>true|_=>false)
 |.v m,b=>(match b with|.v n=>nM m n|_=>false)
 |.o i,b=>(match b with|.o j=>Nat.beq i j|_=>false)
noncomputable def Co:Fl→Fl→Bool
 |.next,b=>(match b with|.next=>true|_=>false)
 |.ret v,b=>(match b with|.ret w=>nM v w|_=>false)
mutual
noncomputable def kW:ai→ai→Bool
 |.b7 a0,b=>if h:b.ctorIdx=0 then ai.b7.elim b h λb0=>nM a0 b0 else false
 |.aP a0,b=>if h:b.ctorIdx=1 then ai.aP.elim b h λb0=>Nat.beq a0 b0 else false
 |.az a0,b=>if h:b.ctorIdx=2 then ai.az.elim b h λb0=>nM a0 b0 else false
 |.aX a0 a1,b=>if h:b.ctorIdx=3 then ai.aX.elim b h λb0 b1=>kW a0 b0&&Nat.beq a1 b1 else false
 |.bin a0 a1 a2,b=>if h:b.ctorIdx=4 then ai.bin.elim b h λb0 b1 b2=>decide (a0=b0)&&kW a1 b1&&kW a2 b2 else false
 |.bE a0,b=>if h:b.ctorIdx=5 then ai.bE.elim b h λb0=>mG a0 b0 else false
 |.fc a0,b=>if h:b.ctorIdx=6 then ai.fc.elim b h λb0=>mG a0 b0 else false
 |.bM a0,b=>if h:b.ctorIdx=7 then ai.bM.elim b h λb0=>kW a0 b0 else false
 |.neg a0,b=>if h:b.ctorIdx=8 then ai.neg.elim b h λb0=>kW a0 b0 else false
 |.cmp a0 a1 a2,b=>if h:b.ctorIdx=9 then ai.cmp.elim b h λb0 b1 b2=>kW a0 b0&&decide (a1=b1)&&mG a2 b2 else false
 |.aO a0 a1 a2,b=>if h:b.ctorIdx=10 then ai.aO.elim b h λb0 b1 b2=>kW a0 b0&&kW a1 b1&&kW a2 b2 else false
 |.sub a0 a1,b=>if h:b.ctorIdx=11 then ai.sub.elim b h λb0 b1=>kW a0 b0&&kW a1 b1 else false
 |.slice a0 a1 a2,b=>if h:b.ctorIdx=12 then ai.slice.elim b h λb0 b1 b2=>kW a0 b0&&JA a1 b1&&JA a2 b2 else false
 |.list a0 a1,b=>if h:b.ctorIdx=13 then ai.list.elim b h λb0 b1=>decide (a0=b0)&&mG a1 b1 else false
 |.tuple a0,b=>if h:b.ctorIdx=14 then ai.tuple.elim b h λb0=>mG a0 b0 else false
 |.dict a0 a1,b=>if h:b.ctorIdx=15 then ai.dict.elim b h λb0 b1=>nN a0 b0&&nN a1 b1 else false
 |.call a0 a1 a2 a3,b=>if h:b.ctorIdx=16 then ai.call.elim b h λb0 b1 b2 b3=>kW a0 b0&&mG a1 b1&&yl a2 b2&&mG a3 b3 else false
 |.aQ a0 a1 a2 a3 a4,b=>if h:b.ctorIdx=17 then ai.aQ.elim b h λb0 b1 b2 b3 b4=>kW a0 b0&&Nat.beq a1 b1&&mG a2 b2&&yl a3 b3&&mG a4 b4 else false
 |.comp a0 a1 a2 a3 a4 a5 a6,b=>if h:b.ctorIdx=18 then ai.comp.elim b h λb0 b1 b2 b3 b4 b5 b6=>decide (a0=b0)&&kW a1 b1&&Nat.beq a2 b2&&yl a3 b3&&decide (a4=b4)&&NF a5 b5&&mG a6 b6 else false
termination_by structural x=>x
noncomputable def mG:List ai→List ai→Bool
 |[],b=>b.isEmpty
 |x::r,b=>(match b with
  |[]=>false
  |c::q=>kW x c&&mG r q)
termination_by structural x=>x
noncomputable def JA:Option ai→Option ai→Bool
 |none,b=>b.isNone
 |some x,b=>(match b with
  |none=>false
  |some c=>kW x c)
termination_by structural x=>x
noncomputable def NF:dw→dw→Bool
 |.val a0,b=>if h:b.ctorIdx=0 then dw.val.elim b h λb0=>kW a0 b0 else false
 |.zip a0 a1,b=>if h:b.ctorIdx=1 then dw.zip.elim b h λb0 b1=>kW a0 b0&&kW a1 b1 else false
 |.range a0,b=>if h:b.ctorIdx=2 then dw.range.elim b h λb0=>mG a0 b0 else false
termination_by structural x=>x
end
noncomputable def eqT:dK→dK→Bool
 |.aP a0,b=>if h:b.ctorIdx=0 then dK.aP.elim b h λb0=>Nat.beq a0 b0 else false
 |.aX a0 a1,b=>if h:b.ctorIdx=1 then dK.aX.elim b h λb0 b1=>kW a0 b0&&Nat.beq a1 b1 else false
 |.sub a0 a1,b=>if h:b.ctorIdx=2 then dK.sub.elim b h λb0 b1=>kW a0 b0&&kW a1 b1 else false
 |.tup a0,b=>if h:b.ctorIdx=3 then dK.tup.elim b h λb0=>yl a0 b0 else false
mutual
noncomputable def WY:aB→aB→Bool
 |.assign a0 a1,b=>if h:b.ctorIdx=0 then aB.assign.elim b h λb0 b1=>Hq eqT a0 b0&&kW a1 b1 else false
 |.aug a0 a1 a2,b=>if h:b.ctorIdx=1 then aB.aug.elim b h λb0 b1 b2=>eqT a0 b0&&decide (a1=b1)&&kW a2 b2 else false
 |.aO a0 a1 a2,b=>if h:b.ctorIdx=2 then aB.aO.elim b h λb0 b1 b2=>kW a0 b0&&Cp a1 b1&&Cp a2 b2 else false
 |.cR a0 a1,b=>if h:b.ctorIdx=3 then aB.cR.elim b h λb0 b1=>kW a0 b0&&Cp a1 b1 else false
 |.fz a0 a1 a2,b=>if h:b.ctorIdx=4 then aB.fz.elim b h λb0 b1 b2=>eqT a0 b0&&NF a1 b1&&Cp a2 b2 else false
 |.ret a0,b=>if h:b.ctorIdx=5 then aB.ret.elim b h λb0=>JA a0 b0 else false
 |.expr a0,b=>if h:b.ctorIdx=6 then aB.expr.elim b h λb0=>kW a0 b0 else false
 |.pass,b=>Nat.beq b.ctorIdx 7
 |.fail,b=>Nat.beq b.ctorIdx 8
termination_by structural x=>x
noncomputable def Cp:List aB→List aB→Bool
 |[],b=>b.isEmpty
 |x::r,b=>(match b with
  |[]=>false
  |c::q=>WY x c&&Cp r q)
termination_by structural x=>x
end
structure fZ where
 n:Nat
 f:Nat
 as:List MV
 h:bg
 r:MV
 h':bg
structure xh where
 n:Nat
 s:aB
 l:aR
 h:bg
 l':aR
 h':bg
structure Z7 where
 n:Nat
 e:ai
 l:aR
 h:bg
 r:MV
structure Facts where
 ny:List (MV×Bool):=[]
 cmp:List (CmpOp×MV×MV×Bool):=[]
 bin:List (Operator×MV×MV×MV):=[]
 sub:List (MV×MV×MV):=[]
 qM:List (MV×Option MV×Option MV×MV):=[]
 bi:List (BI×MV×MV):=[]
 join:List (Option Nat×List MV×MV):=[]
 room:List Nat:=[]
 aug:List (Operator×MV×MV×MV):=[]
 starts:List (MV×MV×Bool):=[]
 call:List fZ:=[]
 st:List xh:=[]
 ev:List Z7:=[]
noncomputable def gd{α:Type}(b:Bool)(x:Option α):Option α:=cond b x none
noncomputable def NG:Option MV→Option MV→Bool
 |none,b=>b.isNone
 |some a,b=>gU b λc=>nM a c
section
variable (F:Facts)
noncomputable def WZ(a:MV):Option Bool:=F.ny.findSome? λe=>gd (nM e.1 a) (some e.2)
noncomputable def W7(op:CmpOp)(a b:MV):Option Bool:=F.cmp.findSome? λe=>gd (decide (e.1=op)&&nM e.2.1 a&&nM e.2.2.1 b) (some e.2.2.2)
noncomputable def W8(op:Operator)(a b:MV):Option MV:=F.bin.findSome? λe=>gd (decide (e.1=op)&&nM e.2.1 a&&nM e.2.2.1 b) (some e.2.2.2)
noncomputable def W9(op:Operator)(a b:MV):Option MV:=F.aug.findSome? λe=>gd (decide (e.1=op)&&nM e.2.1 a&&nM e.2.2.1 b) (some e.2.2.2)
noncomputable def Xa(a b:MV):Option MV:=F.sub.findSome? λe=>gd (nM e.1 a&&nM e.2.1 b) (some e.2.2)
noncomputable def Xb(a:MV)(lo hi:Option MV):Option MV:=F.qM.findSome? λe=>gd (nM e.1 a&&NG e.2.1 lo&&NG e.2.2.1 hi) (some e.2.2.2)
noncomputable def fBI(b:BI)(a:MV):Option MV:=F.bi.findSome? λe=>gd (decide (e.1=b)&&nM e.2.1 a) (some e.2.2)
noncomputable def EH(p:Option Nat)(l:List MV):Option MV:=F.join.findSome? λe=>gd (So e.1 p&&nN e.2.1 l) (some e.2.2)
noncomputable def JB(a b:MV):Option Bool:=F.starts.findSome? λe=>gd (nM e.1 a&&nM e.2.1 b) (some e.2.2)
noncomputable def Sp(n f:Nat)(as:List MV)(h:bg):Option (MV×bg):=F.call.findSome? λe=>gd (Nat.ble e.n n&&Nat.beq e.f f&&nN e.as as&&EG e.h h) (some (e.r,e.h'))
end
noncomputable def Xc(F:Facts)(n:Nat)(s:aB)(l:aR)(h:bg):Option (aR×bg):=F.st.findSome? λe=>gd (Nat.ble e.n n&&Hq Cn e.l l&&EG e.h h&&WY e.s s) (some (e.l',e.h'))
noncomputable def Xd(F:Facts)(n:Nat)(x:ai)(l:aR)(h:bg):Option MV:=F.ev.findSome? λe=>gd (Nat.ble e.n n&&Hq Cn e.l l&&EG e.h h&&kW e.e x) (some e.r)
noncomputable def tO:mF→Option (List MV)
 |.list p l=>(match p with
  |none=>some l
  |some _=>none)
 |.inst _ _=>none
noncomputable def EI(v:MV)(h:bg):Option (List MV):=(objOf v).bind λo=>(h[o]?).bind tO
noncomputable def lG(v:MV)(h:bg):Option (List MV):=(gi v).or (EI v h)
noncomputable def lH(F:Facts)(v:MV)(h:bg):Option Bool:=(truthy v []).or (((EI v h).map λl=> !l.isEmpty).or (WZ F v))
noncomputable def NH:CmpOp→Bool
 |.Is=>true
 |.IsNot=>true
 |_=>false
noncomputable def Sq(F:Facts)(op:CmpOp)(a b:MV):Option Bool:=(gd (!(NH op&&Sm a)) (dz op a b)).or (W7 F op a b)
noncomputable def Ss(F:Facts)(op:Operator)(a b:MV)(_:bg):Option MV:=(binOp op a b []).or (W8 F op a b)
noncomputable def NI(F:Facts)(op:Operator)(a b:MV):Option MV:=(iT op a b []).or (W9 F op a b)
noncomputable def EJ(v:MV):Option MV:=gd (yk v) (some v)
noncomputable def zR(h:bg)(o:Nat):Option (Nat×List (Nat×MV)):=(h[o]?).bind λx=>match x with
 |.inst c a=>some (c,a)
 |.list _ _=>none
noncomputable def nA(h:bg)(o:Nat):Option (Option Nat×List MV):=(h[o]?).bind λx=>match x with
 |.inst _ _=>none
 |.list p l=>some (p,l)
noncomputable def Su(v:MV):Bool:=match intOf v with
 |some i=>decide (i= -1)
 |none=>false
noncomputable def lastOf(a i:MV)(h:bg):Option MV:=(objOf a).bind λo=>(nA h o).bind λq=>gd (Su i) q.2.getLast?
noncomputable def LA(a i:MV)(h:bg):Option MV:=(lG a h).bind λl=>(xw i l.length).bind λj=>l[j]?
noncomputable def NJ(F:Facts)(a i:MV)(h:bg):Option MV:=(ME a i).or (((MF a i).bind EJ).or ((MG a i).or ((LA a i h).or ((lastOf a i h).or (Xa F a i)))))
noncomputable def Sv(a:MV)(lo hi:Option Int)(h:bg):Option MV:=((strOf a).map λs=>MV.str (fW s lo hi)).or ((lG a h).map λl=>.lst (fW l lo hi))
noncomputable def EK(F:Facts)(a:MV)(lo hi:Option MV)(h:bg):Option MV:=((jc lo).bind λx=>(jc hi).bind λy=>Sv a x y h).or (Xb F a lo hi)
noncomputable def LC:BI→Bool
 |.len=>true
 |_=>false
noncomputable def Sw(a:MV)(h:bg):Option Nat:=((strOf a).map List.length).or ((lG a h).map List.length)
noncomputable def Z8(P:Prog)(F:Facts)(b:BI)(args:List MV)(h:bg):Option MV:=(cond (LC b) ((jx args).bind λa=>(Sw a h).map λ(n:Nat)=>MV.int (n:Int)) (iH P b args [])).or ((jx args).bind λa=>fBI F b a)
noncomputable def lI(f:cU)(pos:List MV)(kn:List Nat)(kv:List MV):Option (List MV):=gd (Cm f.defs) (fh f pos kn kv)
structure Sx where
 ev:ai→aR→bg→Option (MV×bg)
 ex:List aB→aR→bg→Option (Fl×aR×bg)
 ca:Nat→List MV→bg→Option (MV×bg)
section
variable (P:Prog)(F:Facts)(S:Sx)
noncomputable def tP:List ai→aR→bg→Option (List MV×bg)
 |[],_,h=>some ([],h)
 |e::r,l,h=>(S.ev e l h).bind λa=>(tP r l a.2).bind λb=>some (a.1::b.1,b.2)
noncomputable def ym:Option ai→aR→bg→Option (Option MV×bg)
 |none,_,h=>some (none,h)
 |some e,l,h=>(S.ev e l h).bind λa=>some (some a.1,a.2)
noncomputable def yo:List ai→aR→bg→Option (MV×bg)
 |[],_,_=>none
 |e::r,l,h=>match r with
  |[]=>S.ev e l h
  |_::_=>(S.ev e l h).bind λa=>(lH F a.1 a.2).bind λb=>cond b (yo r l a.2) (some (a.1,a.2))
noncomputable def EL:List ai→aR→bg→Option (MV×bg)
 |[],_,_=>none
 |e::r,l,h=>match r with
  |[]=>S.ev e l h
  |_::_=>(S.ev e l h).bind λa=>(lH F a.1 a.2).bind λb=>cond b (some (a.1,a.2)) (EL r l a.2)
noncomputable def yp:MV→List CmpOp→List ai→aR→bg→Option (Bool×bg)
 |a,op::ops,es,l,h=>(match es with
  |[]=>none
  |e::es=>(S.ev e l h).bind λv=>(Sq F op a v.1).bind λb=>match ops with
   |[]=>(match es with
    |[]=>some (b,v.2)
    |_::_=>none)
   |_::_=>(match es with
    |[]=>none
    |_::_=>cond b (yp v.1 ops es l v.2) (some (false,v.2))))
 |_,[],_,_,_=>none
noncomputable def nB(e:ai)(l:aR)(h:bg):Option (Bool×bg):=(S.ev e l h).bind λa=>(lH F a.1 a.2).bind λb=>some (b,a.2)
noncomputable def yq:List ai→aR→bg→Option (Bool×bg)
 |[],_,h=>some (true,h)
 |e::r,l,h=>(nB F S e l h).bind λa=>cond a.1 (yq r l a.2) (some (false,a.2))
noncomputable def gV(l:aR)(i:Nat)(v:MV):aR:=l.set i (.v v)
noncomputable def tQ:aR→List Nat→List MV→Option aR
 |l,[],vs=>(match vs with
  |[]=>some l
  |_::_=>none)
 |l,i::r,vs=>(match vs with
  |[]=>none
  |v::vs=>tQ (gV l i v) r vs)
noncomputable def lJ(l:aR)(tgt:List Nat)(tup:Bool)(v:MV):Option aR:=match tup with
 |false=>(match tgt with
  |[]=>none
  |i::r=>gd r.isEmpty (some (gV l i v)))
 |true=>((uI v).or (gi v)).bind λvs=>tQ l tgt vs
noncomputable def zS(m:Bool)(vs:List MV)(h:bg):MV×bg:=match m with
 |false=>(.lst vs,h)
 |true=>(.obj h.length,h++[.list none vs])
noncomputable def itemsOf(v:MV):Option (List MV):=((strOf v).map λs=>s.map λc=>MV.str [c]).or (gi v)
noncomputable def JC(vs:List MV):Option (List MV):=(jx vs).bind λv=>(intOf v).bind λn=>gd (bC n) (some (gj n))
noncomputable def zT(it:dw)(l:aR)(h:bg):Option (List MV×bg):=match it with
 |.val e=>(S.ev e l h).bind λa=>(itemsOf a.1).bind λxs=>some (xs,a.2)
 |.zip _ _=>none
 |.range args=>(tP S args l h).bind λa=>(JC a.1).bind λxs=>some (xs,a.2)
noncomputable def gW(elt:ai)(tgt:List Nat)(tup:Bool)(ifs:List ai):List MV→aR→bg→Option (List MV×bg)
 |[],_,h=>some ([],h)
 |x::r,l,h=>(lJ l tgt tup x).bind λl=>(yq F S ifs l h).bind λb=>cond b.1
   ((S.ev elt l b.2).bind λv=>(gW elt tgt tup ifs r l v.2).bind λvs=>some (v.1::vs.1,vs.2))
   (gW elt tgt tup ifs r l b.2)
noncomputable def zU(i:Nat)(h:bg):bg:=h++[.inst i []]
noncomputable def zV(f:MV)(pos:List MV)(kn:List Nat)(kv:List MV)(h:bg):Option (MV×bg):=match f with
 |.fn i=>gd (!Nat.ble 1000 i) ((P.fns[i]?).bind λfe=>(lI fe pos kn kv).bind λbs=>S.ca i bs h)
 |.cls i=>(P.eg[i]?).bind λce=>(P.fns[ce.init]?).bind λfe=>cond ce.isRec
   ((lI fe (.none::pos) kn kv).bind λbs=>(ce.fields.mapM λp=>bs[p.2]?).bind λvs=>some (.fU i vs,h))
   ((lI fe (.obj h.length::pos) kn kv).bind λbs=>(S.ca ce.init bs (zU i h)).bind λa=>gd (isNone a.1) (some (.obj h.length,a.2)))
 |.bi b=>gd kn.isEmpty ((Z8 P F b pos h).bind λv=>some (v,h))
 |_=>none
noncomputable def pX(o a:Nat)(h:bg):Option (Nat×MV):=(zR h o).bind λx=>match aZ x.2 a with
 |some m=>(Bj m).bind λb=>some (b.2,.obj b.1)
 |none=>(P.eg[x.1]?).bind λce=>(fV ce.meths a).bind λf=>some (f,.obj o)
noncomputable def EM(p:Option Nat)(l:List MV):Bool:=Nat.ble l.length 1000&&(match p with
 |none=>true
 |some i=>F.room.contains i)
noncomputable def zW(o:Nat)(x:MV)(h:bg):Option bg:=(nA h o).bind λq=>gd (EM F q.1 q.2) (some (h.set o (.list q.1 (q.2++[x]))))
noncomputable def vZ(o:Nat)(h:bg):Option (MV×bg):=(nA h o).bind λq=>(q.2.getLast?).bind λv=>some (v,h.set o (.list q.1 q.2.dropLast))
noncomputable def LD(o:Nat)(h:bg):Option (MV×bg):=(nA h o).bind λq=>match q.1 with
 |none=>(match q.2 with
  |[]=>none
  |v::r=>some (v,h.set o (.list none r)))
 |some _=>none
noncomputable def EN(ov:MV)(a:Nat)(h0:bg):Option mY:=match objOf ov with
 |some o=>(nA h0 o).bind λ_=>if (a==P.jb)=true then some (.append o) else if (a==P.C8)=true then some (.pop o) else none
 |none=>d8 P ov a []
noncomputable def EO(x:MV)(h:bg):Option MV:=match objOf x with
 |some o=>(nA h o).bind λq=>EH F q.1 q.2
 |none=>(gi x).bind λl=>((aC l).bind qY).or (EH F none l)
noncomputable def LF(c:mY)(pos:List MV)(h:bg):Option (MV×bg):=match c with
 |.fn _ _=>none
 |.join s=>gd s.isEmpty ((jx pos).bind λx=>(EO F x h).bind λr=>some (r,h))
 |.starts s=>(jx pos).bind λt=>(strOf t).bind λt=>some (.bool (t.isPrefixOf s),h)
 |.append o=>(jx pos).bind λx=>(zW F o x h).bind λh=>some (.none,h)
 |.pop o=>(match pos with
  |[]=>vZ o h
  |z::r=>gd (V0 z&&r.isEmpty) (LD o h))
 |.copy ks vs=>gd (pos.isEmpty&&(strKeys ks&&keysOk ks&&decide (ks.length≤100))) (some (.jD ks vs,h))
noncomputable def LG(ov:MV)(a:Nat)(pos:List MV)(h0 h:bg):Option (MV×bg):=((EN P ov a h0).bind λc=>LF F c pos h).or
 (gd (a==P.iA&& !(a==P.kq)) ((jx pos).bind λt=>(JB F ov t).bind λb=>some (.bool b,h)))
noncomputable def yr(ov:MV)(a:Nat)(pos:List MV)(kn:List Nat)(kv:List MV)(h0 h:bg):Option (MV×bg):=
 match (objOf ov).bind λo=>pX P o a h0 with
 |some c=>(P.fns[c.1]?).bind λfe=>(lI fe (c.2::pos) kn kv).bind λbs=>S.ca c.1 bs h
 |none=>gd kn.isEmpty (LG P F ov a pos h0 h)
noncomputable def pY(v:MV)(a:Nat)(h:bg):Option MV:=match v with
 |.obj o=>(zR h o).bind λx=>(aZ x.2 a).or ((P.eg[x.1]?).bind λce=>((fV ce.meths a).map λf=>MV.bm o f).or ((aZ ce.gM a).bind EJ))
 |.fU c vs=>(P.eg[c]?).bind λce=>iS ce.fields vs a
 |_=>none
noncomputable def NK(l:aR)(i:Nat):Option MV:=(l[i]?).bind λx=>match x with
 |.v m=>some m
 |.u=>none
 |.o _=>none
noncomputable def zX(n:Nat):ai→aR→bg→Option (MV×bg)
 |.b7 v,_,h=>(EJ v).bind λv=>some (v,h)
 |.az v,_,h=>(EJ v).bind λv=>some (v,h)
 |.aP i,l,h=>(NK l i).bind λv=>some (v,h)
 |.aX e a,l,h=>(S.ev e l h).bind λv=>(pY P v.1 a v.2).bind λr=>some (r,v.2)
 |.bin op a b,l,h=>(S.ev a l h).bind λx=>(S.ev b l x.2).bind λy=>(Ss F op x.1 y.1 y.2).bind λr=>some (r,y.2)
 |.bE es,l,h=>yo F S es l h
 |.fc es,l,h=>EL F S es l h
 |.bM e,l,h=>(nB F S e l h).bind λb=>some (.bool (!b.1),b.2)
 |.neg e,l,h=>(S.ev e l h).bind λv=>(intOf v.1).bind λi=>gd (bC i) (some (.int (-i),v.2))
 |.cmp a ops es,l,h=>(S.ev a l h).bind λv=>(yp F S v.1 ops es l v.2).bind λb=>some (.bool b.1,b.2)
 |.aO c a b,l,h=>(nB F S c l h).bind λt=>cond t.1 (S.ev a l t.2) (S.ev b l t.2)
 |.sub a i,l,h=>((Xd F n (.sub a i) l h).bind λr=>some (r,h)).or ((S.ev a l h).bind λx=>(S.ev i l x.2).bind λy=>(NJ F x.1 y.1 y.2).bind λr=>some (r,y.2))
 |.slice a lo hi,l,h=>(S.ev a l h).bind λx=>(ym S lo l x.2).bind λy=>(ym S hi l y.2).bind λz=>(EK F x.1 y.1 z.1 z.2).bind λr=>some (r,z.2)
 |.list m es,l,h=>(tP S es l h).bind λvs=>gd (decide (vs.1.length≤aH)) (some (zS m vs.1 vs.2))
 |.tuple es,l,h=>(tP S es l h).bind λvs=>gd (decide (vs.1.length≤aH)) (some (.tup vs.1,vs.2))
 |.dict ks vs,_,h=>gd ((strKeys ks||intKeys ks)&&keysOk ks&&ks.length==vs.length&&decide (ks.length≤15)&& !ks.isEmpty) (some (.jD ks vs,h))
 |.call f args kn kv,l,h=>(S.ev f l h).bind λfv=>(tP S args l fv.2).bind λas=>(tP S kv l as.2).bind λks=>zV P F S fv.1 as.1 kn ks.1 ks.2
 |.aQ o a args kn kv,l,h=>(S.ev o l h).bind λov=>(tP S args l ov.2).bind λas=>(tP S kv l as.2).bind λks=>yr P F S ov.1 a as.1 kn ks.1 ov.2 ks.2
 |.comp m elt nv tgt tup it ifs,l,h=>((Xd F n (.comp m elt nv tgt tup it ifs) l h).bind λr=>some (r,h)).or
  ((zT S it l h).bind λi=>(gW F S elt tgt tup ifs i.1 (List.replicate nv .u++l) i.2).bind λvs=>gd (!m&&decide (vs.1.length≤aH)) (some (.lst vs.1,vs.2)))
noncomputable def pZ(ov:MV)(a:Nat)(v:MV)(h:bg):Option bg:=(objOf ov).bind λk=>(zR h k).bind λx=>gd (uO P x.1 a&&decide (x.2.length< 300)) (some (h.set k (.inst x.1 (gO x.2 a v))))
noncomputable def v5(ov iv v:MV)(h:bg):Option bg:=(objOf ov).bind λk=>(intOf iv).bind λj=>gd (bC j) ((nA h k).bind λq=>match q.1 with
 |none=>(idx q.2.length j).bind λj=>some (h.set k (.list none (q.2.set j v)))
 |some p=>gd (decide (j= -1)&& !q.2.isEmpty) (some (h.set k (.list (some p) (q.2.dropLast++[v])))))
noncomputable def EP:dK→MV→aR→bg→Option (aR×bg)
 |.aP i,v,l,h=>some (gV l i v,h)
 |.aX o a,v,l,h=>(S.ev o l h).bind λov=>(pZ P ov.1 a v ov.2).bind λh=>some (l,h)
 |.sub o i,v,l,h=>(S.ev o l h).bind λov=>(S.ev i l ov.2).bind λiv=>(v5 ov.1 iv.1 v iv.2).bind λh=>some (l,h)
 |.tup is,v,l,h=>(lJ l is true v).bind λl=>some (l,h)
noncomputable def mH:List dK→MV→aR→bg→Option (aR×bg)
 |[],_,l,h=>some (l,h)
 |t::r,v,l,h=>(EP P S t v l h).bind λa=>mH r v a.1 a.2
noncomputable def tR(c:ai)(b:List aB):Nat→aR→bg→Option (Fl×aR×bg)
 |0,_,_=>none
 |k+1,l,h=>(nB F S c l h).bind λt=>cond t.1
   ((S.ex b l t.2).bind λa=>match a.1 with
    |.next=>tR c b k a.2.1 a.2.2
    |.ret v=>some (.ret v,a.2.1,a.2.2))
   (some (.next,l,t.2))
noncomputable def zY(t:dK)(l:aR)(x:MV):Option aR:=match t with
 |.aP i=>some (gV l i x)
 |.tup is=>lJ l is true x
 |_=>none
noncomputable def mJ(t:dK)(b:List aB):List MV→aR→bg→Option (Fl×aR×bg)
 |[],l,h=>some (.next,l,h)
 |x::r,l,h=>(zY t l x).bind λl=>(S.ex b l h).bind λa=>match a.1 with
   |.next=>mJ t b r a.2.1 a.2.2
   |.ret v=>some (.ret v,a.2.1,a.2.2)
noncomputable def ER(n:Nat):aB→aR→bg→Option (Fl×aR×bg)
 |.pass,l,h=>some (.next,l,h)
 |.fail,_,_=>none
 |.expr e,l,h=>(S.ev e l h).bind λv=>some (.next,l,v.2)
 |.ret none,l,h=>some (.ret .none,l,h)
 |.ret (some e),l,h=>(S.ev e l h).bind λv=>some (.ret v.1,l,v.2)
 |.assign ts e,l,h=>(S.ev e l h).bind λv=>(mH P S ts v.1 l v.2).bind λa=>some (.next,a.1,a.2)
 |.aug t op e,l,h=>(match t with
  |.aP i=>(NK l i).bind λold=>(S.ev e l h).bind λv=>(NI F op old v.1).bind λr=>some (.next,gV l i r,v.2)
  |.aX o a=>(S.ev o l h).bind λov=>(pY P ov.1 a ov.2).bind λold=>(S.ev e l ov.2).bind λv=>(NI F op old v.1).bind λr=>(pZ P ov.1 a r v.2).bind λh=>some (.next,l,h)
  |_=>none)
 |.aO c a b,l,h=>(nB F S c l h).bind λt=>cond t.1 (S.ex a l t.2) (S.ex b l t.2)
 |.cR c b,l,h=>((Xc F n (.cR c b) l h).bind λr=>some (.next,r)).or (tR F S c b dF l h)
 |.fz t it b,l,h=>((Xc F n (.fz t it b) l h).bind λr=>some (.next,r)).or ((zT S it l h).bind λi=>mJ S t b i.1 l i.2)
noncomputable def zZ(n:Nat):List aB→aR→bg→Option (Fl×aR×bg)
 |[],l,h=>some (.next,l,h)
 |s::r,l,h=>(ER P F S n s l h).bind λa=>match a.1 with
  |.next=>S.ex r a.2.1 a.2.2
  |.ret v=>some (.ret v,a.2.1,a.2.2)
noncomputable def z0:Fl→MV
 |.next=>.none
 |.ret v=>v
noncomputable def z5(n:Nat)(i:Nat)(bs:List MV)(h:bg):Option (MV×bg):=(Sp F n i bs h).or
 ((P.fns[i]?).bind λfe=>(S.ex fe.body (bs.map .v++List.replicate (fe.jw - bs.length) .u) h).bind λa=>some (z0 a.1,a.2.2))
end
noncomputable def SE(P:Prog)(F:Facts):Nat→Sx
 |0=>⟨λ_ _ _=>none,λ_ _ _=>none,λ_ _ _=>none⟩
 |n+1=>⟨zX P F (SE P F n) (n+1),zZ P F (SE P F n) n,z5 P F (SE P F n) (n+1)⟩
def Le{α β:Type}(x:Option α)(f:α→β)(y:Option β):Prop:=∀a,x=some a→y=some (f a)
theorem bV{α:Type}{o:Option α}{f:α→Bool}(e:gU o f=true){C:Prop}(k:∀a,o=some a→f a=true→C):C:=match o,e,k with
 |none,e,_=>(bU e).elim
 |some a,e,k=>k a rfl e
theorem av{a b:Bool}(e:(a&&b)=true){C:Prop}(k:a=true→b=true→C):C:=match a,e with
 |true,e=>k rfl e
 |false,e=>(bU e).elim
theorem gX{α:Type}{b:Bool}{x:Option α}{r:α}(e:gd b x=some r){C:Prop}(k:b=true→x=some r→C):C:=match b,e,k with
 |true,e,k=>k rfl e
 |false,e,_=>(bx _ e.symm).elim
theorem aq{α β:Type}{x:Option α}{f:α→Option β}{r:β}(e:x.bind f=some r){C:Prop}(k:∀a,x=some a→f a=some r→C):C:=match x,e,k with
 |none,e,_=>(bx _ e.symm).elim
 |some a,e,k=>k a rfl e
theorem cL{α β:Type}{x:Option α}{f:α→β}{r:β}(e:x.map f=some r){C:Prop}(k:∀a,x=some a→f a=r→C):C:=match x,e,k with
 |none,e,_=>(bx _ e.symm).elim
 |some a,e,k=>k a rfl (bX e)
theorem bW{α:Type}{x y:Option α}{r:α}(e:x.or y=some r){C:Prop}(k:x=some r→C)(q:y=some r→C):C:=match x,e,k with
 |none,e,_=>q e
 |some _,e,k=>k e
section
variable {α β Xe iu:Type}
theorem Le.bind{x:Option α}{y:Option Xe}{i:α→Xe}(h:Le x i y){f:α→Option β}{g:Xe→Option iu}{j:β→iu}(k:∀a,Le (f a) j (g (i a))):Le (x.bind f) j (y.bind g):=λr e=>aq e λa e1 e2=>(congrArg (λz=>z.bind g) (h a e1)).trans (k a r e2)
theorem Le.bindL{x:Option α}{f:α→Option β}{y:Option iu}{j:β→iu}(k:∀a,x=some a→Le (f a) j y):Le (x.bind f) j y:=λr e=>aq e λa e1 e2=>k a e1 r e2
theorem Le.one{a:α}{f:α→β}:Le (some a) f (some (f a)):=λ_ e=>congrArg (λz=>some (f z)) (aI e)
theorem Le.of{a:α}{f:α→β}{y:Option β}(h:y=some (f a)):Le (some a) f y:=λ_ e=>h.trans (congrArg (λz=>some (f z)) (aI e))
theorem Le.no{f:α→β}{y:Option β}:Le none f y:=λ_ e=>Mine.no e
theorem Le.gd{b:Bool}{x:Option α}{f:α→β}{y:Option β}(h:b=true→Le x f y):Le (gd b x) f y:=λr e=>gX e λq e=>h q r e
end
theorem ES{v:MV}{x:Nat}(e:fnOf v=some x):v=.fn x:=by cases v<;>first|exact no e|exact congrArg _ (aI e)
theorem ET{v:MV}{x:BI}(e:Sn v=some x):v=.bi x:=by cases v<;>first|exact no e|exact congrArg _ (aI e)
theorem qb{v:MV}(e:isNone v=true):v=.none:=by cases v<;>first|rfl|exact (bU e).elim
theorem j7:∀{a b:List Nat},yl a b=true→a=b
 |[],b,e=>(List.isEmpty_iff.mp e).symm
 |a::r,[],e=>(bU e).elim
 |a::r,c::q,e=>av e λe1 e2=>by rw [cG e1,j7 e2]
mutual
theorem dc:∀{a b:MV},nM a b=true→a=b
 |.none,_,e=>(qb e).symm
 |.bool _,_,e=>bV e λ_ e1 e2=>(congrArg _ (bN e2)).trans (xr e1).symm
 |.int _,_,e=>bV e λ_ e1 e2=>(congrArg _ (bN e2)).trans (cN e1).symm
 |.str _,_,e=>bV e λ_ e1 e2=>(congrArg _ (j7 e2)).trans (bI e1).symm
 |.tup _,_,e=>bV e λ_ e1 e2=>(congrArg _ (fJ e2)).trans (fN e1).symm
 |.lst _,_,e=>bV e λ_ e1 e2=>(congrArg _ (fJ e2)).trans (b8 e1).symm
 |.jD _ _,_,e=>bV e λ_ e1 e2=>av e2 λe2 e3=>(congr (congrArg _ (fJ e2)) (fJ e3)).trans (iQ e1).symm
 |.fU _ _,_,e=>bV e λ_ e1 e2=>av e2 λe2 e3=>(congr (congrArg _ (cG e2)) (fJ e3)).trans (l6 e1).symm
 |.obj _,_,e=>bV e λ_ e1 e2=>(congrArg _ (cG e2)).trans (di e1).symm
 |.fn _,_,e=>bV e λ_ e1 e2=>(congrArg _ (cG e2)).trans (ES e1).symm
 |.cls _,_,e=>bV e λ_ e1 e2=>(congrArg _ (cG e2)).trans (l7 e1).symm
 |.bm _ _,_,e=>bV e λ_ e1 e2=>av e2 λe2 e3=>(congr (congrArg _ (cG e2)) (cG e3)).trans (oG e1).symm
 |.bi _,_,e=>bV e λ_ e1 e2=>(congrArg _ (bN e2)).trans (ET e1).symm
theorem fJ:∀{a b:List MV},nN a b=true→a=b
 |[],_,e=>(List.isEmpty_iff.mp e).symm
 |_::_,[],e=>(bU e).elim
 |_::_,_::_,e=>av e λe1 e2=>congr (congrArg _ (dc e1)) (fJ e2)
end
theorem jP{α:Type}{f:α→α→Bool}(hf:∀{a b},f a b=true→a=b):∀{a b:List α},Hq f a b=true→a=b
 |[],_,e=>(List.isEmpty_iff.mp e).symm
 |_::_,[],e=>(bU e).elim
 |_::_,_::_,e=>av e λe1 e2=>congr (congrArg _ (hf e1)) (jP hf e2)
theorem bB{c:Prop}[Decidable c]{x:c→Bool}(e:(if h:c then x h else false)=true){C:Prop}(k:∀h,x h=true→C):C:=by
 by_cases h:c
 ·rw [dif_pos h] at e;exact k h e
 ·rw [dif_neg h] at e;exact (bU e).elim
mutual
theorem cz:∀{a b:ai},kW a b=true→a=b
 |.b7 _,b,e=>bB e λh e=>ai.b7.elim (motive_1:=λb=>∀h,ai.b7.elim b h _=true→_=b) b h (λb0 _ e=>(congrArg _ (dc e))) h e
 |.aP _,b,e=>bB e λh e=>ai.aP.elim (motive_1:=λb=>∀h,ai.aP.elim b h _=true→_=b) b h (λb0 _ e=>(congrArg _ (cG e))) h e
 |.az _,b,e=>bB e λh e=>ai.az.elim (motive_1:=λb=>∀h,ai.az.elim b h _=true→_=b) b h (λb0 _ e=>(congrArg _ (dc e))) h e
 |.aX _ _,b,e=>bB e λh e=>ai.aX.elim (motive_1:=λb=>∀h,ai.aX.elim b h _=true→_=b) b h (λb0 b1 _ e=>av e λp1 q1=>(congr (congrArg ai.aX (cz p1)) (cG q1))) h e
 |.bin _ _ _,b,e=>bB e λh e=>ai.bin.elim (motive_1:=λb=>∀h,ai.bin.elim b h _=true→_=b) b h (λb0 b1 b2 _ e=>av e λp2 q2=>av p2 λp1 q1=>(congr (congr (congrArg ai.bin (bN p1)) (cz q1)) (cz q2))) h e
 |.bE _,b,e=>bB e λh e=>ai.bE.elim (motive_1:=λb=>∀h,ai.bE.elim b h _=true→_=b) b h (λb0 _ e=>(congrArg _ (ff e))) h e
 |.fc _,b,e=>bB e λh e=>ai.fc.elim (motive_1:=λb=>∀h,ai.fc.elim b h _=true→_=b) b h (λb0 _ e=>(congrArg _ (ff e))) h e
 |.bM _,b,e=>bB e λh e=>ai.bM.elim (motive_1:=λb=>∀h,ai.bM.elim b h _=true→_=b) b h (λb0 _ e=>(congrArg _ (cz e))) h e
 |.neg _,b,e=>bB e λh e=>ai.neg.elim (motive_1:=λb=>∀h,ai.neg.elim b h _=true→_=b) b h (λb0 _ e=>(congrArg _ (cz e))) h e
 |.cmp _ _ _,b,e=>bB e λh e=>ai.cmp.elim (motive_1:=λb=>∀h,ai.cmp.elim b h _=true→_=b) b h (λb0 b1 b2 _ e=>av e λp2 q2=>av p2 λp1 q1=>(congr (congr (congrArg ai.cmp (cz p1)) (bN q1)) (ff q2))) h e
 |.aO _ _ _,b,e=>bB e λh e=>ai.aO.elim (motive_1:=λb=>∀h,ai.aO.elim b h _=true→_=b) b h (λb0 b1 b2 _ e=>av e λp2 q2=>av p2 λp1 q1=>(congr (congr (congrArg ai.aO (cz p1)) (cz q1)) (cz q2))) h e
 |.sub _ _,b,e=>bB e λh e=>ai.sub.elim (motive_1:=λb=>∀h,ai.sub.elim b h _=true→_=b) b h (λb0 b1 _ e=>av e λp1 q1=>(congr (congrArg ai.sub (cz p1)) (cz q1))) h e
 |.slice _ _ _,b,e=>bB e λh e=>ai.slice.elim (motive_1:=λb=>∀h,ai.slice.elim b h _=true→_=b) b h (λb0 b1 b2 _ e=>av e λp2 q2=>av p2 λp1 q1=>(congr (congr (congrArg ai.slice (cz p1)) (tS q1)) (tS q2))) h e
 |.list _ _,b,e=>bB e λh e=>ai.list.elim (motive_1:=λb=>∀h,ai.list.elim b h _=true→_=b) b h (λb0 b1 _ e=>av e λp1 q1=>(congr (congrArg ai.list (bN p1)) (ff q1))) h e
 |.tuple _,b,e=>bB e λh e=>ai.tuple.elim (motive_1:=λb=>∀h,ai.tuple.elim b h _=true→_=b) b h (λb0 _ e=>(congrArg _ (ff e))) h e
 |.dict _ _,b,e=>bB e λh e=>ai.dict.elim (motive_1:=λb=>∀h,ai.dict.elim b h _=true→_=b) b h (λb0 b1 _ e=>av e λp1 q1=>(congr (congrArg ai.dict (fJ p1)) (fJ q1))) h e
 |.call _ _ _ _,b,e=>bB e λh e=>ai.call.elim (motive_1:=λb=>∀h,ai.call.elim b h _=true→_=b) b h (λb0 b1 b2 b3 _ e=>av e λp3 q3=>av p3 λp2 q2=>av p2 λp1 q1=>(congr (congr (congr (congrArg ai.call (cz p1)) (ff q1)) (j7 q2)) (ff q3))) h e
 |.aQ _ _ _ _ _,b,e=>bB e λh e=>ai.aQ.elim (motive_1:=λb=>∀h,ai.aQ.elim b h _=true→_=b) b h (λb0 b1 b2 b3 b4 _ e=>av e λp4 q4=>av p4 λp3 q3=>av p3 λp2 q2=>av p2 λp1 q1=>(congr (congr (congr (congr (congrArg ai.aQ (cz p1)) (cG q1)) (ff q2)) (j7 q3)) (ff q4))) h e
 |.comp _ _ _ _ _ _ _,b,e=>bB e λh e=>ai.comp.elim (motive_1:=λb=>∀h,ai.comp.elim b h _=true→_=b) b h (λb0 b1 b2 b3 b4 b5 b6 _ e=>av e λp6 q6=>av p6 λp5 q5=>av p5 λp4 q4=>av p4 λp3 q3=>av p3 λp2 q2=>av p2 λp1 q1=>(congr (congr (congr (congr (congr (congr (congrArg ai.comp (bN p1)) (cz q1)) (cG q2)) (j7 q3)) (bN q4)) (z6 q5)) (ff q6))) h e
termination_by structural a=>a
theorem ff:∀{a b:List ai},mG a b=true→a=b
 |[],_,e=>(List.isEmpty_iff.mp e).symm
 |_::_,[],e=>(bU e).elim
 |_::_,_::_,e=>av e λe1 e2=>congr (congrArg _ (cz e1)) (ff e2)
termination_by structural a=>a
theorem tS:∀{a b:Option ai},JA a b=true→a=b
 |none,none,_=>rfl
 |none,some _,e=>(bU e).elim
 |some _,none,e=>(bU e).elim
 |some _,some _,e=>congrArg _ (cz e)
termination_by structural a=>a
theorem z6:∀{a b:dw},NF a b=true→a=b
 |.val _,b,e=>bB e λh e=>dw.val.elim (motive_2:=λb=>∀h,dw.val.elim b h _=true→_=b) b h (λb0 _ e=>(congrArg _ (cz e))) h e
 |.zip _ _,b,e=>bB e λh e=>dw.zip.elim (motive_2:=λb=>∀h,dw.zip.elim b h _=true→_=b) b h (λb0 b1 _ e=>av e λp1 q1=>(congr (congrArg dw.zip (cz p1)) (cz q1))) h e
 |.range _,b,e=>bB e λh e=>dw.range.elim (motive_2:=λb=>∀h,dw.range.elim b h _=true→_=b) b h (λb0 _ e=>(congrArg _ (ff e))) h e
termination_by structural a=>a
end
theorem yt:∀{a b:dK},eqT a b=true→a=b
 |.aP _,b,e=>bB e λh e=>dK.aP.elim (motive:=λb=>∀h,dK.aP.elim b h _=true→_=b) b h (λb0 _ e=>(congrArg _ (cG e))) h e
 |.aX _ _,b,e=>bB e λh e=>dK.aX.elim (motive:=λb=>∀h,dK.aX.elim b h _=true→_=b) b h (λb0 b1 _ e=>av e λp1 q1=>(congr (congrArg dK.aX (cz p1)) (cG q1))) h e
 |.sub _ _,b,e=>bB e λh e=>dK.sub.elim (motive:=λb=>∀h,dK.sub.elim b h _=true→_=b) b h (λb0 b1 _ e=>av e λp1 q1=>(congr (congrArg dK.sub (cz p1)) (cz q1))) h e
 |.tup _,b,e=>bB e λh e=>dK.tup.elim (motive:=λb=>∀h,dK.tup.elim b h _=true→_=b) b h (λb0 _ e=>(congrArg _ (j7 e))) h e
mutual
theorem EU:∀{a b:aB},WY a b=true→a=b
 |.assign _ _,b,e=>bB e λh e=>aB.assign.elim (motive_1:=λb=>∀h,aB.assign.elim b h _=true→_=b) b h (λb0 b1 _ e=>av e λp1 q1=>(congr (congrArg aB.assign (jP yt p1)) (cz q1))) h e
 |.aug _ _ _,b,e=>bB e λh e=>aB.aug.elim (motive_1:=λb=>∀h,aB.aug.elim b h _=true→_=b) b h (λb0 b1 b2 _ e=>av e λp2 q2=>av p2 λp1 q1=>(congr (congr (congrArg aB.aug (yt p1)) (bN q1)) (cz q2))) h e
 |.aO _ _ _,b,e=>bB e λh e=>aB.aO.elim (motive_1:=λb=>∀h,aB.aO.elim b h _=true→_=b) b h (λb0 b1 b2 _ e=>av e λp2 q2=>av p2 λp1 q1=>(congr (congr (congrArg aB.aO (cz p1)) (lK q1)) (lK q2))) h e
 |.cR _ _,b,e=>bB e λh e=>aB.cR.elim (motive_1:=λb=>∀h,aB.cR.elim b h _=true→_=b) b h (λb0 b1 _ e=>av e λp1 q1=>(congr (congrArg aB.cR (cz p1)) (lK q1))) h e
 |.fz _ _ _,b,e=>bB e λh e=>aB.fz.elim (motive_1:=λb=>∀h,aB.fz.elim b h _=true→_=b) b h (λb0 b1 b2 _ e=>av e λp2 q2=>av p2 λp1 q1=>(congr (congr (congrArg aB.fz (yt p1)) (z6 q1)) (lK q2))) h e
 |.ret _,b,e=>bB e λh e=>aB.ret.elim (motive_1:=λb=>∀h,aB.ret.elim b h _=true→_=b) b h (λb0 _ e=>(congrArg _ (tS e))) h e
 |.expr _,b,e=>bB e λh e=>aB.expr.elim (motive_1:=λb=>∀h,aB.expr.elim b h _=true→_=b) b h (λb0 _ e=>(congrArg _ (cz e))) h e
 |.pass,b,e=>aB.pass.elim (motive_1:=λb=>.pass=b) b (cG e) rfl
 |.fail,b,e=>aB.fail.elim (motive_1:=λb=>.fail=b) b (cG e) rfl
termination_by structural a=>a
theorem lK:∀{a b:List aB},Cp a b=true→a=b
 |[],_,e=>(List.isEmpty_iff.mp e).symm
 |_::_,[],e=>(bU e).elim
 |_::_,_::_,e=>av e λe1 e2=>congr (congrArg _ (EU e1)) (lK e2)
termination_by structural a=>a
end
theorem NL{a b:mF}(e:Z6 a b=true):a=b:=by
 cases a with
 |inst c x=>cases b with
  |inst d y=>exact av e λe1 e2=>congr (congrArg _ (cG e1)) (jP (λ{p q} e=>av e λe1 e2=>Prod.ext (cG e1) (dc e2)) e2)
  |list=>exact (bU e).elim
 |list p x=>cases b with
  |inst=>exact (bU e).elim
  |list q y=>exact av e λe1 e2=>congr (congrArg _ (bN e1)) (fJ e2)
theorem jl{a b:bg}(e:EG a b=true):a=b:=jP NL e
theorem n5{a b:SL}(e:Cn a b=true):a=b:=by cases a<;>cases b<;>first|rfl|exact (bU e).elim|exact congrArg _ (dc e)|exact congrArg _ (cG e)
theorem n6{a b:Fl}(e:Co a b=true):a=b:=by cases a<;>cases b<;>first|rfl|exact (bU e).elim|exact congrArg _ (dc e)
theorem z7{a b:Option MV}(e:NG a b=true):a=b:=by
 cases a with
 |none=>cases b with
  |none=>rfl
  |some _=>exact (bU e).elim
 |some x=>exact bV e λc e1 e2=>(congrArg _ (dc e2)).trans e1.symm
section
variable {ρ:eN}
theorem bT:∀l:List MV,MV.Is ρ l=l.map (MV.I ρ)
 |[]=>rfl
 |a::r=>congrArg (MV.I ρ a::·) (bT r)
mutual
theorem iE:∀{v:MV},yk v=true→v.I ρ=v
 |.none,_=>rfl
 |.bool _,_=>rfl
 |.int _,_=>rfl
 |.str _,_=>rfl
 |.tup _,e=>congrArg _ (qc e)
 |.lst _,e=>congrArg _ (qc e)
 |.jD _ _,_=>rfl
 |.fU _ _,e=>congrArg _ (qc e)
 |.obj _,_=>rfl
 |.fn i,e=>by
  have e:(!Nat.ble 1000 i)=true:=e;show cond (Nat.ble 1000 i) _ _=_
  cases q:Nat.ble 1000 i with
  |true=>rw [q] at e;exact (bU e).elim
  |false=>rfl
 |.cls _,_=>rfl
 |.bm _ _,_=>rfl
 |.bi _,_=>rfl
theorem qc:∀{l:List MV},Cm l=true→MV.Is ρ l=l
 |[],_=>rfl
 |_::_,e=>av e λe1 e2=>(congrArg (·::_) (iE e1)).trans (congrArg (_::·) (qc e2))
end
theorem qd(p:Option Nat)(l:List MV):cat ρ p l=pI ρ p++l:=by
 cases p with
 |none=>rfl
 |some i=>cases l with
  |nil=>exact (cH _).symm
  |cons _ _=>rfl
set_option tactic.hygienic true in
theorem Sy{v:MV}(e:Sm v=false):isNone (v.I ρ)=isNone v:=by
 cases v<;>first|rfl|skip
 rename_i i;have e:Nat.ble 1000 i=false:=e;show isNone (cond (Nat.ble 1000 i) _ _)=_
 rw [e];rfl
theorem yu(h:bg)(i:Nat):(aV ρ h)[i]? =(h[i]?).map (mF.I ρ):=List.getElem?_map ..
theorem mK(h:bg)(i:Nat)(o:mF):aV ρ (h.set i o)=(aV ρ h).set i (o.I ρ):=List.map_set ..
theorem EV(h:bg):(aV ρ h).length=h.length:=cu _
theorem z8(h:bg)(o:mF):aV ρ (h++[o])=aV ρ h++[o.I ρ]:=List.map_append ..
theorem iX:∀{l:List (Nat×MV)} {a:Nat},aZ (kN ρ l) a=(aZ l a).map (MV.I ρ)
 |[],_=>rfl
 |(k,v)::r,a=>by
  show (if k==a then some (v.I ρ) else aZ (kN ρ r) a)=Option.map _ (if k==a then some v else aZ r a)
  rw [iX];cases k==a<;>rfl
theorem z9:∀{l:List (Nat×MV)} {a:Nat} {v:MV},kN ρ (gO l a v)=gO (kN ρ l) a (v.I ρ)
 |[],_,_=>rfl
 |(k,x)::r,a,v=>by
  show kN ρ (if k==a then (k,v)::r else (k,x)::gO r a v)=(if k==a then (k,v.I ρ)::kN ρ r else (k,x.I ρ)::gO (kN ρ r) a (v.I ρ))
  rw [← z9];cases k==a<;>rfl
theorem JD{l:List (Nat×MV)}:(kN ρ l).length=l.length:=cu _
theorem Aa:∀{f:List (Nat×Nat)} {l:List MV} {a:Nat},iS f (l.map (MV.I ρ)) a=(iS f l a).map (MV.I ρ)
 |[],_,_=>rfl
 |_::_,[],_=>rfl
 |(k,_)::r,v::vs,a=>by
  show (if k==a then some (v.I ρ) else iS r (vs.map _) a)=Option.map _ (if k==a then some v else iS r vs a)
  rw [Aa];cases k==a<;>rfl
theorem JE{α β:Type}{f:α→β}:∀l:List α,(l.map f).isEmpty=l.isEmpty
 |[]=>rfl
 |_::_=>rfl
theorem EW{v:MV}{b:Bool}{h:Hp}(e:truthy v []=some b):truthy (v.I ρ) h=some b:=by cases v<;>first|exact e|exact no e
theorem EX{a b:MV}{r:Bool}(e:iR a b=some r):a.I ρ=a∧b.I ρ=b:=by
 cases a<;>first|exact no e|skip
 all_goals (cases b<;>first|exact ⟨rfl,rfl⟩|exact no e)
theorem yv{a b:MV}{r:Bool}(e:iR a b=some r):iR (a.I ρ) (b.I ρ)=some r:=by obtain ⟨h1,h2⟩:=EX (ρ:=ρ) e;rw [h1,h2];exact e
theorem v7{x:MV}:∀{l:List MV} {r:Bool},eu x l=some r→eu (x.I ρ) (MV.Is ρ l)=some r
 |[],_,e=>e
 |y::l,r,e=>by
  show (match iR (y.I ρ) (x.I ρ),eu (x.I ρ) (MV.Is ρ l) with|some b,some c=>some (b||c)|_,_=>none)=_
  have e:(match iR y x,eu x l with|some b,some c=>some (b||c)|_,_=>none)=some r:=e
  cases h1:iR y x with
  |none=>rw [h1] at e;exact no e
  |some b=>
   cases h2:eu x l with
   |none=>rw [h1,h2] at e;exact no e
   |some c=>rw [yv h1,v7 h2];rw [h1,h2] at e;exact e
theorem qe{a:MV}{ks vs:List MV}{r:Option MV}(e:jF a ks vs=some r):a.I ρ=a:=by cases a<;>first|rfl|exact no e
theorem gE{v:MV}{x:Int}(e:intOf v=some x):v.I ρ=v:=cN e▸rfl
theorem j8{v:MV}{x:List Nat}(e:strOf v=some x):v.I ρ=v:=bI e▸rfl
theorem EY{v:MV}{c:Nat}(e:zd v=some c):v.I ρ=v:=jX e▸rfl
theorem JF{v:MV}{x:List MV×List MV}(e:uJ v=some x):v.I ρ=v:=iQ e▸rfl
theorem JG{v:MV}{x:Nat}(e:zc v=some x):v.I ρ=v:=l7 e▸rfl
theorem EZ{a b:MV}{r:Bool}(e:dz.xu a b=some r):dz.xu (a.I ρ) (b.I ρ)=some r:=
 bW e (λe1=>aq e1 λs e2 e3=>cL e3 λc e4 _=>by rw [j8 e2,EY e4];exact e) λe1=>bW e1
  (λe1=>aq e1 λl e2 e3=>by rw [b8 e2];exact congrArg (Option.or · none) (v7 e3))
  λe1=>aq e1 λd e2 e3=>cL e3 λg e4 _=>by rw [JF e2,qe (ρ:=ρ) e4];exact e
theorem JH{f:Int→Int→Bool}{g:Option (List Nat→List Nat→Bool)}{a b:MV}{r:Bool}(e:mX f g a b=some r):a.I ρ=a∧b.I ρ=b:=by
 cases a<;>first|exact no e|skip
 all_goals (cases b<;>first|exact ⟨rfl,rfl⟩|exact no e)
theorem Ab{f:Int→Int→Bool}{g:Option (List Nat→List Nat→Bool)}{a b:MV}{r:Bool}(e:mX f g a b=some r):mX f g (a.I ρ) (b.I ρ)=some r:=by obtain ⟨h1,h2⟩:=JH (ρ:=ρ) e;rw [h1,h2];exact e
theorem Sz{f:Bool→Bool}{a b:MV}{r:Bool}(q:Sm a=false)(e:(match b with|.none=>some (f (isNone a))|_=>none)=some r):(match b.I ρ with|.none=>some (f (isNone (a.I ρ)))|_=>none)=some r:=by
 cases b<;>first|exact no e|skip
 show some (f (isNone (a.I ρ)))=_
 rw [Sy q];exact e
theorem JI{op:CmpOp}{a b:MV}{r:Bool}(q:(!(NH op&&Sm a))=true)(e:dz op a b=some r):dz op (a.I ρ) (b.I ρ)=some r:=by
 have q:(NH op&&Sm a)=false:=Bool.not_eq_true' _▸q
 cases op with
 |Eq=>exact yv e
 |NotEq=>exact cL (x:=iR a b) e λc h1 h2=>(congrArg (Option.map _) (yv h1)).trans (congrArg some h2)
 |Lt=>exact Ab e
 |LtE=>exact Ab e
 |Gt=>exact Ab e
 |GtE=>exact Ab e
 |Is=>exact Sz (f:=id) q e
 |IsNot=>exact Sz (f:=(!·)) q e
 |In=>exact EZ e
 |NotIn=>exact cL (x:=dz.xu a b) e λc h1 h2=>(congrArg (Option.map _) (EZ h1)).trans (congrArg some h2)
set_option tactic.hygienic true in
theorem NN{x y:List MV}{r:MV}(e:(if x.length+y.length≤aH then some (MV.lst (x++y)) else none)=some r):(if (MV.Is ρ x).length+(MV.Is ρ y).length≤aH then some (MV.lst (MV.Is ρ x++MV.Is ρ y)) else none)=some (r.I ρ):=by
 have h:MV.Is ρ (x++y)=MV.Is ρ x++MV.Is ρ y:=by rw [bT,bT,bT,List.map_append]
 rw [bT,bT,cu,cu, ← bT, ← bT, ← h];split at e
 ·rename_i q
  rw [if_pos q, ← aI e];rfl
 ·exact no e
theorem NO{x:Option MV}{r:MV}(e:x=some r)(k:∀v,x=some v→v.I ρ=v):x=some (r.I ρ):=by rw [k r e];exact e
theorem Ac{s:List Nat}{v:MV}(e:qY s=some v):v.I ρ=v:=by
 unfold qY at e;split at e
 ·rw [← aI e];rfl
 ·exact no e
theorem tT{c:Prop}[Decidable c]{w v:MV}(hw:w.I ρ=w)(e:(if c then some w else none)=some v):v.I ρ=v:=by
 split at e
 ·rw [← aI e];exact hw
 ·exact no e
structure Fx(ρ:eN)(a b r:MV):Prop where
 a:a.I ρ=a
 b:b.I ρ=b
 r:r.I ρ=r
theorem Fx.go{a b r:MV}(x:Fx ρ a b r){f:MV→MV→Option MV}(e:f a b=some r):f (a.I ρ) (b.I ρ)=some (r.I ρ):=by rw [x.a,x.b,x.r];exact e
theorem jQ{f:Int→Int→Int}{a b r:MV}(e:arith f a b=some r):Fx ρ a b r:=aq e λ_ e1 e=>aq e λ_ e2 e=>⟨gE e1,gE e2,tT rfl e⟩
theorem Ae{f:Int→Int→Int}{a b r:MV}(e:Ia f a b=some r):Fx ρ a b r:=aq e λ_ e1 e=>aq e λ_ e2 e=>⟨gE e1,gE e2,tT rfl e⟩
theorem Af{a b r:MV}(e:Dc a b=some r):Fx ρ a b r:=aq e λ_ e1 e=>aq e λ_ e2 e=>⟨j8 e1,j8 e2,Ac e⟩
theorem JJ{a b r:MV}(e:MD a b=some r):Fx ρ a b r:=aq e λ_ e1 e=>aq e λ_ e2 e=>⟨j8 e1,gE e2,tT rfl e⟩
theorem JK{a b r:MV}(e:Q0 a b=some r):Fx ρ a b r:=aq e λ_ e1 e=>aq e λ_ e2 e=>⟨j8 e1,gE e2,cL e λ_ _ e=>e▸rfl⟩
theorem JL{op:Operator}{a b r:MV}{h:Hp}(e:binOp op a b []=some r):binOp op (a.I ρ) (b.I ρ) h=some (r.I ρ):=by
 cases op with
 |Add=>exact bW e (λe1=>(jQ e1).go (f:=λa b=>binOp .Add a b h) e) λe1=>bW e1 (λe1=>(Af e1).go (f:=λa b=>binOp .Add a b h) e) λe1=>aq e1 λx e2 e3=>aq e3 λy e4 e5=>by rw [b8 e2,b8 e4];exact NN e5
 |Sub=>exact (jQ e).go (f:=λa b=>binOp .Sub a b h) e
 |Mult=>exact bW e (λe1=>(jQ e1).go (f:=λa b=>binOp .Mult a b h) e) λe1=>(JJ e1).go (f:=λa b=>binOp .Mult a b h) e
 |Mod=>exact bW e (λe1=>(Ae e1).go (f:=λa b=>binOp .Mod a b h) e) λe1=>(JK e1).go (f:=λa b=>binOp .Mod a b h) e
 |FloorDiv=>exact (Ae e).go (f:=λa b=>binOp .FloorDiv a b h) e
 |_=>exact no e
theorem JM{op:Operator}{a b r:MV}{h:Hp}(e:iT op a b []=some r):iT op (a.I ρ) (b.I ρ) h=some (r.I ρ):=by
 cases op with
 |Add=>exact bW e (λe1=>(jQ e1).go (f:=λa b=>iT .Add a b h) e) λe1=>(Af e1).go (f:=λa b=>iT .Add a b h) e
 |Sub=>exact (jQ e).go (f:=λa b=>iT .Sub a b h) e
 |_=>exact no e
theorem SA{l:List MV}{i r:MV}(e:((xw i l.length).bind λj=>l[j]?)=some r):((xw (i.I ρ) (MV.Is ρ l).length).bind λj=>(MV.Is ρ l)[j]?)=some (r.I ρ):=aq e λj e1 e2=>aq e1 λk e3 _=>by rw [gE e3,bT,cu,e1];exact List.getElem?_map.trans (congrArg (Option.map _) e2)
theorem E0{o:mF}{l:List MV}(e:tO o=some l):dS (o.I ρ)=some (MV.Is ρ l):=by
 cases o with
 |inst=>exact no e
 |list p l=>cases p with
  |some _=>exact no e
  |none=>exact congrArg (λz=>some (MV.Is ρ z)) (aI e)
theorem rP{h:bg}{o:Nat}{l:List MV}(e:((h[o]?).bind tO)=some l):((aV ρ h)[o]?).bind dS=some (MV.Is ρ l):=aq e λs e1 e2=>by rw [yu,e1];exact E0 e2
theorem gF{v:MV}{h:bg}{l:List MV}(e:lG v h=some l){C:MV→Prop}(k:C (.lst l))(q:∀o,((h[o]?).bind tO)=some l→C (.obj o)):C v:=bW e (λe=>b8 e▸k) λe=>aq e λo e1 e2=>di e1▸q o e2
theorem qf{v:MV}{h:bg}{l:List MV}(e:lG v h=some l):listOf (v.I ρ) (aV ρ h)=some (MV.Is ρ l):=gF e (C:=λv=>listOf (v.I ρ) (aV ρ h)=some (MV.Is ρ l)) rfl λ_ q=>rP q
theorem JN{a i r:MV}{h:Hp}(e:ME a i=some r):dP (a.I ρ) (i.I ρ) h=some (r.I ρ):=aq e λs e1 e2=>aq e2 λj e3 e4=>aq e3 λk e5 _=>cL e4 λc _ e6=>by rw [j8 e1,gE e5, ← e6];unfold dP;rw [e, ← e6];rfl
theorem JO{a i r:MV}{h:Hp}(e:(MF a i).bind EJ=some r):dP (a.I ρ) (i.I ρ) h=some (r.I ρ):=aq e λw e0 e=>gX e λq e=>aq e0 λd e1 e2=>aq e2 λo e3 e4=>by
 rw [iQ e1,qe e3, ← aI e,iE q];show ((jF i d.1 d.2).bind id).or _=_
 rw [e3,show o=some w from e4];rfl
theorem JP{a i r:MV}{h:Hp}(e:MG a i=some r):dP (a.I ρ) (i.I ρ) h=some (r.I ρ):=aq e λl e1 e2=>by rw [fN e1];exact congrArg (Option.or · _) (SA e2)
theorem JQ{a i r:MV}{h:bg}(e:LA a i h=some r):dP (a.I ρ) (i.I ρ) (aV ρ h)=some (r.I ρ):=aq e λl e1 e2=>by
 have k:Ib (a.I ρ) (i.I ρ) (aV ρ h)=some (r.I ρ):=by unfold Ib;rw [qf e1];exact SA e2
 exact gF e1 (C:=λv=>Ib (v.I ρ) (i.I ρ) (aV ρ h)=some (r.I ρ)→dP (v.I ρ) (i.I ρ) (aV ρ h)=some (r.I ρ)) id (λ_ _=>id) k
theorem E1{o:Option MV}{x:Option Int}(e:jc o=some x):jc (o.map (MV.I ρ))=some x:=by
 cases o with
 |none=>exact e
 |some v=>exact aq (x:=intOf v) e λk e1 _=>(congrArg (λv=>jc (some v)) (gE e1)).trans e
theorem E2{α β:Type}(f:α→β)(l:List α)(x y:Option Int):fW (l.map f) x y=(fW l x y).map f:=by unfold fW;rw [cu,List.map_take,List.map_drop]
theorem SG{a r:MV}{x y:Option Int}{h:bg}(e:Sv a x y h=some r):Bk (a.I ρ) x y (aV ρ h)=some (r.I ρ):=
 bW e (λe=>cL e λs e1 e2=>by rw [bI e1, ← e2];rfl) λe=>cL e λl e1 e2=>by
  rw [← e2];have k:((listOf (a.I ρ) (aV ρ h)).map λl=>MV.lst (fW l x y))=some ((MV.lst (fW l x y)).I ρ):=by
   rw [qf e1];show some (MV.lst (fW (MV.Is ρ l) x y))=some (.lst (MV.Is ρ (fW l x y)))
   rw [bT,bT,E2]
  exact gF e1 (C:=λv=>((listOf (v.I ρ) (aV ρ h)).map λl=>MV.lst (fW l x y))=_→Bk (v.I ρ) x y (aV ρ h)=_) id (λ_ _=>id) k
theorem v8:∀{l:List MV} {b:Bool},allB l=some b→MV.Is ρ l=l
 |[],_,_=>rfl
 |a::r,b,e=>by
  cases a<;>first|exact no e|skip
  exact cL (x:=allB r) e λc e1 _=>congrArg (List.cons _) (v8 e1)
theorem qg{sup:List Nat}:∀{l:List MV} {b:Bool},jG sup l=some b→MV.Is ρ l=l
 |[],_,_=>rfl
 |a::r,b,e=>by
  cases a<;>first|exact no e|skip
  exact cL (x:=jG sup r) e λc e1 _=>congrArg (List.cons _) (qg e1)
theorem NP{sup:List Nat}{c:MV}{b:Bool}(e:Ic sup c=some b):Ic sup (c.I ρ)=some b:=
 bW e (λe1=>cL e1 λi e2 _=>by rw [JG e2];exact e) λe1=>aq e1 λl e2 e3=>by
  rw [fN e2];show jG sup (MV.Is ρ l)=_
  rw [qg e3];exact e3
theorem E3{P:Prog}{v c:MV}{b:Bool}(e:sJ P v c=some b):sJ P (v.I ρ) (c.I ρ)=some b:=aq e λr e1 e2=>aq e2 λce e3 e4=>by
 rw [l6 e1];show (P.eg[r.1]?).bind (λce:gh=>Ic ce.sI (c.I ρ))=_
 rw [e3];exact NP e4
theorem SH{a:MV}{n:Nat}{h:bg}(e:Sw a h=some n):lenOf (a.I ρ) (aV ρ h)=some n:=
 bW e (λe1=>cL e1 λs e2 e3=>by rw [bI e2, ← e3];rfl) λe1=>cL e1 λl e2 e3=>by
  have k:(listOf (a.I ρ) (aV ρ h)).map List.length=some n:=by rw [qf e2, ← e3,bT];exact congrArg some (cu _)
  exact gF e2 (C:=λv=>(listOf (v.I ρ) (aV ρ h)).map List.length=some n→lenOf (v.I ρ) (aV ρ h)=some n) id (λ_ _=>id) k
theorem JR{v:MV}{n:Nat}(e:uL v=some n):v.I ρ=v:=by cases v<;>first|rfl|exact no e
theorem E4{P:Prog}{b:BI}{args:List MV}{r:MV}{h:Hp}(hl:LC b=false)(e:iH P b args []=some r):iH P b (MV.Is ρ args) h=some (r.I ρ):=by
 cases b with
 |isinstance=>exact aq e λa e1 e=>cL e λk e2 e3=>by rw [uK e1, ← e3];exact congrArg (Option.map MV.bool) (E3 e2)
 |len=>cases hl
 |ord=>exact aq e λa e1 e=>cL e λk e2 e3=>by rw [cW e1, ← e3,jX e2];rfl
 |str=>
  exact aq e λa e1 e=>cL e λk e2 e3=>by
   rw [cW e1, ← e3];show (uL (a.I ρ)).map _=_
   rw [JR e2,e2];rfl
 |all=>
  exact aq e λa e1 e=>aq e λl e2 e=>cL e λk e3 e4=>by
   rw [cW e1,b8 e2, ← e4];show (allB (MV.Is ρ l)).map MV.bool=_
   rw [v8 (ρ:=ρ) e3,e3];rfl
end
structure Holds(P:Prog)(ρ:eN)(F:Facts):Prop where
 ny:∀e∈F.ny,∀h,truthy (e.1.I ρ) h=some e.2
 cmp:∀e∈F.cmp,dz e.1 (e.2.1.I ρ) (e.2.2.1.I ρ)=some e.2.2.2
 bin:∀e∈F.bin,∀h,binOp e.1 (e.2.1.I ρ) (e.2.2.1.I ρ) h=some (e.2.2.2.I ρ)
 sub:∀e∈F.sub,∀h,dP (e.1.I ρ) (e.2.1.I ρ) h=some (e.2.2.I ρ)
 qM:∀e∈F.qM,∀h,dM (e.1.I ρ) (e.2.1.map (MV.I ρ)) (e.2.2.1.map (MV.I ρ)) h=some (e.2.2.2.I ρ)
 bi:∀e∈F.bi,∀h,iH P e.1 [e.2.1.I ρ] h=some (e.2.2.I ρ)
 join:∀e∈F.join,(aC (pI ρ e.1++MV.Is ρ e.2.1)).bind qY=some (e.2.2.I ρ)
 room:∀i∈F.room,(ρ.l i).length+1000< aH
 aug:∀e∈F.aug,∀h,iT e.1 (e.2.1.I ρ) (e.2.2.1.I ρ) h=some (e.2.2.2.I ρ)
 starts:∀e∈F.starts,∃x y,e.1.I ρ=.str x∧e.2.1.I ρ=.str y∧e.2.2=y.isPrefixOf x
 st:∀e∈F.st,∀k,e.n≤k→gp P (E P k) e.s (aG ρ e.l) (aV ρ e.h)=some (.next,aG ρ e.l',aV ρ e.h')
 ev:∀e∈F.ev,∀k,e.n≤k→(E P k).ev e.e (aG ρ e.l) (aV ρ e.h)=some (e.r.I ρ,aV ρ e.h)
 call:∀e∈F.call,∀k,e.n≤k→(E P k).ca e.f (MV.Is ρ e.as) (aV ρ e.h)=some (e.r.I ρ,aV ρ e.h')
theorem v9{len:Nat}(h:0< len):idx len (-1)=some (len - 1):=if_pos h
theorem d9{α β:Type}{l:List α}{f:α→Bool}{g:α→β}{b:β}(e:l.findSome? (λa=>gd (f a) (some (g a)))=some b){C:Prop}(k:∀a∈l,f a=true→g a=b→C):C:=by obtain ⟨a,h1,h2⟩:=List.exists_of_findSome?_eq_some e;exact gX h2 λh3 h4=>k a h1 h3 (aI h4)
section
variable {ρ:eN}
theorem yw{h:bg}{o:Nat}{x:Nat×List (Nat×MV)}(e:zR h o=some x):((aV ρ h)[o]?).bind oF=some (x.1,kN ρ x.2):=aq e λs e1 e2=>by
 rw [yu,e1]
 cases s with
 |inst c a=>rw [← aI e2];rfl
 |list _ _=>exact no e2
theorem kO{h:bg}{o:Nat}{x:Option Nat×List MV}(e:nA h o=some x):((aV ρ h)[o]?).bind dS=some (pI ρ x.1++MV.Is ρ x.2):=aq e λs e1 e2=>by
 rw [yu,e1]
 cases s with
 |list p l=>rw [← aI e2];exact congrArg some (qd p (MV.Is ρ l))
 |inst _ _=>exact no e2
theorem E5{v:MV}(e:Su v=true):v=.int (-1):=by cases v<;>first|exact (bU e).elim|exact congrArg _ (bN e)
end
section
variable {P:Prog}{ρ:eN}{F:Facts}(H:Holds P ρ F)
include H
theorem Cq{v:MV}{h:bg}{b:Bool}(e:lH F v h=some b):truthy (v.I ρ) (aV ρ h)=some b:=
 bW e (λe=>EW e) λe=>bW e (λe=>cL e λl e1 e2=>aq e1 λo e3 e4=>by
  rw [di e3, ← e2];show (((aV ρ h)[o]?).bind dS).map _=_
  rw [rP e4,bT];exact congrArg (λb=>some (!b)) (JE l)) λe=>d9 e λa h1 h2 h3=>by
  rw [← h3, ← dc h2];exact H.ny a h1 _
theorem E6{op:CmpOp}{a b:MV}{r:Bool}(e:Sq F op a b=some r):dz op (a.I ρ) (b.I ρ)=some r:=bW e (λe=>gX e λq e=>JI q e) λe=>d9 e λa h1 h2 h3=>av h2 λh2 h4=>av h2 λh2 h5=>by rw [← h3, ← dc h4, ← dc h5, ← bN h2];exact H.cmp a h1
theorem NQ{op:Operator}{a b r:MV}{h:bg}(e:Ss F op a b h=some r):binOp op (a.I ρ) (b.I ρ) (aV ρ h)=some (r.I ρ):=bW e (λe=>JL e) λe=>d9 e λa h1 h2 h3=>av h2 λh2 h4=>av h2 λh2 h5=>by rw [← h3, ← dc h4, ← dc h5, ← bN h2];exact H.bin a h1 _
theorem E7{op:Operator}{a b r:MV}{h:Hp}(e:NI F op a b=some r):iT op (a.I ρ) (b.I ρ) h=some (r.I ρ):=bW e (λe=>JM e) λe=>d9 e λa h1 h2 h3=>av h2 λh2 h4=>av h2 λh2 h5=>by rw [← h3, ← dc h4, ← dc h5, ← bN h2];exact H.aug a h1 _
omit H in
theorem E8{a i r:MV}{h:bg}(e:lastOf a i h=some r):dP (a.I ρ) (i.I ρ) (aV ρ h)=some (r.I ρ):=by
 refine aq e λo e1 e=>aq e λq e2 e=>gX e λhi hl=>?_
 rw [di e1,E5 hi];have hl:(pI ρ q.1++MV.Is ρ q.2).getLast? =some (r.I ρ):=by rw [List.getLast?_append,bT,List.getLast?_map,hl];rfl
 have hp:0< (pI ρ q.1++MV.Is ρ q.2).length:=List.length_pos_iff.mpr λz=>by rw [z] at hl;exact no hl
 show (((aV ρ h)[o]?).bind dS).bind (λl=>(idx l.length (-1)).bind λj=>l[j]?)=_
 rw [kO e2];show (idx (pI ρ q.1++MV.Is ρ q.2).length (-1)).bind _=_
 rw [v9 hp, ← hl,List.getLast?_eq_getElem?];rfl
theorem NS{a i r:MV}{h:bg}(e:NJ F a i h=some r):dP (a.I ρ) (i.I ρ) (aV ρ h)=some (r.I ρ):=bW e JN λe=>bW e JO λe=>bW e JP λe=>bW e JQ λe=>bW e E8 λe=>d9 e λa h1 h2 h3=>av h2 λh2 h4=>by rw [← h3, ← dc h4, ← dc h2];exact H.sub a h1 _
theorem E9{a r:MV}{lo hi:Option MV}{h:bg}(e:EK F a lo hi h=some r):dM (a.I ρ) (lo.map (MV.I ρ)) (hi.map (MV.I ρ)) (aV ρ h)=some (r.I ρ):=
 bW e (λe=>aq e λx e1 e=>aq e λy e2 e=>by
  show (jc _).bind (λlo=>(jc _).bind λhi=>_)=_
  rw [E1 e1,E1 e2];exact SG e) λe=>d9 e λa h1 h2 h3=>av h2 λh2 h4=>av h2 λh2 h5=>by
  rw [← h3, ← z7 h4, ← z7 h5, ← dc h2];exact H.qM a h1 _
theorem SI{b:BI}{args:List MV}{r:MV}{h:bg}(e:Z8 P F b args h=some r):iH P b (MV.Is ρ args) (aV ρ h)=some (r.I ρ):=by
 refine bW e (λe=>?_) λe=>aq e λa ea e=>d9 e λa h1 h2 h3=>av h2 λh2 h4=>by rw [← h3,cW ea, ← dc h4, ← bN h2];exact H.bi a h1 _
 cases b with
 |len=>exact aq e λa e1 e=>cL e λn e2 e3=>by rw [cW e1, ← e3];exact congrArg (Option.map λn:Nat=>MV.int n) (SH e2)
 |_=>exact E4 rfl e
end
noncomputable def vh(ρ:eN)(r:MV×bg):MV×Hp:=(r.1.I ρ,aV ρ r.2)
noncomputable def Z9(ρ:eN)(r:List MV×bg):List MV×Hp:=(MV.Is ρ r.1,aV ρ r.2)
noncomputable def bh(ρ:eN)(r:Bool×bg):Bool×Hp:=(r.1,aV ρ r.2)
noncomputable def NT(ρ:eN)(r:Fl×aR×bg):Fl×Loc×Hp:=(r.1.I ρ,aG ρ r.2.1,aV ρ r.2.2)
noncomputable def lh(ρ:eN)(r:aR×bg):Loc×Hp:=(aG ρ r.1,aV ρ r.2)
structure rQ(ρ:eN)(S:Sx)(T:Ev):Prop where
 ev:∀e l h,Le (S.ev e l h) (vh ρ) (T.ev e (aG ρ l) (aV ρ h))
 ex:∀b l h,Le (S.ex b l h) (NT ρ) (T.ex b (aG ρ l) (aV ρ h))
 ca:∀f bs h,Le (S.ca f bs h) (vh ρ) (T.ca f (MV.Is ρ bs) (aV ρ h))
theorem Le.ite{α β:Type}{b:Bool}{x y:Option α}{f:α→β}{u w:Option β}(h:Le x f u)(k:Le y f w):Le (_root_.cond b x y) f (if b=true then u else w):=match b with
 |true=>h
 |false=>k
theorem Le.Vp{α β:Type}{b:Bool}{x:Option α}{f:α→β}{u:Option β}(h:Le x f u):Le (Mine.gd b x) f (if b=true then u else none):=match b with
 |true=>h
 |false=>.no
section
variable {P:Prog}{ρ:eN}{F:Facts}{S:Sx}{T:Ev}
theorem kP(l:List MV):(MV.Is ρ l).length=l.length:=by rw [bT,cu]
theorem Ag(a b:List (Nat×MV)):kN ρ (a++b)=kN ρ a++kN ρ b:=List.map_append ..
theorem tU(ps:List Nat)(l:List MV):kN ρ (ps.zip l)=ps.zip (MV.Is ρ l):=by rw [bT,List.zip_map_right];rfl
theorem rR(l:List (Nat×MV))(a:Nat):(aZ (kN ρ l) a).isNone=(aZ l a).isNone:=by rw [iX];cases aZ l a<;>rfl
theorem JS{ps:List Nat}(kw:List (Nat×MV)):∀s,Le (kw.foldlM (stepK ps) s) (kN ρ) ((kN ρ kw).foldlM (stepK ps) (kN ρ s)):=by
 induction kw with
 |nil=>exact λs=>.one
 |cons a r ih=>exact λs=>Le.bind (i:=kN ρ) (x:=stepK ps s a) (y:=stepK ps (kN ρ s) (a.1,a.2.I ρ)) (by unfold stepK;rw [rR];intro b e;obtain ⟨q,e⟩:=bA e;rw [if_pos q, ← aI e,Ag];rfl) ih
theorem JT(kw:List (Nat×MV)):∀s,(kN ρ kw).foldl jH (kN ρ s)=kN ρ (kw.foldl jH s):=by
 induction kw with
 |nil=>exact λ_=>rfl
 |cons a r ih=>
  intro s;refine Eq.trans (congrArg (List.foldl jH · (kN ρ r)) ?_) (ih (jH s a));show jH (kN ρ s) (a.1,a.2.I ρ)=_
  unfold jH;rw [rR]
  cases (aZ s a.1).isNone with
  |true=>exact (Ag s [a]).symm
  |false=>rfl
theorem NU{s:List (Nat×MV)}(ps:List Nat):Le (ps.mapM (aZ s)) (MV.Is ρ) (ps.mapM (aZ (kN ρ s))):=by
 induction ps with
 |nil=>exact .one
 |cons p r ih=>rw [List.mapM_cons,List.mapM_cons];exact .bind (i:=MV.I ρ) (λv e=>by rw [iX,e];rfl) λv=>.bind (i:=MV.Is ρ) ih λw=>.one
theorem j9{f:cU}{pos:List MV}{kn:List Nat}{kv:List MV}:Le (lI f pos kn kv) (MV.Is ρ) (fh f (MV.Is ρ pos) kn (MV.Is ρ kv)):=λvs e=>gX e λhd e=>by
 obtain ⟨q,e⟩:=bA e;unfold fh;rw [kP,if_pos q, ← tU, ← tU];refine Le.bind (i:=kN ρ) (j:=MV.Is ρ) (JS _ _) (λs r e=>?_) vs e
 obtain ⟨q,e⟩:=bA e;have hs:∀p,(aZ (kN ρ s) p).isSome=(aZ s p).isSome:=λp=>by rw [iX];cases aZ s p<;>rfl
 simp only [hs];rw [if_pos q];have hz:(f.params.drop (f.params.length - f.defs.length)).zip f.defs=kN ρ ((f.params.drop (f.params.length - f.defs.length)).zip f.defs):=by rw [tU,qc hd]
 rw [hz,JT];exact NU _ r e
theorem jR(H:rQ ρ S T):∀(es:List ai) (l:aR) (h:bg),Le (tP S es l h) (Z9 ρ) (qZ T es (aG ρ l) (aV ρ h))
 |[],l,h=>.of rfl
 |e::r,l,h=>.bind (H.ev e l h) λa=>.bind (jR H r l a.2) λb=>.of rfl
theorem wc(H:rQ ρ S T)(eo:Option ai)(l:aR)(h:bg):Le (ym S eo l h) (λr=>(r.1.map (MV.I ρ),aV ρ r.2)) (rf T eo (aG ρ l) (aV ρ h)):=match eo with
 |none=>.of rfl
 |some e=>.bind (H.ev e l h) λa=>.of rfl
theorem Fb(K:Holds P ρ F)(v:MV)(h:bg):Le (lH F v h) id (truthy (v.I ρ) (aV ρ h)):=λ_ e=>Cq K e
theorem we(K:Holds P ρ F)(H:rQ ρ S T):∀(es:List ai) (l:aR) (h:bg),Le (yo F S es l h) (vh ρ) (uM T es (aG ρ l) (aV ρ h))
 |[],l,h=>.no
 |e::r,l,h=>match r with
  |[]=>H.ev e l h
  |x::q=>.bind (H.ev e l h) λa=>.bind (Fb K a.1 a.2) λb=>.ite (we K H (x::q) l a.2) (.of rfl)
theorem Ah(K:Holds P ρ F)(H:rQ ρ S T):∀(es:List ai) (l:aR) (h:bg),Le (EL F S es l h) (vh ρ) (Dd T es (aG ρ l) (aV ρ h))
 |[],l,h=>.no
 |e::r,l,h=>match r with
  |[]=>H.ev e l h
  |x::q=>.bind (H.ev e l h) λa=>.bind (Fb K a.1 a.2) λb=>.ite (.of rfl) (Ah K H (x::q) l a.2)
theorem wg(K:Holds P ρ F)(H:rQ ρ S T):∀(ops:List CmpOp) (a:MV) (es:List ai) (l:aR) (h:bg),Le (yp F S a ops es l h) (bh ρ) (uN T (a.I ρ) ops es (aG ρ l) (aV ρ h))
 |[],a,es,l,h=>.no
 |op::ops,a,es,l,h=>match es with
  |[]=>.no
  |e::es=>match ops,es with
   |[],[]=>.bind (H.ev e l h) λv=>.bind (i:=id) (λ_ e=>E6 K e) λb=>.of rfl
   |[],_::_=>.bindL λv _=>.bindL λb _=>.no
   |_::_,[]=>.bindL λv _=>.bindL λb _=>.no
   |o::ops,x::es=>.bind (H.ev e l h) λv=>.bind (i:=id) (λ_ e=>E6 K e) λb=>.ite (wg K H (o::ops) v.1 (x::es) l v.2) (.of rfl)
theorem jm(K:Holds P ρ F)(H:rQ ρ S T)(e:ai)(l:aR)(h:bg):Le (nB F S e l h) (bh ρ) (test T e (aG ρ l) (aV ρ h)):=.bind (H.ev e l h) λa=>.bind (Fb K a.1 a.2) λb=>.of rfl
theorem wh(K:Holds P ρ F)(H:rQ ρ S T):∀(es:List ai) (l:aR) (h:bg),Le (yq F S es l h) (bh ρ) (tests T es (aG ρ l) (aV ρ h))
 |[],l,h=>.of rfl
 |e::r,l,h=>.bind (jm K H e l h) λa=>.ite (wh K H r l a.2) (.of rfl)
theorem iF(l:aR)(i:Nat)(v:MV):aG ρ (gV l i v)=fD (aG ρ l) i (v.I ρ):=List.map_set ..
theorem mL:∀(is:List Nat) (l:aR) (vs:List MV),Le (tQ l is vs) (aG ρ) (jd (aG ρ l) is (MV.Is ρ vs))
 |[],l,vs=>match vs with
  |[]=>.of rfl
  |_::_=>.no
 |i::r,l,vs=>match vs with
  |[]=>.no
  |v::vs=>λa e=>by
   show jd (fD (aG ρ l) i (v.I ρ)) r (MV.Is ρ vs)=_
   rw [← iF];exact mL r _ vs a e
theorem kQ(l:aR)(tgt:List Nat)(tup:Bool)(v:MV):Le (lJ l tgt tup v) (aG ρ) (dU (aG ρ l) tgt tup (v.I ρ)):=match tup with
 |false=>match tgt with
  |[]=>.no
  |i::r=>.gd λq=>by rw [List.isEmpty_iff.mp q];exact .of (congrArg some (iF l i v).symm)
 |true=>.bindL λvs e=>bW e (λe=>by rw [fN e];exact mL tgt l vs) λe=>by rw [b8 e];exact mL tgt l vs
theorem Cr{mu:Bool}{vs:List MV}{h:bg}:some (sL mu (MV.Is ρ vs) (aV ρ h))=some (vh ρ (zS mu vs h)):=match mu with
 |false=>rfl
 |true=>by
  show some (MV.obj (aV ρ h).length,aV ρ h++[nK.list (MV.Is ρ vs)])=some (MV.obj h.length,aV ρ (h++[mF.list none vs]))
  rw [EV,z8];rfl
noncomputable def itm(ρ:eN)(r:List MV×bg):It×Hp:=(.items (MV.Is ρ r.1),aV ρ r.2)
theorem Cs{b:Int}:MV.Is ρ (gj b)=gj b:=by rw [bT];unfold gj;rw [List.map_map];rfl
theorem Ai(H:rQ ρ S T)(it:dw)(l:aR)(h:bg):Le (zT S it l h) (itm ρ) (je T it (aG ρ l) (aV ρ h)):=match it with
 |.val e=>.bind (H.ev e l h) λa=>.bindL λxs e=>bW e (λe=>cL e λs e1 e2=>.of (by
    show (rg (a.1.I ρ) (aV ρ a.2)).map (λi=>(i,aV ρ a.2))=some (It.items (MV.Is ρ xs),aV ρ a.2)
    rw [bI e1, ← e2,bT,List.map_map];rfl)) λe=>.of (by
    show (rg (a.1.I ρ) (aV ρ a.2)).map (λi=>(i,aV ρ a.2))=_
    rw [b8 e];rfl)
 |.zip _ _=>.no
 |.range args=>.bind (jR H args l h) λa=>.bindL λxs e=>aq e λv e1 e=>aq e λn e2 e=>gX e λq e=>.of (by
   show (Q2 (MV.Is ρ a.1)).map (λi=>(i,aV ρ a.2))=some (It.items (MV.Is ρ xs),aV ρ a.2)
   rw [cW e1,cN e2, ← aI e,Cs];exact congrArg (Option.map _) (if_pos q))
section
variable (ih:Ev)(elt:ai)(tgt:List Nat)(tup:Bool)(ifs:List ai)
noncomputable def cg:List MV→Loc→Hp→Option (List MV×Hp)
 |[],_,h=>some ([],h)
 |x::r,l,h=>(dU l tgt tup x).bind λl=>(tests ih ifs l h).bind λb=>if b.1=true then (ih.ev elt l b.2).bind λv=>(cg r l v.2).bind λvs=>some (v.1::vs.1,vs.2) else cg r l b.2
theorem wj(xs:List MV)(r:List MV):∀(k:Nat) (l:Loc) (h:Hp),xs.drop k=r→dW ih elt tgt tup ifs (fE xs) (r.length+1) k l h=cg ih elt tgt tup ifs r l h:=by
 induction r with
 |nil=>
  intro k l h e;show (some xs[k]?).bind _=_
  rw [List.getElem?_eq_none (List.drop_eq_nil_iff.mp e)];rfl
 |cons x r ih2=>
  intro k l h e;have hx:xs[k]? =some x:=by rw [← Nat.add_zero k, ← List.getElem?_drop,e];rfl
  have ih3:=λl h=>ih2 (k+1) l h (by rw [← List.drop_drop,e];rfl)
  show (some xs[k]?).bind _=_
  rw [hx];show (dU l tgt tup x).bind (λl=>(tests ih ifs l h).bind λb=>if b.1=true then (ih.ev elt l b.2).bind λv=>(dW ih elt tgt tup ifs (fE xs) (r.length+1) (k+1) l v.2).bind λvs=>some (v.1::vs.1,vs.2) else dW ih elt tgt tup ifs (fE xs) (r.length+1) (k+1) l b.2)=_
  simp only [ih3];rfl
end
theorem jn(K:Holds P ρ F)(H:rQ ρ S T){elt:ai}{tgt:List Nat}{tup:Bool}{ifs:List ai}:∀(xs:List MV) (l:aR) (h:bg),Le (gW F S elt tgt tup ifs xs l h) (Z9 ρ) (cg T elt tgt tup ifs (MV.Is ρ xs) (aG ρ l) (aV ρ h))
 |[],l,h=>.of rfl
 |x::r,l,h=>.bind (kQ l tgt tup x) λl=>.bind (wh K H ifs l h) λb=>.ite
   (.bind (H.ev elt l b.2) λv=>.bind (jn K H r l v.2) λvs=>.of rfl)
   (jn K H r l b.2)
theorem Fc{bs:List MV}:∀(f:List (Nat×Nat)),Le (f.mapM λp=>bs[p.2]?) (MV.Is ρ) (f.mapM λp=>(MV.Is ρ bs)[p.2]?)
 |[]=>.of rfl
 |p::r=>by rw [List.mapM_cons,List.mapM_cons];exact .bind (i:=MV.I ρ) (λv e=>by rw [bT,List.getElem?_map,e];rfl) λv=>.bind (Fc r) λvs=>.of rfl
theorem Ct(K:Holds P ρ F)(H:rQ ρ S T){f:MV}{pos:List MV}{kn:List Nat}{kv:List MV}{h:bg}:Le (zV P F S f pos kn kv h) (vh ρ) (l8 P T (f.I ρ) (MV.Is ρ pos) kn (MV.Is ρ kv) (aV ρ h)):=by
 cases f with
 |fn i=>
  refine .gd λq=>?_
  have:(MV.fn i).I ρ=.fn i:=iE q;rw [this];exact .bind (i:=id) (λ_ e=>e) λfe=>.bind j9 λbs=>H.ca i bs h
 |cls i=>
  refine .bind (i:=id) (λ_ e=>e) λce=>.bind (i:=id) (λ_ e=>e) λfe=>.ite ?_ ?_
  ·exact .bind (j9 (pos:=.none::pos)) λbs=>.bind (Fc _) λvs=>.of rfl
  ·have hl:MV.obj (aV ρ h).length=(MV.obj h.length).I ρ:=congrArg MV.obj (EV h)
   have hn:aV ρ h++[.inst i []]=aV ρ (zU i h):=(z8 h (.inst i [])).symm;show Le _ _ ((fh fe (MV.obj (aV ρ h).length::MV.Is ρ pos) kn (MV.Is ρ kv)).bind λbs=>(T.ca ce.init bs (aV ρ h++[.inst i []])).bind λw=>match w.1 with|.none=>some (MV.obj (aV ρ h).length,w.2)|_=>none)
   rw [hl,hn];exact .bind (j9 (pos:=.obj h.length::pos)) λbs=>.bind (H.ca ce.init bs _) λa=>.gd λq=>.of (by
    show (match MV.I ρ a.1 with|.none=>some (MV.obj h.length,aV ρ a.2)|_=>none)=_
    rw [qb q];rfl)
 |bi b=>exact .Vp (.bindL λv e=>.of (by rw [SI K e];rfl))
 |_=>exact .no
end
section
variable {P:Prog}{ρ:eN}{F:Facts}{S:Sx}{T:Ev}
theorem Le.orM{α β:Type}{x y:Option α}{f:α→β}{u w:Option β}(h:u=x.map f)(k:Le y f w):Le (x.or y) f (u.or w):=by
 subst h
 cases x with
 |none=>exact k
 |some a=>exact λ_ e=>congrArg (λz=>some (f z)) (aI e)
theorem qh(v:MV)(a:Nat)(h:bg):Le (pY P v a h) (MV.I ρ) (getAttr P (v.I ρ) a (aV ρ h)):=by
 cases v with
 |fU c vs=>
  exact .bind (i:=id) (λ_ e=>e) λce=>λw e=>by
   show iS ce.fields (MV.Is ρ vs) a=_
   rw [bT,Aa,e];rfl
 |obj o=>
  refine .bindL λx e=>?_
  show Le _ _ ((((aV ρ h)[o]?).bind oF).bind _)
  rw [yw e];exact .orM iX (.bind (i:=id) (λ_ e=>e) λce=>.orM (by rw [Option.map_map];rfl) (.bindL λw e=>.gd λq=>.of (by rw [iE q];exact e)))
 |_=>exact .no
theorem qi(ov:MV)(a:Nat)(v:MV)(h:bg):Le (pZ P ov a v h) (aV ρ) (jY P (ov.I ρ) a (v.I ρ) (aV ρ h)):=.bindL λk e=>.bindL λx e2=>by
 rw [di e];show Le _ _ ((((aV ρ h)[k]?).bind oF).bind _)
 rw [yw e2];show Le _ _ (if (uO P x.1 a&&decide ((kN ρ x.2).length< 300))=true then some ((aV ρ h).set k (.inst x.1 (gO (kN ρ x.2) a (v.I ρ)))) else none)
 rw [JD, ← z9];exact .Vp (.of (by rw [mK];rfl))
theorem Fd(a b:List MV):MV.Is ρ (a++b)=MV.Is ρ a++MV.Is ρ b:=by rw [bT,bT,bT,List.map_append]
theorem Fe:∀(a b:List MV) (v:MV),b≠[]→(a++b).set ((a++b).length - 1) v=a++(b.dropLast++[v]):=λa b v hb=>by
 obtain ⟨c,d,rfl⟩:∃c d,b=c++[d]:=⟨b.dropLast,b.getLast hb,(List.dropLast_concat_getLast hb).symm⟩;rw [List.dropLast_concat, ← bJ,aY];show ((a++c)++[d]).set ((a++c).length+1 - 1) _=_
 rw [Nat.add_sub_cancel,List.set_append_right _ _ (bf _),Nat.sub_self,bJ];rfl
theorem yx(ov iv v:MV)(h:bg):Le (v5 ov iv v h) (aV ρ) (mh (ov.I ρ) (iv.I ρ) (v.I ρ) (aV ρ h)):=.bindL λk e=>.bindL λj e2=>.gd λq=>.bindL λx e3=>by
 rw [di e,cN e2];show Le _ _ ((((aV ρ h)[k]?).bind dS).bind λxs=>if bC j=true then (idx xs.length j).map λj=>(aV ρ h).set k (.list (xs.set j (v.I ρ))) else none)
 rw [kO e3];show Le _ _ (if bC j=true then _ else none)
 rw [if_pos q];obtain ⟨p,l⟩:=x
 cases p with
 |some p=>
  refine .gd λq2=>av q2 λq2 q3=>?_
  have oY:MV.Is ρ l≠[]:=by rw [bT];exact λz=>by rw [List.map_eq_nil_iff.mp z] at q3;exact bU q3
  rw [bN q2];refine .of ?_;rw [v9 (List.length_pos_iff.mpr λz=>oY (List.append_eq_nil_iff.mp z).2),mK]
  show some _=some ((aV ρ h).set k (.list (cat ρ (some p) (MV.Is ρ (l.dropLast++[v])))))
  rw [qd,Fd];show some ((aV ρ h).set k (.list ((pI ρ (some p)++MV.Is ρ l).set ((pI ρ (some p)++MV.Is ρ l).length - 1) (v.I ρ))))=_
  rw [Fe _ _ _ oY,bT,bT,List.map_dropLast];rfl
 |none=>
  refine λr e=>aq e λn e4 e5=>?_
  show (idx (MV.Is ρ l).length j).map (λj=>(aV ρ h).set k (.list ((MV.Is ρ l).set j (v.I ρ))))=_
  rw [kP,e4, ← aI e5,mK];show some _=some ((aV ρ h).set k (.list (MV.Is ρ (l.set n v))))
  rw [bT,bT,List.map_set]
theorem yy{o a:Nat}{h:bg}{c:Nat×MV}(e:pX P o a h=some c):d8 P (.obj o) a (aV ρ h)=some (.fn c.1 c.2)∧c.2.I ρ=c.2:=aq e λx e1 e=>by
 have k:iB P o a (aV ρ h)=(match (aZ x.2 a).map (MV.I ρ) with|some m=>(Bj m).map λ(b:Nat×Nat)=>mY.fn b.2 (.obj b.1)|none=>(P.eg[x.1]?).bind λce=>(fV ce.meths a).map λf=>.fn f (.obj o)):=by unfold iB;rw [yw e1, ← iX];rfl
 have e:(match aZ x.2 a with|some m=>(Bj m).bind λb=>some (b.2,MV.obj b.1)|none=>(P.eg[x.1]?).bind λce=>(fV ce.meths a).bind λf=>some (f,MV.obj o))=some c:=e
 suffices z:iB P o a (aV ρ h)=some (.fn c.1 c.2)∧c.2.I ρ=c.2 from ⟨congrArg (Option.or · _) z.1,z.2⟩
 rw [k]
 cases hl:aZ x.2 a with
 |some m=>rw [hl] at e;exact aq e λb e2 e3=>by rw [oG e2, ← aI e3];exact ⟨rfl,rfl⟩
 |none=>
  rw [hl] at e;exact aq e λce e2 e=>aq e λf e3 e=>by
   rw [← aI e];refine ⟨?_,rfl⟩;show (P.eg[x.1]?).bind _=_
   rw [e2];show (fV ce.meths a).map _=_
   rw [e3];rfl
noncomputable def SJ(P:Prog)(T:Ev)(ov:MV)(a:Nat)(pos:List MV)(kn:List Nat)(kv:List MV)(h0 h:Hp):Option (MV×Hp):=(d8 P ov a h0).bind λc=>gP P T c pos kn kv h
theorem Ff(K:Holds P ρ F){p:Option Nat}{l:List MV}(q:EM F p l=true):(pI ρ p++MV.Is ρ l).length< aH:=av q λq1 q2=>by
 have h1:l.length≤1000:=cM q1;rw [aY,kP]
 cases p with
 |none=>show 0+l.length< aH;unfold aH;lia
 |some i=>
  have:=K.room i (List.contains_iff_mem.mp q2);show (ρ.l i).length+l.length< aH
  lia
theorem wk(K:Holds P ρ F){o:Nat}{x:MV}{h h':bg}(e:zW F o x h=some h'):xx (.append o) [x.I ρ] (aV ρ h)=some (.none,aV ρ h'):=aq e λq e1 e=>gX e λr e=>by
 show (((aV ρ h)[o]?).bind dS).bind (λl=>if l.length< aH then some (MV.none,(aV ρ h).set o (.list (l++[x.I ρ]))) else none)=_
 rw [kO e1];show (if (pI ρ q.1++MV.Is ρ q.2).length< aH then some (MV.none,(aV ρ h).set o (.list ((pI ρ q.1++MV.Is ρ q.2)++[x.I ρ]))) else none)=_
 rw [if_pos (Ff K r), ← aI e,mK];show _=some (MV.none,(aV ρ h).set o (.list (cat ρ q.1 (MV.Is ρ (q.2++[x])))))
 rw [qd,Fd,bJ];rfl
theorem Fg{o:Nat}{h:bg}{r:MV×bg}(e:vZ o h=some r):xx (.pop o) [] (aV ρ h)=some (vh ρ r):=aq e λq e1 e=>aq e λv e2 e=>by
 have oY:q.2≠[]:=λz=>by rw [z] at e2;exact no e2
 have h1:(pI ρ q.1++MV.Is ρ q.2).getLast? =some (v.I ρ):=by rw [List.getLast?_append,bT,List.getLast?_map,e2];rfl
 have h2:(pI ρ q.1++MV.Is ρ q.2).dropLast=pI ρ q.1++MV.Is ρ q.2.dropLast:=by rw [List.dropLast_append_of_ne_nil (by rw [bT];exact λz=>oY (List.map_eq_nil_iff.mp z)),bT,bT,List.map_dropLast]
 show (((aV ρ h)[o]?).bind dS).bind (λl=>(some (l.length - 1)).bind λj=>(l[j]?).map λv=>(v,(aV ρ h).set o (.list (l.eraseIdx j))))=_
 rw [kO e1];show ((pI ρ q.1++MV.Is ρ q.2)[(pI ρ q.1++MV.Is ρ q.2).length - 1]?).map _=_
 rw [← List.getLast?_eq_getElem?,h1,List.eraseIdx_length_sub_one,h2, ← qd, ← aI e];show some (v.I ρ,(aV ρ h).set o _)=some (v.I ρ,aV ρ (h.set o _))
 rw [mK];rfl
theorem Cu{o:Nat}{h:bg}{r:MV×bg}(e:LD o h=some r):xx (.pop o) [.int 0] (aV ρ h)=some (vh ρ r):=aq e λq e1 e=>by
 obtain ⟨p,l⟩:=q
 cases p with
 |some _=>exact no e
 |none=>cases l with
  |nil=>exact no e
  |cons v l=>
   show (((aV ρ h)[o]?).bind dS).bind (λl=>(l[0]?).map λv=>(v,(aV ρ h).set o (.list (l.eraseIdx 0))))=_
   rw [kO e1, ← (show (v,h.set o (.list none l))=r from aI e)]
   show some (v.I ρ,(aV ρ h).set o (.list _))=some (v.I ρ,aV ρ (h.set o _))
   rw [mK];rfl
theorem tV{l:List MV}:∀{s:List Nat},aC l=some s→MV.Is ρ l=l:=by
 induction l with
 |nil=>exact λ_=>rfl
 |cons a r ih=>
  intro s e
  cases a<;>first|exact no e|skip
  exact cL (x:=aC r) e λt e4 _=>congrArg (List.cons _) (ih e4)
theorem Aj(K:Holds P ρ F){p:Option Nat}{l:List MV}{r:MV}(e:EH F p l=some r):(aC (pI ρ p++MV.Is ρ l)).bind qY=some (r.I ρ):=d9 e λa h1 h2 h3=>av h2 λh2 h4=>by have:=K.join a h1;rw [bN (p:=a.1=p) h2,fJ h4] at this;rw [← h3];exact this
theorem JU(K:Holds P ρ F){x:MV}{h:bg}{r:MV}(e:EO F x h=some r):∃l,listOf (x.I ρ) (aV ρ h)=some l∧(aC l).bind qY=some (r.I ρ):=by
 unfold EO at e
 cases ho:objOf x with
 |some o=>rw [ho] at e;exact aq e λq e1 e2=>⟨_,by rw [di ho];exact kO e1,Aj K e2⟩
 |none=>rw [ho] at e;exact aq e λl e1 e2=>⟨MV.Is ρ l,by rw [b8 e1];rfl,bW e2 (λe2=>aq e2 λs e3 e4=>by rw [tV e3,e3];exact NO e4 λv q=>Ac q) (Aj K (p:=none))⟩
theorem JV(K:Holds P ρ F)(c:mY)(pos:List MV)(h:bg):Le (LF F c pos h) (vh ρ) (xx c (MV.Is ρ pos) (aV ρ h)):=by
 cases c with
 |fn=>exact .no
 |join s=>
  exact .gd λhs=>.bindL λx e1=>.bindL λr e2=>.of (by
   obtain ⟨l,h1,h2⟩:=JU K e2;rw [cW e1];show (if s.isEmpty=true then (listOf (x.I ρ) (aV ρ h)).bind λl=>(aC l).bind λs=>(qY s).map λv=>(v,aV ρ h) else none)=_
   rw [if_pos hs,h1];exact aq h2 λs e3 e4=>by
    show (aC l).bind _=_
    rw [e3];show (qY s).map _=_
    rw [e4];rfl)
 |starts s=>exact .bindL λt e1=>.bindL λy e2=>.of (by rw [cW e1,bI e2];rfl)
 |append o=>exact .bindL λx e1=>.bindL λh' e2=>.of (by rw [cW e1];exact wk K e2)
 |pop o=>cases pos with
  |nil=>exact λr e=>Fg e
  |cons z q=>exact .gd λt=>av t λt1 t2=>λr e=>by rw [ze t1,List.isEmpty_iff.mp t2];exact Cu e
 |copy ks vs=>exact .gd λt=>.of (by rw [List.isEmpty_iff.mp (bl.mp t).1];exact if_pos (by rw [(bl.mp t).2];rfl))
theorem JW{ov:MV}{a:Nat}{h0:bg}{c:mY}(e:EN P ov a h0=some c):d8 P (ov.I ρ) a (aV ρ h0)=some c∧V1 c=none:=by
 unfold EN at e
 cases ho:objOf ov with
 |some o=>
  rw [ho] at e;refine aq e λq e1 e2=>?_
  rw [di ho];have h1:=kO (ρ:=ρ) e1;have hn:iB P o a (aV ρ h0)=none:=aq h1 λs e3 e4=>by
   unfold iB;rw [e3]
   cases s with
   |list=>rfl
   |inst=>exact no e4
  refine ⟨?_,?_⟩
  ·show (iB P o a (aV ρ h0)).or ((((aV ρ h0)[o]?).bind dS).bind _)=_
   rw [hn,h1];exact e2
  ·by_cases q:(a==P.jb)=true
   ·rw [if_pos q] at e2;rw [← aI e2];rfl
   ·rw [if_neg q] at e2;rw [← aI (bA e2).2];rfl
 |none=>
  rw [ho] at e
  cases ov<;>first|exact no e|exact no ho.symm|skip
  ·refine ⟨e,?_⟩
   have e:(if (a==P.kq)=true then some (mY.join _) else if (a==P.iA)=true then some (.starts _) else none)=some c:=e
   by_cases q:(a==P.kq)=true
   ·rw [if_pos q] at e;rw [← aI e];rfl
   ·rw [if_neg q] at e;rw [← aI (bA e).2];rfl
  ·exact ⟨e,by rw [← aI (bA e).2];rfl⟩
theorem JX(K:Holds P ρ F){ov:MV}{a:Nat}{pos:List MV}{kv:List MV}{h0 h:bg}:Le (LG P F ov a pos h0 h) (vh ρ) (SJ P T (ov.I ρ) a (MV.Is ρ pos) [] (MV.Is ρ kv) (aV ρ h0) (aV ρ h)):=λr e=>
 bW e (λe=>aq e λc e1 e2=>by
  obtain ⟨h1,h2⟩:=JW (ρ:=ρ) e1;unfold SJ;rw [h1];show gP P T c (MV.Is ρ pos) [] (MV.Is ρ kv) (aV ρ h)=_
  unfold gP;rw [h2];exact JV K c pos h r e2) λe=>gX e λq e=>aq e λt e1 e=>aq e λb e2 e=>d9 e2 λf h1 h2 h3=>av h2 λh2 h4=>av q λq1 q2=>by
  obtain ⟨x,y,k1,k2,k3⟩:=K.starts f h1;rw [dc h2] at k1;rw [dc h4] at k2;rw [k1,cW e1, ← aI e, ← h3,k3];show (if (a==P.kq)=true then some (mY.join x) else if (a==P.iA)=true then some (mY.starts x) else none).bind _=_
  rw [if_neg (by rw [(Bool.not_eq_true' _).mp q2];exact bU),if_pos q1]
  show (strOf (t.I ρ)).map _=_
  rw [k2];rfl
theorem Fi(K:Holds P ρ F)(H:rQ ρ S T){ov:MV}{a:Nat}{pos:List MV}{kn:List Nat}{kv:List MV}{h0 h:bg}:Le (yr P F S ov a pos kn kv h0 h) (vh ρ) (SJ P T (ov.I ρ) a (MV.Is ρ pos) kn (MV.Is ρ kv) (aV ρ h0) (aV ρ h)):=by
 unfold yr
 cases hm:(objOf ov).bind λo=>pX P o a h0 with
 |some c=>
  refine aq hm λo e1 e2=>?_
  obtain ⟨h1,h2⟩:=yy (ρ:=ρ) e2;rw [di e1];show Le _ _ ((d8 P (.obj o) a (aV ρ h0)).bind _)
  rw [h1];show Le _ _ ((P.fns[c.1]?).bind λfe=>(fh fe (c.2::MV.Is ρ pos) kn (MV.Is ρ kv)).bind λbs=>T.ca c.1 bs (aV ρ h))
  have h3:c.2::MV.Is ρ pos=MV.Is ρ (c.2::pos):=congrArg (·::MV.Is ρ pos) h2.symm;rw [h3];exact .bind (i:=id) (λ_ e=>e) λfe=>.bind j9 λbs=>H.ca c.1 bs h
 |none=>
  refine .gd λq=>?_
  rw [List.isEmpty_iff.mp q];exact JX K
theorem Fj{o:ai}{a:Nat}{args:List ai}{kn:List Nat}{kv:List ai}{l:Loc}{h:Hp}:iI P T (.aQ o a args kn kv) l h=(T.ev o l h).bind λov=>(d8 P ov.1 a ov.2).bind λc=>(qZ T args l ov.2).bind λas=>(qZ T kv l as.2).bind λks=>gP P T c as.1 kn ks.1 ks.2:=rfl
theorem JY{ov:MV}{a:Nat}{h0:Hp}{X:Option (List MV×Hp)}{Y:Hp→Option (List MV×Hp)}{kn:List Nat}:((d8 P ov a h0).bind λc=>X.bind λas=>(Y as.2).bind λks=>gP P T c as.1 kn ks.1 ks.2)=X.bind λas=>(Y as.2).bind λks=>SJ P T ov a as.1 kn ks.1 h0 ks.2:=by
 unfold SJ
 cases d8 P ov a h0 with
 |none=>
  cases X with
  |none=>rfl
  |some x=>cases hy:Y x.2 with
   |none=>show none=(Y x.2).bind _;rw [hy];rfl
   |some y=>show none=(Y x.2).bind _;rw [hy];rfl
 |some c=>rfl
theorem LH(K:Holds P ρ F){n k:Nat}(hn:n≤k)(hT:(E P k).ev=iI P T){x:ai}{l:aR}{h:bg}{r:MV×bg}(e:((Xd F n x l h).bind λr=>some (r,h))=some r):iI P T x (aG ρ l) (aV ρ h)=some (vh ρ r):=aq e λv e1 e2=>d9 e1 λa h1 h2 h3=>av h2 λh2 q4=>av h2 λh2 q3=>av h2 λq1 q2=>by have:=K.ev a h1 k (ak (cM q1) hn);rw [hT,cz q4,jl q3,jP n5 q2] at this;rw [this, ← aI e2,h3];rfl
theorem Cv(K:Holds P ρ F)(H:rQ ρ S T){n k:Nat}(hn:n≤k)(hT:(E P k).ev=iI P T)(e:ai)(l:aR)(h:bg):Le (zX P F S n e l h) (vh ρ) (iI P T e (aG ρ l) (aV ρ h)):=by
 cases e with
 |b7 v=>exact .bindL λw e=>gX e λq e=>.of (by rw [← aI e];show some (v,_)=some (v.I ρ,_);rw [iE q])
 |az v=>exact .bindL λw e=>gX e λq e=>.of (by rw [← aI e];show some (v,_)=some (v.I ρ,_);rw [iE q])
 |aP i=>
  refine .bindL λw e=>aq e λx e1 e2=>?_
  have h1:(aG ρ l)[i]? =some (x.I ρ):=by show (l.map _)[i]? =_;rw [List.getElem?_map,e1];rfl
  refine .of ?_;show (match (aG ρ l)[i]? with|some (some v)=>some (v,aV ρ h)|_=>none)=_
  rw [h1]
  cases x with
  |v m=>rw [← aI e2];rfl
  |u=>exact no e2
  |o _=>exact no e2
 |aX e a=>exact .bind (H.ev e l h) λv=>.bind (qh v.1 a v.2) λr=>.of rfl
 |bin op a b=>exact .bind (H.ev a l h) λv=>.bind (H.ev b l v.2) λw=>.bind (i:=MV.I ρ) (λ_ e=>NQ K e) λr=>.of rfl
 |bE es=>exact we K H es l h
 |fc es=>exact Ah K H es l h
 |bM e=>exact .bind (jm K H e l h) λb=>.of rfl
 |neg e=>
  refine .bind (H.ev e l h) λv=>.bindL λi e=>?_
  show Le _ _ (match v.1.I ρ with|.int i=>if bC i=true then some (MV.int (-i),aV ρ v.2) else none|_=>none)
  rw [cN e];exact .Vp (.of rfl)
 |cmp a ops es=>exact .bind (H.ev a l h) λv=>.bind (wg K H ops v.1 es l v.2) λb=>.of rfl
 |aO c a b=>exact .bind (jm K H c l h) λt=>.ite (H.ev a l t.2) (H.ev b l t.2)
 |sub a i=>
  have nat:Le ((S.ev a l h).bind λx=>(S.ev i l x.2).bind λy=>(NJ F x.1 y.1 y.2).bind λr=>some (r,y.2)) (vh ρ) (iI P T (.sub a i) (aG ρ l) (aV ρ h)):=.bind (H.ev a l h) λv=>.bind (H.ev i l v.2) λw=>.bind (i:=MV.I ρ) (λ_ e=>NS K e) λr=>.of rfl
  exact λr e=>bW e (λe=>LH K hn hT e) λe=>nat r e
 |slice a lo hi=>exact .bind (H.ev a l h) λv=>.bind (wc H lo l v.2) λw=>.bind (wc H hi l w.2) λz=>.bind (i:=MV.I ρ) (λ_ e=>E9 K e) λr=>.of rfl
 |list mu es=>exact .bind (jR H es l h) λvs=>.gd λq=>.of (by
   show (if (MV.Is ρ vs.1).length≤aH then some (sL mu (MV.Is ρ vs.1) (aV ρ vs.2)) else none)=_
   rw [if_pos (by rw [kP];exact bN q)];exact Cr)
 |tuple es=>exact .bind (jR H es l h) λvs=>.gd λq=>.of (by
   show (if (MV.Is ρ vs.1).length≤aH then some (MV.tup (MV.Is ρ vs.1),aV ρ vs.2) else none)=_
   rw [if_pos (by rw [kP];exact bN q)];rfl)
 |dict ks vs=>exact .Vp (.of rfl)
 |call f args kn kv=>exact .bind (H.ev f l h) λv=>.bind (jR H args l v.2) λw=>.bind (jR H kv l w.2) λz=>Ct K H
 |aQ o a args kn kv=>
  rw [Fj];refine .bind (H.ev o l h) λv=>?_
  rw [JY (Y:=λh=>qZ T kv (aG ρ l) h)]
  exact .bind (jR H args l v.2) λw=>.bind (jR H kv l w.2) λz=>Fi K H
 |comp mu elt nv tgt tup it ifs=>
  have nat:Le ((zT S it l h).bind λi=>(gW F S elt tgt tup ifs i.1 (List.replicate nv .u++l) i.2).bind λvs=>gd (!mu&&decide (vs.1.length≤aH)) (some (.lst vs.1,vs.2))) (vh ρ) (iI P T (.comp mu elt nv tgt tup it ifs) (aG ρ l) (aV ρ h)):=by
   refine .bind (Ai H it l h) λi=>?_
   have hl:List.replicate nv Option.none++aG ρ l=aG ρ (List.replicate nv .u++l):=by
    show _=List.map _ _
    rw [List.map_append,List.map_replicate];rfl
   show Le _ _ ((dW T elt tgt tup ifs (fE (MV.Is ρ i.1)) ((MV.Is ρ i.1).length+1) 0 (List.replicate nv Option.none++aG ρ l) (aV ρ i.2)).bind λw=>if (!mu&&decide (w.1.length≤aH))=true then some (MV.lst w.1,w.2) else none)
   rw [hl,wj T elt tgt tup ifs (MV.Is ρ i.1) (MV.Is ρ i.1) 0 _ _ rfl];exact .bind (jn K H i.1 _ i.2) λvs=>.gd λq=>.of (if_pos (by show (!mu&&decide ((MV.Is ρ vs.1).length≤aH))=true;rw [kP];exact q))
  exact λr e=>bW e (λe=>LH K hn hT e) λe=>nat r e
theorem Fo(H:rQ ρ S T)(t:dK)(v:MV)(l:aR)(h:bg):Le (EP P S t v l h) (lh ρ) (store P T t (v.I ρ) (aG ρ l) (aV ρ h)):=by
 cases t with
 |aP i=>exact .of (by show some (fD _ _ _,_)=some (aG ρ (gV l i v),_);rw [iF])
 |aX o a=>exact .bind (H.ev o l h) λov=>.bind (qi ov.1 a v ov.2) λh'=>.of rfl
 |sub o i=>exact .bind (H.ev o l h) λov=>.bind (H.ev i l ov.2) λiv=>.bind (yx ov.1 iv.1 v iv.2) λh'=>.of rfl
 |tup is=>exact .bind (kQ l is true v) λl'=>.of rfl
theorem nC(H:rQ ρ S T):∀(ts:List dK) (v:MV) (l:aR) (h:bg),Le (mH P S ts v l h) (lh ρ) (storeAll P T ts (v.I ρ) (aG ρ l) (aV ρ h))
 |[],v,l,h=>.of rfl
 |t::r,v,l,h=>.bind (Fo H t v l h) λa=>nC H r v a.1 a.2
theorem NV{β γ:Type}{j:β→γ}(a:Fl){x:Option β}{f:MV→Option β}{y:Option γ}{g:MV→Option γ}(hx:Le x j y)(hf:∀v,Le (f v) j (g (v.I ρ))):Le (match a with|.next=>x|.ret v=>f v) j (match a.I ρ with|.next=>y|.ret v=>g v):=match a with
 |.next=>hx
 |.ret v=>hf v
theorem rS(K:Holds P ρ F)(H:rQ ρ S T)(c:ai)(b:List aB):∀(k:Nat) (l:aR) (h:bg),Le (tR F S c b k l h) (NT ρ) (eU T c b k (aG ρ l) (aV ρ h))
 |0,l,h=>.no
 |k+1,l,h=>.bind (jm K H c l h) λt=>.ite (.bind (H.ex b l t.2) λa=>NV a.1 (rS K H c b k a.2.1 a.2.2) λv=>.of rfl) (.of rfl)
noncomputable def Fp(t:dK)(l:Loc)(x:MV):Option Loc:=match t with
 |.aP i=>dU l [i] false x
 |.tup is=>dU l is true x
 |_=>none
theorem Fq(t:dK)(l:aR)(x:MV):Le (zY t l x) (aG ρ) (Fp t (aG ρ l) (x.I ρ)):=by
 cases t with
 |aP i=>exact .of (congrArg some (iF l i x).symm)
 |tup is=>exact kQ l is true x
 |_=>exact .no
theorem nD(H:rQ ρ S T)(t:dK)(b:List aB):∀(xs:List MV) (l:aR) (h:bg),Le (mJ S t b xs l h) (NT ρ) (bO T t b (MV.Is ρ xs) (aG ρ l) (aV ρ h))
 |[],l,h=>.of rfl
 |x::r,l,h=>by
  show Le _ _ ((Fp t (aG ρ l) (x.I ρ)).bind λl=>(T.ex b l (aV ρ h)).bind λw=>match w.1 with|.next=>bO T t b (MV.Is ρ r) w.2.1 w.2.2|.ret v=>some (.ret v,w.2.1,w.2.2))
  exact .bind (Fq t l x) λl'=>.bind (H.ex b l' h) λa=>NV a.1 (nD H t b r a.2.1 a.2.2) λv=>.of rfl
theorem NW{l:aR}{i:Nat}{v:MV}(e:NK l i=some v):(aG ρ l)[i]? =some (some (v.I ρ)):=aq e λx e1 e2=>by
 show (l.map _)[i]? =_
 rw [List.getElem?_map,e1]
 cases x with
 |v m=>rw [← aI e2];rfl
 |u=>exact no e2
 |o _=>exact no e2
theorem LI(K:Holds P ρ F){n k:Nat}(hn:n≤k){st:aB}{l:aR}{h:bg}{r:Fl×aR×bg}(e:((Xc F n st l h).bind λr=>some (Fl.next,r))=some r):gp P (E P k) st (aG ρ l) (aV ρ h)=some (NT ρ r):=aq e λv e1 e2=>d9 e1 λa h1 h2 h3=>av h2 λh2 q4=>av h2 λh2 q3=>av h2 λq1 q2=>by have:=K.st a h1 k (ak (cM q1) hn);rw [EU q4,jl q3,jP n5 q2] at this;rw [this, ← aI e2, ← h3];rfl
theorem Ft(K:Holds P ρ F){k:Nat}(H:rQ ρ S (E P k)){n:Nat}(hn:n≤k)(st:aB)(l:aR)(h:bg):Le (ER P F S n st l h) (NT ρ) (gp P (E P k) st (aG ρ l) (aV ρ h)):=by
 cases st with
 |pass=>exact .of rfl
 |fail=>exact .no
 |expr e=>exact .bind (H.ev e l h) λv=>.of rfl
 |ret eo=>cases eo with
  |none=>exact .of rfl
  |some e=>exact .bind (H.ev e l h) λv=>.of rfl
 |assign ts e=>exact .bind (H.ev e l h) λv=>.bind (nC H ts v.1 l v.2) λw=>.of rfl
 |aug t op e=>cases t with
  |aP i=>
   refine .bindL λold eo=>?_
   show Le _ _ (match (aG ρ l)[i]? with|some (some old)=>(((E P k).ev e (aG ρ l) (aV ρ h)).bind λw=>(iT op old w.1 w.2).bind λr=>some (Fl.next,fD (aG ρ l) i r,w.2))|_=>none)
   rw [NW eo];exact .bind (H.ev e l h) λv=>.bind (i:=MV.I ρ) (λ_ e=>E7 K e) λr=>.of (by show some (Fl.next,fD _ _ _,_)=some (Fl.next,aG ρ (gV l i r),_);rw [iF];rfl)
  |aX o a=>exact .bind (H.ev o l h) λov=>.bind (qh ov.1 a ov.2) λold=>.bind (H.ev e l ov.2) λv=>.bind (i:=MV.I ρ) (λ_ e=>E7 K e) λr=>.bind (qi ov.1 a r v.2) λh'=>.of rfl
  |sub o i=>exact .no
  |tup is=>exact .no
 |aO c a b=>exact .bind (jm K H c l h) λt=>.ite (H.ex a l t.2) (H.ex b l t.2)
 |cR c b=>exact λr e=>bW e (λe=>LI K hn e) λe=>rS K H c b _ l h r e
 |fz t it b=>exact λr e=>bW e (λe=>LI K hn e) λe=>Le.bind (j:=NT ρ) (Ai H it l h) (λi=>nD H t b i.1 l i.2) r e
theorem Cw(K:Holds P ρ F){k:Nat}(H:rQ ρ S (E P k)){n:Nat}(hn:n≤k)(b:List aB)(l:aR)(h:bg):Le (zZ P F S n b l h) (NT ρ) (Df P (E P k) b (aG ρ l) (aV ρ h)):=match b with
 |[]=>.of rfl
 |s::r=>.bind (Ft K H hn s l h) λa=>NV a.1 (H.ex r a.2.1 a.2.2) λv=>.of rfl
theorem Cy(K:Holds P ρ F)(H:rQ ρ S T){n k:Nat}(hn:n≤k)(hT:(E P k).ca=sM P T)(i:Nat)(bs:List MV)(h:bg):Le (z5 P F S n i bs h) (vh ρ) (sM P T i (MV.Is ρ bs) (aV ρ h)):=λr e=>by
 refine bW e (λe=>d9 e λa h1 h2 h3=>av h2 λh2 q4=>av h2 λh2 q3=>av h2 λq1 q2=>?_) λe=>?_
 ·rw [← hT, ← h3, ← cG q2, ← fJ q3, ← jl q4]
  exact K.call a h1 k (ak (cM q1) hn)
 ·refine Le.bind (i:=id) (j:=vh ρ) (λ_ e=>e) (λfe=>?_) r e
  have hl:(MV.Is ρ bs).map some++List.replicate (fe.jw - (MV.Is ρ bs).length) Option.none=aG ρ (bs.map .v++List.replicate (fe.jw - bs.length) .u):=by
   show _=List.map _ _
   rw [List.map_append,List.map_replicate,kP,bT,List.map_map,List.map_map];rfl
  show Le _ _ ((T.ex fe.body ((MV.Is ρ bs).map some++List.replicate (fe.jw - (MV.Is ρ bs).length) Option.none) (aV ρ h)).bind λw=>match w.1 with|.next=>some (MV.none,w.2.2)|.ret v=>some (v,w.2.2))
  rw [hl];exact .bind (H.ex fe.body _ h) λa=>.of (by
   show (match a.1.I ρ with|.next=>some (MV.none,aV ρ a.2.2)|.ret v=>some (v,aV ρ a.2.2))=some ((z0 a.1).I ρ,aV ρ a.2.2)
   cases a.1<;>rfl)
theorem tW(K:Holds P ρ F):∀(n k:Nat),n≤k→rQ ρ (SE P F n) (E P k)
 |0,_,_=>⟨λ_ _ _=>.no,λ_ _ _=>.no,λ_ _ _=>.no⟩
 |n+1,0,h=>(Nat.not_succ_le_zero n h).elim
 |n+1,k+1,h=>by have H:=tW K n k (Nat.le_of_succ_le_succ h);exact ⟨λe l hp=>Cv K H h rfl e l hp,λb l hp=>Cw K H (Nat.le_of_succ_le_succ h) b l hp,λf bs hp=>Cy K H h rfl f bs hp⟩
end
noncomputable def fK(P:Prog)(F:Facts)(N f:Nat)(as:List MV)(h:bg)(r:MV)(h':bg):Bool:=gU ((SE P F N).ca f as h) λx=>nM x.1 r&&EG x.2 h'
noncomputable def eZ(P:Prog)(F:Facts)(N:Nat)(b:List aB)(l:aR)(h:bg)(fl:Fl)(l':aR)(h':bg):Bool:=gU ((SE P F N).ex b l h) λx=>Co x.1 fl&&Hq Cn x.2.1 l'&&EG x.2.2 h'
noncomputable def gr(P:Prog)(F:Facts)(N:Nat)(e:ai)(l:aR)(h:bg)(r:MV)(h':bg):Bool:=gU ((SE P F N).ev e l h) λx=>nM x.1 r&&EG x.2 h'
noncomputable def JZ(P:Prog)(F:Facts)(N:Nat)(e:ai)(l:aR)(h:bg)(b:Bool)(h':bg):Bool:=gU (nB F (SE P F N) e l h) λx=>decide (x.1=b)&&EG x.2 h'
noncomputable def n7(P:Prog)(F:Facts)(N:Nat)(c:ai)(b:List aB)(l:aR)(h:bg)(l':aR)(h':bg):Bool:=gU (nB F (SE P F N) c l h) λt=>t.1&&eZ P F N b l t.2 .next l' h'
section
variable {P:Prog}{ρ:eN}{F:Facts}(K:Holds P ρ F)
include K
theorem eX{N f:Nat}{as:List MV}{h:bg}{r:MV}{h':bg}(e:fK P F N f as h r h'=true){k:Nat}(hk:N≤k):(E P k).ca f (MV.Is ρ as) (aV ρ h)=some (r.I ρ,aV ρ h'):=bV e λx e1 e2=>av e2 λe2 e3=>by rw [(tW K N k hk).ca f as h x e1, ← dc e2, ← jl e3];rfl
theorem qj{N:Nat}{e:ai}{l:aR}{h:bg}{r:MV}{h':bg}(q:gr P F N e l h r h'=true){k:Nat}(hk:N≤k):(E P k).ev e (aG ρ l) (aV ρ h)=some (r.I ρ,aV ρ h'):=bV q λx e1 e2=>av e2 λe2 e3=>by rw [(tW K N k hk).ev e l h x e1, ← dc e2, ← jl e3];rfl
theorem fq{N:Nat}{b:List aB}{l:aR}{h:bg}{fl:Fl}{l':aR}{h':bg}(q:eZ P F N b l h fl l' h'=true){k:Nat}(hk:N≤k):(E P k).ex b (aG ρ l) (aV ρ h)=some (fl.I ρ,aG ρ l',aV ρ h'):=bV q λx e1 e2=>av e2 λe2 e3=>av e2 λe2 e4=>by rw [(tW K N k hk).ex b l h x e1, ← n6 e2, ← jP n5 e4, ← jl e3];rfl
theorem Fv{N:Nat}{e:ai}{l:aR}{h:bg}{b:Bool}{h':bg}(q:JZ P F N e l h b h'=true){k:Nat}(hk:N≤k):test (E P k) e (aG ρ l) (aV ρ h)=some (b,aV ρ h'):=bV q λx e1 e2=>av e2 λe2 e3=>by rw [jm K (tW K N k hk) e l h x e1, ← bN e2, ← jl e3];rfl
theorem kR{N:Nat}{c:ai}{b:List aB}{l l':aR}{h h':bg}(q:n7 P F N c b l h l' h'=true){k:Nat}(hk:N≤k)(j:Nat):eU (E P k) c b (j+1) (aG ρ l) (aV ρ h)=eU (E P k) c b j (aG ρ l') (aV ρ h'):=
 bV q λx e1 e2=>av e2 λe2 e3=>by
  have h1:=jm K (tW K N k hk) c l h x e1;have h2:=fq K e3 hk;show (test (E P k) c _ _).bind (λr=>if r.1=true then ((E P k).ex b _ r.2).bind (λw=>match w.1 with|.next=>eU (E P k) c b j w.2.1 w.2.2|.ret v=>some (.ret v,w.2.1,w.2.2)) else some (.next,_,r.2))=_
  rw [h1];show (if x.1=true then ((E P k).ex b _ (aV ρ x.2)).bind (λw=>match w.1 with|.next=>eU (E P k) c b j w.2.1 w.2.2|.ret v=>some (.ret v,w.2.1,w.2.2)) else some (.next,_,aV ρ x.2))=_
  rw [e2,if_pos rfl,h2];rfl
theorem rT{N:Nat}{c:ai}{b:List aB}{l:aR}{h h':bg}(q:JZ P F N c l h false h'=true){k:Nat}(hk:N≤k)(j:Nat):eU (E P k) c b (j+1) (aG ρ l) (aV ρ h)=some (.next,aG ρ l,aV ρ h'):=by
 have h1:=Fv K q hk;show (test (E P k) c _ _).bind _=_
 rw [h1];rfl
theorem wm{N:Nat}{t:Nat}{b:List aB}{x:MV}{l l':aR}{h h':bg}(q:eZ P F N b (gV l t x) h .next l' h'=true){k:Nat}(hk:N≤k)(r:List MV):bO (E P k) (.aP t) b (x.I ρ::r) (aG ρ l) (aV ρ h)=bO (E P k) (.aP t) b r (aG ρ l') (aV ρ h'):=by
 have h2:=fq K q hk;show ((E P k).ex b (fD (aG ρ l) t (x.I ρ)) (aV ρ h)).bind _=_
 rw [← iF,h2];rfl
end
theorem aa{α:Type}{p:α→Prop}:∀e∈([]:List α),p e:=λ_ h=>(dm h).elim
theorem af{α:Type}{p:α→Prop}{a:α}{l:List α}(h:p a)(k:∀e∈l,p e):∀e∈a::l,p e:=List.forall_mem_cons.mpr ⟨h,k⟩
theorem iY{P:Prog}{ρ:eN}:Holds P ρ {}:=⟨aa,aa,aa,aa,aa,aa,aa,aa,aa,aa,aa,aa,aa⟩
namespace L1
noncomputable def pI(i:Int):ai:=.b7 (.int i)
noncomputable def pS(s:List Nat):ai:=.b7 (.str s)
noncomputable def pT:ai:=.b7 (.bool true)
noncomputable def pF:ai:=.b7 (.bool false)
noncomputable def pN:ai:=.b7 .none
noncomputable def q0:ai:=.aP 0
noncomputable def q1:ai:=.aP 1
noncomputable def q2:ai:=.aP 2
noncomputable def q3:ai:=.aP 3
noncomputable def q4:ai:=.aP 4
noncomputable def q5:ai:=.aP 5
noncomputable def q6:ai:=.aP 6
noncomputable def q7:ai:=.aP 7
noncomputable def q8:ai:=.aP 8
noncomputable def q9:ai:=.aP 9
noncomputable def xj:ai:=.aP 10
noncomputable def NX:ai:=.aP 11
noncomputable def Qh:ai:=.aP 12
noncomputable def Vq:ai:=.aP 13
noncomputable def J0:ai:=.aP 14
noncomputable def Hr:ai:=.aP 15
noncomputable def Ak:ai:=.aP 16
noncomputable def tY:ai:=.aP 17
noncomputable def q18:ai:=.aP 18
noncomputable def q19:ai:=.aP 19
noncomputable def Vr:ai:=.aP 21
noncomputable def q22:ai:=.aP 22
noncomputable def Xf:ai:=.aP 23
noncomputable def pA(n:Nat)(e:ai):aB:=.assign [.aX q0 n] e
noncomputable def pB(n:Nat)(e:ai):aB:=.assign [.aP n] e
noncomputable def pC(n:Nat):ai:=.aX q0 n
noncomputable def pD(n:Nat)(a:List ai)(k:List Nat)(v:List ai):ai:=.aQ q0 n a k v
noncomputable def q20:ai:=.aP 20
noncomputable def q24:ai:=.aP 24
noncomputable def f0:cU:=⟨[0,1,2],[.none,.none],3,[pA 1 q1,pA 2 q2]⟩
noncomputable def f1:cU:=⟨[0,3,1,2],[.none,.none],4,[pA 3 q1,pA 1 q2,pA 2 q3]⟩
noncomputable def f2:cU:=⟨[0,3,4,5,1,2,6],[.none,.none,.none],7,[pA 3 q1,pA 4 q2,pA 5 q3,pA 1 q4,pA 2 q5,pA 6 q6]⟩
noncomputable def f3:cU:=⟨[0,1,2,7],[.none,.none,.none],4,[pA 1 q1,pA 2 q2,pA 7 q3]⟩
noncomputable def f4:cU:=⟨[0,1,2,8,9,10],[.none,.none,.none,.none,.none],6,[pA 1 q1,pA 2 q2,pA 8 q3,pA 9 q4,pA 10 q5]⟩
noncomputable def f5:cU:=⟨[0,1,2,8],[.none,.none,.none],4,[pA 1 q1,pA 2 q2,pA 8 q3]⟩
noncomputable def f6:cU:=⟨[0,3,4,5,11,1,2,12],[.none,.none,.none],8,[pA 3 q1,pA 4 q2,pA 5 q3,pA 11 q4,pA 1 q5,pA 2 q6,pA 12 q7]⟩
noncomputable def f7:cU:=⟨[0,13,14,15,16,17,18,19,20],[],9,[pA 13 q1,pA 14 q2,pA 15 q3,pA 16 q4,pA 17 q5,pA 18 q6,pA 19 q7,pA 20 q8]⟩
noncomputable def f8:cU:=⟨[0,21,22,23,24,25,26],[.none,.none,.none,.none,.none],7,[pA 21 q1,pA 7 pN,pA 27 (.list true []),pA 28 (pC 29),pA 30 (.list true []),pA 31 pN,pA 32 (.list true []),pA 23 pN,pA 33 (pI 0),pA 34 pF,pA 35 pF,pA 36 pF,pA 37 pF,pA 38 (pI 0),pA 39 (pI 0),pA 40 pT,pA 41 pT,pA 42 pF,pA 22 q2,pA 25 q5,pA 43 (pI 2),.aO (.bE [q3,.cmp (pI 1) [.Lt,.Lt] [q3,pI 10]]) [pA 43 q3] [],pA 44 (pI 80),.aO (.bE [q4,.cmp q4 [.Gt] [.bin .Mult (pC 43) (pI 2)]]) [pA 44 q4] [],pA 45 (pS [10]),.aO (.cmp q6 [.In] [.list false [pS [13],pS [10],pS [13,10]]]) [pA 45 q6] [],pA 46 pN,pA 47 pN,pA 48 pN,pA 49 pN,pA 12 pN]⟩
noncomputable def f9:cU:=⟨[0,31],[],2,[.expr (.aQ (pC 30) 50 [q1] [] []),.cR (.bM (pD 51 [] [] [])) [pA 31 (.aQ (pC 30) 52 [pI 0] [] []),.expr (pD 28 [] [] []),pA 31 pN]]⟩
noncomputable def f10:cU:=⟨[0],[],2,[.aO (.bM (pC 30)) [.ret (some pT)] [],pB 1 (.sub (pC 30) (pI 0)),.aO (.call (.az (.bi .isinstance)) [q1,.az (.cls 6)] [] []) [.ret (some (pD 53 [pI 1] [] []))] [.aO (.call (.az (.bi .isinstance)) [q1,.az (.cls 10)] [] []) [.ret (some (pD 53 [pI 2] [] []))] [.aO (.call (.az (.bi .isinstance)) [q1,.az (.cls 12)] [] []) [.ret (some (pD 53 [pI 3] [] []))] [.ret (some pF)]]]]⟩
noncomputable def f11:cU:=⟨[0,54],[],4,[pB 2 (pI 0),.fz (.aP 3) (.val (.slice (pC 30) (some (pI 1)) none)) [.aO (.call (.az (.bi .isinstance)) [q3,.tuple [.az (.cls 6),.az (.cls 2)]] [] []) [.aug (.aP 2) .Add (pI 1)] [.aO (.call (.az (.bi .isinstance)) [q3,.tuple [.az (.cls 7),.az (.cls 3)]] [] []) [.aug (.aP 2) .Sub (pI 1)] [.aO (.call (.az (.bi .isinstance)) [q3,.az (.cls 5)] [] []) [pB 2 (.neg (pI 1))] []]],.aO (.cmp q2 [.Lt] [pI 0]) [.ret (some pF)] []],.ret (some (.cmp (.call (.az (.bi .len)) [pC 30] [] []) [.Lt] [.bin .Add q1 (pI 1)]))]⟩
noncomputable def f12:cU:=⟨[0,55,56],[.bool false,.bool false],3,[.expr (.aQ (pC 32) 50 [pC 23] [] []),.aO (.cmp (pC 23) [.Is] [pN]) [.aO q1 [pA 23 (pC 43)] [pA 23 (pI 0)]] [.aO (.bM q2) [.aug (.aX q0 23) .Add (pC 43)] []]]⟩
noncomputable def f13:cU:=⟨[0],[],1,[.aO (.call (.az (.bi .isinstance)) [pC 31,.az (.cls 4)] [] []) [.expr (pD 58 [] [] []),pA 28 (pC 57)] [.fail]]⟩
noncomputable def f14:cU:=⟨[0],[],1,[.fail]⟩
noncomputable def f15:cU:=⟨[0],[],1,[.ret (some (pD 59 [] [60] [pT]))]⟩
noncomputable def f16:cU:=⟨[0,60],[.bool false],9,[.aO (.call (.az (.bi .isinstance)) [pC 31,.az (.cls 6)] [] []) [.aO (.bE [.fc [.aX (pC 31) 9,.aX (pC 31) 10],pC 42]) [.expr (pD 64 [pS [46,46,46],pT] [] []),.expr (pD 65 [] [] [])] [],.aO (.aX (pC 31) 9) [pB 2 (pD 66 [.aX (pC 31) 9] [] []),.expr (pD 67 [q2] [] [])] [],pA 46 (.aQ (pC 68) 62 [] [] []),.aO (.aX (pC 31) 10) [.fail,.fz (.aP 4) (.val q3) [pB 5 (.sub (.aX (pC 31) 10) q4),.assign [.sub (pC 46) q5] q4,pB 6 (pD 71 [q4] [] []),pB 7 (pD 72 [q5] [] []),.expr (pD 73 [q6,q7] [] [])]] [],pB 8 (.bE [q1,.bM (.aX (pC 31) 8),.bM (pC 22),.bM (.aX (pC 31) 9),.bM (.aX (pC 31) 10),.bM (pD 74 [] [] [])]),.aO (.bM q8) [.expr (pD 65 [] [] []),.expr (pD 64 [pS [45,45,45],pT] [] []),.aO (pC 22) [.expr (pD 65 [] [] [])] []] [],pA 28 (pC 61)] [.aO (.call (.az (.bi .isinstance)) [pC 31,.az (.cls 5)] [] []) [.aO (pC 42) [.expr (pD 64 [pS [46,46,46],pT] [] []),.expr (pD 65 [] [] [])] [],.expr (pD 69 [] [] []),pA 28 (pC 63)] [.fail]]]⟩
noncomputable def f17:cU:=⟨[0],[],1,[.aO (.call (.az (.bi .isinstance)) [pC 31,.az (.cls 7)] [] []) [.expr (pD 65 [] [] []),.aO (.aX (pC 31) 8) [.expr (pD 64 [pS [46,46,46],pT] [] []),.expr (pD 65 [] [] [])] [],.expr (pD 75 [] [] []),pA 28 (pC 59)] [.fail]]⟩
noncomputable def f18:cU:=⟨[0],[],1,[.expr (.aQ (pC 27) 50 [pC 76] [] []),.expr (pD 77 [] [78] [pT])]⟩
noncomputable def f19:cU:=⟨[0,78,79,80,81],[.bool false,.bool false,.bool false,.bool false],5,[pA 34 q1,pA 35 q2,pA 36 q3,pA 37 q4,.aO (.call (.az (.bi .isinstance)) [pC 31,.az (.cls 8)] [] []) [.expr (pD 82 [] [] [])] [.aO (.call (.az (.bi .isinstance)) [pC 31,.tuple [.az (.cls 9),.az (.cls 2)]] [] []) [.expr (pD 83 [pS [38]] [] []),.expr (pD 84 [] [] []),.aO (.call (.az (.bi .isinstance)) [pC 31,.az (.cls 9)] [] []) [.expr (pD 85 [] [] [])] [.aO (.call (.az (.bi .isinstance)) [pC 31,.az (.cls 10)] [] []) [.aO (.fc [pC 33,pC 22,.aX (pC 31) 6,pD 86 [] [] []]) [.expr (pD 87 [] [] [])] [.expr (pD 88 [] [] [])]] [.aO (.call (.az (.bi .isinstance)) [pC 31,.az (.cls 12)] [] []) [.aO (.fc [pC 33,pC 22,.aX (pC 31) 6,pD 89 [] [] []]) [.expr (pD 90 [] [] [])] [.expr (pD 91 [] [] [])]] []]]] [.fail]]]⟩
noncomputable def f20:cU:=⟨[0],[],1,[.aO (.cmp (.aX (pC 31) 3) [.Is] [pN]) [.fail] [],.expr (pD 83 [pS [42]] [] []),pA 28 (.aQ (pC 27) 52 [] [] [])]⟩
noncomputable def f21:cU:=⟨[0],[],1,[.expr (pD 92 [] [55] [pT]),.expr (pD 93 [] [] []),pA 23 (.aQ (pC 32) 52 [] [] []),pA 28 (.aQ (pC 27) 52 [] [] [])]⟩
noncomputable def f22:cU:=⟨[0],[],1,[.expr (pD 64 [pS [91],pT] [40] [pT]),.aug (.aX q0 33) .Add (pI 1),.expr (pD 92 [] [55] [pT]),pA 28 (pC 94)]⟩
noncomputable def f23:cU:=⟨[0],[],1,[.aO (.call (.az (.bi .isinstance)) [pC 31,.az (.cls 11)] [] []) [pA 23 (.aQ (pC 32) 52 [] [] []),.aug (.aX q0 33) .Sub (pI 1),.expr (pD 64 [pS [93],pF] [] []),pA 28 (.aQ (pC 27) 52 [] [] [])] [.aO (.fc [pC 22,.cmp (pC 39) [.Gt] [pC 44]]) [.expr (pD 65 [] [] [])] [],.expr (.aQ (pC 27) 50 [pC 95] [] []),.expr (pD 77 [] [79] [pT])]]⟩
noncomputable def f24:cU:=⟨[0],[],1,[.aO (.call (.az (.bi .isinstance)) [pC 31,.az (.cls 11)] [] []) [pA 23 (.aQ (pC 32) 52 [] [] []),.aug (.aX q0 33) .Sub (pI 1),.aO (pC 22) [.expr (pD 64 [pS [44],pF] [] []),.expr (pD 65 [] [] [])] [],.expr (pD 64 [pS [93],pF] [] []),pA 28 (.aQ (pC 27) 52 [] [] [])] [.expr (pD 64 [pS [44],pF] [] []),.aO (.fc [pC 22,.cmp (pC 39) [.Gt] [pC 44]]) [.expr (pD 65 [] [] [])] [],.expr (.aQ (pC 27) 50 [pC 95] [] []),.expr (pD 77 [] [79] [pT])]]⟩
noncomputable def f25:cU:=⟨[0],[],1,[.expr (pD 64 [pS [123],pT] [40] [pT]),.aug (.aX q0 33) .Add (pI 1),.expr (pD 92 [] [55] [pT]),pA 28 (pC 96)]⟩
noncomputable def f26:cU:=⟨[0],[],1,[.aO (.call (.az (.bi .isinstance)) [pC 31,.az (.cls 13)] [] []) [pA 23 (.aQ (pC 32) 52 [] [] []),.aug (.aX q0 33) .Sub (pI 1),.expr (pD 64 [pS [125],pF] [] []),pA 28 (.aQ (pC 27) 52 [] [] [])] [.aO (.fc [pC 22,.cmp (pC 39) [.Gt] [pC 44]]) [.expr (pD 65 [] [] [])] [],.aO (.bE [.bM (pC 22),pD 97 [] [] []]) [.expr (.aQ (pC 27) 50 [pC 98] [] []),.expr (pD 77 [] [80,81] [pT,pT])] [.expr (pD 64 [pS [63],pT] [] []),.expr (.aQ (pC 27) 50 [pC 99] [] []),.expr (pD 77 [] [80] [pT])]]]⟩
noncomputable def f27:cU:=⟨[0],[],1,[.aO (.call (.az (.bi .isinstance)) [pC 31,.az (.cls 13)] [] []) [pA 23 (.aQ (pC 32) 52 [] [] []),.aug (.aX q0 33) .Sub (pI 1),.aO (pC 22) [.expr (pD 64 [pS [44],pF] [] []),.expr (pD 65 [] [] [])] [],.expr (pD 64 [pS [125],pF] [] []),pA 28 (.aQ (pC 27) 52 [] [] [])] [.expr (pD 64 [pS [44],pF] [] []),.aO (.fc [pC 22,.cmp (pC 39) [.Gt] [pC 44]]) [.expr (pD 65 [] [] [])] [],.aO (.bE [.bM (pC 22),pD 97 [] [] []]) [.expr (.aQ (pC 27) 50 [pC 98] [] []),.expr (pD 77 [] [80,81] [pT,pT])] [.expr (pD 64 [pS [63],pT] [] []),.expr (.aQ (pC 27) 50 [pC 99] [] []),.expr (pD 77 [] [80] [pT])]]]⟩
noncomputable def f28:cU:=⟨[0],[],1,[.expr (pD 64 [pS [58],pF] [] []),.expr (.aQ (pC 27) 50 [pC 100] [] []),.expr (pD 77 [] [80] [pT])]⟩
noncomputable def f29:cU:=⟨[0],[],1,[.aO (.fc [pC 22,.cmp (pC 39) [.Gt] [pC 44]]) [.expr (pD 65 [] [] [])] [],.expr (pD 64 [pS [58],pT] [] []),.expr (.aQ (pC 27) 50 [pC 100] [] []),.expr (pD 77 [] [80] [pT])]⟩
noncomputable def f30:cU:=⟨[0],[],2,[pB 1 (.bE [pC 36,.bM (pC 41)]),.expr (pD 92 [] [55,56] [pF,q1]),pA 28 (pC 101)]⟩
noncomputable def f31:cU:=⟨[0],[],1,[.ret (some (pD 102 [] [60] [pT]))]⟩
noncomputable def f32:cU:=⟨[0,60],[.bool false],2,[.aO (.bE [.bM q1,.call (.az (.bi .isinstance)) [pC 31,.az (.cls 11)] [] []]) [pA 23 (.aQ (pC 32) 52 [] [] []),pA 28 (.aQ (pC 27) 52 [] [] [])] [.expr (pD 65 [] [] []),.expr (pD 64 [pS [45],pT] [41] [pT]),.expr (.aQ (pC 27) 50 [pC 102] [] []),.expr (pD 77 [] [79] [pT])]]⟩
noncomputable def f33:cU:=⟨[0],[],1,[.expr (pD 92 [] [55] [pF]),pA 28 (pC 103)]⟩
noncomputable def f34:cU:=⟨[0],[],1,[.ret (some (pD 104 [] [60] [pT]))]⟩
noncomputable def f35:cU:=⟨[0,60],[.bool false],2,[.aO (.bE [.bM q1,.call (.az (.bi .isinstance)) [pC 31,.az (.cls 13)] [] []]) [pA 23 (.aQ (pC 32) 52 [] [] []),pA 28 (.aQ (pC 27) 52 [] [] [])] [.expr (pD 65 [] [] []),.aO (pD 97 [] [] []) [.expr (.aQ (pC 27) 50 [pC 105] [] []),.expr (pD 77 [] [80,81] [pT,pT])] [.expr (pD 64 [pS [63],pT] [41] [pT]),.expr (.aQ (pC 27) 50 [pC 106] [] []),.expr (pD 77 [] [80] [pT])]]]⟩
noncomputable def f36:cU:=⟨[0],[],1,[.expr (pD 64 [pS [58],pF] [] []),.expr (.aQ (pC 27) 50 [pC 104] [] []),.expr (pD 77 [] [80] [pT])]⟩
noncomputable def f37:cU:=⟨[0],[],1,[.expr (pD 65 [] [] []),.expr (pD 64 [pS [58],pT] [41] [pT]),.expr (.aQ (pC 27) 50 [pC 104] [] []),.expr (pD 77 [] [80] [pT])]⟩
noncomputable def f38:cU:=⟨[0],[],1,[.ret (some (.bE [.call (.az (.bi .isinstance)) [pC 31,.az (.cls 10)] [] [],pC 30,.call (.az (.bi .isinstance)) [.sub (pC 30) (pI 0),.az (.cls 11)] [] []]))]⟩
noncomputable def f39:cU:=⟨[0],[],1,[.ret (some (.bE [.call (.az (.bi .isinstance)) [pC 31,.az (.cls 12)] [] [],pC 30,.call (.az (.bi .isinstance)) [.sub (pC 30) (pI 0),.az (.cls 13)] [] []]))]⟩
noncomputable def f40:cU:=⟨[0],[],2,[.aO (.fc [.bM (.call (.az (.bi .isinstance)) [pC 31,.az (.cls 6)] [] []),.bM (pC 30)]) [.ret (some pF)] [],pB 1 (.sub (pC 30) (pI 0)),.ret (some (.bE [.call (.az (.bi .isinstance)) [q1,.az (.cls 9)] [] [],.cmp (.aX q1 3) [.Is] [pN],.cmp (.aX q1 4) [.Is] [pN],.aX q1 5,.cmp (.aX q1 11) [.Eq] [pS []]]))]⟩
noncomputable def f41:cU:=⟨[0],[],2,[pB 1 (pI 0),.aO (.bE [.call (.az (.bi .isinstance)) [pC 31,.az (.cls 1)] [] [],.cmp (.aX (pC 31) 3) [.IsNot] [pN]]) [.aO (.cmp (pC 47) [.Is] [pN]) [pA 47 (pD 107 [.aX (pC 31) 3] [] [])] [],.aug (.aP 1) .Add (.call (.az (.bi .len)) [pC 47] [] [])] [],.aO (.bE [.call (.az (.bi .isinstance)) [pC 31,.tuple [.az (.cls 9),.az (.cls 2)]] [] [],.cmp (.aX (pC 31) 4) [.IsNot] [pN]]) [.aO (.cmp (pC 48) [.Is] [pN]) [pA 48 (pD 108 [.aX (pC 31) 4] [] [])] [],.aug (.aP 1) .Add (.call (.az (.bi .len)) [pC 48] [] [])] [],.aO (.call (.az (.bi .isinstance)) [pC 31,.az (.cls 9)] [] []) [.aO (.cmp (pC 49) [.Is] [pN]) [pA 49 (pD 109 [.aX (pC 31) 11] [] [])] [],.aug (.aP 1) .Add (.call (.az (.bi .len)) [.aX (pC 49) 13] [] [])] [],.ret (some (.bE [.cmp q1 [.Lt] [pI 128],.fc [.call (.az (.bi .isinstance)) [pC 31,.az (.cls 8)] [] [],.bE [.call (.az (.bi .isinstance)) [pC 31,.az (.cls 9)] [] [],.bM (.aX (pC 49) 14),.bM (.aX (pC 49) 15)],pD 86 [] [] [],pD 89 [] [] []]]))]⟩
noncomputable def f42:cU:=⟨[0,110],[],2,[.aO (.cmp (.aX (pC 31) 3) [.Is] [pN]) [pA 47 pN,.ret none] [],.aO (.cmp (pC 47) [.Is] [pN]) [pA 47 (pD 107 [.aX (pC 31) 3] [] [])] [],.aO (pC 47) [.expr (pD 64 [.bin .Add q1 (pC 47),pT] [] [])] [],pA 47 pN]⟩
noncomputable def f43:cU:=⟨[0],[],2,[pB 1 (.aX (pC 31) 4),.aO (.call (.az (.bi .isinstance)) [pC 31,.az (.cls 9)] [] []) [.aO (.cmp (pC 12) [.Is] [pN]) [pA 12 (pD 111 [] [] [])] [],.aO (.bE [.fc [.bM (pC 22),.cmp q1 [.Is] [pN]],.fc [.bE [.cmp (pC 12) [.Eq] [pS []],.sub (.aX (pC 31) 5) (pI 0)],.bE [.cmp (pC 12) [.NotEq] [pS []],.sub (.aX (pC 31) 5) (pI 1)]]]) [pA 48 pN,.ret none] [],.aO (.bE [.sub (.aX (pC 31) 5) (pI 0),.cmp q1 [.Is] [pN]]) [pB 1 (pS [33]),pA 48 pN] []] [.aO (.bE [.fc [.bM (pC 22),.cmp q1 [.Is] [pN]],.aX (pC 31) 5]) [pA 48 pN,.ret none] []],.aO (.cmp q1 [.Is] [pN]) [.fail] [],.aO (.cmp (pC 48) [.Is] [pN]) [pA 48 (pD 108 [q1] [] [])] [],.aO (pC 48) [.expr (pD 64 [pC 48,pT] [] [])] [],pA 48 pN]⟩
noncomputable def f44:cU:=⟨[0],[],1,[.aO (.cmp (pC 49) [.Is] [pN]) [pA 49 (pD 109 [.aX (pC 31) 11] [] [])] [],.aO (.fc [.cmp (.aX (pC 31) 12) [.Eq] [pS [34]],pC 22]) [.ret (some (pS [34]))] [],.aO (.bE [.bM (.aX (pC 31) 12),.sub (.aX (pC 31) 5) (pI 0)]) [.aO (.bE [.bM (.bE [pC 37,.fc [.aX (pC 49) 14,.aX (pC 49) 15]]),.fc [.bE [pC 33,.aX (pC 49) 16],.bE [.bM (pC 33),.aX (pC 49) 17]]]) [.ret (some (pS []))] []] [],.aO (.bE [.aX (pC 31) 12,.cmp (.aX (pC 31) 12) [.In] [pS [124,62]]]) [.aO (.bE [.bM (pC 33),.bM (pC 37),.aX (pC 49) 20]) [.ret (some (.aX (pC 31) 12))] []] [],.aO (.fc [.bM (.aX (pC 31) 12),.cmp (.aX (pC 31) 12) [.Eq] [pS [39]]]) [.aO (.bE [.aX (pC 49) 18,.bM (.bE [pC 37,.aX (pC 49) 15])]) [.ret (some (pS [39]))] []] [],.ret (some (pS [34]))]⟩
noncomputable def f45:cU:=⟨[0],[],2,[.aO (.cmp (pC 49) [.Is] [pN]) [pA 49 (pD 109 [.aX (pC 31) 11] [] [])] [],.aO (.cmp (pC 12) [.Is] [pN]) [pA 12 (pD 111 [] [] [])] [],pB 1 (.bM (pC 37)),.aO (.cmp (pC 12) [.Eq] [pS [34]]) [.expr (pD 112 [.aX (pC 49) 13,q1] [] [])] [.aO (.cmp (pC 12) [.Eq] [pS [39]]) [.expr (pD 113 [.aX (pC 49) 13,q1] [] [])] [.aO (.cmp (pC 12) [.Eq] [pS [62]]) [.expr (pD 114 [.aX (pC 49) 13] [] [])] [.aO (.cmp (pC 12) [.Eq] [pS [124]]) [.expr (pD 115 [.aX (pC 49) 13] [] [])] [.expr (pD 116 [.aX (pC 49) 13,q1] [] [])]]]],pA 49 pN,pA 12 pN]⟩
noncomputable def f46:cU:=⟨[0,4],[],12,[.aO (.bM q1) [.fail] [],.aO (.cmp q1 [.Eq] [pS [33]]) [.ret (some q1)] [],pB 2 pN,pB 3 q1,.fail,.fz (.aP 5) (.val q4) [.aO (.bE [.aQ q1 118 [q5] [] [],.fc [.cmp q5 [.Eq] [pS [33]],.cmp (.call (.az (.bi .len)) [q5] [] []) [.Lt] [.call (.az (.bi .len)) [q1] [] []]]]) [pB 2 (.sub (pC 46) q5),pB 3 (.slice q1 (some (.call (.az (.bi .len)) [q5] [] [])) none)] []],pB 6 (.list false []),.assign [.aP 7,.aP 8] (pI 0),.cR (.cmp q8 [.Lt] [.call (.az (.bi .len)) [q3] [] []]) [pB 9 (.sub q3 q8),.aO (.fc [.cmp (pS [48]) [.LtE,.LtE] [q9,pS [57]],.cmp (pS [65]) [.LtE,.LtE] [q9,pS [90]],.cmp (pS [97]) [.LtE,.LtE] [q9,pS [122]],.cmp q9 [.In] [pS [45,59,47,63,58,64,38,61,43,36,44,95,46,126,42,39,40,41,91,93]],.bE [.cmp q9 [.Eq] [pS [33]],.cmp q2 [.NotEq] [pS [33]]]]) [.aug (.aP 8) .Add (pI 1)] [.aO (.cmp q7 [.Lt] [q8]) [.expr (.aQ q6 50 [.slice q3 (some q7) (some q8)] [] [])] [],.assign [.aP 7,.aP 8] (.bin .Add q8 (pI 1)),pB 10 (.aQ q9 119 [pS [117,116,102,45,56]] [] []),.fz (.aP 9) (.val xj) [.expr (.aQ q6 50 [.bin .Mod (pS [37,37,37,48,50,88]) q9] [] [])]]],.aO (.cmp q7 [.Lt] [q8]) [.expr (.aQ q6 50 [.slice q3 (some q7) (some q8)] [] [])] [],pB 11 (.aQ (pS []) 117 [q6] [] []),.aO q2 [.fail] [.ret (some (.bin .Mod (pS [33,60,37,115,62]) NX))]]⟩
noncomputable def f47:cU:=⟨[0,3],[],3,[.aO (.bM q1) [.fail] [],.fz (.aP 2) (.val q1) [.aO (.bM (.fc [.cmp (pS [48]) [.LtE,.LtE] [q2,pS [57]],.cmp (pS [65]) [.LtE,.LtE] [q2,pS [90]],.cmp (pS [97]) [.LtE,.LtE] [q2,pS [122]],.cmp q2 [.In] [pS [45,95]]])) [.fail] []],.ret (some q1)]⟩
noncomputable def NY:cU:=⟨[0,13],[],24,[.aO (.bM q1) [.ret (some (.call (.az (.cls 14)) [] [13,14,15,16,17,18,19,20] [q1,pT,pF,pF,pT,pT,pT,pF]))] [],pB 2 pF,pB 3 pF,pB 4 pF,pB 5 pF,pB 6 pF,pB 7 pF,pB 8 pF,pB 9 pF,pB 10 pF,pB 11 pF,.aO (.fc [.aQ q1 118 [pS [45,45,45]] [] [],.aQ q1 118 [pS [46,46,46]] [] []]) [pB 2 pT,pB 3 pT] [],pB 12 pT,pB 13 (.fc [.cmp (.call (.az (.bi .len)) [q1] [] []) [.Eq] [pI 1],.cmp (.sub q1 (pI 1)) [.In] [pS [0,32,9,13,10,133,8232,8233]]]),pB 14 pF,pB 15 pF,pB 16 (pI 0),.cR (.cmp Ak [.Lt] [.call (.az (.bi .len)) [q1] [] []]) [pB 17 (.sub q1 Ak),.aO (.cmp Ak [.Eq] [pI 0]) [.aO (.cmp tY [.In] [pS [35,44,91,93,123,125,38,42,33,124,62,39,34,37,64,96]]) [pB 3 pT,pB 2 pT] [],.aO (.cmp tY [.In] [pS [63,58]]) [pB 3 pT,.aO Vq [pB 2 pT] []] [],.aO (.bE [.cmp tY [.Eq] [pS [45]],Vq]) [pB 3 pT,pB 2 pT] []] [.aO (.cmp tY [.In] [pS [44,63,91,93,123,125]]) [pB 3 pT] [],.aO (.cmp tY [.Eq] [pS [58]]) [pB 3 pT,.aO Vq [pB 2 pT] []] [],.aO (.bE [.cmp tY [.Eq] [pS [35]],Qh]) [pB 3 pT,pB 2 pT] []],.aO (.cmp tY [.In] [pS [10,133,8232,8233]]) [pB 4 pT] [],.aO (.bM (.fc [.cmp tY [.Eq] [pS [10]],.cmp (pS [32]) [.LtE,.LtE] [tY,pS [126]]])) [.aO (.bE [.fc [.cmp tY [.Eq] [pS [133]],.cmp (pS [160]) [.LtE,.LtE] [tY,pS [55295]],.cmp (pS [57344]) [.LtE,.LtE] [tY,pS [65533]],.cmp (pS [65536]) [.LtE,.Lt] [tY,pS [1114111]]],.cmp tY [.NotEq] [pS [65279]]]) [pB 18 pT,.aO (.bM (pC 25)) [pB 5 pT] []] [pB 5 pT]] [],.aO (.cmp tY [.Eq] [pS [32]]) [.aO (.cmp Ak [.Eq] [pI 0]) [pB 6 pT] [],.aO (.cmp Ak [.Eq] [.bin .Sub (.call (.az (.bi .len)) [q1] [] []) (pI 1)]) [pB 8 pT] [],.aO Hr [pB 10 pT] [],pB 14 pT,pB 15 pF] [.aO (.cmp tY [.In] [pS [10,133,8232,8233]]) [.aO (.cmp Ak [.Eq] [pI 0]) [pB 7 pT] [],.aO (.cmp Ak [.Eq] [.bin .Sub (.call (.az (.bi .len)) [q1] [] []) (pI 1)]) [pB 9 pT] [],.aO J0 [pB 11 pT] [],pB 14 pF,pB 15 pT] [pB 14 pF,pB 15 pF]],.aug (.aP 16) .Add (pI 1),pB 12 (.cmp tY [.In] [pS [0,32,9,13,10,133,8232,8233]]),pB 13 (.fc [.cmp (.bin .Add Ak (pI 1)) [.GtE] [.call (.az (.bi .len)) [q1] [] []],.cmp (.sub q1 (.bin .Add Ak (pI 1))) [.In] [pS [0,32,9,13,10,133,8232,8233]]])],pB 19 pT,pB 20 pT,pB 21 pT,pB 22 pT,pB 23 pT,.aO (.fc [q6,q7,q8,q9]) [.assign [.aP 19,.aP 20] pF] [],.aO q8 [pB 23 pF] [],.aO xj [.assign [.aP 19,.aP 20,.aP 21] pF] [],.aO (.fc [NX,q5]) [.assign [.aP 19,.aP 20,.aP 21,.aP 23] pF] [],.aO q4 [.assign [.aP 19,.aP 20] pF] [],.aO q3 [pB 19 pF] [],.aO q2 [pB 20 pF] [],.ret (some (.call (.az (.cls 14)) [] [13,14,15,16,17,18,19,20] [q1,pF,q4,q19,q20,Vr,q22,Xf]))]⟩
noncomputable def f49:cU:=⟨[0],[],1,[.pass]⟩
noncomputable def f50:cU:=⟨[0],[],1,[.pass]⟩
noncomputable def f51:cU:=⟨[0],[],1,[.expr (pD 75 [] [] [])]⟩
noncomputable def f52:cU:=⟨[0,110,120,40,41],[.bool false,.bool false],6,[.aO (.fc [pC 40,.bM q2]) [pB 5 q1] [pB 5 (.bin .Add (pS [32]) q1)],pA 40 q3,pA 41 (.bE [pC 41,q4]),.aug (.aX q0 39) .Add (.call (.az (.bi .len)) [q5] [] []),pA 42 pF,.expr (.aQ (pC 21) 121 [q5] [] [])]⟩
noncomputable def f53:cU:=⟨[0],[],3,[pB 1 (.fc [pC 23,pI 0]),.aO (.fc [.bM (pC 41),.cmp (pC 39) [.Gt] [q1],.bE [.cmp (pC 39) [.Eq] [q1],.bM (pC 40)]]) [.expr (pD 122 [] [] [])] [],.aO (.cmp (pC 39) [.Lt] [q1]) [pA 40 pT,pB 2 (.bin .Mult (pS [32]) (.bin .Sub q1 (pC 39))),pA 39 q1,.expr (.aQ (pC 21) 121 [q2] [] [])] []]⟩
noncomputable def f54:cU:=⟨[0,123],[.none],2,[.aO (.cmp q1 [.Is] [pN]) [pB 1 (pC 45)] [],pA 40 pT,pA 41 pT,.aug (.aX q0 38) .Add (pI 1),pA 39 (pI 0),.expr (.aQ (pC 21) 121 [q1] [] [])]⟩
noncomputable def f55:cU:=⟨[0,124,125],[.bool true],10,[.expr (pD 64 [pS [39],pT] [] []),pB 3 pF,pB 4 pF,.assign [.aP 5,.aP 6] (pI 0),.cR (.cmp q6 [.LtE] [.call (.az (.bi .len)) [q1] [] []]) [pB 7 pN,.aO (.cmp q6 [.Lt] [.call (.az (.bi .len)) [q1] [] []]) [pB 7 (.sub q1 q6)] [],.aO q3 [.aO (.fc [.cmp q7 [.Is] [pN],.cmp q7 [.NotEq] [pS [32]]]) [.aO (.bE [.cmp (.bin .Add q5 (pI 1)) [.Eq] [q6],.cmp (pC 39) [.Gt] [pC 44],q2,.cmp q5 [.NotEq] [pI 0],.cmp q6 [.NotEq] [.call (.az (.bi .len)) [q1] [] []]]) [.expr (pD 65 [] [] [])] [pB 8 (.slice q1 (some q5) (some q6)),.aug (.aX q0 39) .Add (.call (.az (.bi .len)) [q8] [] []),.expr (.aQ (pC 21) 121 [q8] [] [])],pB 5 q6] []] [.aO q4 [.aO (.fc [.cmp q7 [.Is] [pN],.cmp q7 [.NotIn] [pS [10,133,8232,8233]]]) [.aO (.cmp (.sub q1 q5) [.Eq] [pS [10]]) [.expr (pD 122 [] [] [])] [],.fz (.aP 9) (.val (.slice q1 (some q5) (some q6))) [.aO (.cmp q9 [.Eq] [pS [10]]) [.expr (pD 122 [] [] [])] [.expr (pD 122 [q9] [] [])]],.expr (pD 65 [] [] []),pB 5 q6] []] [.aO (.fc [.cmp q7 [.Is] [pN],.cmp q7 [.In] [pS [32,10,133,8232,8233]],.cmp q7 [.Eq] [pS [39]]]) [.aO (.cmp q5 [.Lt] [q6]) [pB 8 (.slice q1 (some q5) (some q6)),.aug (.aX q0 39) .Add (.call (.az (.bi .len)) [q8] [] []),.expr (.aQ (pC 21) 121 [q8] [] []),pB 5 q6] []] []]],.aO (.cmp q7 [.Eq] [pS [39]]) [pB 8 (pS [39,39]),.aug (.aX q0 39) .Add (pI 2),.expr (.aQ (pC 21) 121 [q8] [] []),pB 5 (.bin .Add q6 (pI 1))] [],.aO (.cmp q7 [.IsNot] [pN]) [pB 3 (.cmp q7 [.Eq] [pS [32]]),pB 4 (.cmp q7 [.In] [pS [10,133,8232,8233]])] [],.aug (.aP 6) .Add (pI 1)],.expr (pD 64 [pS [39],pF] [] [])]⟩
noncomputable def f56:cU:=⟨[0,124,125],[.bool true],7,[.expr (pD 64 [pS [34],pT] [] []),.assign [.aP 3,.aP 4] (pI 0),.cR (.cmp q4 [.LtE] [.call (.az (.bi .len)) [q1] [] []]) [pB 5 pN,.aO (.cmp q4 [.Lt] [.call (.az (.bi .len)) [q1] [] []]) [pB 5 (.sub q1 q4)] [],.aO (.fc [.cmp q5 [.Is] [pN],.cmp q5 [.In] [pS [34,92,133,8232,8233,65279]],.bM (.fc [.cmp (pS [32]) [.LtE,.LtE] [q5,pS [126]],.bE [pC 25,.fc [.cmp (pS [160]) [.LtE,.LtE] [q5,pS [55295]],.cmp (pS [57344]) [.LtE,.LtE] [q5,pS [65533]]]]])]) [.aO (.cmp q3 [.Lt] [q4]) [pB 6 (.slice q1 (some q3) (some q4)),.aug (.aX q0 39) .Add (.call (.az (.bi .len)) [q6] [] []),.expr (.aQ (pC 21) 121 [q6] [] []),pB 3 q4] [],.aO (.cmp q5 [.IsNot] [pN]) [.aO (.cmp q5 [.In] [pC 126]) [pB 6 (.bin .Add (pS [92]) (.sub (pC 126) q5))] [.aO (.cmp q5 [.LtE] [pS [255]]) [pB 6 (.bin .Mod (pS [92,120,37,48,50,88]) (.call (.az (.bi .ord)) [q5] [] []))] [.aO (.cmp q5 [.LtE] [pS [65535]]) [pB 6 (.bin .Mod (pS [92,117,37,48,52,88]) (.call (.az (.bi .ord)) [q5] [] []))] [pB 6 (.bin .Mod (pS [92,85,37,48,56,88]) (.call (.az (.bi .ord)) [q5] [] []))]]],.aug (.aX q0 39) .Add (.call (.az (.bi .len)) [q6] [] []),.expr (.aQ (pC 21) 121 [q6] [] []),pB 3 (.bin .Add q4 (pI 1))] []] [],.aO (.bE [.cmp (pI 0) [.Lt,.Lt] [q4,.bin .Sub (.call (.az (.bi .len)) [q1] [] []) (pI 1)],.fc [.cmp q5 [.Eq] [pS [32]],.cmp q3 [.GtE] [q4]],.cmp (.bin .Add (pC 39) (.bin .Sub q4 q3)) [.Gt] [pC 44],q2]) [pB 6 (.bin .Add (.slice q1 (some q3) (some q4)) (pS [92])),.aO (.cmp q3 [.Lt] [q4]) [pB 3 q4] [],.aug (.aX q0 39) .Add (.call (.az (.bi .len)) [q6] [] []),.expr (.aQ (pC 21) 121 [q6] [] []),.expr (pD 65 [] [] []),pA 40 pF,pA 41 pF,.aO (.cmp (.sub q1 q3) [.Eq] [pS [32]]) [pB 6 (pS [92]),.aug (.aX q0 39) .Add (.call (.az (.bi .len)) [q6] [] []),.expr (.aQ (pC 21) 121 [q6] [] [])] []] [],.aug (.aP 4) .Add (pI 1)],.expr (pD 64 [pS [34],pF] [] [])]⟩
noncomputable def f57:cU:=⟨[0,124],[],3,[pB 2 (pS []),.aO q1 [.aO (.cmp (.sub q1 (pI 0)) [.In] [pS [32,10,133,8232,8233]]) [.aug (.aP 2) .Add (.call (.az (.bi .str)) [pC 43] [] [])] [],.aO (.cmp (.sub q1 (.neg (pI 1))) [.NotIn] [pS [10,133,8232,8233]]) [.aug (.aP 2) .Add (pS [45])] [.aO (.fc [.cmp (.call (.az (.bi .len)) [q1] [] []) [.Eq] [pI 1],.cmp (.sub q1 (.neg (pI 2))) [.In] [pS [10,133,8232,8233]]]) [.aug (.aP 2) .Add (pS [43])] []]] [],.ret (some q2)]⟩
noncomputable def Vt:cU:=⟨[0,124],[],11,[pB 2 (pD 127 [q1] [] []),.expr (pD 64 [.bin .Add (pS [62]) q2,pT] [] []),.aO (.cmp (.slice q2 (some (.neg (pI 1))) none) [.Eq] [pS [43]]) [pA 42 pT] [],.expr (pD 122 [] [] []),pB 3 pT,pB 4 pF,pB 5 pT,.assign [.aP 6,.aP 7] (pI 0),.cR (.cmp q7 [.LtE] [.call (.az (.bi .len)) [q1] [] []]) [pB 8 pN,.aO (.cmp q7 [.Lt] [.call (.az (.bi .len)) [q1] [] []]) [pB 8 (.sub q1 q7)] [],.aO q5 [.aO (.fc [.cmp q8 [.Is] [pN],.cmp q8 [.NotIn] [pS [10,133,8232,8233]]]) [.aO (.bE [.bM q3,.cmp q8 [.IsNot] [pN],.cmp q8 [.NotEq] [pS [32]],.cmp (.sub q1 q6) [.Eq] [pS [10]]]) [.expr (pD 122 [] [] [])] [],pB 3 (.cmp q8 [.Eq] [pS [32]]),.fz (.aP 9) (.val (.slice q1 (some q6) (some q7))) [.aO (.cmp q9 [.Eq] [pS [10]]) [.expr (pD 122 [] [] [])] [.expr (pD 122 [q9] [] [])]],.aO (.cmp q8 [.IsNot] [pN]) [.expr (pD 65 [] [] [])] [],pB 6 q7] []] [.aO q4 [.aO (.cmp q8 [.NotEq] [pS [32]]) [.aO (.bE [.cmp (.bin .Add q6 (pI 1)) [.Eq] [q7],.cmp (pC 39) [.Gt] [pC 44]]) [.expr (pD 65 [] [] [])] [pB 10 (.slice q1 (some q6) (some q7)),.aug (.aX q0 39) .Add (.call (.az (.bi .len)) [xj] [] []),.expr (.aQ (pC 21) 121 [xj] [] [])],pB 6 q7] []] [.aO (.fc [.cmp q8 [.Is] [pN],.cmp q8 [.In] [pS [32,10,133,8232,8233]]]) [pB 10 (.slice q1 (some q6) (some q7)),.aug (.aX q0 39) .Add (.call (.az (.bi .len)) [xj] [] []),.expr (.aQ (pC 21) 121 [xj] [] []),.aO (.cmp q8 [.Is] [pN]) [.expr (pD 122 [] [] [])] [],pB 6 q7] []]],.aO (.cmp q8 [.IsNot] [pN]) [pB 5 (.cmp q8 [.In] [pS [10,133,8232,8233]]),pB 4 (.cmp q8 [.Eq] [pS [32]])] [],.aug (.aP 7) .Add (pI 1)]]⟩
noncomputable def Vu:cU:=⟨[0,124],[],9,[pB 2 (pD 127 [q1] [] []),.expr (pD 64 [.bin .Add (pS [124]) q2,pT] [] []),.aO (.cmp (.slice q2 (some (.neg (pI 1))) none) [.Eq] [pS [43]]) [pA 42 pT] [],.expr (pD 122 [] [] []),pB 3 pT,.assign [.aP 4,.aP 5] (pI 0),.cR (.cmp q5 [.LtE] [.call (.az (.bi .len)) [q1] [] []]) [pB 6 pN,.aO (.cmp q5 [.Lt] [.call (.az (.bi .len)) [q1] [] []]) [pB 6 (.sub q1 q5)] [],.aO q3 [.aO (.fc [.cmp q6 [.Is] [pN],.cmp q6 [.NotIn] [pS [10,133,8232,8233]]]) [.fz (.aP 7) (.val (.slice q1 (some q4) (some q5))) [.aO (.cmp q7 [.Eq] [pS [10]]) [.expr (pD 122 [] [] [])] [.expr (pD 122 [q7] [] [])]],.aO (.cmp q6 [.IsNot] [pN]) [.expr (pD 65 [] [] [])] [],pB 4 q5] []] [.aO (.fc [.cmp q6 [.Is] [pN],.cmp q6 [.In] [pS [10,133,8232,8233]]]) [pB 8 (.slice q1 (some q4) (some q5)),.expr (.aQ (pC 21) 121 [q8] [] []),.aO (.cmp q6 [.Is] [pN]) [.expr (pD 122 [] [] [])] [],pB 4 q5] []],.aO (.cmp q6 [.IsNot] [pN]) [pB 3 (.cmp q6 [.In] [pS [10,133,8232,8233]])] [],.aug (.aP 5) .Add (pI 1)]]⟩
noncomputable def f60:cU:=⟨[0,124,125],[.bool true],10,[.aO (pC 34) [pA 42 pT] [],.aO (.bM q1) [.ret none] [],.aO (.bM (pC 40)) [pB 3 (pS [32]),.aug (.aX q0 39) .Add (.call (.az (.bi .len)) [q3] [] []),.expr (.aQ (pC 21) 121 [q3] [] [])] [],pA 40 pF,pA 41 pF,pB 4 pF,pB 5 pF,.assign [.aP 6,.aP 7] (pI 0),.cR (.cmp q7 [.LtE] [.call (.az (.bi .len)) [q1] [] []]) [pB 8 pN,.aO (.cmp q7 [.Lt] [.call (.az (.bi .len)) [q1] [] []]) [pB 8 (.sub q1 q7)] [],.aO q4 [.aO (.cmp q8 [.NotEq] [pS [32]]) [.aO (.bE [.cmp (.bin .Add q6 (pI 1)) [.Eq] [q7],.cmp (pC 39) [.Gt] [pC 44],q2]) [.expr (pD 65 [] [] []),pA 40 pF,pA 41 pF] [pB 3 (.slice q1 (some q6) (some q7)),.aug (.aX q0 39) .Add (.call (.az (.bi .len)) [q3] [] []),.expr (.aQ (pC 21) 121 [q3] [] [])],pB 6 q7] []] [.aO q5 [.aO (.cmp q8 [.NotIn] [pS [10,133,8232,8233]]) [.aO (.cmp (.sub q1 q6) [.Eq] [pS [10]]) [.expr (pD 122 [] [] [])] [],.fz (.aP 9) (.val (.slice q1 (some q6) (some q7))) [.aO (.cmp q9 [.Eq] [pS [10]]) [.expr (pD 122 [] [] [])] [.expr (pD 122 [q9] [] [])]],.expr (pD 65 [] [] []),pA 40 pF,pA 41 pF,pB 6 q7] []] [.aO (.fc [.cmp q8 [.Is] [pN],.cmp q8 [.In] [pS [32,10,133,8232,8233]]]) [pB 3 (.slice q1 (some q6) (some q7)),.aug (.aX q0 39) .Add (.call (.az (.bi .len)) [q3] [] []),.expr (.aQ (pC 21) 121 [q3] [] []),pB 6 q7] []]],.aO (.cmp q8 [.IsNot] [pN]) [pB 4 (.cmp q8 [.Eq] [pS [32]]),pB 5 (.cmp q8 [.In] [pS [10,133,8232,8233]])] [],.aug (.aP 7) .Add (pI 1)]]⟩
noncomputable def f61:cU:=⟨[0],[],1,[pA 128 (.list true [])]⟩
noncomputable def f62:cU:=⟨[0,123],[],2,[.expr (.aQ (pC 128) 50 [q1] [] [])]⟩
noncomputable def f63:cU:=⟨[0],[],1,[.ret (some (.aQ (pS []) 117 [pC 128] [] []))]⟩
noncomputable def f64:cU:=⟨[],[],0,[.ret (some (.list false [pN,pS [39],pS [34],pS [124],pS [62]]))]⟩
noncomputable def f65:cU:=⟨[],[],0,[.ret (some (.dict [.str [34],.str [92],.str [10],.str [9],.str [7],.str [133],.str [8232],.str [160]] [.str [34],.str [92],.str [110],.str [116],.str [97],.str [78],.str [76],.str [95]]))]⟩
noncomputable def f66:cU:=⟨[129,130],[],3,[pB 2 (.call (.az (.bi .ord)) [q0] [] []),.ret (some (.fc [.cmp q2 [.Eq] [pI 10],.cmp (pI 32) [.LtE,.LtE] [q2,pI 126],.bE [q1,.cmp q2 [.Gt] [pI 159]]]))]⟩
noncomputable def Hs:cU:=⟨[11,55,131,132,133,130],[],16,[pB 6 (.list true [pS []]),.fz (.aP 7) (.val q0) [.aO (.cmp q7 [.In] [pS [32,9,10,133,8232]]) [.expr (.aQ q6 50 [pS []] [] [])] [.assign [.sub q6 (.neg (pI 1))] (.bin .Add (.sub q6 (.neg (pI 1))) q7)]],pB 8 (.bin .Add (.slice q0 none (some (pI 1))) (.slice q0 (some (.neg (pI 1))) none)),pB 9 (.comp false (.tuple [q1,q2]) 3 [1,2] true (.zip q0 (.slice q0 (some (pI 1)) none)) []),pB 10 (.bM (.call (.az (.bi .all)) [.comp false (.call (.az (.fn 66)) [q1,q7] [] []) 2 [1] false (.val q0) []] [] [])),pB 11 (.bM (.call (.az (.bi .all)) [.comp false (.cmp q1 [.NotIn] [.az (.str [10,133,8232,8233])]) 2 [1] false (.val q0) []] [] [])),pB 12 (.bM (.call (.az (.bi .all)) [.comp false (.bM (.bE [.cmp q1 [.Eq] [pS [32]],.cmp q2 [.In] [.az (.str [10,133,8232,8233])]])) 3 [1,2] true (.val q9) []] [] [])),pB 13 (.bM (.call (.az (.bi .all)) [.comp false (.bM (.bE [.cmp q2 [.Eq] [pS [32]],.cmp q1 [.In] [.az (.str [10,133,8232,8233])]])) 3 [1,2] true (.val q9) []] [] [])),pB 14 (.fc [.bE [.cmp q8 [.NotEq] [pS []],.cmp (.sub q0 (pI 0)) [.In] [pS [35,44,91,93,123,125,38,42,33,124,62,39,34,37,64,96]]],.cmp (.sub q6 (pI 0)) [.In] [.list false [pS [45],pS [63]]],.cmp (.slice q0 none (some (pI 3))) [.In] [.list false [pS [45,45,45],pS [46,46,46]]],.bM (.call (.az (.bi .all)) [.comp false (.bE [.cmp (.slice q1 none (some (pI 1))) [.NotEq] [pS [35]],.cmp (.slice q1 (some (.neg (pI 1))) none) [.NotEq] [pS [58]]]) 2 [1] false (.val q6) []] [] [])]),pB 15 (.bM (.fc [xj,NX,J0,.bM (.call (.az (.bi .all)) [.comp false (.cmp q1 [.NotEq] [pS [32]]) 2 [1] false (.val q8) []] [] [])])),.aO (.bE [q1,.fc [.cmp q0 [.Eq] [pS []],.bM (.call (.az (.bi .all)) [.comp false (.cmp q1 [.NotIn] [pS [44,63,91,93,123,125,58]]) 2 [1] false (.val q0) []] [] [])]]) [pB 15 pF] [],.aO (.bE [.cmp q3 [.Is] [pN],q4,Hr]) [.ret (some pN)] [],.aO (.bE [.cmp q3 [.In] [.list false [pS [124],pS [62]]],.bM q1,.bM q2,.cmp q0 [.NotEq] [pS []],.bM (.fc [xj,Qh,.cmp (.sub q0 (.neg (pI 1))) [.Eq] [pS [32]]])]) [.ret (some q3)] [],.aO (.bE [.cmp q3 [.In] [.list false [pN,pS [39]]],.bM (.fc [xj,Qh,Vq])]) [.ret (some (pS [39]))] [],.ret (some (pS [34]))]⟩
noncomputable def f68:cU:=⟨[11,134],[],5,[pB 2 (pS [39]),pB 3 pF,.fz (.aP 4) (.val q0) [.aO (.cmp q4 [.In] [.az (.str [10,133,8232,8233])]) [pB 2 (.bin .Add (.bin .Add q2 (.aO (.bE [.cmp q4 [.Eq] [pS [10]],.bM q3]) (pS [10]) (pS []))) q4),pB 3 pT] [pB 2 (.bin .Add (.bin .Add q2 (.aO q3 q1 (pS []))) (.aO (.cmp q4 [.Eq] [pS [39]]) (pS [39,39]) q4)),pB 3 pF]],.ret (some (.bin .Add (.bin .Add q2 (.aO q3 q1 (pS []))) (pS [39])))]⟩
noncomputable def f69:cU:=⟨[11,130],[],7,[pB 2 (pS [34]),.fz (.aP 3) (.val q0) [pB 4 (.call (.az (.bi .ord)) [q3] [] []),.aO (.bE [.cmp q3 [.In] [.call (.az (.fn 65)) [] [] []],.bM (.bE [q1,.cmp q3 [.Eq] [pS [160]]])]) [pB 2 (.bin .Add (.bin .Add q2 (pS [92])) (.sub (.call (.az (.fn 65)) [] [] []) q3))] [.aO (.fc [.cmp (pI 32) [.LtE,.LtE] [q4,pI 126],.bE [q1,.cmp q4 [.Lt] [pI 65536]]]) [pB 2 (.bin .Add q2 q3)] [pB 5 (pS []),.fz (.aP 6) (.range [.aO (.cmp q4 [.Lt] [pI 256]) (pI 2) (.aO (.cmp q4 [.Lt] [pI 65536]) (pI 4) (pI 8))]) [pB 5 (.bin .Add (.sub (pS [48,49,50,51,52,53,54,55,56,57,65,66,67,68,69,70]) (.bin .Mod q4 (pI 16))) q5),pB 4 (.bin .FloorDiv q4 (pI 16))],pB 2 (.bin .Add (.bin .Add q2 (.sub (.dict [.int 2,.int 4,.int 8] [.str [92,120],.str [92,117],.str [92,85]]) (.call (.az (.bi .len)) [q5] [] []))) q5)]]],.ret (some (.bin .Add q2 (pS [34])))]⟩
noncomputable def f70:cU:=⟨[11,135,134,136],[],11,[pB 4 (pS []),pB 5 (pS []),pB 6 (pS [32]),pB 7 pT,.fz (.aP 8) (.val q0) [.aO (.cmp q8 [.In] [.az (.str [10,133,8232,8233])]) [pB 5 (.bin .Add q5 q8),pB 7 pT] [.aO q7 [pB 9 (.aO (.bE [.cmp q1 [.Eq] [pS [62]],.cmp q6 [.NotEq] [pS [32]],.cmp q8 [.NotEq] [pS [32]],.cmp (.slice q5 none (some (pI 1))) [.Eq] [pS [10]]]) (pS [10]) (pS [])),pB 4 (.bin .Add (.bin .Add (.bin .Add (.bin .Add q4 q9) q5) q2) q8),pB 5 (pS []),pB 6 q8,pB 7 pF] [pB 4 (.bin .Add q4 q8)]]],pB 10 (.aO (.cmp q5 [.Eq] [pS []]) (pS [45]) (.aO (.bE [.cmp (.call (.az (.bi .len)) [q5] [] []) [.Eq] [pI 1],.cmp q4 [.NotEq] [pS []]]) (pS []) (pS [43]))),.ret (some (.bin .Add (.bin .Add (.bin .Add (.bin .Add (.bin .Add q1 (.aO (.fc [.cmp (.sub q0 (pI 0)) [.Eq] [pS [32]],.cmp (.sub q0 (pI 0)) [.In] [.az (.str [10,133,8232,8233])]]) q3 (pS []))) xj) (pS [10])) q4) (.aO (.cmp q5 [.NotEq] [pS []]) q5 (pS [10]))))]⟩
noncomputable def f71:cU:=⟨[11,12,137,134,136,130],[],7,[pB 6 (.aO (.bE [.cmp q1 [.IsNot] [pN],.bM (.sub q2 (pI 1))]) (pS [33,32]) (pS [])),.aO (.cmp q1 [.Is] [pN]) [.ret (some q0)] [],.aO (.cmp q1 [.Eq] [pS [39]]) [.ret (some (.bin .Add q6 (.call (.az (.fn 68)) [q0,q3] [] [])))] [],.aO (.cmp q1 [.Eq] [pS [34]]) [.ret (some (.bin .Add q6 (.call (.az (.fn 69)) [q0,q5] [] [])))] [],.ret (some (.bin .Add q6 (.call (.az (.fn 70)) [q0,q1,q3,q4] [] [])))]⟩
noncomputable def f72:cU:=⟨[135,138,12],[],3,[.ret (some (.bin .Add (.bin .Add (.bin .Add q0 (.aO (.cmp q1 [.NotEq] [pS []]) (pS [32]) (pS []))) q1) (.aO (.cmp q2 [.In] [.list false [pS [124],pS [62]]]) (pS []) (pS [10]))))]⟩
noncomputable def Fw:cU:=⟨[139],[],25,[pB 1 (.bin .Add (.slice q0 none (some (pI 4))) (.list false [pI 0,pI 0,pI 0,pI 0])),pB 2 (.bin .Mod (.sub q1 (pI 0)) (pI 5)),pB 3 (.list false [.sub (.call (.az (.fn 64)) [] [] []) (.bin .Mod (.sub q1 (pI 1)) (pI 5)),.sub (.call (.az (.fn 64)) [] [] []) (.bin .Mod (.bin .FloorDiv (.sub q1 (pI 1)) (pI 5)) (pI 5))]),pB 4 (.sub (.list false [.tuple [pT,pT],.tuple [pT,pF],.tuple [pF,pT]]) (.bin .Mod (.sub q1 (pI 2)) (pI 3))),pB 5 (.cmp (.bin .Mod (.bin .FloorDiv (.sub q1 (pI 2)) (pI 3)) (pI 2)) [.Eq] [pI 0]),pB 6 (.sub (.az (.lst [.lst [.str [97],.str [98],.str [32],.str [45],.str [99],.str [58],.str [35],.str [100],.str [233],.str [63],.str [44],.str [39]],.lst [.str [97],.str [10],.str [98],.str [32],.str [99],.str [10],.str [100],.str [8232],.str [39],.str [35],.str [45],.str [101]],.lst [.str [97],.str [9],.str [10],.str [34],.str [92],.str [32],.str [133],.str [128512],.str [7],.str [37],.str [8364],.str [160]]])) (.bin .Mod (.sub q1 (pI 3)) (pI 3))),pB 7 (.sub (.list false [pI 2,pI 4,pI 3]) (.bin .Mod (.bin .FloorDiv (.sub q1 (pI 3)) (pI 3)) (pI 3))),pB 8 (.list false [.aO (.cmp (.call (.az (.bi .len)) [q0] [] []) [.Gt] [pI 4]) (.slice q0 (some (pI 4)) (some (pI 11))) q0,.slice q0 (some (pI 11)) (some (pI 18))]),pB 9 (.comp false (.aQ (pS []) 117 [.comp false q1 2 [1] false (.val (.comp false (.sub xj (.bin .Mod q1 (pI 12))) 2 [1] false (.val q1) [])) [.bM (.bE [q9,.cmp q1 [.Eq] [pS [133]]])]] [] []) 2 [1] false (.val q8) []),pB 10 (.cmp q2 [.Gt] [pI 2]),pB 11 (.fc [.cmp q2 [.Eq] [pI 2],.cmp q2 [.Eq] [pI 4]]),pB 12 (.bE [NX,.cmp (.sub q9 (pI 0)) [.NotEq] [pS []],.call (.az (.bi .all)) [.comp false (.cmp q1 [.NotIn] [.az (.str [10,133,8232,8233])]) 2 [1] false (.val (.sub q9 (pI 0))) []] [] []]),pB 13 (.slice (pS [32,32,32,32,32,32,32,32]) none (some (.aO xj (.bin .Mult q7 (pI 2)) q7))),pB 14 (.list false [.call (.az (.fn 67)) [.sub q9 (pI 0),xj,Qh,.sub q3 (pI 0),.sub q4 (pI 0),q5] [] [],.call (.az (.fn 67)) [.sub q9 (pI 1),xj,pF,.sub q3 (pI 1),.sub q4 (pI 0),q5] [] []]),.assign [.tup [15,16]] (.comp false (.call (.az (.fn 71)) [.sub NX q1,.sub Ak q1,q6,Hr,.sub (pS [48,49,50,51,52]) q9,q7] [] []) 2 [1] false (.val (.list false [pI 0,pI 1])) []),.aO (.cmp q2 [.Eq] [pI 0]) [pB 17 (.call (.az (.fn 72)) [pS [45,45,45],Hr,.sub J0 (pI 0)] [] [])] [.aO (.cmp q2 [.Eq] [pI 1]) [pB 17 (.bin .Add (.bin .Add (pS [45,45,45,10]) (.call (.az (.fn 72)) [pS [45],Hr,.sub J0 (pI 0)] [] [])) (.call (.az (.fn 72)) [pS [45],Ak,.sub J0 (pI 1)] [] []))] [.aO (.cmp q2 [.Eq] [pI 2]) [pB 17 (.bin .Add (.bin .Add (pS [45,45,45,10]) (.aO Qh (.bin .Add Hr (pS [58])) (.bin .Add (.call (.az (.fn 72)) [pS [63],Hr,.sub J0 (pI 0)] [] []) (pS [58])))) (.call (.az (.fn 72)) [pS [],Ak,.sub J0 (pI 1)] [] []))] [.aO (.cmp q2 [.Eq] [pI 3]) [pB 17 (.bin .Add (.bin .Add (.bin .Add (.bin .Add (pS [45,45,45,32,91]) Hr) (pS [44,32])) Ak) (pS [93,10]))] [pB 17 (.bin .Add (.bin .Add (.bin .Add (pS [45,45,45,32,123]) (.aO Qh (.bin .Add Hr (pS [58,32])) (.bin .Add (.bin .Add (pS [63,32]) Hr) (pS [32,58,32])))) Ak) (pS [125,10]))]]]],pB 18 (.aO (.cmp q2 [.Eq] [pI 0]) (pI 0) (pI 1)),pB 19 (.slice (.sub q9 q18) (some (.neg (pI 2))) none),pB 20 (.bE [.cmp (.sub J0 q18) [.In] [.list false [pS [124],pS [62]]],.call (.az (.bi .all)) [.comp false (.cmp q1 [.In] [.az (.str [10,133,8232,8233])]) 2 [1] false (.val q19) []] [] []]),.aO (.fc [q20,.bE [.cmp q2 [.Eq] [pI 0],.cmp (.sub J0 (pI 0)) [.Is] [pN]]]) [pB 17 (.bin .Add tY (pS [46,46,46,10]))] [],pB 21 (.comp false (.call (.az (.cls 9)) [pN,pN,q6,.sub NX q1] [12] [.sub q5 q1]) 2 [1] false (.val (.list false [pI 0,pI 1])) []),.aO (.cmp q2 [.Eq] [pI 0]) [pB 22 (.slice Vr none (some (pI 1)))] [.aO NX [pB 22 (.bin .Add (.bin .Add (.list false [.call (.az (.cls 12)) [pN,pN,pT] [6] [xj]]) Vr) (.list false [.call (.az (.cls 13)) [] [] []]))] [pB 22 (.bin .Add (.bin .Add (.list false [.call (.az (.cls 10)) [pN,pN,pT] [6] [xj]]) Vr) (.list false [.call (.az (.cls 11)) [] [] []]))]],pB 23 (.call (.az (.cls 15)) [.call (.az (.cls 16)) [] [] []] [23,24,25] [q7,pI 1000,q5]),.fz (.aP 24) (.val (.bin .Add (.bin .Add (.list false [.call (.az (.cls 4)) [] [] [],.call (.az (.cls 6)) [] [8] [pT]]) q22) (.list false [.call (.az (.cls 7)) [] [8] [pF],.call (.az (.cls 5)) [] [] []]))) [.expr (.aQ Xf 140 [q24] [] [])],.ret (some (.cmp (.aQ (.aX Xf 21) 124 [] [] []) [.Eq] [tY]))]⟩
noncomputable def fns:List cU:=[f0,f1,f2,f3,f4,f5,f6,f7,f8,f9,f10,f11,f12,f13,f14,f15,f16,f17,f18,f19,f20,f21,f22,f23,f24,f25,f26,f27,f28,f29,f30,f31,f32,f33,f34,f35,f36,f37,f38,f39,f40,f41,f42,f43,f44,f45,f46,f47,NY,f49,f50,f51,f52,f53,f54,f55,f56,f57,Vt,Vu,f60,f61,f62,f63,f64,f65,f66,Hs,f68,f69,f70,f71,f72,Fw]
noncomputable def eg:List gh:=[⟨true,0,[(1,1),(2,2)],[],[],[0]⟩,⟨true,1,[(3,1),(1,2),(2,3)],[],[],[1,0]⟩,⟨true,2,[(3,1),(4,2),(5,3),(1,4),(2,5),(6,6)],[],[],[2,1,0]⟩,⟨true,0,[(1,1),(2,2)],[],[],[3,0]⟩,⟨true,3,[(1,1),(2,2),(7,3)],[],[],[4,0]⟩,⟨true,0,[(1,1),(2,2)],[],[],[5,0]⟩,⟨true,4,[(1,1),(2,2),(8,3),(9,4),(10,5)],[],[],[6,0]⟩,⟨true,5,[(1,1),(2,2),(8,3)],[],[],[7,0]⟩,⟨true,1,[(3,1),(1,2),(2,3)],[],[],[8,1,0]⟩,⟨true,6,[(3,1),(4,2),(5,3),(11,4),(1,5),(2,6),(12,7)],[],[],[9,1,0]⟩,⟨true,2,[(3,1),(4,2),(5,3),(1,4),(2,5),(6,6)],[],[],[10,2,1,0]⟩,⟨true,0,[(1,1),(2,2)],[],[],[11,3,0]⟩,⟨true,2,[(3,1),(4,2),(5,3),(1,4),(2,5),(6,6)],[],[],[12,2,1,0]⟩,⟨true,0,[(1,1),(2,2)],[],[],[13,3,0]⟩,⟨true,7,[(13,1),(14,2),(15,3),(16,4),(17,5),(18,6),(19,7),(20,8)],[],[],[14]⟩,⟨false,8,[],[(141,8),(140,9),(51,10),(53,11),(92,12),(29,13),(63,14),(57,15),(59,16),(76,17),(61,18),(77,19),(82,20),(85,21),(87,22),(94,23),(95,24),(90,25),(96,26),(100,27),(98,28),(99,29),(88,30),(101,31),(102,32),(91,33),(103,34),(104,35),(105,36),(106,37),(86,38),(89,39),(74,40),(97,41),(83,42),(84,43),(111,44),(93,45),(108,46),(107,47),(109,48),(75,49),(58,50),(69,51),(64,52),(65,53),(122,54),(113,55),(112,56),(127,57),(114,58),(115,59),(116,60),(66,74),(67,75),(71,76),(72,77),(73,78)],[(68,.jD [.str [33],.str [116,97,103,58,121,97,109,108,46,111,114,103,44,50,48,48,50,58]] [.str [33],.str [33,33]]),(126,.jD [.str [0],.str [7],.str [8],.str [9],.str [10],.str [11],.str [12],.str [13],.str [27],.str [34],.str [92],.str [133],.str [160],.str [8232],.str [8233]] [.str [48],.str [97],.str [98],.str [116],.str [110],.str [118],.str [102],.str [114],.str [101],.str [34],.str [92],.str [78],.str [95],.str [76],.str [80]])],[15]⟩,⟨false,61,[],[(141,61),(121,62),(124,63)],[],[16]⟩]
noncomputable def prog:Prog:=⟨fns,eg,117,118,50,52,62⟩
end L1
end
section
open PySem PySem.W PyProof.Rows
noncomputable def jS:Nat→List Obj→Frag
 |_,[]=>[]
 |n,o::r=>(n,o)::jS (n+1) r
theorem tZ{l:List Obj}:∀{n:Nat} {a:Nat} {o:Obj},(jS n l).lookup a=some o→n≤a∧l[a - n]? =some o:=by
 induction l with
 |nil=>exact λe=>no e
 |cons x r ih=>
  intro n a o e;have e:(match a==n with|true=>some x|false=>(jS (n+1) r).lookup a)=some o:=e
  cases q:a==n with
  |true=>rw [q] at e;rw [beq_iff_eq.mp q,Nat.sub_self];exact ⟨bf _,e⟩
  |false=>rw [q] at e;have k:=ih e;exact ⟨Nat.le_of_succ_le k.1,by rw [show a - n=(a - (n+1))+1 by have:=k.1;lia];exact k.2⟩
theorem wo{l:List Obj}{h:Heap}(e:∀b o,l[b]? =some o→o.isFreed=false→h.get? b=some o)(nf:(l.all λo=> !o.isFreed)=true):(jS 0 l).In h:=λa o q=>
 have k:l[a]? =some o:=(tZ q).2
 e a o k ((Bool.not_eq_true' _).mp (List.all_eq_true.mp nf o (List.mem_of_getElem? k)))
noncomputable def jo{α β:Type}(p:α→β→Bool):List α→List β→Bool
 |[],r=>r.isEmpty
 |a::l,r=>match r with
  |[]=>false
  |b::r=>p a b&&jo p l r
theorem wu{α β:Type}{p:α→β→Bool}{l:List α}:∀{r:List β},jo p l r=true→bY (λa b=>p a b=true) l r:=by
 induction l with
 |nil=>exact λ{r} e=>List.isEmpty_iff.mp e▸.nil
 |cons a l ih=>exact λ{r}=>match r with
  |[]=>λe=>(bU e).elim
  |b::r=>λe=>.cons (bl.mp e).1 (ih (bl.mp e).2)
theorem kT{α β:Type}{p:α→β→Bool}{l:List α}{r:List β}(e:jo p l r=true){i:Nat}{a:α}(h:l[i]? =some a):∃b,r[i]? =some b∧p a b=true:=(wu e).at h
noncomputable def Fy(s:List Nat):Value→Bool
 |.str t _=>t==toStr s
 |_=>false
theorem yz{s:List Nat}{v:Value}(e:Fy s v=true):∃t,v=.str (toStr s) t:=by cases v<;>first|exact (bU e).elim|exact ⟨_,by rw [eq_of_beq e]⟩
noncomputable def refOf:Value→Option Addr
 |.ref a=>some a
 |_=>none
theorem Cz{v:Value}{a:Addr}(e:refOf v=some a):v=.ref a:=by cases v<;>first|exact no e|exact congrArg _ (aI e)
noncomputable def FF:Data→Option (Array Value×Nat)
 |.seq vs n=>some (vs,n)
 |_=>none
theorem rU{d:Data}{x:Array Value×Nat}(e:FF d=some x):d=.seq x.1 x.2:=by cases d<;>first|exact no e|exact aI e▸rfl
noncomputable def fdOf:Data→Option FuncData
 |.func fd=>some fd
 |_=>none
theorem FG{d:Data}{x:FuncData}(e:fdOf d=some x):d=.func x:=by cases d<;>first|exact no e|exact congrArg _ (aI e)
noncomputable def bodyOf:FuncBody→Option (List Stmt)
 |.stmts b=>some b
 |_=>none
theorem yC{d:FuncBody}{x:List Stmt}(e:bodyOf d=some x):d=.stmts x:=by cases d<;>first|exact no e|exact congrArg _ (aI e)
noncomputable def yD(D:cP)(K:Frag):Nat→MV→Value→Bool
 |0,_,_=>false
 |n+1,m,v=>match m with
  |.none=>v==.none
  |.bool b=>v==.bool b
  |.str s=>decide (s.length≤aH)&&Fy s v
  |.lst l=>decide (l.length≤aH)&&(refOf v).any λa=>(K.lookup a).any λo=>o.cls==.type "list"&&(FF o.data).any λx=>jo (yD D K n) l x.1.toList
  |.fn i=>(D.fa[i]?).any λa=>v==.ref a
  |.cls i=>(D.ca[i]?).any λa=>v==.ref a
  |.bi b=>v==b.val
  |_=>false
theorem Am{D:cP}{G:Fz}{ρ:List PR}{p:MV→Value→Bool}(h:∀m v,p m v=true→VR D G ρ m v){l:List MV}{r:List Value}(e:jo p l r=true):cY D G ρ l r:=by
 have k:=wu e;clear e
 induction k with
 |nil=>exact .nil
 |cons q _ ih=>exact .cons (h _ _ q) ih
theorem qk{D:cP}{K:Frag}{G:Fz}{ρ:List PR}(hG:∀b o,K.lookup b=some o→G b o)(n:Nat):∀(m:MV) (v:Value),yD D K n m v=true→VR D G ρ m v:=by
 induction n with
 |zero=>exact λm v e=>(bU e).elim
 |succ n ih=>
  intro m v e
  cases m with
  |none=>exact (eq_of_beq e:v=.none)
  |bool b=>exact (eq_of_beq e:v=.bool b)
  |str s=>exact ⟨bN (bl.mp e).1,yz (bl.mp e).2⟩
  |lst l=>have q:=bl.mp e;obtain ⟨x,e1,e2⟩:=any_some q.2;obtain ⟨o,e3,e4⟩:=any_some e2;have q2:=bl.mp e4;obtain ⟨y,e5,e6⟩:=any_some q2.2;exact ⟨bN q.1,x,o,y.1.toList,y.2,Cz e1,hG _ _ e3,eq_of_beq q2.1,(rU e5).trans (by rw [Array.toArray_toList]),Am ih e6⟩
  |fn i=>exact match any_some e with|⟨a,e1,e2⟩=>(⟨a,e1,eq_of_beq e2⟩:∃a,D.fa[i]? =some a∧v=.ref a)
  |cls i=>exact match any_some e with|⟨a,e1,e2⟩=>(⟨a,e1,eq_of_beq e2⟩:∃a,D.ca[i]? =some a∧v=.ref a)
  |bi b=>exact (eq_of_beq e:v=b.val)
  |_=>exact (bU e).elim
set_option tactic.hygienic true in
theorem jq{K:Frag}{h:Heap}{N:Addr}{mg:Str→Option Value}{n:Str}{v:Value}(X:K.In h)(G:h.Ns N mg)(e:nsIn K N n=some (some v)):mg n=some v:=by
 obtain ⟨o,es,ep,ho,hd,_,hf⟩:=G;unfold nsIn at e;split at e
 ·rename_i c d Qc n' sl q
  have:=X _ _ q;rw [ho] at this;cases this
  cases hd
  split at e
  ·rename_i en he
   cases e
   rw [← hf];unfold nsFind findBy;rw [← Array.find?_toList,he];rfl
  ·split at e<;>cases e
 ·cases e
noncomputable def FH(D:cP)(K:Frag)(p:Str×MV):Bool:=match nsIn K mainGlobals p.1 with
 |some (some v)=>yD D K 5 p.2 v
 |some none=>((nsIn K builtinsNs p.1).bind id).any λv=>yD D K 5 p.2 v
 |none=>false
theorem FI{D:cP}{K:Frag}{h:Heap}{mg mb:Str→Option Value}(X:K.In h)(g:h.Ns mainGlobals mg)(b:h.Ns builtinsNs mb){x:Str}{mv:MV}(q:FH D K (x,mv)=true):
  ∃v,(mg x=some v∨(mg x=none∧mb x=some v))∧∀G ρ,(∀b o,h.get? b=some o→G b o)→VR D G ρ mv v:=by
 have q:(match nsIn K mainGlobals x with|some (some v)=>yD D K 5 mv v|some none=>((nsIn K builtinsNs x).bind id).any λv=>yD D K 5 mv v|none=>false)=true:=q
 cases h1:nsIn K mainGlobals x with
 |none=>rw [h1] at q;exact (bU q).elim
 |some o=>cases o with
  |some v=>rw [h1] at q;exact ⟨v,.inl (jq X g h1),λG ρ hG=>qk (λb o e=>hG b o (X _ _ e)) _ _ _ q⟩
  |none=>rw [h1] at q;obtain ⟨v,h2,q⟩:=any_some q;obtain ⟨o,h3,h4⟩:=aT.mp h2;exact ⟨v,.inr ⟨ns_none_of X g h1,jq X b (h3.trans (congrArg some h4))⟩,λG ρ hG=>qk (λb o e=>hG b o (X _ _ e)) _ _ _ q⟩
noncomputable def FJ(K:Frag)(az:List (Str×MV))(nm:List Str)(fF:List (Nat×Nat))(a:Addr):Option cU:=(K.lookup a).bind λo=>(fdOf o.data).bind λfd=>(bodyOf fd.body).bind λb=>if (fd.globals==mainGlobals&&fd.closure.isEmpty&&(fd.builtins==builtinsNs&&codeIn K fd.code fd.qualname))=true then xy az nm fF fd.params b fd.scope else none
noncomputable def dfv(D:cP)(K:Frag)(fe:cU):Value→Bool
 |.none=>fe.defs.isEmpty
 |.ref T=>(K.lookup T).any λo=>(FF o.data).any λx=>jo (yD D [] 1) fe.defs x.1.toList
 |_=>false
noncomputable def NZ(D:cP)(K:Frag)(fe:cU)(a:Addr):Bool:=(K.lookup a).any λo=>(fdOf o.data).any λfd=>dfv D K fe fd.defaults
theorem J1{D:cP}{K:Frag}{fe:cU}{fd:FuncData}(e:dfv D K fe fd.defaults=true):Bw D K fe fd:=by
 unfold Bw
 cases h:fd.defaults with
 |none=>rw [h] at e;exact .inl ⟨List.isEmpty_iff.mp e,rfl⟩
 |ref T=>rw [h] at e;obtain ⟨o,e1,e2⟩:=any_some e;obtain ⟨x,e3,e4⟩:=any_some e2;exact .inr ⟨T,o,x.1,x.2,rfl,e1,rU e3,λG ρ=>Am (qk (K:=[]) (λ_ _ q=>no q) 1) e4⟩
 |_=>rw [h] at e;exact (bU e).elim
theorem N3{D:cP}{K:Frag}{a:Addr}{fe:cU}(e:FJ K D.az D.nm D.fF a=some fe)(d:NZ D K fe a=true):ZG D K a fe:=by
 obtain ⟨o,e1,e⟩:=aT.mp e;obtain ⟨fd,e2,e⟩:=aT.mp e;obtain ⟨b,e3,e⟩:=aT.mp e;obtain ⟨c,e4⟩:=bA e;unfold NZ at d;rw [e1,Option.any_some,e2,Option.any_some] at d;obtain ⟨oc,od,dat,Bv⟩:=o
 cases FG e2
 have c:=bl.mp c;have c1:=bl.mp c.1;have c2:=bl.mp c.2;exact ⟨oc,od,Bv,fd,b,e1,yC e3,e4,eq_of_beq c1.1,List.isEmpty_iff.mp c1.2,eq_of_beq c2.1,c2.2,J1 d⟩
noncomputable def jr(r:Option (Option Value))(v:Value):Bool:=r==some (some v)
noncomputable def FN(D:cP)(K:Frag)(ex:List Nat)(C:Addr)(ce:gh)(a:Nat)(x:Str):Bool:=takerIn K C x==some none&&(ex.contains a||match fV ce.meths a with
 |some f=>(D.fa[f]?).any λfa=>jr (findIn K (.ref C) x) (.ref fa)&&(isFn K (.ref fa)&& !copiedNames.contains x)
 |none=>(aZ ce.gM a).isNone&&findIn K (.ref C) x==some none)
noncomputable def An{α:Type}(p:Nat→α→Bool):Nat→List α→Bool
 |_,[]=>true
 |n,x::r=>p n x&&An p (n+1) r
theorem rV{α:Type}{p:Nat→α→Bool}{l:List α}:∀{n:Nat},An p n l=true→∀{i:Nat} {x:α},l[i]? =some x→p (n+i) x=true:=by
 induction l with
 |nil=>exact λ_ _ _ e=>no e
 |cons y l ih=>
  intro n e i;have e:=bl.mp e;exact match i with
  |0=>λ{_} h=>aI h▸e.1
  |i+1=>λ{_} h=>Nat.add_right_comm n 1 i▸ih e.2 h
noncomputable def namesOk(D:cP)(K:Frag)(ex:List Nat)(C:Addr)(ce:gh):Nat→List Str→Bool:=An (FN D K ex C ce)
noncomputable def SM(K:Frag)(C:Addr)(sup:List Nat):Nat→List Addr→Bool:=An λn A=>kitOne K (.ref C) (.ref A)==some (sup.contains n)
noncomputable def LJ(D:cP)(K:Frag)(C:Addr)(ce:gh):Bool:=
 jr (findIn K (.ref C) "__getattribute__") (.builtin "object.__getattribute__")&&(findIn K (.ref C) "__getattr__"==some none)&&hasDictIn K C&&makesIn K C&&
 ((D.fa[ce.init]?).any λfi=>jr (findIn K (.ref C) "__init__") (.ref fi)&&isFn K (.ref fi))&&
 jr (findIn K (.ref C) "__setattr__") (.builtin "object.__setattr__")&&plainOver K C&&keepIn K (.ref C)
noncomputable def yE(D:cP)(ce:gh)(fd:FuncData)(body:List Stmt):Bool:=body.mapM (nX D.nm (fd.params.args.map (·.arg)))==some ce.fields&&(fd.params.args.map (·.arg)).all (λy=>fd.scope.names.lookup y==some .local)&&decide (ce.fields.length< 900)&&decide (ce.fields.map (·.1)).Nodup
noncomputable def SN(D:cP)(K:Frag)(C:Addr)(p:Nat×Nat):Bool:=p.2 !=0&&(D.nm[p.1]?).any λy=>findIn K (.ref C) y==some none&&takerIn K C y==some none
noncomputable def FO(D:cP)(K:Frag)(C:Addr)(ce:gh):Bool:=
 plainGet K C "__class__"&&jr (findIn K (.ref C) "__class__") (.builtin "object.__class__")&&jr (specialIn K (.builtin "object.__class__") "__get__") (.builtin "getset_descriptor.__get__")&&
 (takesIn K (.builtin "object.__class__")==some true)&&(mroIn K C (.type "object")==some true)&&SM K C ce.sI 0 D.ca&&
 ((D.fa[ce.init]?).any λfi=>(K.lookup fi).any λo=>(fdOf o.data).any λfd=>(bodyOf fd.body).any λbody=>yE D ce fd body)&&ce.fields.all (SN D K C)
theorem yF{D:cP}{ce:gh}{fd:FuncData}{body:List Stmt}(e:yE D ce fd body=true):Du D ce fd body:=by have c:=bl.mp e;have c1:=bl.mp c.1;have c2:=bl.mp c1.1;exact ⟨eq_of_beq c2.1,λy hy=>eq_of_beq (List.all_eq_true.mp c2.2 y hy),bN c1.2,bN c.2⟩
theorem yG{D:cP}{K:Frag}{h₀:Heap}{ex:List Nat}{C:Addr}{ce:gh}{a:Nat}{x:Str}(e:FN D K ex C ce a x=true)(hex:ex.contains a=true→u0 D K h₀ C ce a x):takerIn K C x=some none∧u0 D K h₀ C ce a x:=by
 have c:=bl.mp e;refine ⟨eq_of_beq c.1,?_⟩;rcases Bool.or_eq_true_iff.mp c.2 with h|h
 ·exact hex h
 cases hf:fV ce.meths a with
 |some f=>
  rw [hf] at h;refine ⟨λg e=>?_,λe=>no (e.symm.trans hf),λe=>no (e.symm.trans hf)⟩
  cases hf.symm.trans e
  obtain ⟨fa,u5,h⟩:=any_some h;have h:=bl.mp h;have h1:=bl.mp h.2;exact ⟨fa,u5,eq_of_beq h.1,h1.1,(Bool.not_eq_true' _).mp h1.2⟩
 |none=>rw [hf] at h;have h:=bl.mp h;exact ⟨λg e=>no (hf.symm.trans e),λ_ mv e=>no ((Option.isNone_iff_eq_none.mp h.1).symm.trans e),λ_ _=>eq_of_beq h.2⟩
theorem J2{D:cP}{K:Frag}{h₀:Heap}{C:Addr}{ce:gh}{ex:List Nat}(e:LJ D K C ce=true)(er:ce.isRec=true→FO D K C ce=true)(en:ce.isRec=false→namesOk D K ex C ce 0 D.nm=true)
  (ed:ce.isRec=false→∀(a:Nat) (x:Str),ex.contains a=true→D.nm[a]? =some x→u0 D K h₀ C ce a x):Dv D K h₀ C ce:=by
 have e8:=bl.mp e;have e7:=bl.mp e8.1;have e6:=bl.mp e7.1;have e5:=bl.mp e6.1;have e4:=bl.mp e5.1;have e3:=bl.mp e4.1;have e2:=bl.mp e3.1;have rc:=λq=>bl.mp (er q)
 have r7:=λq=>bl.mp (rc q).1
 have r6:=λq=>bl.mp (r7 q).1
 have r5:=λq=>bl.mp (r6 q).1
 have r4:=λq=>bl.mp (r5 q).1
 have r3:=λq=>bl.mp (r4 q).1
 have r2:=λq=>bl.mp (r3 q).1
 have nm:=λq (a:Nat) (x:Str) hx=>yG (Nat.zero_add a▸rV (en q) hx) λh=>ed q a x h hx
 have fl:=λq p hp=>bl.mp (List.all_eq_true.mp (rc q).2 p hp)
 refine ⟨eq_of_beq e2.1,eq_of_beq e2.2,e3.2,e4.2,?_,eq_of_beq e6.2,e7.2,e8.2,λq a x hx=>(nm q a x hx).1,λq a x hx=>(nm q a x hx).2,λq=>⟨(r2 q).1,eq_of_beq (r2 q).2,eq_of_beq (r3 q).2,eq_of_beq (r4 q).2,eq_of_beq (r5 q).2⟩,λq i A hA=>eq_of_beq (Nat.zero_add i▸rV (r6 q).2 hA),λq fi fd oc od Bv body h1 h2 h3=>?_,λq p hp=>?_,λq p hp=>?_⟩
 ·obtain ⟨fi,h1,h2⟩:=any_some e5.2
  have h2:=bl.mp h2;exact ⟨fi,eq_of_beq h2.1,h1,h2.2⟩
 ·have h:=(r7 q).2
  rw [h1,Option.any_some,h2,Option.any_some] at h;have h:(bodyOf fd.body).any (λbody=>yE D ce fd body)=true:=h
  rw [h3] at h;exact yF h
 ·exact bne_iff_ne.mp (fl q p hp).1
 ·obtain ⟨y,h1,h2⟩:=any_some (fl q p hp).2
  have h2:=bl.mp h2;exact ⟨y,h1,eq_of_beq h2.1,eq_of_beq h2.2⟩
noncomputable def nmL:List (List Nat):=[[115,101,108,102],
 [115,116,97,114,116,95,109,97,114,107],
 [101,110,100,95,109,97,114,107],
 [97,110,99,104,111,114],
 [116,97,103],
 [105,109,112,108,105,99,105,116],
 [102,108,111,119,95,115,116,121,108,101],
 [101,110,99,111,100,105,110,103],
 [101,120,112,108,105,99,105,116],
 [118,101,114,115,105,111,110],
 [116,97,103,115],
 [118,97,108,117,101],
 [115,116,121,108,101],
 [115,99,97,108,97,114],
 [101,109,112,116,121],
 [109,117,108,116,105,108,105,110,101],
 [97,108,108,111,119,95,102,108,111,119,95,112,108,97,105,110],
 [97,108,108,111,119,95,98,108,111,99,107,95,112,108,97,105,110],
 [97,108,108,111,119,95,115,105,110,103,108,101,95,113,117,111,116,101,100],
 [97,108,108,111,119,95,100,111,117,98,108,101,95,113,117,111,116,101,100],
 [97,108,108,111,119,95,98,108,111,99,107],
 [115,116,114,101,97,109],
 [99,97,110,111,110,105,99,97,108],
 [105,110,100,101,110,116],
 [119,105,100,116,104],
 [97,108,108,111,119,95,117,110,105,99,111,100,101],
 [108,105,110,101,95,98,114,101,97,107],
 [115,116,97,116,101,115],
 [115,116,97,116,101],
 [101,120,112,101,99,116,95,115,116,114,101,97,109,95,115,116,97,114,116],
 [101,118,101,110,116,115],
 [101,118,101,110,116],
 [105,110,100,101,110,116,115],
 [102,108,111,119,95,108,101,118,101,108],
 [114,111,111,116,95,99,111,110,116,101,120,116],
 [115,101,113,117,101,110,99,101,95,99,111,110,116,101,120,116],
 [109,97,112,112,105,110,103,95,99,111,110,116,101,120,116],
 [115,105,109,112,108,101,95,107,101,121,95,99,111,110,116,101,120,116],
 [108,105,110,101],
 [99,111,108,117,109,110],
 [119,104,105,116,101,115,112,97,99,101],
 [105,110,100,101,110,116,105,111,110],
 [111,112,101,110,95,101,110,100,101,100],
 [98,101,115,116,95,105,110,100,101,110,116],
 [98,101,115,116,95,119,105,100,116,104],
 [98,101,115,116,95,108,105,110,101,95,98,114,101,97,107],
 [116,97,103,95,112,114,101,102,105,120,101,115],
 [112,114,101,112,97,114,101,100,95,97,110,99,104,111,114],
 [112,114,101,112,97,114,101,100,95,116,97,103],
 [97,110,97,108,121,115,105,115],
 [97,112,112,101,110,100],
 [110,101,101,100,95,109,111,114,101,95,101,118,101,110,116,115],
 [112,111,112],
 [110,101,101,100,95,101,118,101,110,116,115],
 [99,111,117,110,116],
 [102,108,111,119],
 [105,110,100,101,110,116,108,101,115,115],
 [101,120,112,101,99,116,95,102,105,114,115,116,95,100,111,99,117,109,101,110,116,95,115,116,97,114,116],
 [119,114,105,116,101,95,115,116,114,101,97,109,95,115,116,97,114,116],
 [101,120,112,101,99,116,95,100,111,99,117,109,101,110,116,95,115,116,97,114,116],
 [102,105,114,115,116],
 [101,120,112,101,99,116,95,100,111,99,117,109,101,110,116,95,114,111,111,116],
 [99,111,112,121],
 [101,120,112,101,99,116,95,110,111,116,104,105,110,103],
 [119,114,105,116,101,95,105,110,100,105,99,97,116,111,114],
 [119,114,105,116,101,95,105,110,100,101,110,116],
 [112,114,101,112,97,114,101,95,118,101,114,115,105,111,110],
 [119,114,105,116,101,95,118,101,114,115,105,111,110,95,100,105,114,101,99,116,105,118,101],
 [68,69,70,65,85,76,84,95,84,65,71,95,80,82,69,70,73,88,69,83],
 [119,114,105,116,101,95,115,116,114,101,97,109,95,101,110,100],
 [107,101,121,115],
 [112,114,101,112,97,114,101,95,116,97,103,95,104,97,110,100,108,101],
 [112,114,101,112,97,114,101,95,116,97,103,95,112,114,101,102,105,120],
 [119,114,105,116,101,95,116,97,103,95,100,105,114,101,99,116,105,118,101],
 [99,104,101,99,107,95,101,109,112,116,121,95,100,111,99,117,109,101,110,116],
 [102,108,117,115,104,95,115,116,114,101,97,109],
 [101,120,112,101,99,116,95,100,111,99,117,109,101,110,116,95,101,110,100],
 [101,120,112,101,99,116,95,110,111,100,101],
 [114,111,111,116],
 [115,101,113,117,101,110,99,101],
 [109,97,112,112,105,110,103],
 [115,105,109,112,108,101,95,107,101,121],
 [101,120,112,101,99,116,95,97,108,105,97,115],
 [112,114,111,99,101,115,115,95,97,110,99,104,111,114],
 [112,114,111,99,101,115,115,95,116,97,103],
 [101,120,112,101,99,116,95,115,99,97,108,97,114],
 [99,104,101,99,107,95,101,109,112,116,121,95,115,101,113,117,101,110,99,101],
 [101,120,112,101,99,116,95,102,108,111,119,95,115,101,113,117,101,110,99,101],
 [101,120,112,101,99,116,95,98,108,111,99,107,95,115,101,113,117,101,110,99,101],
 [99,104,101,99,107,95,101,109,112,116,121,95,109,97,112,112,105,110,103],
 [101,120,112,101,99,116,95,102,108,111,119,95,109,97,112,112,105,110,103],
 [101,120,112,101,99,116,95,98,108,111,99,107,95,109,97,112,112,105,110,103],
 [105,110,99,114,101,97,115,101,95,105,110,100,101,110,116],
 [112,114,111,99,101,115,115,95,115,99,97,108,97,114],
 [101,120,112,101,99,116,95,102,105,114,115,116,95,102,108,111,119,95,115,101,113,117,101,110,99,101,95,105,116,101,109],
 [101,120,112,101,99,116,95,102,108,111,119,95,115,101,113,117,101,110,99,101,95,105,116,101,109],
 [101,120,112,101,99,116,95,102,105,114,115,116,95,102,108,111,119,95,109,97,112,112,105,110,103,95,107,101,121],
 [99,104,101,99,107,95,115,105,109,112,108,101,95,107,101,121],
 [101,120,112,101,99,116,95,102,108,111,119,95,109,97,112,112,105,110,103,95,115,105,109,112,108,101,95,118,97,108,117,101],
 [101,120,112,101,99,116,95,102,108,111,119,95,109,97,112,112,105,110,103,95,118,97,108,117,101],
 [101,120,112,101,99,116,95,102,108,111,119,95,109,97,112,112,105,110,103,95,107,101,121],
 [101,120,112,101,99,116,95,102,105,114,115,116,95,98,108,111,99,107,95,115,101,113,117,101,110,99,101,95,105,116,101,109],
 [101,120,112,101,99,116,95,98,108,111,99,107,95,115,101,113,117,101,110,99,101,95,105,116,101,109],
 [101,120,112,101,99,116,95,102,105,114,115,116,95,98,108,111,99,107,95,109,97,112,112,105,110,103,95,107,101,121],
 [101,120,112,101,99,116,95,98,108,111,99,107,95,109,97,112,112,105,110,103,95,107,101,121],
 [101,120,112,101,99,116,95,98,108,111,99,107,95,109,97,112,112,105,110,103,95,115,105,109,112,108,101,95,118,97,108,117,101],
 [101,120,112,101,99,116,95,98,108,111,99,107,95,109,97,112,112,105,110,103,95,118,97,108,117,101],
 [112,114,101,112,97,114,101,95,97,110,99,104,111,114],
 [112,114,101,112,97,114,101,95,116,97,103],
 [97,110,97,108,121,122,101,95,115,99,97,108,97,114],
 [105,110,100,105,99,97,116,111,114],
 [99,104,111,111,115,101,95,115,99,97,108,97,114,95,115,116,121,108,101],
 [119,114,105,116,101,95,100,111,117,98,108,101,95,113,117,111,116,101,100],
 [119,114,105,116,101,95,115,105,110,103,108,101,95,113,117,111,116,101,100],
 [119,114,105,116,101,95,102,111,108,100,101,100],
 [119,114,105,116,101,95,108,105,116,101,114,97,108],
 [119,114,105,116,101,95,112,108,97,105,110],
 [106,111,105,110],
 [115,116,97,114,116,115,119,105,116,104],
 [101,110,99,111,100,101],
 [110,101,101,100,95,119,104,105,116,101,115,112,97,99,101],
 [119,114,105,116,101],
 [119,114,105,116,101,95,108,105,110,101,95,98,114,101,97,107],
 [100,97,116,97],
 [116,101,120,116],
 [115,112,108,105,116],
 [69,83,67,65,80,69,95,82,69,80,76,65,67,69,77,69,78,84,83],
 [100,101,116,101,114,109,105,110,101,95,98,108,111,99,107,95,104,105,110,116,115],
 [114,111,119,115],
 [99],
 [119,105,100,101],
 [107,101,121],
 [97,115,107,101,100],
 [102,114,101,101],
 [109,97,114,103,105,110],
 [115,105,103,110],
 [100,105,103,105,116],
 [112,97,105,114],
 [110,111,100,101],
 [115,99,114,105,112,116],
 [101,109,105,116],
 [95,95,105,110,105,116,95,95],
 [103,101,116]]
noncomputable def SO:List (List Nat×MV):=[([69,118,101,110,116],.cls 0),
 ([78,111,100,101,69,118,101,110,116],.cls 1),
 ([67,111,108,108,101,99,116,105,111,110,83,116,97,114,116,69,118,101,110,116],.cls 2),
 ([67,111,108,108,101,99,116,105,111,110,69,110,100,69,118,101,110,116],.cls 3),
 ([83,116,114,101,97,109,83,116,97,114,116,69,118,101,110,116],.cls 4),
 ([83,116,114,101,97,109,69,110,100,69,118,101,110,116],.cls 5),
 ([68,111,99,117,109,101,110,116,83,116,97,114,116,69,118,101,110,116],.cls 6),
 ([68,111,99,117,109,101,110,116,69,110,100,69,118,101,110,116],.cls 7),
 ([65,108,105,97,115,69,118,101,110,116],.cls 8),
 ([83,99,97,108,97,114,69,118,101,110,116],.cls 9),
 ([83,101,113,117,101,110,99,101,83,116,97,114,116,69,118,101,110,116],.cls 10),
 ([83,101,113,117,101,110,99,101,69,110,100,69,118,101,110,116],.cls 11),
 ([77,97,112,112,105,110,103,83,116,97,114,116,69,118,101,110,116],.cls 12),
 ([77,97,112,112,105,110,103,69,110,100,69,118,101,110,116],.cls 13),
 ([83,99,97,108,97,114,65,110,97,108,121,115,105,115],.cls 14),
 ([69,109,105,116,116,101,114],.cls 15),
 ([82,111,119,115],.cls 16),
 ([95,108,97,119,95,84,65,66,76,69,83],.lst [.lst [.str [97],.str [98],.str [32],.str [45],.str [99],.str [58],.str [35],.str [100],.str [233],.str [63],.str [44],.str [39]],.lst [.str [97],.str [10],.str [98],.str [32],.str [99],.str [10],.str [100],.str [8232],.str [39],.str [35],.str [45],.str [101]],.lst [.str [97],.str [9],.str [10],.str [34],.str [92],.str [32],.str [133],.str [128512],.str [7],.str [37],.str [8364],.str [160]]]),
 ([95,108,97,119,95,65,83,75,69,68],.fn 64),
 ([95,108,97,119,95,76,73,78,69,83],.str [10,133,8232,8233]),
 ([95,108,97,119,95,78,65,77,69,68],.fn 65),
 ([95,108,97,119,95,115,116,97,110,100,115],.fn 66),
 ([95,108,97,119,95,99,104,111,105,99,101],.fn 67),
 ([95,108,97,119,95,115,105,110,103,108,101],.fn 68),
 ([95,108,97,119,95,100,111,117,98,108,101],.fn 69),
 ([95,108,97,119,95,98,108,111,99,107],.fn 70),
 ([95,108,97,119,95,110,111,100,101],.fn 71),
 ([95,108,97,119,95,114,111,119],.fn 72),
 ([108,97,119],.fn 73),
 ([108,101,110],.bi .len),
 ([105,115,105,110,115,116,97,110,99,101],.bi .isinstance),
 ([111,114,100],.bi .ord),
 ([115,116,114],.bi .str),
 ([97,108,108],.bi .all)]
noncomputable def FP:List (Nat×Nat):=[(95,22),(97,22),(99,23),(966,20),(984,12)]
noncomputable def toS(l:List Nat):Str:=⟨l.toArray⟩
noncomputable def N4:List Str:=nmL.map toS
noncomputable def Ao:List (Str×MV):=SO.map λp=>(toS p.1,p.2)
noncomputable def Vo:List Addr:=[49,78,98,130,162,182,214,293,316,330,337,344,352,359,366,373,381,388,395,403,410,417,424,431,438,445,452,459,466,473,480,487,495,502,509,517,524,531,538,545,552,559,566,573,580,587,615,622,629,636,643,650,658,665,673,695,704,711,718,725,733,754,761,768,786,793,800,805,812,819,826,833,840,845]
noncomputable def fa1:List Addr:=Vo++[594,680,601,608,687]
noncomputable def Qi:List Addr:=[59,81,101,113,133,145,165,185,197,217,229,241,253,265,296,736,771]
noncomputable def K1(w:World):Frag:=jS 0 (QT w)
noncomputable def D1(w:World):cP:=⟨pw,w,L1.prog,N4,Ao,FP,fa1,Qi⟩
theorem nf1(w:World):((QT w).all λo=> !o.isFreed)=true:=by kernel_rfl
theorem J3(w:World):Ao.all (FH (D1 w) (K1 w))=true:=by kernel_rfl
theorem N6(w:World):jo (NZ (D1 w) (K1 w)) L1.fns Vo=true:=by kernel_rfl
theorem J4(w:World):jo (λce C=>LJ (D1 w) (K1 w) C ce) L1.eg Qi=true:=by kernel_rfl
theorem N7(w:World):Vo.mapM (FJ (K1 w) Ao N4 FP)=some L1.fns:=by kernel_rfl
theorem J5(w:World):jo (λce C=> !ce.isRec||FO (D1 w) (K1 w) C ce) L1.eg Qi=true:=by kernel_rfl
theorem J6(w:World):(L1.eg[16]?).all (λce=>namesOk (D1 w) (K1 w) [] 771 ce 0 N4)=true:=by kernel_rfl
theorem J7(w:World):(L1.eg[15]?).all (λce=>namesOk (D1 w) (K1 w) [68,126] 736 ce 0 N4)=true:=by kernel_rfl
noncomputable def wz(w:World):Nat→List MV→List MV→List DictEntry
 |t,.str k::ks,.str v::vs=>{hash:=hashStr w (toStr k),key:=.str (toStr k) t,val:=.str (toStr v) (t+1)}::wz w (t+2) ks vs
 |_,_,_=>[]
noncomputable def dB:List MV→Bool
 |[]=>true
 |.str s::r=>decide (s.length≤aH)&&dB r
 |_=>false
theorem gJ{a:MV}{r:List MV}(e:dB (a::r)=true):∃s,a=.str s∧s.length≤aH∧dB r=true:=by
 cases a with
 |str s=>exact ⟨s,rfl,bN (bl.mp e).1,(bl.mp e).2⟩
 |_=>exact (bU e).elim
theorem FQ{w:World}{ks:List MV}:∀{vs:List MV} {t:Nat},dB ks=true→dB vs=true→ks.length=vs.length→ks.length=(wz w t ks vs).length:=by
 induction ks with
 |nil=>exact λ_ _ _=>rfl
 |cons k ks ih=>
  intro vs t a b e
  cases vs with
  |nil=>cases e
  |cons v vs=>obtain ⟨s,rfl,_,a⟩:=gJ a;obtain ⟨u,rfl,_,b⟩:=gJ b;exact congrArg Nat.succ (ih a b (Nat.succ.inj e))
theorem FT{w:World}{ks:List MV}:∀{vs:List MV} {t:Nat},dB ks=true→dB vs=true→∀(j:Nat) (k:MV) (e:DictEntry),ks[j]? =some k→(wz w t ks vs)[j]? =some e→uQ w k e:=by
 induction ks with
 |nil=>exact λ_ _ _ _ _ h=>no h
 |cons x ks ih=>
  intro vs t a b j k e;obtain ⟨s,rfl,_,a⟩:=gJ a
  cases vs with
  |nil=>exact λ_ h=>no h
  |cons y vs=>
   obtain ⟨u,rfl,_,b⟩:=gJ b;exact match j with
   |0=>λh h'=>aI h▸aI h'▸⟨_,rfl,rfl⟩
   |j+1=>λh h'=>ih a b j k e h h'
theorem FU{D:cP}{G:Fz}{ρ:List PR}{w:World}{ks:List MV}:∀{vs:List MV} {t:Nat},dB ks=true→dB vs=true→ks.length=vs.length→cY D G ρ vs ((wz w t ks vs).map (·.val)):=by
 induction ks with
 |nil=>exact λ{vs}=>match vs with
  |[]=>λ_ _ _=>.nil
  |_::_=>λ_ _ e=>(Nat.succ_ne_zero _ e.symm).elim
 |cons k ks ih=>
  intro vs t a b e
  cases vs with
  |nil=>cases e
  |cons v vs=>obtain ⟨s,rfl,_,a⟩:=gJ a;obtain ⟨u,rfl,hu,b⟩:=gJ b;exact .cons (VR.str hu) (ih a b (Nat.succ.inj e))
theorem Ar{D:cP}{K:Frag}{a:Addr}{t n:Nat}{ks vs:List MV}(ho:K.lookup a=some ⟨.type "dict",none,.dict (wz D.w t ks vs).toArray n,#[]⟩)(hs:a≠sysModules)(h:(dB ks&&dB vs&&strKeys ks&&ks.length==vs.length)=true)
  {G:Fz} {ρ:List PR} (hG:∀b o,K.lookup b=some o→G b o):VR D G ρ (.jD ks vs) (.ref a):=by
 simp only [Bool.and_eq_true] at h;obtain ⟨⟨⟨h1,h2⟩,h3⟩,h4⟩:=h;have h4:=beq_iff_eq.mp h4;exact ⟨a,_,wz D.w t ks vs,n,rfl,hs,.inl h3,hG _ _ ho,⟨rfl,rfl,rfl⟩,rfl,FQ h1 h2 h4,FT h1 h2,FU h1 h2 h4⟩
noncomputable def jz(ce:gh)(a:Nat):List MV×List MV:=match aZ ce.gM a with
 |some (.jD ks vs)=>(ks,vs)
 |_=>([],[])
noncomputable def e1:gh:=(L1.eg[15]?).getD ⟨true,0,[],[],[],[]⟩
theorem SP(w:World):(K1 w).lookup 308=some ⟨.type "dict",none,.dict (wz w 633 (jz e1 68).1 (jz e1 68).2).toArray 2,#[]⟩:=by kernel_rfl
theorem SQ(w:World):(K1 w).lookup 696=some ⟨.type "dict",none,.dict (wz w 1120 (jz e1 126).1 (jz e1 126).2).toArray 15,#[]⟩:=by kernel_rfl
noncomputable def Vv(K:Frag)(nm:List Str)(C:Addr)(ce:gh)(a:Nat)(da:Addr):Bool:=match nm[a]? with
 |some x=>jr (findIn K (.ref C) x) (.ref da)&&specialIn K (.ref da) "__get__"==some none&& !copiedNames.contains x&&(fV ce.meths a).isNone
 |none=>false
theorem SS(w:World):Vv (K1 w) N4 736 e1 68 308=true:=by kernel_rfl
theorem SW(w:World):Vv (K1 w) N4 736 e1 126 696=true:=by kernel_rfl
theorem wB{D:cP}{K:Frag}{h₀:Heap}{C:Addr}{ce:gh}{a:Nat}{x:Str}{da:Addr}{ks vs:List MV}(X:K.In h₀)(hx:D.nm[a]? =some x)(e:Vv K D.nm C ce a da=true)(hl:aZ ce.gM a=some (.jD ks vs))
  (hv:∀(G:Fz) (ρ:List PR),(∀b o,K.lookup b=some o→G b o)→VR D G ρ (.jD ks vs) (.ref da)):u0 D K h₀ C ce a x:=by
 unfold Vv at e;rw [hx] at e;have c:=bl.mp e;have c1:=bl.mp c.1;have c2:=bl.mp c1.1;have hn:=Option.isNone_iff_eq_none.mp c.2;refine ⟨λf q=>no (hn.symm.trans q),λ_ mv q=>?_,λ_ q=>no (q.symm.trans hl)⟩
 cases hl.symm.trans q
 exact ⟨_,eq_of_beq c2.1,eq_of_beq c2.2,rfl,(Bool.not_eq_true' _).mp c1.2,λG ρ hG=>hv G ρ λb o q=>hG _ _ (X _ _ q)⟩
theorem z1(w:World):nsIn (K1 w) mainGlobals (Str.ofString "zip")=some none:=by kernel_rfl
theorem z2(w:World):nsIn (K1 w) builtinsNs (Str.ofString "zip")=some (some (.type "zip")):=by kernel_rfl
theorem z3(w:World):nsIn (K1 w) mainGlobals (Str.ofString "range")=some none:=by kernel_rfl
theorem z4(w:World):nsIn (K1 w) builtinsNs (Str.ofString "range")=some (some (.type "range")):=by kernel_rfl
theorem SY:decide N4.Nodup=true:=by kernel_rfl
theorem S6(w:World):((K1 w).lookup sysModules).isSome=true:=by kernel_rfl
theorem J8:(L1.eg.zipIdx.all λp=>p.1.isRec||(p.2==15||p.2==16))=true:=by kernel_rfl
theorem yH{α:Type}{P:α×Nat→Bool}{l:List α}(h:(l.zipIdx.all P)=true){c:Nat}{x:α}(e:l[c]? =some x):P (x,c)=true:=List.all_eq_true.mp h _ (by rw [List.mem_iff_getElem?];exact ⟨c,by rw [List.getElem?_zipIdx,e];simp⟩)
theorem wC:aZ e1.gM 68=some (.jD (jz e1 68).1 (jz e1 68).2)∧aZ e1.gM 126=some (.jD (jz e1 126).1 (jz e1 126).2):=⟨rfl,rfl⟩
theorem wD:(dB (jz e1 68).1&&dB (jz e1 68).2&&strKeys (jz e1 68).1&&(jz e1 68).1.length==(jz e1 68).2.length)=true∧(dB (jz e1 126).1&&dB (jz e1 126).2&&strKeys (jz e1 126).1&&(jz e1 126).1.length==(jz e1 126).2.length)=true:=⟨by kernel_rfl,by kernel_rfl⟩
set_option tactic.hygienic true in
theorem S7{w:World}{h:Heap}{mg mb:Str→Option Value}(Y:Vb w h)(g:h.Ns mainGlobals mg)(b:h.Ns builtinsNs mb)(nl:h.NoLimit):cX (D1 w) (K1 w) h mg mb:=by
 have X:(K1 w).In h:=wo Y (nf1 w);refine ⟨X,g,b,nl,?_,λx mv hx=>?_,⟨ns_none_of X g (z1 w),jq X b (z2 w)⟩,⟨ns_none_of X g (z3 w),jq X b (z4 w)⟩,λi fe hi=>?_,λc ce hc=>?_,bN SY,by kernel_rfl,by kernel_rfl,by kernel_rfl,by kernel_rfl,by kernel_rfl,by kernel_rfl,by kernel_rfl,by kernel_rfl⟩
 ·obtain ⟨o,ho⟩:=Option.isSome_iff_exists.mp (S6 w)
  exact ⟨o,X _ _ ho⟩
 ·exact FI X g b (List.all_eq_true.mp (J3 w) _ (mem_of_lookup hx))
 ·obtain ⟨a,ha,e1⟩:=(zw (N7 w)).2 hi
  obtain ⟨a',Vf,hd⟩:=kT (N6 w) hi
  cases ha.symm.trans Vf
  exact ⟨a,(List.getElem?_append_left (List.getElem?_eq_some_iff.mp ha).1).trans ha,N3 e1 hd⟩
 ·obtain ⟨C,hC,ok⟩:=kT (J4 w) hc
  obtain ⟨C',hC',rk⟩:=kT (J5 w) hc;have:C'=C:=by rw [hC] at hC';exact (bX hC').symm
  subst this;refine ⟨C',hC,J2 (ex:=if c=15 then [68,126] else []) ok (λe=>by rw [e] at rk;exact rk) (λe=>?_) λe a x ha hx=>?_⟩
  ·have:=yH J8 hc
   dsimp only at this;rw [e,Bool.false_or,Bool.or_eq_true,beq_iff_eq,beq_iff_eq] at this;rcases this with rfl|rfl
   ·have k:=J7 w
    have C0:L1.eg[15]? =some ce:=hc;rw [C0,Option.all_some] at k;have:C'=736:=by have hC:Qi[15]? =some C':=hC;exact (bX hC).symm
    subst this;exact k
   ·have k:=J6 w
    have C0:L1.eg[16]? =some ce:=hc;rw [C0,Option.all_some] at k;have:C'=771:=by have hC:Qi[16]? =some C':=hC;exact (bX hC).symm
    subst this;exact k
  ·split at ha
   ·rename_i Xg
    subst Xg;have sY:ce=e1:=by have C0:L1.eg[15]? =some ce:=hc;unfold e1;rw [C0];rfl
    subst sY;have:C'=736:=by have hC:Qi[15]? =some C':=hC;exact (bX hC).symm
    subst this;have:a=68∨a=126:=by simpa using ha
    rcases this with rfl|rfl
    ·exact wB X hx (SS w) wC.1 λG ρ hG=>Ar (D:=D1 w) (SP w) (by decide+kernel) wD.1 hG
    ·exact wB X hx (SW w) wC.2 λG ρ hG=>Ar (D:=D1 w) (SQ w) (by decide+kernel) wD.2 hG
   ·simp at ha
def Plain(P:Prog)(i:Nat):Prop:=∀l:List Int,l.length≤63→∃n h',n≤480∧(E P n).ca i [.lst (l.map .int)] []=some (.bool true,h')
theorem ints_of:∀{xs:List WData},WShape.hasItems [] xs .int=true→∃l:List Int,xs=l.map .int
 |[],_=>⟨[],rfl⟩
 |x::r,h=>by
  have h':WShape.has [] x .int=true∧WShape.hasItems [] r .int=true:=by simpa [WShape.hasItems] using h
  obtain ⟨i,rfl⟩:=hasW_int h'.1;obtain ⟨l,rfl⟩:=ints_of h'.2;exact ⟨i::l,rfl⟩
theorem ql{D:cP}{G:Fz}{ρ:List PR}{R:WRecords}{cl:Str→Option Addr}{h:Heap}:∀{l:List Int} {vs:List Value} {as:List Addr},ReadsAllW R cl h vs (l.map WData.int) as→cY D G ρ (l.map .int) vs
 |[],vs,as,x=>by cases x;exact .nil
 |i::l,vs,as,x=>by
  cases x with
  |cons y z=>cases y;exact .cons ⟨_,rfl⟩ (ql z)
theorem FY{D:cP}{K:Frag}{h₀:Heap}{mg mb:Str→Option Value}(L:cX D K h₀ mg mb){i:Nat}{fe:cU}{fa:Addr}(hf:D.pm.fns[i]? =some fe)(ha:D.fa[i]? =some fa)(hb:∀mv,fh fe [mv] [] []=some [mv])
  {l:List Int} {n:Nat} {h':Hp} (hl:l.length≤63) (hn:n≤480) (e:(E D.pm n).ca i [.lst (l.map .int)] []=some (.bool true,h')) {s:Shared} (hs:s.heap=h₀) {R:WRecords} {cl:Str→Option Addr} {v:Value} {as:List Addr}
  (hr:ReadsW R cl h₀ v (.list (l.map .int)) as) {Q:Value→Shared→Prop} {E:Value→Shared→Prop} (k:∀s':Shared,(∀b o,h₀.get? b=some o→s'.heap.get? b=some o)→s'.gens=s.gens→s'.os=s.os→Q (.bool true) s'):wpAny (model D.prog D.w) callerA (PySem.call (.ref fa) [v]) Q E s:=by
 subst hs;refine wpAny_call ?_;have A:qP n callerA:=⟨by show 1+300+n< 1000;lia,by show 4+20 * n+20< 9900;lia,rfl⟩
 have Rp:Rep D s.heap (λb o=>s.heap.get? b=some o) [] [] s:=⟨λ_ _ e=>e,λ_ _ e=>e,λ_ _ _ q=>(dm q).elim,List.nodup_nil,rfl,λi p o q=>by cases q⟩
 have hv:VR D (λb o=>s.heap.get? b=some o) [] (.lst (l.map .int)) v:=by
  cases hr with
  |list h1 h2 h3 h4=>exact ⟨by rw [cu];unfold aH;lia,_,_,_,_,rfl,h1,h2,by rw [Array.toArray_toList];exact h3,ql h4⟩
 refine (sound L n).2 callerA i fe fa [.lst (l.map .int)] [] [.lst (l.map .int)] [] [] [v] [] [] ⟨λb o=>s.heap.get? b=some o,[],s⟩ hf ha A Rp (.cons hv .nil) .nil rfl (hb _) (.bool true,h') e _ λW' w g r=>?_
 have hv:=r.2;subst hv;exact k W'.s (λb o q=>g.st.keep b o (by simp [cD]) q) g.st.gens g.st.os
theorem J9:(d1.name==Str.ofString "law")=true:=by kernel_rfl
theorem Xh:L1.fns[73]? =some L1.Fw:=by kernel_rfl
theorem N8(mv:MV):fh L1.Fw [mv] [] []=some [mv]:=by kernel_rfl
theorem F0:Ao.lookup (Str.ofString "law")=some (.fn 73):=by kernel_rfl
theorem Ka{l:List Int}(h:WTm.holds [] (.and (.not (.lt (.lit (.int 63)) (.len (.arg 0)))) (.lit (.bool true))) {args:=[.list (l.map .int)]}=true):l.length≤63:=by
 have v:WTm.value [] (.and (.not (.lt (.lit (.int 63)) (.len (.arg 0)))) (.lit (.bool true))) {args:=[.list (l.map .int)]}=some (.bool (!decide ((63:Int)< (l.length:Int)))):=by
  simp only [WTm.value,List.getElem?_cons_zero,less?,Num.less?,cu,Option.map_some]
  cases decide ((63:Int)< (l.length:Int))<;>rfl
 have:=condW_of h v;simp at this
 lia
theorem CA{args:List WData}:(RowW.claim xq).post args (.bool true) args=true:=postW_of (X:=same (.bool true) (.bool true)) (show WShape.has _ (.bool true) .bool=true by simp [WShape.has,WShape.arms]) (show WTm.value _ (.eq .res (.lit (.bool true))) _=_ by simp [WTm.value]) (by simp [same])
theorem walk1(P:Plain L1.prog 73):WalkO q1 l5 (λ_ _=>True) Vb xq d1 HZ λf vs=>PySem.call f vs:=by
 intro w xA dJ mg mb G Y a o pm cd doc dV kV ho hd hc hdf hmg hg args vals as Xi aaf hrd Xj ZA;have L:=S7 Y G.T.g G.T.b G.T.nolimit;have ea:a=845:=by
  rw [beq_iff_eq.mp J9] at hmg;obtain ⟨v,hv,hr⟩:=L.az _ _ F0;have hr:=hr (λb o=>dJ.heap.get? b=some o) [] (λ_ _ e=>e)
  obtain ⟨x,hx,rfl⟩:=hr;have hx:some 845=some x:=hx;rw [hmg] at hv;rcases hv with e|⟨e,_⟩
  ·cases hx;cases e;rfl
  ·cases e
 subst ea;obtain ⟨hsh,hpr⟩:=pre_splitW Xi;obtain ⟨d,r,rfl,MB,hr⟩:=hasAllW_cons hsh;obtain rfl:=hasAllW_nil hr;obtain ⟨xs,rfl,hi⟩:=hasW_list MB;obtain ⟨l,rfl⟩:=ints_of hi;have hl:l.length≤63:=by exact Ka (l:=l) hpr
 cases hrd with
 |cons h1 h2=>
  cases h2
  obtain ⟨n,h',hn,e⟩:=P l hl;exact FY L (i:=73) (fe:=L1.Fw) (fa:=845) Xh rfl N8 hl hn e rfl h1 λs' hk hgs hos=>⟨.inl ⟨.bool true,.bool true,[],rfl,λ_=>rfl,.bool true,CA,λ_=>⟨.nil,λa h=>by cases h⟩⟩,.of_keep hk,hos,.of_eq (hgs.trans hg)⟩
end
section
open PySem
structure Em where
 state:MV
 event:MV
 indent:MV
 fy:MV
 root:MV
 seq:MV
 map:MV
 sk:MV
 line:MV
 col:MV
 ws:MV
 ind:MV
 oe:MV
 au:MV
 bi:MV
 tp:MV
 an:MV
 st:MV
noncomputable def Em.at(e:Em):List (Nat×MV):=[(21,.obj 2),(7,.none),(27,.obj 5),(28,e.state),(30,.obj 6),(31,e.event),(32,.obj 7),(23,e.indent),(33,e.fy),(34,e.root),(35,e.seq),(36,e.map),(37,e.sk),(38,e.line),(39,e.col),(40,e.ws),(41,e.ind),(42,e.oe),(22,.none),(25,e.au),(43,e.bi),(44,.int 1000),(45,.str [10]),(46,e.tp),(47,.none),(48,.none),(49,e.an),(12,e.st)]
noncomputable def hE(w0 w1 rows states events aK:List MV)(e:Em):Hp:=[.list w0,.list w1,.inst 16 [(128,.obj 3)],.list rows,.inst 15 e.at,.list states,.list events,.list aK]
noncomputable def sE(rp:Nat)(rows:List MV)(e:Em):bg:=[.list (some 0) [],.list (some 1) [],.inst 16 [(128,.obj 3)],.list (some rp) rows,.inst 15 e.at,.list (some 3) [],.list (some 4) [],.list (some 5) []]
noncomputable abbrev X(i:Nat):MV:=.fn (1000+i)
noncomputable def bw(c:Nat):MV:=.str [c]
noncomputable def R(vs:List MV)(ls:List (List MV))(os:Nat→Option MV):eN:=⟨λi=>vs.getD i .none,λi=>ls.getD i [],os⟩
noncomputable def bH:List Nat:=[97,98,32,45,99,58,35,100,233,63,44,39,10,8232,101,9,34,92,133,128512,7,37,8364,160]
noncomputable def brk:List Nat:=[10,133,8232,8233]
noncomputable def aW(c:Nat):Bool:=Nat.beq c 10||(Nat.beq c 133||(Nat.beq c 8232||Nat.beq c 8233))
noncomputable def bools:List Bool:=[true,false]
noncomputable def cos:List (Option Nat):=none::bH.map some
noncomputable def imp(a b:Bool):Bool:=cond a b true
theorem ez{a b:Bool}(h:imp a b=true)(q:a=true):b=true:=by subst q;exact h
theorem ao{α:Type}{l:List α}{p:α→Bool}(h:l.all p=true){a:α}(q:a∈l):p a=true:=List.all_eq_true.mp h a q
theorem ay(b:Bool):b∈bools:=by cases b<;>decide
theorem yI{c:Nat}(h:c∈bH):some c∈cos:=bR _ (List.mem_map_of_mem h)
theorem qm:none∈cos:=cy ..
theorem dG:∀{a b:List MV} {x y:List Nat},aC a=some x→aC b=some y→aC (a++b)=some (x++y)
 |[],b,x,y,e1,e2=>by rw [← aI e1];exact e2
 |v::a,b,x,y,e1,e2=>by
  cases v<;>first|exact no e1|skip
  refine cL (x:=aC a) e1 λz e3 e4=>?_
  show (aC (a++b)).map _=_
  rw [dG e3 e2, ← e4,bJ];rfl
theorem qo:∀s:List Nat,aC (s.map bw)=some s
 |[]=>rfl
 |a::r=>by
  show (aC (r.map bw)).map _=_
  rw [qo r];rfl
noncomputable def C1:aB→ai
 |.cR c _=>c
 |_=>.b7 .none
noncomputable def F1:aB→List aB
 |.cR _ b=>b
 |_=>[]
theorem bK{n:Nat}(h:n≤1000000000):bC (n:Int)=true:=by unfold bC;rw [Bool.and_eq_true];exact ⟨decide_eq_true (by lia),decide_eq_true (by lia)⟩
theorem S8{a b:Nat}{r:Bool}(h:decide (a≤b)=r):dz .LtE (.int a) (.int b)=some r:=by
 show some (decide ((a:Int)≤(b:Int)))=_
 rw [← h];exact congrArg some (decide_eq_decide.mpr Int.ofNat_le)
theorem wG{a b:Nat}{r:Bool}(h:decide (a< b)=r):dz .Lt (.int a) (.int b)=some r:=by
 show some (decide ((a:Int)< (b:Int)))=_
 rw [← h];exact congrArg some (decide_eq_decide.mpr Int.ofNat_lt)
theorem N9{a b:Nat}{r:Bool}(h:decide (b≤a)=r):dz .GtE (.int a) (.int b)=some r:=by
 show some (decide ((b:Int)≤(a:Int)))=_
 rw [← h];exact congrArg some (decide_eq_decide.mpr Int.ofNat_le)
theorem qU{a b:Nat}{r:Bool}(h:decide (b< a)=r):dz .Gt (.int a) (.int b)=some r:=by
 show some (decide ((b:Int)< (a:Int)))=_
 rw [← h];exact congrArg some (decide_eq_decide.mpr Int.ofNat_lt)
theorem yJ{a b:Nat}{r:Bool}(h:decide (a=b)=r):dz .Eq (.int a) (.int b)=some r:=by
 show some (decide ((a:Int)=(b:Int)))=_
 rw [← h];exact congrArg some (decide_eq_decide.mpr Int.ofNat_inj)
theorem jT{f:Int→Int→Int}{x y z:Int}(hx:bC x=true)(hy:bC y=true)(h:f x y=z):arith f (.int x) (.int y)=some (.int z):=(if_pos (by rw [hx,hy];rfl)).trans (congrArg (λi=>some (MV.int i)) h)
theorem F2{x y z:Int}(hx:bC x=true)(hy:bC y=true)(h:x+y=z)(H:Hp):binOp .Add (.int x) (.int y) H=some (.int z):=congrArg (Option.or · _) (jT hx hy h)
theorem As{a b c:Nat}(h:a+b=c)(hc:c≤1000000000)(H:Hp):binOp .Add (.int a) (.int b) H=some (.int c):=F2 (bK (by lia)) (bK (by lia)) (congrArg Int.ofNat h) H
theorem dH{a b c:Nat}(h:a+b=c)(hc:c≤1000000000)(H:Hp):iT .Add (.int a) (.int b) H=some (.int c):=congrArg (Option.or · _) (jT (bK (by lia)) (bK (by lia)) (congrArg Int.ofNat h))
theorem Au{a b c:Nat}(h:b+c=a)(hc:a≤1000000000)(H:Hp):binOp .Sub (.int a) (.int b) H=some (.int c):=jT (bK (by lia)) (bK (by lia)) (by lia)
theorem Oa{a b:Nat}(h:a+1=b)(hc:b≤1000000000)(H:Hp):binOp .Sub (.int a) (.int b) H=some (.int (-1)):=jT (bK (by lia)) (bK (by lia)) (by lia)
theorem F3{a b:Nat}(h:b+1=a)(hc:a≤1000000000)(H:Hp):binOp .Add (.int a) (.int (-1)) H=some (.int b):=F2 (bK (by lia)) rfl (by lia) H
theorem lM{P:Prog}{s:List Nat}{n:Nat}(h:s.length=n)(H:Hp):iH P .len [.str s] H=some (.int n):=by rw [← h];rfl
theorem Av{len i:Nat}(h:i< len):idx len (i:Int)=some i:=if_pos h
theorem S9{s:List Nat}{k:Int}{j c:Nat}(hk:bC k=true)(hi:idx s.length k=some j)(h:s[j]? =some c)(H:Hp):dP (.str s) (.int k) H=some (.str [c]):=by
 show ((if bC k=true then idx s.length k else none).bind λj=>(s[j]?).map λc=>MV.str [c]).or _=_
 rw [if_pos hk,hi];exact congrArg (λo:Option Nat=>(o.map λc=>MV.str [c]).or _) h
theorem lN{s:List Nat}{i c:Nat}(h:s[i]? =some c)(hi:i≤1000000000)(H:Hp):dP (.str s) (.int i) H=some (.str [c]):=S9 (bK hi) (Av (List.getElem?_eq_some_iff.mp h).1) h H
theorem Aw{α:Type}(l:List α)(a b:Nat):fW l (some (a:Int)) (some (b:Int))=(l.drop a).take (b - a):=by
 show (l.drop (min a _)).take (min b _ - min a _)=_
 by_cases h:l.length≤a
 ·rw [Nat.min_eq_right h,List.drop_length,List.drop_eq_nil_of_le h,List.take_nil,List.take_nil]
 ·rw [Nat.min_eq_left (Nat.le_of_not_le h), ← Nat.sub_min_sub_right, ← List.length_drop]
  exact List.take_eq_take_min.symm
theorem F4{α:Type}(l:List α)(a:Nat):fW l (some (a:Int)) none=l.drop a:=by
 show (l.drop (min a _)).take (l.length - min a _)=_
 rw [List.take_of_length_le (Nat.le_of_eq (List.length_drop ..))]
 by_cases h:l.length≤a
 ·rw [Nat.min_eq_right h,List.drop_length,List.drop_eq_nil_of_le h]
 ·rw [Nat.min_eq_left (Nat.le_of_not_le h)]
theorem t6{α:Type}(l:List α)(b:Nat):fW l none (some (b:Int))=l.take b:=List.take_eq_take_min.symm
theorem wH{α:Type}(l:List α)(k:Nat):fW l (some (-((k+1:Nat):Int))) none=l.drop (l.length - (k+1)):=List.take_of_length_le (Nat.le_of_eq (List.length_drop ..))
theorem fL{i:Int}(h:bC i=true):jc (some (.int i))=some (some i):=if_pos h
theorem yK{s p:List Nat}{lo hi:Option MV}{x y:Option Int}(h1:jc lo=some x)(h2:jc hi=some y)(h:fW s x y=p)(H:Hp):dM (.str s) lo hi H=some (.str p):=by
 show (jc lo).bind (λlo=>(jc hi).bind λhi=>Bk (.str s) lo hi H)=_
 rw [h1,h2, ← h];rfl
theorem Ob{s:List Nat}{a b:Nat}{p:List Nat}(Xk:a≤b)(hb:b≤s.length)(hs:s.length≤1000000000)(h:(s.drop a).take (b - a)=p)(H:Hp):dM (.str s) (some (.int a)) (some (.int b)) H=some (.str p):=yK (fL (bK (by lia))) (fL (bK (by lia))) ((Aw s a b).trans h) H
theorem Tc{n:Nat}(h:n≤1000)(H:Hp):binOp .Mult (.str [32]) (.int n) H=some (.str (List.replicate n 32)):=by
 show (if (decide ([32].length * (n:Int).toNat≤aH)&&bC (n:Int))=true then some (MV.str (List.replicate (n:Int).toNat [32]).flatten) else none)=_
 rw [bK (by lia),if_pos (by simp [aH];lia)]
 have:(List.replicate n [32]).flatten=List.replicate n 32:=by
  induction n with
  |zero=>rfl
  |succ n ih=>rw [List.replicate_succ,List.flatten_cons,ih (by lia)];rfl
 rw [show (n:Int).toNat=n from rfl,this]
noncomputable def gk:Em:={state:=X 20,event:=X 21,indent:=X 10,fy:=X 22,root:=X 23,seq:=X 24,map:=X 25,sk:=X 26,line:=X 12,col:=X 7,ws:=X 33,ind:=X 34,oe:=X 27,au:=X 37,bi:=X 28,tp:=X 29,an:=X 30,st:=X 31}
noncomputable def wF(au:Bool)(co:Option Nat)(f:Nat)(nz one b0 b1:Bool)(k:Nat)(st:List xh):Facts:={
 ny:=[(X 10,true),(X 37,au)],
 cmp:=[(.LtE,X 3,X 1,true),(.Lt,X 3,X 1,co.isSome),(.Lt,X 2,X 3,nz),(.GtE,X 2,X 3, !nz),(.GtE,X 4,X 3,true),(.Eq,X 9,X 3,one),(.Gt,X 7,.int 1000,false),(.Gt,X 8,.int 1000,false),(.Gt,X 17,.int 1000,false),(.Gt,X 18,.int 1000,false),(.Lt,.int 0,X 3,b0),(.Lt,X 3,X 16,b1),(.Gt,.int 0,X 10,false),(.Eq,.int 0,X 10,false),(.Lt,.int 0,X 10,true)],
 bin:=[(.Add,X 2,.int 1,X 9),(.Add,X 3,.int 1,X 4),(.Sub,X 1,.int 1,X 16),(.Sub,X 3,X 2,X 6),(.Sub,X 3,X 4,.int (-1)),(.Add,X 7,X 6,X 8),(.Add,X 14,.int (-1),X 17),(.Add,X 15,.int (-1),X 18),(.Sub,X 10,.int 0,X 10),(.Mult,.str [32],X 10,X 11)],
 sub:=(match co with|some c=>[(X 0,X 3,bw c)]|none=>[])++cond nz [(X 0,X 2,bw f)] [],
 qM:=[(X 0,some (X 2),some (X 3),cond nz (X 5) (.str []))],
 bi:=[(.len,X 0,X 1),(.len,X 5,X 6)],
 room:=[2,6],
 aug:=[(.Add,X 3,.int 1,X 4),(.Add,X 7,X 6,X 8),(.Add,X 8,.int k,X 14),(.Add,X 7,.int k,X 15),(.Add,X 10,.int k,X 32),(.Add,X 12,.int 1,X 13),(.Add,X 7,.int 0,X 7)],
 st:=st}
structure WV where
 v:List Nat
 pre:List Nat
 pend:List Nat
 r:List Nat
 col:Nat
 M:Nat
 line:Nat
 k:Nat
 dQ:Nat
 last:Nat
 split:MV
noncomputable def wR(w:WV)(e:Em)(w0 w1 rows states events aK cA:List MV)(os:Nat→Option MV):eN:=
 R [.str w.v,.int (w.v.length:Nat),.int (w.pre.length:Nat),.int ((w.pre.length+w.pend.length:Nat):Int),.int ((w.pre.length+w.pend.length+1:Nat):Int),.str w.pend,.int (w.pend.length:Nat),.int (w.col:Nat),.int ((w.col+w.pend.length:Nat):Int),.int ((w.pre.length+1:Nat):Int),
  .int (w.M:Nat),.str (List.replicate w.M 32),.int (w.line:Nat),.int ((w.line+1:Nat):Int),.int ((w.col+w.pend.length+w.k:Nat):Int),.int ((w.col+w.k:Nat):Int),.int ((w.v.length - 1:Nat):Int),.int ((w.col+w.pend.length+w.k - 1:Nat):Int),.int ((w.col+w.k - 1:Nat):Int),.int (w.dQ:Nat),
  e.state,e.event,e.fy,e.root,e.seq,e.map,e.sk,e.oe,e.bi,e.tp,e.an,e.st,.int ((w.M+w.k:Nat):Int),e.ws,e.ind,w.split,bw w.last,e.au] [w0,w1,rows,states,events,aK,cA] os
structure wI(w:WV)(e:Em)(au:Bool)(co:Option Nat)(f:Nat)(nz one b0 b1:Bool)(rows cA:List MV):Prop where
 split:w.v=w.pre++(w.pend++w.r)
 hd:w.r.head? =co
 f:nz=true→w.pend.head? =some f
 nz:(!w.pend.isEmpty)=nz
 one:decide (w.pend.length=1)=one
 b0:decide (0< w.pre.length+w.pend.length)=b0
 b1:decide (w.pre.length+w.pend.length< w.v.length - 1)=b1
 len:1≤w.v.length∧w.v.length≤1000
 col:w.col+w.pend.length+w.k≤1000
 k:1≤w.k
 au:e.au=.bool au
 M:1≤w.M∧w.M≤100
 line:w.line≤100000000
 room:rows.length≤100000
 LK:cA.length≤100000
theorem big{a:Nat}(h:a≤1000):a≤1000000000:=ak h (by decide)
theorem yL{a:Nat}(h:a≤1000):a+1≤1000000000:=ak (Nat.succ_le_succ h) (by decide)
theorem Oc{a b:Nat}(h:a≤b):decide (b< a)=false:=decide_eq_false (Nat.not_lt.mpr h)
theorem Td{a:Nat}(h:a≤1000):a - 1≤1000:=ak (Nat.sub_le a 1) h
theorem CB{n:Nat}(h:n≤100000):n+1000< aH:=Nat.lt_of_le_of_lt (cO h 1000) (by decide)
section
variable {w:WV}{e:Em}{rows cA:List MV}{au:Bool}{co:Option Nat}{f:Nat}{nz one b0 b1:Bool}(W:wI w e au co f nz one b0 b1 rows cA)
include W
theorem wI.apn:w.v.length=w.pre.length+w.pend.length+w.r.length:=by rw [W.split,aY,aY,Nat.add_assoc]
theorem wI.ap:w.pre.length+w.pend.length≤w.v.length:=ak (bZ _ _) (Nat.le_of_eq W.apn.symm)
theorem wI.a1:w.pre.length+w.pend.length≤1000:=ak W.ap W.len.2
theorem wI.p1:w.pre.length≤1000:=ak (bZ _ _) W.a1
theorem wI.c0:w.col+w.pend.length≤1000:=ak (bZ _ _) W.col
theorem wI.cc:w.col≤1000:=ak (bZ _ _) W.c0
theorem wI.ck:w.col+w.k≤1000:=ak (cO (bZ _ _) _) W.col
theorem wI.mkk:w.M+w.k≤1000000000:=ak (Nat.add_le_add W.M.2 (ak (Nat.le_add_left _ _) W.col)) (by decide)
theorem wI.end:decide (w.pre.length+w.pend.length< w.v.length)=co.isSome:=by
 rw [← W.hd,W.apn]
 cases w.r with
 |nil=>exact decide_eq_false (Nat.lt_irrefl _)
 |cons _ _=>exact decide_eq_true (Nat.lt_add_of_pos_right (Nat.succ_pos _))
theorem wI.pd:decide (w.pre.length< w.pre.length+w.pend.length)=nz:=by
 rw [← W.nz]
 cases w.pend with
 |nil=>exact decide_eq_false (Nat.lt_irrefl _)
 |cons _ _=>exact decide_eq_true (Nat.lt_add_of_pos_right (Nat.succ_pos _))
theorem wI.pe:decide (w.pre.length+w.pend.length≤w.pre.length)= !nz:=by rw [← W.pd, ← decide_not];exact decide_eq_decide.mpr Nat.not_lt.symm
theorem wI.at(c:Nat)(h:co=some c):w.v[w.pre.length+w.pend.length]? =some c:=by rw [W.split, ← bJ,List.getElem?_append_right (Nat.le_of_eq aY),aY,Nat.sub_self, ← h, ← W.hd,List.head?_eq_getElem?]
theorem wI.fst(h:nz=true):w.v[w.pre.length]? =some f:=by have g:=W.f h;rw [List.head?_eq_getElem?] at g;have l:0< w.pend.length:=(List.getElem?_eq_some_iff.mp g).1;rw [W.split,List.getElem?_append_right (bf _),Nat.sub_self,List.getElem?_append_left l,g]
theorem wI.cut:cond nz (MV.str w.pend) (.str [])=.str w.pend:=by rw [← W.nz];cases w.pend<;>rfl
end
theorem qq{w:WV}{e:Em}{w0 w1 rows states events aK cA:List MV}{os:Nat→Option MV}{au:Bool}{co:Option Nat}{f:Nat}{nz one b0 b1:Bool}{st:List xh}(W:wI w e au co f nz one b0 b1 rows cA)
  (D8:∀e'∈st,∀k,e'.n≤k→gp L1.prog (E L1.prog k) e'.s (aG (wR w e w0 w1 rows states events aK cA os) e'.l) (aV (wR w e w0 w1 rows states events aK cA os) e'.h)=some (.next,aG (wR w e w0 w1 rows states events aK cA os) e'.l',aV (wR w e w0 w1 rows states events aK cA os) e'.h')):Holds L1.prog (wR w e w0 w1 rows states events aK cA os) (wF au co f nz one b0 b1 w.k st) where
 ny:=af (λh=>congrArg (λb=>some !b) (decide_eq_false λe=>Nat.ne_of_gt W.M.1 (Int.ofNat_inj.mp e)))<|af (λh=>congrArg (truthy · h) W.au) aa
 cmp:=af (S8 (decide_eq_true W.ap))<|af (wG W.end)<|af (wG W.pd)<|af (N9 W.pe)<|af (N9 (decide_eq_true (Nat.le_succ _)))<|af (yJ ((decide_eq_decide.mpr ⟨λh=>(Nat.add_left_cancel h).symm,λh=>congrArg _ h.symm⟩).trans W.one))<|af (qU (b:=1000) (Oc W.cc))<|af (qU (b:=1000) (Oc W.c0))<|af (qU (b:=1000) (Oc (Td W.col)))<|af (qU (b:=1000) (Oc (Td W.ck)))<|af (wG (a:=0) W.b0)<|af (wG W.b1)<|af (qU (a:=0) (Oc (Nat.zero_le _)))<|af (yJ (a:=0) (decide_eq_false (Nat.ne_of_lt W.M.1)))<|af (wG (a:=0) (decide_eq_true W.M.1)) aa
 bin:=af (As rfl (yL W.p1))<|af (As rfl (yL W.a1))<|af (Au (b:=1) (Nat.add_sub_cancel' W.len.1) (big W.len.2))<|af (Au rfl (big W.a1))<|af (Oa rfl (yL W.a1))<|af (As rfl (big W.c0))<|af (F3 (Nat.sub_add_cancel (ak W.k (Nat.le_add_left _ _))) (big W.col))<|af (F3 (Nat.sub_add_cancel (ak W.k (Nat.le_add_left _ _))) (big W.ck))<|af (Au (b:=0) (Nat.zero_add _) (ak W.M.2 (by decide)))<|af (Tc (ak W.M.2 (by decide))) aa
 sub:=by
  refine List.forall_mem_append.mpr ⟨?_,?_⟩
  ·have h:=W.at
   revert h
   cases co with
   |none=>exact λ_=>aa
   |some c=>exact λh=>af (lN (h c rfl) (big W.a1)) aa
  ·have h:=W.fst
   revert h
   cases nz with
   |false=>exact λ_=>aa
   |true=>exact λh=>af (lN (h rfl) (big W.p1)) aa
 qM:=af (λh=>(Ob (bZ _ _) W.ap (big W.len.2) (by rw [W.split,List.drop_left,Nat.add_sub_cancel_left,List.take_left]) h).trans (by have g:=W.cut;revert g;cases nz<;>exact λg=>congrArg some g.symm)) aa
 bi:=af (lM rfl)<|af (lM rfl) aa
 join:=aa
 room:=af (CB W.room)<|af (CB W.LK) aa
 aug:=af (dH rfl (yL W.a1))<|af (dH rfl (big W.c0))<|af (dH rfl (big W.col))<|af (dH rfl (big W.ck))<|af (dH rfl W.mkk)<|af (dH rfl (ak (Nat.succ_le_succ W.line) (by decide)))<|af (dH (b:=0) rfl (big W.cc)) aa
 starts:=aa
 st:=D8
 ev:=aa
 call:=aa
structure Cx where
 w0:List MV
 w1:List MV
 states:List MV
 events:List MV
 aK:List MV
 e:Em
 v:List Nat
 split:MV
 M:Nat
 au:Bool
 B:Nat
 B2:Nat
structure jA(x:Cx):Prop where
 au:x.e.au=.bool x.au
 M:1≤x.M∧x.M≤100
 v:∀c∈x.v,c∈bH
 len:1≤x.v.length∧x.v.length≤10
 B:x.B≤900∧x.M+12 * x.v.length+30≤x.B
 B2:x.B2≤8000
noncomputable def Cx.em(x:Cx)(col line:Nat)(ws ind:MV):Em:={x.e with indent:=.int x.M,line:=.int line,col:=.int col,ws:=ws,ind:=ind}
noncomputable def hw(x:Cx)(rows:List MV)(col line:Nat)(ws ind:MV):Hp:=hE x.w0 x.w1 rows x.states x.events x.aK (x.em col line ws ind)
noncomputable def fin(a:Nat→Option MV)(n:Nat):Loc:=some (.obj 4)::(List.range n).map a
noncomputable def fl(n:Nat):aR:=.v (.obj 4)::(List.range n).map .o
theorem lO{ρ:eN}{n:Nat}:aG ρ (fl n)=fin ρ.o n:=by
 show some (MV.obj 4)::((List.range n).map SL.o).map (SL.I ρ)=_
 rw [List.map_map];rfl
structure F5 where
 Q:List MV
 col:Nat
 line:Nat
 ws:Bool
 ind:Bool
 a:Nat→Option MV
section
variable {x:Cx}{n:Nat}{G G':Nat→Bool→Bool→Prop}{T T':Nat→Option (Fl×Loc×Hp)}{rows P:List MV}{o1 out:List Nat}
structure CC(x:Cx)(n:Nat)(G:Nat→Bool→Bool→Prop)(T:Nat→Option (Fl×Loc×Hp))(rows:List MV)(out:List Nat)(z:F5):Prop where
 run:∀k,60≤k→T k=some (.next,fin z.a n,hw x (rows++z.Q) z.col z.line (.bool z.ws) (.bool z.ind))
 j:aC z.Q=some out
 col:z.col≤x.B
 line:z.line≤x.B2
 room:rows.length+z.Q.length≤10 * x.B2+10
 G:G z.col z.ws z.ind
def Fin(x:Cx)(n:Nat)(G:Nat→Bool→Bool→Prop)(T:Nat→Option (Fl×Loc×Hp))(rows:List MV)(out:List Nat):Prop:=∃z,CC x n G T rows out z
theorem Fin.cons(h:Fin x n G T (rows++P) out)(hp:aC P=some o1):Fin x n G T rows (o1++out):=h.elim λz h=>⟨{z with Q:=P++z.Q},λk hk=>(h.run k hk).trans (congrArg (λr=>some (Fl.next,fin z.a n,hw x r z.col z.line (.bool z.ws) (.bool z.ind))) (bJ ..)),dG hp h.j,h.col,h.line,by have:=h.room;rw [aY,Nat.add_assoc, ← aY] at this;exact this,h.G⟩
theorem Fin.step(e:∀k,60≤k→T k=T' k)(h:Fin x n G T' rows out):Fin x n G T rows out:=h.elim λz h=>⟨z,{h with run:=λk hk=>(e k hk).trans (h.run k hk)}⟩
theorem Fin.weak(q:∀c a b,G' c a b→G c a b)(h:Fin x n G' T rows out):Fin x n G T rows out:=h.elim λz h=>⟨z,{h with G:=q _ _ _ h.G}⟩
theorem CC.r6{z:F5}(h:CC x n G T rows out z)(hB:x.B2≤8000):(rows++z.Q).length≤100000:=by rw [aY];exact ak h.room (ak (cO (Nat.mul_le_mul_left 10 hB) 10) (by decide))
end
noncomputable def t7(i:Nat):List aB:=[.aO (.cmp (.aP i) [.Eq] [.b7 (.str [10])]) [.expr (.aQ (.aP 0) 122 [] [] [])] [.expr (.aQ (.aP 0) 122 [.aP i] [] [])]]
noncomputable def Xl(t s e i:Nat):aB:=.fz (.aP i) (.val (.slice (.aP t) (some (.aP s)) (some (.aP e)))) (t7 i)
noncomputable def bF:Facts:={aug:=[(.Add,X 12,.int 1,X 13)],room:=[2]}
noncomputable def Ht:Em:={gk with col:=.int 0,line:=X 13,ws:=.bool true,ind:=.bool true}
noncomputable def Ax(i n:Nat):Bool:=brk.all λc=>eZ L1.prog bF 40 (t7 i) (gV (fl n) i (bw c)) (sE 2 [] gk) .next (gV (fl n) i (bw c)) (sE 2 [bw c] Ht)
theorem Kc{a:Nat→Option MV}{n i:Nat}{v:MV}:∃a',fD (fin a n) (i+1) v=fin a' n:=by
 refine ⟨λj=>if j=i then some v else a j,?_⟩
 show some (MV.obj 4)::((List.range n).map a).set i (some v)=_
 refine congrArg (some (MV.obj 4)::·) (List.ext_getElem? λj=>?_)
 rw [List.getElem?_set,List.getElem?_map]
 by_cases h:i=j
 ·subst h
  by_cases q:i< n
  ·simp [q]
  ·simp [q]
 ·rw [if_neg h]
  by_cases q:j< n
  ·simp [q,Ne.symm h]
  ·simp [q]
theorem Ay{i n:Nat}(hc:Ax (i+1) n=true){x:Cx}(hx:jA x){k:Nat}(hk:40≤k):∀(s:List Nat) (c:Nat) (a:Nat→Option MV) (rows:List MV) (col line:Nat) (ws ind:MV),(∀d∈c::s,d∈brk)→line+s.length≤10000000→rows.length+s.length≤100000→
  bO (E L1.prog k) (.aP (i+1)) (t7 (i+1)) ((c::s).map bw) (fin a n) (hw x rows col line ws ind)=some (.next,fD (fin a n) (i+1) (bw ((c::s).getLast (List.cons_ne_nil _ _))),hw x (rows++(c::s).map bw) 0 (line+(s.length+1)) (.bool true) (.bool true))
 |s,c,a,rows,col,line,ws,ind,hd,hl,hr=>by
  have h1:=ao hc (hd c (cy ..));have K:Holds L1.prog (wR ⟨[],[],[],[],col,x.M,line,1,0,0,.none⟩ (x.em col line ws ind) x.w0 x.w1 rows x.states x.events x.aK [] a) bF:=⟨aa,aa,aa,aa,aa,aa,aa,af (CB (ak (bZ _ _) hr)) aa,af (dH rfl (ak (Nat.succ_le_succ (ak (bZ _ _) hl)) (by decide))) aa,aa,aa,aa,aa⟩
  have h2:=wm K (t:=i+1) (l:=fl n) (h:=sE 2 [] gk) (x:=bw c) h1 hk (s.map bw);rw [lO,iF,lO] at h2;refine Eq.trans (b:=bO (E L1.prog k) (.aP (i+1)) (t7 (i+1)) (s.map bw) (fD (fin a n) (i+1) (bw c)) (hw x (rows++[bw c]) 0 (line+1) (.bool true) (.bool true))) h2 ?_
  match s with
  |[]=>rfl
  |d::s=>
   obtain ⟨a',ha⟩:=Kc (a:=a) (n:=n) (i:=i) (v:=bw c);rw [ha,Ay hc hx hk s d a' _ _ _ _ _ (λz hz=>hd z (bR _ hz)) (by simp at hl⊢;lia) (by simp at hr⊢;lia), ← ha]
   rw [List.getLast_cons (List.cons_ne_nil _ _),bJ];have:fD (fD (fin a n) (i+1) (bw c)) (i+1) (bw ((d::s).getLast (List.cons_ne_nil _ _)))=fD (fin a n) (i+1) (bw ((d::s).getLast (List.cons_ne_nil _ _))):=List.set_set ..;rw [this,show line+1+(s.length+1)=line+((d::s).length+1) by simp;lia];rfl
theorem lP{P:Prog}{k:Nat}{t:dK}{e:ai}{b:List aB}{l l':Loc}{h h':Hp}{s:List Nat}(h1:(E P k).ev e l h=some (.str s,h))(h2:bO (E P k) t b (s.map bw) l h=some (.next,l',h')):gp P (E P k) (.fz t (.val e) b) l h=some (.next,l',h'):=by
 show ((((E P k).ev e l h).bind λv=>(rg v.1 v.2).map λi=>(i,v.2)):Option (It×Hp)).bind _=_
 rw [h1];exact h2
inductive Pk where|ext|new|emp
inductive Pc where|pend|yM|lit(s:List Nat)
inductive Cc where|keep|flush|qs|k|yM|mark|zero
noncomputable def Pc.v:Pc→MV
 |.pend=>X 5
 |.yM=>X 11
 |.lit s=>.str s
noncomputable def eT(M:Nat):List Nat:=List.replicate M 32
noncomputable def Pc.s(M:Nat)(pend:List Nat):Pc→List Nat
 |.pend=>pend
 |.yM=>eT M
 |.lit s=>s
noncomputable def Cc.v:Cc→MV
 |.keep=>X 7
 |.flush=>X 8
 |.qs=>X 14
 |.k=>X 15
 |.yM=>X 10
 |.mark=>X 32
 |.zero=>.int 0
noncomputable def Cc.n(col p M k:Nat):Cc→Nat
 |.keep=>col
 |.flush=>col+p
 |.qs=>col+p+k
 |.k=>col+k
 |.yM=>M
 |.mark=>M+k
 |.zero=>0
structure cI where
 s:Nat
 kd:Pk
 run:Bool:=false
 gG:Bool:=false
 ps:List Pc:=[]
 col:Cc:=.keep
 k:Nat:=2
 nl:Bool:=false
 os:List SL
noncomputable def Cc.Qj:Cc→Bool
 |.zero=>true
 |_=>false
noncomputable def cI.Qj(t:cI):Bool:=t.col.Qj&&(t.run||t.nl)
noncomputable def Pk.sv:Pk→MV
 |.ext=>X 2
 |.new=>X 3
 |.emp=>X 4
noncomputable def Pk.pend(pend:List Nat)(c:Nat):Pk→List Nat
 |.ext=>pend++[c]
 |.new=>[c]
 |.emp=>[]
noncomputable def Pk.pre(pre pend:List Nat)(c:Nat):Pk→List Nat
 |.ext=>pre
 |.new=>pre++pend
 |.emp=>pre++(pend++[c])
noncomputable def cI.em(t:cI):Em:={gk with col:=t.col.v,line:=cond t.run (X 19) (cond t.nl (X 13) (X 12)),ws:=cond (t.run||t.nl) (.bool true) (X 33),ind:=cond (t.run||t.nl) (.bool true) (X 34)}
noncomputable def cI.heap(t:cI):bg:=sE (cond t.run 6 2) (t.ps.map Pc.v) t.em
noncomputable def psS(M:Nat)(pend:List Nat)(l:List Pc):List Nat:=l.flatMap (Pc.s M pend)
noncomputable def cI.out(t:cI)(M:Nat)(pend:List Nat):List Nat:=cond t.run (cond t.gG [10] []++pend) []++psS M pend t.ps
structure eL where
 n:Nat
 t:Nat
 bs:Nat
 be:Nat
 bi:Nat
 c:ai
 b:List aB
 aP:Nat→MV→MV→(Nat→SL)→aR
 lst:Nat→Option Nat→List SL
 tr:Nat→Bool→Nat→Option Nat→cI
 gm:Nat→Bool
 need:Nat→Bool
 ns:Nat
 cs:List (Option Nat)
 Z:Nat→List Nat→Prop
 Y:Prop
 out:Nat→Nat→List Nat→List Nat→List Nat
noncomputable def emR:Em:={gk with col:=.int 0,line:=X 19,ws:=.bool true,ind:=.bool true}
noncomputable def eL.fst(w:eL)(σ:Nat)(co:Option Nat)(gG:Bool):xh:={n:=40,s:=Xl w.t w.bs w.be (w.bi+1),l:=.v (.obj 4)::w.lst σ co,h:=cond gG (sE 2 [.str [10]] Ht) (sE 2 [] gk),l':=gV (.v (.obj 4)::w.lst σ co) (w.bi+1) (X 36),h':=sE 6 [] emR}
noncomputable def eL.nO(w:eL)(au:Bool)(f:Nat)(one b0 b1:Bool)(σ:Nat)(nz:Bool)(co:Option Nat):Bool:=n7 L1.prog (wF au co f nz one b0 b1 (w.tr σ nz f co).k (cond (w.tr σ nz f co).run [w.fst σ co (w.tr σ nz f co).gG] [])) 60 w.c w.b (w.aP σ (X 2) (X 3) .o) (sE 2 [] gk) (w.aP (w.tr σ nz f co).s (w.tr σ nz f co).kd.sv (X 4) (λi=>(w.tr σ nz f co).os.getD i .u)) (w.tr σ nz f co).heap
noncomputable def Pk.Qk:Pk→Bool
 |.emp=>true
 |_=>false
noncomputable def Pk.Ql:Pk→Bool
 |.ext=>true
 |_=>false
noncomputable def Cc.Xm:Cc→Bool
 |.keep=>true
 |_=>false
noncomputable def eL.fit(w:eL)(σ:Nat)(nz:Bool)(t:cI)(co:Option Nat):Bool:=
 Nat.ble (t.s+1) w.ns&&Nat.ble t.ps.length 4&&Nat.ble 1 t.k&&Nat.ble t.k 10&&imp t.run (w.gm σ)&&imp t.kd.Ql (t.col.Xm&& !t.run)&&(match co with
  |none=>true
  |some c=>imp (w.need t.s) (!t.kd.Qk)&&imp (w.gm t.s) (aW c&& !t.kd.Qk&&imp t.kd.Ql (w.gm σ|| !nz)))
def eL.good(w:eL)(σ:Nat)(nz:Bool)(f:Nat):Prop:=σ< w.ns∧(w.need σ=true→nz=true)∧(w.gm σ=true→aW f=true)
noncomputable def eL.G(w:eL)(σ:Nat)(r:List Nat)(ws ind:Bool):Nat→Bool→Bool→Prop:=λcol qt gY=>(w.Z σ r→col=0∧qt=true∧gY=true)∧(w.Y→qt=ws∧gY=ind)
structure gZ(w:eL)(au:Bool):Prop where
 nO:∀(f:Nat) (one b0 b1:Bool) (σ:Nat) (nz:Bool) (co:Option Nat),co∈w.cs→w.good σ nz f→(co=none→b1=false)→w.nO au f one b0 b1 σ nz co=true
 fit:∀(σ:Nat) (nz:Bool) (f:Nat) (co:Option Nat),co∈w.cs→w.good σ nz f→w.fit σ nz (w.tr σ nz f co) co=true
 Zc:∀(σ:Nat) (nz:Bool) (f c:Nat) (r:List Nat),w.good σ nz f→w.Z σ (c::r)→w.Z (w.tr σ nz f (some c)).s r
 Zn:∀(σ:Nat) (nz:Bool) (f:Nat),w.good σ nz f→w.Z σ []→(w.tr σ nz f none).Qj=true
 Yk:∀(σ:Nat) (nz:Bool) (f:Nat) (co:Option Nat),w.good σ nz f→w.Y→((w.tr σ nz f co).run||(w.tr σ nz f co).nl)=false
 LL:∀σ,w.gm σ=true→w.need σ=true
 aP:∀(ρ cZ:eN) (σ:Nat) (s e s' e':MV) (os Od:Nat→SL),ρ.v 0=cZ.v 0→ρ.v 35=cZ.v 35→s.I ρ=s'.I cZ→e.I ρ=e'.I cZ→(∀i,(os i).I ρ=(Od i).I cZ)→aG ρ (w.aP σ s e os)=aG cZ (w.aP σ s' e' Od)
 br:Ax (w.bi+1) w.n=true
 lst:∀σ co,(w.lst σ co).length=w.n
 ev:∀(f:Nat) (one b0 b1:Bool) (k:Nat) (co:Option Nat) (σ:Nat) (t:Bool),w.gm σ=true→co∈w.cs→gr L1.prog (wF au co f true one b0 b1 k []) 40 (.slice (.aP w.t) (some (.aP w.bs)) (some (.aP w.be))) (.v (.obj 4)::w.lst σ co) (cond t (sE 2 [.str [10]] Ht) (sE 2 [] gk)) (X 5) (cond t (sE 2 [.str [10]] Ht) (sE 2 [] gk))=true
 last:∀(σ:Nat),JZ L1.prog {cmp:=[(.LtE,X 3,X 1,false)],bi:=[(.len,X 0,X 1)]} 60 w.c (w.aP σ (X 2) (X 3) .o) (sE 2 [] gk) false (sE 2 [] gk)=true
 fin:∀(ρ:eN) (σ:Nat),∃a,aG ρ (w.aP σ (X 2) (X 3) .o)=fin a w.n
 rW:∀(M σ:Nat) (pend:List Nat) (c:Nat) (r:List Nat),w.good σ (!pend.isEmpty) (pend.headD 0)→some c∈w.cs→w.out M σ pend (c::r)=(w.tr σ (!pend.isEmpty) (pend.headD 0) (some c)).out M pend++w.out M (w.tr σ (!pend.isEmpty) (pend.headD 0) (some c)).s ((w.tr σ (!pend.isEmpty) (pend.headD 0) (some c)).kd.pend pend c) r
 rX:∀(M σ:Nat) (pend:List Nat),w.good σ (!pend.isEmpty) (pend.headD 0)→w.out M σ pend []=(w.tr σ (!pend.isEmpty) (pend.headD 0) none).out M pend
noncomputable def Xn:Option Nat→MV
 |none=>.none
 |some c=>bw c
noncomputable def RS(x:Cx)(k:Nat)(pre pend r:List Nat)(rows:List MV)(col line:Nat)(ws ind:Bool)(a:Nat→Option MV)(dQ last:Nat)(cA:List MV):eN:=wR ⟨x.v,pre,pend,r,col,x.M,line,k,dQ,last,x.split⟩ (x.em col line (.bool ws) (.bool ind)) x.w0 x.w1 rows x.states x.events x.aK cA a
theorem Oe{x:Cx}(hx:jA x){pre pend r:List Nat}{rows cA:List MV}{col line k dQ last:Nat}{ws ind:MV}(hs:x.v=pre++(pend++r))(hc:col+pend.length+k≤1000)(hk:1≤k)(hl:line≤100000000)(h1:rows.length≤100000)(h6:cA.length≤100000):
  wI ⟨x.v,pre,pend,r,col,x.M,line,k,dQ,last,x.split⟩ (x.em col line ws ind) x.au r.head? (pend.headD 0) (!pend.isEmpty) (decide (pend.length=1)) (decide (0< pre.length+pend.length)) (decide (pre.length+pend.length< x.v.length - 1)) rows cA where
 split:=hs
 hd:=rfl
 f:=λh=>by
  cases pend with
  |nil=>cases h
  |cons a b=>rfl
 nz:=rfl
 one:=rfl
 b0:=rfl
 b1:=rfl
 len:=⟨hx.len.1,ak hx.len.2 (by decide)⟩
 col:=hc
 k:=hk
 au:=hx.au
 M:=hx.M
 line:=hl
 room:=h1
 LK:=h6
noncomputable def RL(x:Cx)(S E:Nat)(a:Nat→Option MV):eN:=R [.str x.v,.none,.int (S:Nat),.int (E:Nat),.none,.none,.none,.none,.none,.none,.none,.none,.none,.none,.none,.none,.none,.none,.none,.none,.none,.none,.none,.none,.none,.none,.none,.none,.none,.none,.none,.none,.none,.none,.none,x.split] [] a
noncomputable def eL.L(w:eL)(x:Cx)(σ S E:Nat)(a:Nat→Option MV):Loc:=aG (RL x S E a) (w.aP σ (X 2) (X 3) .o)
noncomputable abbrev eL.W(w:eL)(k j:Nat)(l:Loc)(h:Hp):Option (Fl×Loc×Hp):=eU (E L1.prog k) w.c w.b j l h
noncomputable def gG(b:Bool)(rows:List MV):List MV:=cond b (rows++[.str [10]]) rows
noncomputable def AA(b:Bool)(line:Nat):Nat:=cond b (line+1) line
theorem Ke{b:Bool}{rows:List MV}:(gG b rows).length≤rows.length+1:=by cases b<;>simp [gG]
theorem Of{b:Bool}{line:Nat}:AA b line≤line+1:=by cases b<;>simp [AA]
theorem Kf{b:Bool}{rows m:List MV}:gG b rows++m=rows++(cond b [.str [10]] []++m):=by
 cases b with
 |true=>exact bJ ..
 |false=>rfl
theorem kg{c:Nat}(h:aW c=true):c∈brk:=by unfold aW at h;rw [Bool.or_eq_true,Bool.or_eq_true,Bool.or_eq_true] at h;rcases h with h|h|h|h<;>rw [cG h]<;>decide
theorem AB{x:Cx}(hx:jA x){pre pend r:List Nat}(hs:x.v=pre++(pend++r)):pend.length≤10:=by have h:=hx.len.2;rw [hs,aY,aY] at h;exact ak (bZ _ r.length) (ak (Nat.le_add_left _ pre.length) h)
theorem wJ{t:Bool}{rows:List MV}{pend:List Nat}(h1:rows.length≤90000)(hp:pend.length≤10):(gG t rows++pend.map bw).length≤100000:=by rw [aY,cu];exact ak (Nat.add_le_add (ak Ke (Nat.succ_le_succ h1)) hp) (by decide)
theorem eL.done{w:eL}{au:Bool}(W:gZ w au){x:Cx}{j σ S E:Nat}{a:Nat→Option MV}{rows:List MV}{col line:Nat}{ws ind:Bool}(h:E=x.v.length+1)(hc:col≤x.B)(hl:line≤x.B2)(hr:rows.length≤10 * x.B2+10){G:Nat→Bool→Bool→Prop}(hG:G col ws ind):Fin x w.n G (λk=>w.W k (j+1) (w.L x σ S E a) (hw x rows col line (.bool ws) (.bool ind))) rows []:=by
 let ρ:=R [.str x.v,.int (x.v.length:Nat),.int (S:Nat),.int (E:Nat),.none,.none,.none,.int (col:Nat),.none,.none,.int (x.M:Nat),.none,.int (line:Nat),.none,.none,.none,.none,.none,.none,.none,x.e.state,x.e.event,x.e.fy,x.e.root,x.e.seq,x.e.map,x.e.sk,x.e.oe,x.e.bi,x.e.tp,x.e.an,x.e.st,.none,.bool ws,.bool ind,x.split,.none,x.e.au] [x.w0,x.w1,rows,x.states,x.events,x.aK] a
 have K:Holds L1.prog ρ {cmp:=[(.LtE,X 3,X 1,false)],bi:=[(.len,X 0,X 1)]}:=⟨aa,af (S8 (decide_eq_false (by rw [h];exact Nat.not_succ_le_self _))) aa,aa,aa,aa,af (lM rfl) aa,aa,aa,aa,aa,aa,aa,aa⟩
 have e:=λk (hk:60≤k)=>rT K (b:=w.b) (W.last σ) hk j
 have el:aG ρ (w.aP σ (X 2) (X 3) .o)=w.L x σ S E a:=W.aP ρ (RL x S E a) σ _ _ _ _ _ _ rfl rfl rfl rfl λ_=>rfl
 rw [el] at e;obtain ⟨a',ha⟩:=W.fin (RL x S E a) σ;refine ⟨⟨[],col,line,ws,ind,a'⟩,?_,rfl,hc,hl,hr,hG⟩;show ∀k,_→_=some (Fl.next,fin a' w.n,hw x (rows++[]) col line (.bool ws) (.bool ind))
 rw [cH];rw [show w.L x σ S E a=fin a' w.n from ha] at e⊢
 exact e
theorem Og{ρ:eN}{n:Nat}{l:List SL}(h:l.length=n):aG ρ (.v (.obj 4)::l)=fin (λi=>((l.map (SL.I ρ))[i]?).getD none) n:=by
 show some (MV.obj 4)::l.map (SL.I ρ)=_
 refine congrArg (some (MV.obj 4)::·) (List.ext_getElem? λj=>?_)
 rw [List.getElem?_map,List.getElem?_map]
 by_cases q:j< n
 ·rw [List.getElem?_range q]
  show _=some (((l.map (SL.I ρ))[j]?).getD none)
  rw [List.getElem?_map];rw [List.getElem?_eq_getElem (h▸q)];rfl
 ·rw [List.getElem?_eq_none (h▸Nat.not_lt.mp q),List.getElem?_eq_none (by rw [List.length_range];exact Nat.not_lt.mp q)];rfl
theorem F6{i n t s e:Nat}(hc:Ax (i+1) n=true){x:Cx}(hx:jA x){k:Nat}(hk:40≤k){q:List Nat}{c:Nat}{a:Nat→Option MV}{rows:List MV}{col line:Nat}{ws ind:MV}(hd:∀d∈c::q,d∈brk)(hl:line+q.length≤10000000)(hr:rows.length+q.length≤100000)
  (WU:(E L1.prog k).ev (.slice (.aP t) (some (.aP s)) (some (.aP e))) (fin a n) (hw x rows col line ws ind)=some (.str (c::q),hw x rows col line ws ind)):
  gp L1.prog (E L1.prog k) (Xl t s e (i+1)) (fin a n) (hw x rows col line ws ind)=some (.next,fD (fin a n) (i+1) (bw ((c::q).getLast (List.cons_ne_nil _ _))),hw x (rows++(c::q).map bw) 0 (line+(q.length+1)) (.bool true) (.bool true)):=
 lP WU (Ay hc hx hk q c a rows col line ws ind hd hl hr)
def Te(ρ:eN)(st:List xh):Prop:=∀e'∈st,∀k,e'.n≤k→gp L1.prog (E L1.prog k) e'.s (aG ρ e'.l) (aV ρ e'.h)=some (.next,aG ρ e'.l',aV ρ e'.h')
set_option maxHeartbeats 2000000 in
theorem eL.Tf{w:eL}{x:Cx}(W:gZ w x.au)(hx:jA x){kk:Nat}{pre pend r:List Nat}{rows:List MV}{col line:Nat}{ws ind:Bool}{a:Nat→Option MV}{σ:Nat}(Kg:w.gm σ=true)(Qm:r.head? ∈w.cs)(t:Bool)(hs:x.v=pre++(pend++r))(hz:(!pend.isEmpty)=true)(hd:∀d∈pend,d∈brk)(hc:col+pend.length+kk≤1000)(P6:1≤kk)(hl:line≤1000000)(h1:rows.length≤90000):
  Te (RS x kk pre pend r rows col line ws ind a (AA t line+pend.length) (pend.getLastD 0) (gG t rows++pend.map bw)) [w.fst σ r.head? t]:=by
 obtain ⟨c,q,rfl⟩:∃c q,pend=c::q:=by
  cases pend with
  |nil=>cases hz
  |cons c q=>exact ⟨c,q,rfl⟩
 refine af (λk hk=>?_) aa
 have hk:40≤k:=hk;have hp:=AB hx hs;have hq:q.length≤10:=Nat.le_of_succ_le hp;have h6:(gG t rows++(c::q).map bw).length≤100000:=wJ h1 hp;have K0:Holds L1.prog (RS x kk pre (c::q) r rows col line ws ind a (AA t line+(c::q).length) ((c::q).getLastD 0) (gG t rows++(c::q).map bw)) _:=qq (st:=[]) (Oe hx hs hc P6 (ak hl (by decide)) (ak h1 (by decide)) h6) aa
 have hz':(!(c::q).isEmpty)=true:=hz;have e1:=qj K0 (W.ev _ _ _ _ _ _ σ t Kg Qm) hk;have e3:∀ρ:eN,aG ρ (gV (.v (.obj 4)::w.lst σ r.head?) (w.bi+1) (X 36))=fD (aG ρ (.v (.obj 4)::w.lst σ r.head?)) (w.bi+1) ((X 36).I ρ):=λρ=>iF _ _ _
 show gp L1.prog (E L1.prog k) (Xl w.t w.bs w.be (w.bi+1)) (aG _ (.v (.obj 4)::w.lst σ r.head?)) _=some (.next,aG _ (gV (.v (.obj 4)::w.lst σ r.head?) (w.bi+1) (X 36)),_)
 rw [e3];rw [Og (W.lst σ r.head?)] at e1⊢
 cases t with
 |true=>exact F6 (rows:=rows++[MV.str [10]]) (col:=0) (line:=line+1) (ws:=.bool true) (ind:=.bool true) W.br hx hk hd (ak (Nat.add_le_add (Nat.succ_le_succ hl) hq) (by decide)) (ak (Nat.add_le_add (ak (Nat.le_of_eq aY) (Nat.succ_le_succ h1)) hq) (by decide)) e1
 |false=>exact F6 (rows:=rows) (col:=col) (line:=line) (ws:=.bool ws) (ind:=.bool ind) W.br hx hk hd (ak (Nat.add_le_add hl hq) (by decide)) (ak (Nat.add_le_add h1 hq) (by decide)) e1
noncomputable def LM(M:Nat)(pend:List Nat)(l:List Pc):List MV:=l.map λp=>.str (p.s M pend)
theorem AD{M:Nat}{pend:List Nat}:∀l:List Pc,aC (LM M pend l)=some (psS M pend l)
 |[]=>rfl
 |p::l=>by
  show (aC (LM M pend l)).map _=_
  rw [AD l];rfl
noncomputable def cI.rows(t:cI)(M:Nat)(pend:List Nat):List MV:=cond t.run (cond t.gG [.str [10]] []++pend.map bw) []++LM M pend t.ps
theorem cI.join(t:cI)(M:Nat)(pend:List Nat):aC (t.rows M pend)=some (t.out M pend):=by
 refine dG ?_ (AD _)
 cases t.run with
 |false=>rfl
 |true=>refine dG ?_ (qo pend);cases t.gG<;>rfl
noncomputable def cI.line(t:cI)(line dQ:Nat):Nat:=cond t.run dQ (cond t.nl (line+1) line)
noncomputable def cI.ws(t:cI)(b:Bool):Bool:=cond (t.run||t.nl) true b
section
variable {x:Cx}{k:Nat}{pre pend r:List Nat}{rows:List MV}{col line:Nat}{ws ind:Bool}{a:Nat→Option MV}{dQ last:Nat}{cA:List MV}
theorem Tg:∀l:List Pc,MV.Is (RS x k pre pend r rows col line ws ind a dQ last cA) (l.map Pc.v)=LM x.M pend l
 |[]=>rfl
 |p::l=>by
  show _::MV.Is _ (l.map Pc.v)=_::LM x.M pend l
  rw [Tg l];cases p<;>rfl
theorem Xo(c:Cc):c.v.I (RS x k pre pend r rows col line ws ind a dQ last cA)=.int (c.n col pend.length x.M k:Nat):=by cases c<;>rfl
theorem Oh(t:cI):aV (RS x k pre pend r rows col line ws ind a dQ last cA) t.heap=hw x (cond t.run cA rows++LM x.M pend t.ps) (t.col.n col pend.length x.M k) (t.line line dQ) (.bool (t.ws ws)) (.bool (t.ws ind)):=by
 obtain ⟨s,kd,run,gG,ps,cc,kk,nl,os⟩:=t;show hE x.w0 x.w1 (cat _ (some (cond run 6 2)) (MV.Is _ (ps.map Pc.v))) x.states x.events x.aK {x.e with indent:=.int x.M,line:=MV.I _ (cond run (X 19) (cond nl (X 13) (X 12))),col:=cc.v.I _,ws:=MV.I _ (cond (run||nl) (.bool true) (X 33)),ind:=MV.I _ (cond (run||nl) (.bool true) (X 34))}=_
 rw [qd,Tg,Xo]
 cases run<;>cases nl<;>rfl
end
noncomputable def Pk.S(a b:Nat):Pk→Nat
 |.ext=>a
 |.new=>a+b
 |.emp=>a+b+1
theorem eL.step{w:eL}{x:Cx}(W:gZ w x.au)(hx:jA x){j:Nat}{pre pend r:List Nat}{rows:List MV}{col line:Nat}{ws ind:Bool}{a:Nat→Option MV}{σ:Nat}{t:cI}(ht:w.tr σ (!pend.isEmpty) (pend.headD 0) r.head? =t)(Qm:r.head? ∈w.cs)(hs:x.v=pre++(pend++r))(hg:w.good σ (!pend.isEmpty) (pend.headD 0))(hb:w.gm σ=true→∀d∈pend,d∈brk)(vm:1≤t.k)(hc:col+pend.length+t.k≤1000)(hl:line≤1000000)(h1:rows.length+pend.length≤90000)(Oi:t.run=true→w.gm σ=true):
  ∃a',∀k,60≤k→w.W k (j+1) (w.L x σ pre.length (pre.length+pend.length) a) (hw x rows col line (.bool ws) (.bool ind))=w.W k j (w.L x t.s (t.kd.S pre.length pend.length) (pre.length+pend.length+1) a') (hw x (rows++t.rows x.M pend) (t.col.n col pend.length x.M t.k) (t.line line (AA t.gG line+pend.length)) (.bool (t.ws ws)) (.bool (t.ws ind))):=by
 have Xp:rows.length≤90000:=ak (bZ _ _) h1;have h6:(gG t.gG rows++pend.map bw).length≤100000:=wJ Xp (AB hx hs);have D8:Te (RS x t.k pre pend r rows col line ws ind a (AA t.gG line+pend.length) (pend.getLastD 0) (gG t.gG rows++pend.map bw)) (cond t.run [w.fst σ r.head? t.gG] []):=by
  cases q:t.run with
  |false=>exact aa
  |true=>exact eL.Tf W hx (Oi q) Qm t.gG hs (hg.2.1 (W.LL σ (Oi q))) (hb (Oi q)) hc vm hl Xp
 have hb1:r.head? =none→decide (pre.length+pend.length< x.v.length - 1)=false:=λq=>by have zm:=congrArg List.length hs;rw [aY,aY,List.head?_eq_none_iff.mp q] at zm;exact Oc (ak (Nat.sub_le _ 1) (Nat.le_of_eq zm))
 have Xq:=W.nO (pend.headD 0) (decide (pend.length=1)) (decide (0< pre.length+pend.length)) (decide (pre.length+pend.length< x.v.length - 1)) σ (!pend.isEmpty) r.head? Qm hg hb1;unfold eL.nO at Xq;rw [ht] at Xq;have K:Holds L1.prog (RS x t.k pre pend r rows col line ws ind a (AA t.gG line+pend.length) (pend.getLastD 0) (gG t.gG rows++pend.map bw)) _:=qq (Oe hx hs hc vm (ak hl (by decide)) (ak Xp (by decide)) h6) D8
 have e:=λk (hk:60≤k)=>kR K Xq hk j
 refine ⟨λi=>(t.os.getD i .u).I (RS x t.k pre pend r rows col line ws ind a (AA t.gG line+pend.length) (pend.getLastD 0) (gG t.gG rows++pend.map bw)),?_⟩
 have e1:aG (RS x t.k pre pend r rows col line ws ind a (AA t.gG line+pend.length) (pend.getLastD 0) (gG t.gG rows++pend.map bw)) (w.aP σ (X 2) (X 3) .o)=w.L x σ pre.length (pre.length+pend.length) a:=W.aP _ _ σ _ _ _ _ _ _ rfl rfl rfl rfl λ_=>rfl
 have e2:aG (RS x t.k pre pend r rows col line ws ind a (AA t.gG line+pend.length) (pend.getLastD 0) (gG t.gG rows++pend.map bw)) (w.aP t.s t.kd.sv (X 4) (λi=>t.os.getD i .u))=w.L x t.s (t.kd.S pre.length pend.length) (pre.length+pend.length+1) (λi=>(t.os.getD i .u).I (RS x t.k pre pend r rows col line ws ind a (AA t.gG line+pend.length) (pend.getLastD 0) (gG t.gG rows++pend.map bw))):=W.aP _ _ _ _ _ _ _ _ _ rfl rfl (by cases t.kd<;>rfl) rfl λ_=>rfl
 rw [e1,e2,Oh] at e;refine λk hk=>(e k hk).trans (congrArg (λz=>w.W k j _ (hw x z _ _ _ _)) ?_)
 unfold cI.rows
 cases t.run with
 |false=>rfl
 |true=>
  show (gG t.gG rows++pend.map bw)++_=rows++(_++_)
  rw [Kf,bJ];rfl
structure eL.At(w:eL)(x:Cx)(r pre pend:List Nat)(σ:Nat)(rows:List MV)(col line:Nat):Prop where
 hs:x.v=pre++(pend++r)
 hg:w.good σ (!pend.isEmpty) (pend.headD 0)
 hb:w.gm σ=true→∀d∈pend,d∈brk
 hc:col+pend.length+12 * r.length+12≤x.B
 hl:line+2 * pend.length+4 * r.length+4≤x.B2
 hr:rows.length+2 * pend.length+10 * r.length+8≤10 * x.B2
theorem nP{a b:Bool}(h:(a&&b)=true):a=true∧b=true:=bl.mp h
theorem cI.AE(t:cI){l p:Nat}:t.line l (AA t.gG l+p)≤l+1+p:=by
 unfold cI.line;cases t.run
 ·cases t.nl
  ·exact ak (Nat.le_succ l) (bZ _ _)
  ·exact bZ _ _
 ·exact cO Of _
theorem cI.Oj{t:cI}(h:t.run=false){l l2:Nat}:t.line l l2≤l+1:=by unfold cI.line;rw [h];cases t.nl<;>simp
theorem cI.AG(t:cI)(h:t.ps.length≤4)(M:Nat)(pend:List Nat):(t.rows M pend).length≤pend.length+5:=by
 unfold cI.rows LM;rw [aY,cu];cases t.run
 ·exact ak (Nat.le_of_eq (Nat.zero_add _)) (ak h (ak (by decide:4≤5) (Nat.le_add_left _ _)))
 ·show (cond t.gG [MV.str [10]] []++pend.map bw).length+_≤_
  rw [aY,cu,Nat.add_comm _ pend.length,Nat.add_assoc];refine dD (Nat.add_le_add (b:=1) ?_ h) _;cases t.gG
  ·exact Nat.zero_le _
  ·exact bf _
theorem cI.Ol{t:cI}(q:t.run=false)(h:t.ps.length≤4)(M:Nat)(pend:List Nat):(t.rows M pend).length≤4:=by unfold cI.rows LM;rw [q,aY,cu];exact (Nat.zero_add _).symm▸h
theorem Cc.Th(c:Cc){col p M k:Nat}:c.n col p M k≤col+p+k∨c.n col p M k≤M+k:=by
 cases c with
 |keep=>exact .inl (ak (bZ _ _) (bZ _ _))
 |flush=>exact .inl (bZ _ _)
 |qs=>exact .inl (bf _)
 |k=>exact .inl (cO (bZ _ _) _)
 |yM=>exact .inr (bZ _ _)
 |mark=>exact .inr (bf _)
 |zero=>exact .inl (Nat.zero_le _)
theorem Cc.Om{c:Cc}(h:c.Xm=true){col p M k:Nat}:c.n col p M k=col:=by cases c<;>first|rfl|cases h
theorem Cc.Oo{c:Cc}(h:c.Qj=true){col p M k:Nat}:c.n col p M k=0:=by cases c<;>first|rfl|cases h
theorem Pk.parts(kd:Pk){pre pend r:List Nat}{c:Nat}:pre++(pend++c::r)=kd.pre pre pend c++(kd.pend pend c++r):=by
 cases kd with
 |ext=>exact congrArg (pre++·) (bJ pend [c] r).symm
 |new=>exact (bJ ..).symm
 |emp=>exact (congrArg (pre++·) (bJ pend [c] r).symm).trans (bJ ..).symm
theorem Pk.Xr(kd:Pk){pre pend:List Nat}{c:Nat}:kd.S pre.length pend.length=(kd.pre pre pend c).length:=by
 cases kd with
 |ext=>rfl
 |new=>exact aY.symm
 |emp=>exact (show (pre++(pend++[c])).length=pre.length+pend.length+1 by rw [aY,aY];rfl).symm
theorem Pk.Xs(kd:Pk){pre pend:List Nat}{c:Nat}:pre.length+pend.length+1=(kd.pre pre pend c).length+(kd.pend pend c).length:=by
 cases kd with
 |ext=>exact (show pre.length+(pend++[c]).length=_ by rw [aY];rfl).symm
 |new=>exact congrArg (·+1) aY.symm
 |emp=>exact (show (pre++(pend++[c])).length=pre.length+pend.length+1 by rw [aY,aY];rfl).symm
theorem Pk.len(kd:Pk){pend:List Nat}{c:Nat}:(kd.Ql=true∧(kd.pend pend c).length=pend.length+1)∨(kd.pend pend c).length≤1:=by
 cases kd with
 |ext=>exact .inl ⟨rfl,aY⟩
 |new=>exact .inr (bf _)
 |emp=>exact .inr (Nat.zero_le _)
theorem Pk.ne(kd:Pk)(h:(!kd.Qk)=true){pend:List Nat}{c:Nat}:(!(kd.pend pend c).isEmpty)=true:=by
 cases kd with
 |ext=>cases pend<;>rfl
 |new=>rfl
 |emp=>cases h
theorem Pk.brs{kd:Pk}{c:Nat}{b:Bool}{pend:List Nat}(h:(aW c&& !kd.Qk&&imp kd.Ql (b|| !(!pend.isEmpty)))=true)(hb:b=true→aW (pend.headD 0)=true∧∀d∈pend,d∈brk):aW ((kd.pend pend c).headD 0)=true∧∀d∈kd.pend pend c,d∈brk:=by
 obtain ⟨h1,h2⟩:=nP h;obtain ⟨h3,h4⟩:=nP h1;have one:∀d∈[c],d∈brk:=λd hd=>dN.mp hd▸kg h3
 cases kd with
 |ext=>
  cases pend with
  |nil=>exact ⟨h3,one⟩
  |cons f q=>
   have Kg:b=true:=(Bool.or_eq_true_iff.mp h2).elim id λh=>nomatch h
   exact ⟨(hb Kg).1,λd hd=>(List.mem_append.mp hd).elim ((hb Kg).2 d) (one d)⟩
 |new=>exact ⟨h3,one⟩
 |emp=>cases h4
structure eL.Fit(w:eL)(σ:Nat)(pend:List Nat)(t:cI):Prop where
 s:t.s< w.ns
 ps:t.ps.length≤4
 k1:1≤t.k
 k2:t.k≤10
 run:t.run=true→w.gm σ=true
 x:t.kd.Ql=true→t.col.Xm=true∧t.run=false
theorem eL.t8{w:eL}{σ:Nat}{nz:Bool}{pend:List Nat}{t:cI}{co:Option Nat}(h:w.fit σ nz t co=true):w.Fit σ pend t∧∀c,co=some c→(imp (w.need t.s) (!t.kd.Qk)&&imp (w.gm t.s) (aW c&& !t.kd.Qk&&imp t.kd.Ql (w.gm σ|| !nz)))=true:=by have a6:=nP h;have a5:=nP a6.1;have a4:=nP a5.1;have a3:=nP a4.1;have a2:=nP a3.1;have a1:=nP a2.1;exact ⟨⟨cM a1.1,cM a1.2,cM a2.2,cM a3.2,ez a4.2,λq=>⟨(nP (ez a5.2 q)).1,(Bool.not_eq_true' _).mp (nP (ez a5.2 q)).2⟩⟩,λc q=>by subst q;exact a6.2⟩
section
variable {w:eL}{x:Cx}{pre pend r:List Nat}{σ c:Nat}{rows:List MV}{col line:Nat}{t:cI}
theorem eL.At.len(A:w.At x r pre pend σ rows col line):x.v.length=pre.length+(pend.length+r.length):=by rw [A.hs,aY,aY]
theorem Ti{n c k p q r M B:Nat}{X:Prop}(h:c+p+12 * (r+1)+12≤B)(hn:n≤c+p+k∨n≤M+k)(hk:k≤10)(hq:X∧q=p+1∨q≤1)(hX:X→n=c)(hM:M+12 * (r+1)+30≤B):n+q+12 * r+12≤B:=by
 rcases hq with ⟨a,b⟩|b
 ·rw [hX a];lia
 ·lia
theorem Tj{n l p q r B:Nat}{X:Prop}(h:l+2 * p+4 * (r+1)+4≤B)(hn:n≤l+1+p)(hq:X∧q=p+1∨q≤1)(hX:X→n≤l+1):n+2 * q+4 * r+4≤B:=by
 rcases hq with ⟨a,b⟩|b
 ·have:=hX a;lia
 ·lia
theorem Tn{n l p q r B:Nat}{X:Prop}(h:l+2 * p+10 * (r+1)+8≤B)(hn:n≤p+5)(hq:X∧q=p+1∨q≤1)(hX:X→n≤4):l+n+2 * q+10 * r+8≤B:=by
 rcases hq with ⟨a,b⟩|b
 ·have:=hX a;lia
 ·lia
theorem eL.At.next(hx:jA x)(A:w.At x (c::r) pre pend σ rows col line)(LL:∀σ,w.gm σ=true→w.need σ=true)(h:w.fit σ (!pend.isEmpty) t (some c)=true):w.At x r (t.kd.pre pre pend c) (t.kd.pend pend c) t.s (rows++t.rows x.M pend) (t.col.n col pend.length x.M t.k) (t.line line (AA t.gG line+pend.length)):=by
 obtain ⟨f,g⟩:=eL.t8 (pend:=pend) h;have g:=nP (g c rfl);have br:=λq=>Pk.brs (ez g.2 q) λz=>⟨A.hg.2.2 z,A.hb z⟩
 have hl:=A.len;have hB:=hx.B.2;exact ⟨A.hs.trans t.kd.parts,⟨f.s,λq=>t.kd.ne (ez g.1 q),λq=>(br q).1⟩,λq=>(br q).2,Ti A.hc t.col.Th f.k2 t.kd.len (λq=>Cc.Om (f.x q).1) (by rw [hl,List.length_cons,Nat.mul_add,Nat.mul_add] at hB;exact ak (cO (dD (ak (Nat.le_add_left _ _) (Nat.le_add_left _ _)) _) _) hB),Tj A.hl t.AE t.kd.len λq=>cI.Oj (f.x q).2,by rw [aY];exact Tn A.hr (t.AG f.ps _ _) t.kd.len λq=>cI.Ol (f.x q).2 f.ps _ _⟩
theorem Xu{a r B k:Nat}(h:a+12 * r+12≤B)(hB:B≤900)(hk:k≤10):a+k≤1000:=ak (Nat.add_le_add (bZ a (12 * r)) (ak hk (by decide:10≤12))) (ak h (ak hB (by decide)))
theorem le4{a b c d B:Nat}(h:a+b+c+d≤B):a+b≤B:=ak (ak (bZ _ c) (bZ _ d)) h
theorem F7{a p B:Nat}(h:a+2 * p≤B):a+p≤B:=ak (dD (Nat.le_mul_of_pos_left p (by decide)) a) h
theorem To{n c k p M m B:Nat}(h:c+p+12 * 0+12≤B)(hn:n≤c+p+k∨n≤M+k)(hk:k≤10)(hM:M+m+30≤B):n≤B:=hn.elim (λq=>ak q (ak (dD (ak hk (by decide:10≤12)) _) h)) λq=>ak q (ak (Nat.add_le_add (bZ M m) (ak hk (by decide:10≤30))) hM)
theorem Tp{n l p B:Nat}(h:l+2 * p+4 * 0+4≤B)(hn:n≤l+1+p):n≤B:=ak hn (ak (Nat.le_of_eq (Nat.add_right_comm l 1 p)) (ak (Nat.add_le_add (F7 (bf _)) (by decide:1≤4)) h))
theorem Tq{n l p B:Nat}(h:l+2 * p+10 * 0+8≤B)(hn:n≤p+5):l+n≤B+10:=ak (dD hn l) (ak (Nat.le_of_eq (Nat.add_assoc l p 5).symm) (ak (Nat.add_le_add (F7 (bf _)) (by decide:5≤8)) (ak h (bZ _ _))))
theorem eL.round(W:gZ w x.au)(hx:jA x)(Qm:r.head? ∈w.cs)(A:w.At x r pre pend σ rows col line)(f:w.Fit σ pend t)(ht:w.tr σ (!pend.isEmpty) (pend.headD 0) r.head? =t)(j:Nat)(ws ind:Bool)(a:Nat→Option MV):
  ∃a',∀k,60≤k→w.W k (j+1) (w.L x σ pre.length (pre.length+pend.length) a) (hw x rows col line (.bool ws) (.bool ind))=w.W k j (w.L x t.s (t.kd.S pre.length pend.length) (pre.length+pend.length+1) a') (hw x (rows++t.rows x.M pend) (t.col.n col pend.length x.M t.k) (t.line line (AA t.gG line+pend.length)) (.bool (t.ws ws)) (.bool (t.ws ind))):=
 eL.step W hx ht Qm A.hs A.hg A.hb f.k1 (Xu A.hc hx.B.1 f.k2) (ak (ak (bZ _ _) (le4 A.hl)) (ak hx.B2 (by decide))) (ak (F7 (le4 A.hr)) (ak (Nat.mul_le_mul_left 10 hx.B2) (by decide))) f.run
theorem eL.n8(W:gZ w x.au)(A:w.At x r pre pend σ rows col line)(ht:w.tr σ (!pend.isEmpty) (pend.headD 0) r.head? =t)(b:Bool)(y:w.Y):t.ws b=b:=by have:=W.Yk σ (!pend.isEmpty) (pend.headD 0) r.head? A.hg y;rw [ht] at this;unfold cI.ws;rw [this];rfl
theorem eL.Tr(W:gZ w x.au)(hx:jA x)(F8:∀c∈x.v,some c∈w.cs)(Kh:none∈w.cs)(r:List Nat):∀(pre pend:List Nat) (σ:Nat) (rows:List MV) (col line:Nat) (ws ind:Bool) (a:Nat→Option MV) (j:Nat),w.At x r pre pend σ rows col line→
  Fin x w.n (w.G σ r ws ind) (λk=>w.W k (j+2+r.length) (w.L x σ pre.length (pre.length+pend.length) a) (hw x rows col line (.bool ws) (.bool ind))) rows (w.out x.M σ pend r):=by
 induction r with
 |nil=>
  intro pre pend σ rows col line ws ind a j A;obtain ⟨t,ht⟩:∃t,w.tr σ (!pend.isEmpty) (pend.headD 0) none=t:=⟨_,rfl⟩;have f:=(eL.t8 (pend:=pend) (ht▸W.fit σ (!pend.isEmpty) (pend.headD 0) none Kh A.hg)).1;obtain ⟨a',e⟩:=eL.round (r:=[]) W hx Kh A f ht (j+1) ws ind a;rw [W.rX x.M σ pend A.hg,ht, ← cH (t.out x.M pend)];have hz:=λh=>nP (ht▸W.Zn σ _ _ A.hg h:t.Qj=true)
  exact (Fin.step e (eL.done (G:=w.G σ [] ws ind) W (by rw [A.len];rfl) (To (c:=col) (p:=pend.length) A.hc t.col.Th f.k2 hx.B.2) (Tp (l:=line) (p:=pend.length) A.hl t.AE) (ak (Nat.le_of_eq aY) (Tq (l:=rows.length) (p:=pend.length) A.hr (t.AG f.ps x.M pend))) ⟨λh=>⟨Cc.Oo (hz h).1,by unfold cI.ws;rw [(hz h).2];rfl,by unfold cI.ws;rw [(hz h).2];rfl⟩,λy=>⟨eL.n8 (r:=[]) W A ht ws y,eL.n8 (r:=[]) W A ht ind y⟩⟩)).cons (t.join x.M pend)
 |cons c r ih=>
  intro pre pend σ rows col line ws ind a j A;have xm:=F8 c (by rw [A.hs];simp)
  obtain ⟨t,ht⟩:∃t,w.tr σ (!pend.isEmpty) (pend.headD 0) (some c)=t:=⟨_,rfl⟩;have hf:=ht▸W.fit σ (!pend.isEmpty) (pend.headD 0) (some c) xm A.hg;obtain ⟨a',e⟩:=eL.round (r:=c::r) W hx xm A (eL.t8 hf).1 ht (j+2+r.length) ws ind a;have hZ:=λh=>(ht▸W.Zc σ _ _ c r A.hg h:w.Z t.s r)
  rw [W.rW x.M σ pend c r A.hg xm,ht];rw [t.kd.Xr (c:=c),t.kd.Xs (c:=c)] at e;exact (Fin.step e (Fin.weak (λ_ _ _ g=>⟨λz=>g.1 (hZ z),λy=>⟨(g.2 y).1.trans (eL.n8 W A ht ws y),(g.2 y).2.trans (eL.n8 W A ht ind y)⟩⟩) (ih _ _ _ _ _ _ (t.ws ws) (t.ws ind) a' j (A.next hx W.LL hf)))).cons (t.join x.M pend)
theorem eL.loop(W:gZ w x.au)(hx:jA x)(F8:∀c∈x.v,some c∈w.cs)(Kh:none∈w.cs){f:Nat}(hf:2+r.length≤f)(A:w.At x r pre pend σ rows col line)(ws ind:Bool)(a:Nat→Option MV):
  Fin x w.n (w.G σ r ws ind) (λk=>w.W k f (w.L x σ pre.length (pre.length+pend.length) a) (hw x rows col line (.bool ws) (.bool ind))) rows (w.out x.M σ pend r):=by
 have h:=eL.Tr W hx F8 Kh r pre pend σ rows col line ws ind a (f - (2+r.length)) A;rw [Nat.add_assoc,Nat.sub_add_cancel hf] at h;exact h
theorem Kl{n:Nat}(h:n≤10):2+n≤dF:=ak (dD h 2) (by decide)
theorem eL.LN(W:gZ w x.au)(hx:jA x)(F8:∀c∈x.v,some c∈w.cs)(Kh:none∈w.cs)(hg:w.good 0 false 0)(hb:w.gm 0=false)(hc:col+12 * x.v.length+12≤x.B)(hl:line+4 * x.v.length+4≤x.B2)(hr:rows.length+10 * x.v.length+8≤10 * x.B2)(ws ind:Bool)(a:Nat→Option MV):
  Fin x w.n (w.G 0 x.v ws ind) (λk=>w.W k dF (w.L x 0 0 0 a) (hw x rows col line (.bool ws) (.bool ind))) rows (w.out x.M 0 [] x.v):=
 eL.loop (pre:=[]) (pend:=[]) W hx F8 Kh (Kl hx.len.2) ⟨rfl,hg,λh=>absurd (hb.symm.trans h) bU,hc,hl,hr⟩ ws ind a
end
noncomputable def Km:aB:=L1.f55.body.getD 4 .pass
noncomputable def CD(c:Nat):Nat:=cond (Nat.beq c 32) 1 (cond (aW c) 2 0)
noncomputable def Oq(σ:Nat)(nz:Bool)(f:Nat):cI:=match σ with
  |0=>cond nz {s:=0,kd:=.new,ps:=[.pend],col:=.flush,os:=[.v .none,.v (X 5),.o 2]} {s:=0,kd:=.ext,os:=[.v .none,.o 1,.o 2]}
  |1=>{s:=1,kd:=.new,ps:=[.pend],col:=.flush,os:=[.v .none,.v (X 5),.o 2]}
  |_=>{s:=2,kd:=.new,run:=true,gG:=Nat.beq f 10,ps:=[.yM],col:=.yM,os:=[.v .none,.o 1,.v (X 36)]}
noncomputable def F9(σ:Nat)(nz:Bool)(f c:Nat):cI:=cond (Nat.beq c 39)
   (match σ with
   |2=>{s:=0,kd:=.emp,run:=true,gG:=Nat.beq f 10,ps:=[.yM,.lit [39,39]],col:=.mark,os:=[.v (bw c),.v (.str [39,39]),.v (X 36)]}
   |_=>cond nz {s:=0,kd:=.emp,ps:=[.pend,.lit [39,39]],col:=.qs,os:=[.v (bw c),.v (.str [39,39]),.o 2]} {s:=0,kd:=.emp,ps:=[.lit [39,39]],col:=.k,os:=[.v (bw c),.v (.str [39,39]),.o 2]})
   (match σ with
   |0=>cond (aW c||Nat.beq c 32) (cond nz {s:=CD c,kd:=.new,ps:=[.pend],col:=.flush,os:=[.v (bw c),.v (X 5),.o 2]} {s:=CD c,kd:=.ext,os:=[.v (bw c),.o 1,.o 2]}) {s:=0,kd:=.ext,os:=[.v (bw c),.o 1,.o 2]}
   |1=>cond (Nat.beq c 32) {s:=1,kd:=.ext,os:=[.v (bw c),.o 1,.o 2]} {s:=cond (aW c) 2 0,kd:=.new,ps:=[.pend],col:=.flush,os:=[.v (bw c),.v (X 5),.o 2]}
   |_=>cond (aW c) {s:=2,kd:=.ext,os:=[.v (bw c),.o 1,.o 2]} {s:=cond (Nat.beq c 32) 1 0,kd:=.new,run:=true,gG:=Nat.beq f 10,ps:=[.yM],col:=.yM,os:=[.v (bw c),.o 1,.v (X 36)]})
noncomputable def Ga(σ:Nat)(nz:Bool)(f:Nat):Option Nat→cI
 |none=>Oq σ nz f
 |some c=>F9 σ nz f c
noncomputable def sq(M:Nat):Bool→List Nat→List Nat
 |w,[]=>cond w (eT M) []
 |w,c::r=>cond (aW c) (cond (!w&&Nat.beq c 10) [10] []++c::sq M true r) (cond w (eT M) []++(cond (Nat.beq c 39) [39,39] [c]++sq M false r))
noncomputable def Qn(M σ:Nat)(pend r:List Nat):List Nat:=match σ with
 |2=>cond (Nat.beq (pend.headD 0) 10) [10] []++(pend++sq M true r)
 |_=>pend++sq M false r
noncomputable def t9:eL where
 n:=9
 t:=1
 bs:=5
 be:=6
 bi:=8
 c:=C1 Km
 b:=F1 Km
 aP:=λσ s e os=>[.v (.obj 4),.v (X 0),.v (X 35),.v (.bool (Nat.beq σ 1)),.v (.bool (Nat.beq σ 2)),.v s,.v e,os 0,os 1,os 2]
 lst:=λσ co=>[.v (X 0),.v (X 35),.v (.bool false),.v (.bool true),.v (X 2),.v (X 3),.v (Xn co),.o 1,.o 2]
 tr:=Ga
 gm:=λσ=>Nat.beq σ 2
 need:=λσ=> !Nat.beq σ 0
 ns:=3
 cs:=cos
 Z:=λ_ _=>False
 Y:=False
 out:=Qn
theorem Tt(au:Bool)(f:Nat)(one b0 b1:Bool):(bools.all λnz=>cos.all λco=>t9.nO au f one b0 b1 0 nz co&&t9.fit 0 nz (Ga 0 nz f co) co)=true:=by kernel_rfl
theorem Tu(au:Bool)(f:Nat)(b0 b1:Bool):(bools.all λone=>cos.all λco=>t9.nO au f one b0 b1 1 true co&&t9.fit 1 true (Ga 1 true f co) co)=true:=by kernel_rfl
theorem Tv(au:Bool)(one b0 b1:Bool):(brk.all λf=>cos.all λco=>t9.nO au f one b0 b1 2 true co&&t9.fit 2 true (Ga 2 true f co) co)=true:=by kernel_rfl
theorem k55(au:Bool)(f:Nat)(one b0 b1:Bool)(σ:Nat)(nz:Bool)(co:Option Nat)(hc:co∈cos)(hg:t9.good σ nz f):(t9.nO au f one b0 b1 σ nz co&&t9.fit σ nz (Ga σ nz f co) co)=true:=by
 obtain ⟨h1,h2,h3⟩:=hg
 match σ,h1,h2,h3 with
 |0,_,_,_=>exact ao (ao (Tt au f one b0 b1) (ay nz)) hc
 |1,_,h2,_=>rw [h2 rfl];exact ao (ao (Tu au f b0 b1) (ay one)) hc
 |2,_,h2,h3=>rw [h2 rfl];exact ao (ao (Tv au one b0 b1) (kg (h3 rfl))) hc
 |n+3,h1,_,_=>exact absurd h1 (by show ¬ n+3< 3;lia)
theorem e55(au:Bool)(f:Nat)(one b0 b1:Bool)(k:Nat):(bools.all λt=>cos.all λco=>gr L1.prog (wF au co f true one b0 b1 k []) 40 (.slice (.aP t9.t) (some (.aP t9.bs)) (some (.aP t9.be))) (.v (.obj 4)::t9.lst 0 co) (cond t (sE 2 [.str [10]] Ht) (sE 2 [] gk)) (X 5) (cond t (sE 2 [.str [10]] Ht) (sE 2 [] gk)))=true:=by kernel_rfl
theorem nil_of{l:List Nat}(h:(!l.isEmpty)=false):l=[]:=by cases l;rfl;cases h
theorem Gb{M:Nat}{w:Bool}{c:Nat}{r:List Nat}(h:aW c=true):sq M w (c::r)=cond (!w&&Nat.beq c 10) [10] []++c::sq M true r:=by
 show cond (aW c) _ _=_
 rw [h];rfl
theorem Gd{M:Nat}{w:Bool}{c:Nat}{r:List Nat}(h:aW c=false):sq M w (c::r)=cond w (eT M) []++(cond (Nat.beq c 39) [39,39] [c]++sq M false r):=by
 show cond (aW c) _ _=_
 rw [h];rfl
theorem CF{l:List Nat}(h:(!l.isEmpty)=true){m:List Nat}:(l++m).headD 0=l.headD 0:=by cases l;cases h;rfl
theorem Tw(M σ:Nat)(pend:List Nat)(c:Nat)(r:List Nat)(hg:t9.good σ (!pend.isEmpty) (pend.headD 0)):Qn M σ pend (c::r)=(F9 σ (!pend.isEmpty) (pend.headD 0) c).out M pend++Qn M (F9 σ (!pend.isEmpty) (pend.headD 0) c).s ((F9 σ (!pend.isEmpty) (pend.headD 0) c).kd.pend pend c) r:=by
 obtain ⟨h1,h2,h3⟩:=hg;unfold F9
 cases hq:Nat.beq c 39 with
 |true=>
  obtain rfl:=cG hq
  match σ,h1,h2,h3 with
  |0,_,_,_=>
   show pend++([39,39]++sq M false r)=_
   cases hz: !pend.isEmpty with
   |true=>show _=(pend++([39,39]++[]))++sq M false r;rw [bJ];rfl
   |false=>rw [nil_of hz];rfl
  |1,_,h2,_=>
   show pend++([39,39]++sq M false r)=_
   rw [h2 rfl];show _=(pend++([39,39]++[]))++sq M false r
   rw [bJ];rfl
  |2,_,h2,_=>
   show cond (Nat.beq (pend.headD 0) 10) [10] []++(pend++(eT M++([39,39]++sq M false r)))=((cond (Nat.beq (pend.headD 0) 10) [10] []++pend)++(eT M++([39,39]++[])))++sq M false r
   simp only [bJ,cH]
  |n+3,h1,_,_=>exact absurd h1 (by show ¬ n+3< 3;lia)
 |false=>
  match σ,h1,h2,h3 with
  |0,_,_,_=>
   show pend++sq M false (c::r)=_
   cases yN:aW c with
   |true=>
    have Hu:Nat.beq c 32=false:=by cases q:Nat.beq c 32;rfl;rw [cG q] at yN;cases yN
    have D8:CD c=2:=by unfold CD;rw [Hu,yN];rfl
    rw [Gb yN,D8]
    cases hz: !pend.isEmpty with
    |true=>show _=(pend++[])++(cond (Nat.beq c 10) [10] []++([c]++sq M true r));rw [cH];rfl
    |false=>rw [nil_of hz];rfl
   |false=>
    rw [Gd yN,hq]
    cases Hu:Nat.beq c 32 with
    |true=>
     have D8:CD c=1:=by unfold CD;rw [Hu];rfl
     rw [D8]
     cases hz: !pend.isEmpty with
     |true=>show _=(pend++[])++([c]++sq M false r);rw [cH];rfl
     |false=>rw [nil_of hz];rfl
    |false=>show _=(pend++[c])++sq M false r;rw [bJ];rfl
  |1,_,h2,_=>
   show pend++sq M false (c::r)=_
   cases yN:aW c with
   |true=>
    have Hu:Nat.beq c 32=false:=by cases q:Nat.beq c 32;rfl;rw [cG q] at yN;cases yN
    rw [Gb yN,Hu];show _=(pend++[])++(cond (Nat.beq c 10) [10] []++([c]++sq M true r));rw [cH];rfl
   |false=>
    rw [Gd yN,hq]
    cases Hu:Nat.beq c 32 with
    |true=>show _=(pend++[c])++sq M false r;rw [bJ];rfl
    |false=>show _=(pend++[])++([c]++sq M false r);rw [cH];rfl
  |2,_,h2,_=>
   show cond (Nat.beq (pend.headD 0) 10) [10] []++(pend++sq M true (c::r))=_
   cases yN:aW c with
   |true=>
    rw [Gb yN];show _=cond (Nat.beq ((pend++[c]).headD 0) 10) [10] []++((pend++[c])++sq M true r)
    rw [CF (h2 rfl),bJ];rfl
   |false=>
    rw [Gd yN,hq];have fin:∀s:Nat,s=1∨s=0→Qn M s [c] r=[c]++sq M false r:=λs h=>by rcases h with rfl|rfl<;>rfl
    show _=((cond (Nat.beq (pend.headD 0) 10) [10] []++pend)++(eT M++[]))++Qn M (cond (Nat.beq c 32) 1 0) [c] r
    rw [fin _ (by cases Nat.beq c 32;exact .inr rfl;exact .inl rfl)]
    simp only [bJ,cH];rfl
  |n+3,h1,_,_=>exact absurd h1 (by show ¬ n+3< 3;lia)
theorem Tz(M σ:Nat)(pend:List Nat)(hg:t9.good σ (!pend.isEmpty) (pend.headD 0)):Qn M σ pend []=(Oq σ (!pend.isEmpty) (pend.headD 0)).out M pend:=by
 unfold Oq;obtain ⟨h1,h2,h3⟩:=hg
 match σ,h1,h2,h3 with
 |0,_,_,_=>
  cases hz: !pend.isEmpty with
  |true=>rfl
  |false=>rw [nil_of hz];rfl
 |1,_,h2,_=>rfl
 |2,_,h2,_=>
  show cond (Nat.beq (pend.headD 0) 10) [10] []++(pend++eT M)=(cond (Nat.beq (pend.headD 0) 10) [10] []++pend)++(eT M++[])
  simp only [bJ,cH]
 |n+3,h1,_,_=>exact absurd h1 (by show ¬ n+3< 3;lia)
theorem Xv(au:Bool):gZ t9 au where
 nO:=λf one b0 b1 σ nz co hc hg _=>(bl.mp (k55 au f one b0 b1 σ nz co hc hg)).1
 fit:=λσ nz f co hc hg=>(bl.mp (k55 true f true true true σ nz co hc hg)).2
 Zc:=λ_ _ _ _ _ _ h=>h.elim
 Zn:=λ_ _ _ _ h=>h.elim
 Yk:=λ_ _ _ _ _ h=>h.elim
 LL:=λσ h=>by rw [show σ=2 from cG h];rfl
 aP:=λρ cZ σ s e s' e' os Od h0 h1 hs he ho=>by
  show [some (MV.obj 4),some (ρ.v 0),some (ρ.v 35),_,_,some (s.I ρ),some (e.I ρ),(os 0).I ρ,(os 1).I ρ,(os 2).I ρ]=_
  rw [h0,h1,hs,he,ho,ho,ho];rfl
 br:=by kernel_rfl
 lst:=λ_ _=>rfl
 ev:=λf one b0 b1 k co σ t _ hc=>ao (ao (e55 au f one b0 b1 k) (ay t)) hc
 last:=λσ=>by kernel_rfl
 fin:=λρ σ=>⟨λi=>(aG ρ (t9.aP σ (X 2) (X 3) .o)).getD (i+1) none,rfl⟩
 rW:=λM σ pend c r hg _=>Tw M σ pend c r hg
 rX:=Tz
noncomputable def Kn:aB:=L1.Vu.body.getD 6 .pass
noncomputable def Xw(σ:Nat)(f:Nat):cI:=match σ with
 |0=>{s:=0,kd:=.new,ps:=[.pend,.lit [10]],col:=.zero,nl:=true,os:=[.v .none,.o 1,.v (X 5)]}
 |_=>{s:=1,kd:=.new,run:=true,col:=.zero,os:=[.v .none,.v (X 36),.o 2]}
noncomputable def Ge(σ:Nat)(f c:Nat):cI:=match σ with
 |0=>cond (aW c) {s:=1,kd:=.new,ps:=[.pend],os:=[.v (bw c),.o 1,.v (X 5)]} {s:=0,kd:=.ext,os:=[.v (bw c),.o 1,.o 2]}
 |_=>cond (aW c) {s:=1,kd:=.ext,os:=[.v (bw c),.o 1,.o 2]} {s:=0,kd:=.new,run:=true,ps:=[.yM],col:=.yM,os:=[.v (bw c),.v (X 36),.o 2]}
noncomputable def Ko(σ:Nat)(nz:Bool)(f:Nat):Option Nat→cI
 |none=>Xw σ f
 |some c=>Ge σ f c
noncomputable def lq(M:Nat):Bool→List Nat→List Nat
 |w,[]=>cond w [] [10]
 |w,c::r=>cond (aW c) (c::lq M true r) (cond w (eT M) []++c::lq M false r)
noncomputable def ua:eL where
 n:=8
 t:=1
 bs:=4
 be:=5
 bi:=6
 c:=C1 Kn
 b:=F1 Kn
 aP:=λσ s e os=>[.v (.obj 4),.v (X 0),.v (X 35),.v (.bool (Nat.beq σ 1)),.v s,.v e,os 0,os 1,os 2]
 lst:=λσ co=>[.v (X 0),.v (X 35),.v (.bool true),.v (X 2),.v (X 3),.v (Xn co),.o 1,.o 2]
 tr:=Ko
 gm:=λσ=>Nat.beq σ 1
 need:=λσ=>true
 ns:=2
 cs:=cos
 Z:=λ_ _=>True
 Y:=False
 out:=λM σ pend r=>pend++lq M (Nat.beq σ 1) r
theorem TA(au:Bool)(f:Nat)(one b0 b1:Bool):(cos.all λco=>ua.nO au f one b0 b1 0 true co&&ua.fit 0 true (Ko 0 true f co) co)=true:=by kernel_rfl
theorem TF(au:Bool)(one b0 b1:Bool):(brk.all λf=>cos.all λco=>ua.nO au f one b0 b1 1 true co&&ua.fit 1 true (Ko 1 true f co) co)=true:=by kernel_rfl
theorem k59(au:Bool)(f:Nat)(one b0 b1:Bool)(σ:Nat)(nz:Bool)(co:Option Nat)(hc:co∈cos)(hg:ua.good σ nz f):(ua.nO au f one b0 b1 σ nz co&&ua.fit σ nz (Ko σ nz f co) co)=true:=by
 obtain ⟨h1,h2,h3⟩:=hg;rw [h2 rfl]
 match σ,h1,h3 with
 |0,_,_=>exact ao (TA au f one b0 b1) hc
 |1,_,h3=>exact ao (ao (TF au one b0 b1) (kg (h3 rfl))) hc
 |n+2,h1,_=>exact absurd h1 (by show ¬ n+2< 2;lia)
theorem e59(au:Bool)(f:Nat)(one b0 b1:Bool)(k:Nat):(bools.all λt=>cos.all λco=>gr L1.prog (wF au co f true one b0 b1 k []) 40 (.slice (.aP ua.t) (some (.aP ua.bs)) (some (.aP ua.be))) (.v (.obj 4)::ua.lst 0 co) (cond t (sE 2 [.str [10]] Ht) (sE 2 [] gk)) (X 5) (cond t (sE 2 [.str [10]] Ht) (sE 2 [] gk)))=true:=by kernel_rfl
theorem Xx(au:Bool):gZ ua au where
 nO:=λf one b0 b1 σ nz co hc hg _=>(bl.mp (k59 au f one b0 b1 σ nz co hc hg)).1
 fit:=λσ nz f co hc hg=>(bl.mp (k59 true f true true true σ nz co hc hg)).2
 Zc:=λ_ _ _ _ _ _ _=>trivial
 Zn:=λσ _ _ _ _=>by match σ with|0=>rfl|n+1=>rfl
 Yk:=λ_ _ _ _ _ h=>h.elim
 LL:=λσ h=>rfl
 aP:=λρ cZ σ s e s' e' os Od h0 h1 hs he ho=>by
  show [some (MV.obj 4),some (ρ.v 0),some (ρ.v 35),_,some (s.I ρ),some (e.I ρ),(os 0).I ρ,(os 1).I ρ,(os 2).I ρ]=_
  rw [h0,h1,hs,he,ho,ho,ho];rfl
 br:=by kernel_rfl
 lst:=λ_ _=>rfl
 ev:=λf one b0 b1 k co σ t _ hc=>ao (ao (e59 au f one b0 b1 k) (ay t)) hc
 last:=λσ=>by kernel_rfl
 fin:=λρ σ=>⟨λi=>(aG ρ (ua.aP σ (X 2) (X 3) .o)).getD (i+1) none,rfl⟩
 rW:=λM σ pend c r hg _=>by
  show pend++cond (aW c) (c::lq M true r) (cond (Nat.beq σ 1) (eT M) []++c::lq M false r)=(Ge σ (pend.headD 0) c).out M pend++((Ge σ (pend.headD 0) c).kd.pend pend c++lq M (Nat.beq (Ge σ (pend.headD 0) c).s 1) r)
  unfold Ge
  match σ,hg.1 with
  |0,_=>
   cases yN:aW c with
   |true=>show _=(pend++[])++([c]++lq M true r);rw [cH];rfl
   |false=>show _=(pend++[c])++lq M false r;rw [bJ];rfl
  |1,_=>
   cases yN:aW c with
   |true=>show _=(pend++[c])++lq M true r;rw [bJ];rfl
   |false=>show pend++(eT M++c::lq M false r)=((([]++pend)++(eT M++[])))++([c]++lq M false r);rw [cH,bJ];rfl
  |n+2,h1=>exact absurd h1 (by show ¬ n+2< 2;lia)
 rX:=λM σ pend hg=>by
  match σ,hg.1 with
  |0,_=>rfl
  |1,_=>show pend++[]=([]++pend)++[];rfl
  |n+2,h1=>exact absurd h1 (by show ¬ n+2< 2;lia)
noncomputable def Ot:aB:=L1.f60.body.getD 8 .pass
noncomputable def Gf:List (Option Nat):=none::(bH.filter λc=> !aW c).map some
noncomputable def CG(σ:Nat)(nz:Bool):cI:=cond nz {s:=σ,kd:=.new,ps:=[.pend],col:=.flush,os:=[.v (X 5),.v .none,.o 2]} {s:=σ,kd:=.new,ps:=[.lit []],os:=[.v (.str []),.v .none,.o 2]}
noncomputable def yO(σ:Nat)(nz:Bool)(c:Nat):cI:=cond (Nat.beq c 32)
 (match σ with
 |0=>cond nz {s:=1,kd:=.new,ps:=[.pend],col:=.flush,os:=[.v (X 5),.v (bw c),.o 2]} {s:=1,kd:=.new,ps:=[.lit []],os:=[.v (.str []),.v (bw c),.o 2]}
 |_=>{s:=1,kd:=.ext,os:=[.o 0,.v (bw c),.o 2]})
 (match σ with
 |0=>{s:=0,kd:=.ext,os:=[.o 0,.v (bw c),.o 2]}
 |_=>{s:=0,kd:=.new,ps:=[.pend],col:=.flush,os:=[.v (X 5),.v (bw c),.o 2]})
noncomputable def Kp(σ:Nat)(nz:Bool)(f:Nat):Option Nat→cI
 |none=>CG σ nz
 |some c=>yO σ nz c
noncomputable def uc:eL where
 n:=9
 t:=1
 bs:=6
 be:=7
 bi:=8
 c:=C1 Ot
 b:=F1 Ot
 aP:=λσ s e os=>[.v (.obj 4),.v (X 0),.v (X 35),os 0,.v (.bool (Nat.beq σ 1)),.v (.bool false),.v s,.v e,os 1,os 2]
 lst:=λσ co=>[.o 0,.o 1,.o 2,.o 3,.o 4,.o 5,.o 6,.o 7,.o 8]
 tr:=Kp
 gm:=λσ=>false
 need:=λσ=>Nat.beq σ 1
 ns:=2
 cs:=Gf
 Z:=λ_ _=>False
 Y:=True
 out:=λM σ pend r=>pend++r
theorem TG(au:Bool)(f:Nat)(one b0 b1:Bool):(bools.all λnz=>Gf.all λco=>uc.nO au f one b0 b1 0 nz co&&uc.fit 0 nz (Kp 0 nz f co) co)=true:=by kernel_rfl
theorem TH(au:Bool)(f:Nat)(b0 b1:Bool):(bools.all λone=>Gf.all λco=>uc.nO au f one b0 b1 1 true co&&uc.fit 1 true (Kp 1 true f co) co)=true:=by kernel_rfl
theorem k60(au:Bool)(f:Nat)(one b0 b1:Bool)(σ:Nat)(nz:Bool)(co:Option Nat)(hc:co∈Gf)(hg:uc.good σ nz f):(uc.nO au f one b0 b1 σ nz co&&uc.fit σ nz (Kp σ nz f co) co)=true:=by
 obtain ⟨h1,h2,h3⟩:=hg
 match σ,h1,h2 with
 |0,_,_=>exact ao (ao (TG au f one b0 b1) (ay nz)) hc
 |1,_,h2=>rw [h2 rfl];exact ao (ao (TH au f b0 b1) (ay one)) hc
 |n+2,h1,_=>exact absurd h1 (by show ¬ n+2< 2;lia)
theorem Xy(au:Bool):gZ uc au where
 nO:=λf one b0 b1 σ nz co hc hg _=>(bl.mp (k60 au f one b0 b1 σ nz co hc hg)).1
 fit:=λσ nz f co hc hg=>(bl.mp (k60 true f true true true σ nz co hc hg)).2
 Zc:=λ_ _ _ _ _ _ h=>h.elim
 Zn:=λ_ _ _ _ h=>h.elim
 Yk:=λσ nz f co _ _=>by
  cases co with
  |none=>show ((CG σ nz).run||(CG σ nz).nl)=false;unfold CG;cases nz<;>rfl
  |some c=>show ((yO σ nz c).run||(yO σ nz c).nl)=false;unfold yO;cases Nat.beq c 32<;>(match σ with|0=>cases nz<;>rfl|n+1=>rfl)
 LL:=λσ h=>nomatch h
 aP:=λρ cZ σ s e s' e' os Od h0 h1 hs he ho=>by
  show [some (MV.obj 4),some (ρ.v 0),some (ρ.v 35),(os 0).I ρ,_,_,some (s.I ρ),some (e.I ρ),(os 1).I ρ,(os 2).I ρ]=_
  rw [h0,h1,hs,he,ho,ho,ho];rfl
 br:=by kernel_rfl
 lst:=λ_ _=>rfl
 ev:=λf one b0 b1 k co σ t h _=>nomatch h
 last:=λσ=>by kernel_rfl
 fin:=λρ σ=>⟨λi=>(aG ρ (uc.aP σ (X 2) (X 3) .o)).getD (i+1) none,rfl⟩
 rW:=λM σ pend c r hg _=>by
  show pend++c::r=(yO σ (!pend.isEmpty) c).out M pend++((yO σ (!pend.isEmpty) c).kd.pend pend c++r)
  unfold yO
  cases Nat.beq c 32 with
  |true=>
   match σ,hg.1 with
   |0,_=>
    cases hz: !pend.isEmpty with
    |true=>show _=(pend++[])++([c]++r);rw [cH];rfl
    |false=>rw [nil_of hz];rfl
   |n+1,_=>show _=(pend++[c])++r;rw [bJ];rfl
  |false=>
   match σ,hg.1 with
   |0,_=>show _=(pend++[c])++r;rw [bJ];rfl
   |n+1,_=>show _=(pend++[])++([c]++r);rw [cH];rfl
 rX:=λM σ pend hg=>by
  show pend++[]=(CG σ (!pend.isEmpty)).out M pend
  unfold CG
  cases hz: !pend.isEmpty with
  |true=>rfl
  |false=>rw [nil_of hz];rfl
noncomputable def jB(tr:Nat→Bool→Nat→Option Nat→cI)(M:Nat):List Nat→Nat→List Nat→List Nat
 |[],σ,pend=>(tr σ (!pend.isEmpty) (pend.headD 0) none).out M pend
 |c::r,σ,pend=>(tr σ (!pend.isEmpty) (pend.headD 0) (some c)).out M pend++jB tr M r (tr σ (!pend.isEmpty) (pend.headD 0) (some c)).s ((tr σ (!pend.isEmpty) (pend.headD 0) (some c)).kd.pend pend c)
noncomputable def Kq:aB:=L1.Vt.body.getD 8 .pass
noncomputable def jC(σ:Nat):Nat:=σ % 3
noncomputable def TJ(σ:Nat)(f:Nat):cI:=match jC σ with
 |0=>{s:=σ,kd:=.new,ps:=[.pend,.lit [10]],col:=.zero,nl:=true,os:=[.v .none,.o 1,.v (X 5)]}
 |1=>{s:=σ,kd:=.new,ps:=[.pend],col:=.flush,os:=[.v .none,.o 1,.v (X 5)]}
 |_=>{s:=2,kd:=.new,run:=true,col:=.zero,os:=[.v .none,.v (X 36),.o 2]}
noncomputable def lQ(σ:Nat)(f c:Nat):cI:=match jC σ with
 |0=>cond (aW c) {s:=σ+2,kd:=.new,ps:=[.pend],col:=.flush,os:=[.v (bw c),.o 1,.v (X 5)]} (cond (Nat.beq c 32) {s:=σ+1,kd:=.new,ps:=[.pend],col:=.flush,os:=[.v (bw c),.o 1,.v (X 5)]} {s:=σ,kd:=.ext,os:=[.v (bw c),.o 1,.o 2]})
 |1=>cond (Nat.beq c 32) {s:=σ,kd:=.ext,os:=[.v (bw c),.o 1,.o 2]} {s:=cond (aW c) (σ+1) (σ - 1),kd:=.new,ps:=[.pend],col:=.flush,os:=[.v (bw c),.o 1,.v (X 5)]}
 |_=>cond (aW c) {s:=σ,kd:=.ext,os:=[.v (bw c),.o 1,.o 2]} {s:=cond (Nat.beq c 32) 4 0,kd:=.new,run:=true,gG:=Nat.beq σ 2&&(!Nat.beq c 32&&Nat.beq f 10),ps:=[.yM],col:=.yM,os:=[.v (bw c),.v (X 36),.o 2]}
noncomputable def iN(σ:Nat)(nz:Bool)(f:Nat):Option Nat→cI
 |none=>TJ σ f
 |some c=>lQ σ f c
noncomputable def Ou(σ:Nat)(co:Option Nat):Bool:=match co with
 |none=>false
 |some c=>Nat.beq c 32
noncomputable def ud:eL where
 n:=10
 t:=1
 bs:=6
 be:=7
 bi:=8
 c:=C1 Kq
 b:=F1 Kq
 aP:=λσ s e os=>[.v (.obj 4),.v (X 0),.v (X 35),.v (.bool (Nat.ble 3 σ)),.v (.bool (Nat.beq (jC σ) 1)),.v (.bool (Nat.beq (jC σ) 2)),.v s,.v e,os 0,os 1,os 2]
 lst:=λσ co=>[.v (X 0),.v (X 35),.v (.bool (Ou σ co)),.v (.bool false),.v (.bool true),.v (X 2),.v (X 3),.v (Xn co),.o 1,.o 2]
 tr:=iN
 gm:=λσ=>Nat.beq (jC σ) 2
 need:=λσ=>true
 ns:=6
 cs:=cos
 Z:=λσ r=>match r with|[]=>jC σ≠1|c::r=>(c::r).getLast (List.cons_ne_nil _ _)≠32
 Y:=False
 out:=λM σ pend r=>jB iN M r σ pend
theorem TL(au:Bool)(f:Nat)(b0 b1:Bool):([0,1,3,4].all λσ=>bools.all λone=>cos.all λco=>ud.nO au f one b0 b1 σ true co&&ud.fit σ true (iN σ true f co) co)=true:=by kernel_rfl
theorem TM(au:Bool)(one b0 b1:Bool):([2,5].all λσ=>brk.all λf=>cos.all λco=>ud.nO au f one b0 b1 σ true co&&ud.fit σ true (iN σ true f co) co)=true:=by kernel_rfl
theorem k58(au:Bool)(f:Nat)(one b0 b1:Bool)(σ:Nat)(nz:Bool)(co:Option Nat)(hc:co∈cos)(hg:ud.good σ nz f):(ud.nO au f one b0 b1 σ nz co&&ud.fit σ nz (iN σ nz f co) co)=true:=by
 obtain ⟨h1,h2,h3⟩:=hg;rw [h2 rfl];have a:=λσ (h:σ∈[0,1,3,4])=>ao (ao (ao (TL au f b0 b1) h) (ay one)) hc
 have b:=λσ (h:σ∈[2,5]) (q:f∈brk)=>ao (ao (ao (TM au one b0 b1) h) q) hc
 match σ,h1,h3 with
 |0,_,_=>exact a 0 (by decide)
 |1,_,_=>exact a 1 (by decide)
 |2,_,h3=>exact b 2 (by decide) (kg (h3 rfl))
 |3,_,_=>exact a 3 (by decide)
 |4,_,_=>exact a 4 (by decide)
 |5,_,h3=>exact b 5 (by decide) (kg (h3 rfl))
 |n+6,h1,_=>exact absurd h1 (by show ¬ n+6< 6;lia)
theorem e58(au:Bool)(f:Nat)(one b0 b1:Bool)(k:Nat):(bools.all λt=>cos.all λco=>gr L1.prog (wF au co f true one b0 b1 k []) 40 (.slice (.aP ud.t) (some (.aP ud.bs)) (some (.aP ud.be))) (.v (.obj 4)::ud.lst 0 co) (cond t (sE 2 [.str [10]] Ht) (sE 2 [] gk)) (X 5) (cond t (sE 2 [.str [10]] Ht) (sE 2 [] gk)))=true:=by kernel_rfl
theorem z58(σ f c:Nat)(hs:σ< 6)(hc:c≠32):jC (lQ σ f c).s≠1:=by
 have Hu:Nat.beq c 32=false:=by cases q:Nat.beq c 32;rfl;exact absurd (cG q) hc
 refine Nat.ne_of_beq_eq_false ?_;unfold lQ;rw [Hu]
 match σ,hs with
 |0,_=>cases aW c<;>kernel_rfl
 |1,_=>cases aW c<;>kernel_rfl
 |2,_=>cases aW c<;>kernel_rfl
 |3,_=>cases aW c<;>kernel_rfl
 |4,_=>cases aW c<;>kernel_rfl
 |5,_=>cases aW c<;>kernel_rfl
 |n+6,h=>exact absurd h (by lia)
theorem Xz(au:Bool):gZ ud au where
 nO:=λf one b0 b1 σ nz co hc hg _=>(bl.mp (k58 au f one b0 b1 σ nz co hc hg)).1
 fit:=λσ nz f co hc hg=>(bl.mp (k58 true f true true true σ nz co hc hg)).2
 Zc:=λσ nz f c r hg h=>by
  cases r with
  |nil=>exact z58 σ f c hg.1 h
  |cons d r=>have h:(c::d::r).getLast (List.cons_ne_nil _ _)≠32:=h;rw [List.getLast_cons (List.cons_ne_nil _ _)] at h;exact h
 Zn:=λσ nz f hg h=>by
  show (TJ σ f).Qj=true
  have h:jC σ≠1:=h
  match σ,hg.1,h with
  |0,_,_=>kernel_rfl
  |1,_,h=>exact absurd rfl h
  |2,_,_=>kernel_rfl
  |3,_,_=>kernel_rfl
  |4,_,h=>exact absurd rfl h
  |5,_,_=>kernel_rfl
  |n+6,h,_=>exact absurd h (by show ¬ n+6< 6;lia)
 Yk:=λ_ _ _ _ _ h=>h.elim
 LL:=λσ h=>rfl
 aP:=λρ cZ σ s e s' e' os Od h0 h1 hs he ho=>by
  show [some (MV.obj 4),some (ρ.v 0),some (ρ.v 35),_,_,_,some (s.I ρ),some (e.I ρ),(os 0).I ρ,(os 1).I ρ,(os 2).I ρ]=_
  rw [h0,h1,hs,he,ho,ho,ho];rfl
 br:=by kernel_rfl
 lst:=λ_ _=>rfl
 ev:=λf one b0 b1 k co σ t _ hc=>ao (ao (e58 au f one b0 b1 k) (ay t)) hc
 last:=λσ=>by kernel_rfl
 fin:=λρ σ=>⟨λi=>(aG ρ (ud.aP σ (X 2) (X 3) .o)).getD (i+1) none,rfl⟩
 rW:=λM σ pend c r hg _=>rfl
 rX:=λM σ pend hg=>rfl
noncomputable def Kr:aB:=L1.f56.body.getD 2 .pass
noncomputable def nE(au:Bool)(c:Nat):List Nat:=match c with
 |34=>[92,34]
 |92=>[92,92]
 |10=>[92,110]
 |9=>[92,116]
 |7=>[92,97]
 |133=>[92,78]
 |8232=>[92,76]
 |160=>cond au [] [92,95]
 |233=>cond au [] [92,120,69,57]
 |8364=>cond au [] [92,117,50,48,65,67]
 |128512=>[92,85,48,48,48,49,70,54,48,48]
 |_=>[]
noncomputable def Ov(nz:Bool):cI:=cond nz {s:=0,kd:=.new,ps:=[.pend],col:=.flush,os:=[.v .none,.v (X 5)]} {s:=0,kd:=.ext,os:=[.v .none,.o 1]}
noncomputable def Ks(au nz:Bool)(c:Nat):cI:=cond (nE au c).isEmpty {s:=0,kd:=.ext,os:=[.v (bw c),.o 1]}
 (cond nz {s:=0,kd:=.emp,ps:=[.pend,.lit (nE au c)],col:=.qs,k:=(nE au c).length,os:=[.v (bw c),.v (.str (nE au c))]} {s:=0,kd:=.emp,ps:=[.lit (nE au c)],col:=.k,k:=(nE au c).length,os:=[.v (bw c),.v (.str (nE au c))]})
noncomputable def Ku(au:Bool)(σ:Nat)(nz:Bool)(f:Nat):Option Nat→cI
 |none=>Ov nz
 |some c=>Ks au nz c
noncomputable def dq(au:Bool):List Nat→List Nat
 |[]=>[]
 |c::r=>cond (nE au c).isEmpty [c] (nE au c)++dq au r
noncomputable def Gg(au:Bool):eL where
 n:=6
 t:=1
 bs:=3
 be:=4
 bi:=4
 c:=C1 Kr
 b:=F1 Kr
 aP:=λσ s e os=>[.v (.obj 4),.v (X 0),.v (X 35),.v s,.v e,os 0,os 1]
 lst:=λσ co=>[.o 0,.o 1,.o 2,.o 3,.o 4,.o 5]
 tr:=Ku au
 gm:=λσ=>false
 need:=λσ=>false
 ns:=1
 cs:=cos
 Z:=λ_ _=>False
 Y:=False
 out:=λM σ pend r=>pend++dq au r
theorem TN(f:Nat)(one:Bool):(bools.all λau=>bools.all λb0=>bools.all λnz=>(Gg au).nO au f one b0 false 0 nz none&&(Gg au).fit 0 nz (Ku au 0 nz f none) none)=true:=by kernel_rfl
theorem TQ(f:Nat)(one:Bool):(bools.all λau=>bools.all λb0=>bools.all λb1=>bools.all λnz=>bH.all λc=>(Gg au).nO au f one b0 b1 0 nz (some c)&&(Gg au).fit 0 nz (Ku au 0 nz f (some c)) (some c))=true:=by kernel_rfl
theorem k56(au:Bool)(f:Nat)(one b0 b1:Bool)(σ:Nat)(nz:Bool)(co:Option Nat)(hc:co∈cos)(hg:(Gg au).good σ nz f)(hb:co=none→b1=false):((Gg au).nO au f one b0 b1 σ nz co&&(Gg au).fit σ nz (Ku au σ nz f co) co)=true:=by
 obtain ⟨h1,h2,h3⟩:=hg
 match σ,h1,h2 with
 |0,_,_=>
  cases co with
  |none=>rw [hb rfl];exact ao (ao (ao (TN f one) (ay au)) (ay b0)) (ay nz)
  |some c=>
   have hc:c∈bH:=by
    obtain ⟨d,h1,h2⟩:=List.mem_map.mp ((bq.mp hc).elim (λh=>nomatch h) id)
    exact aI h2▸h1
   exact ao (ao (ao (ao (ao (TQ f one) (ay au)) (ay b0)) (ay b1)) (ay nz)) hc
 |n+1,h1,_=>exact absurd h1 (by show ¬ n+1< 1;lia)
theorem XA(au:Bool):gZ (Gg au) au where
 nO:=λf one b0 b1 σ nz co hc hg hb=>(bl.mp (k56 au f one b0 b1 σ nz co hc hg hb)).1
 fit:=λσ nz f co hc hg=>(bl.mp (k56 au f true true false σ nz co hc hg (λ_=>rfl))).2
 Zc:=λ_ _ _ _ _ _ h=>h.elim
 Zn:=λ_ _ _ _ h=>h.elim
 Yk:=λ_ _ _ _ _ h=>h.elim
 LL:=λσ h=>nomatch h
 aP:=λρ cZ σ s e s' e' os Od h0 h1 hs he ho=>by
  show [some (MV.obj 4),some (ρ.v 0),some (ρ.v 35),some (s.I ρ),some (e.I ρ),(os 0).I ρ,(os 1).I ρ]=_
  rw [h0,h1,hs,he,ho,ho];rfl
 br:=by show Ax 5 6=true;kernel_rfl
 lst:=λ_ _=>rfl
 ev:=λf one b0 b1 k co σ t h _=>nomatch h
 last:=λσ=>by kernel_rfl
 fin:=λρ σ=>⟨λi=>(aG ρ ((Gg au).aP σ (X 2) (X 3) .o)).getD (i+1) none,rfl⟩
 rW:=λM σ pend c r hg _=>by
  show pend++(cond (nE au c).isEmpty [c] (nE au c)++dq au r)=(Ks au (!pend.isEmpty) c).out M pend++((Ks au (!pend.isEmpty) c).kd.pend pend c++dq au r)
  unfold Ks
  cases (nE au c).isEmpty with
  |true=>show _=(pend++[c])++dq au r;rw [bJ];rfl
  |false=>
   cases hz: !pend.isEmpty with
   |true=>show _=(pend++(nE au c++[]))++dq au r;rw [cH,bJ];rfl
   |false=>rw [nil_of hz];show _=(nE au c++[])++dq au r;rw [cH];rfl
 rX:=λM σ pend hg=>by
  show pend++[]=(Ov (!pend.isEmpty)).out M pend
  unfold Ov
  cases hz: !pend.isEmpty with
  |true=>rfl
  |false=>rw [nil_of hz];rfl
noncomputable def Vw:Em:={gk with col:=.int 0,ws:=.bool true,ind:=.bool true}
noncomputable def eL.Kv(w:eL)(au:Bool)(f:Nat)(one b0 b1:Bool)(rY s:Nat)(os:List SL)(c:Nat):Bool:=n7 L1.prog (wF au (some c) f false one b0 b1 2 []) 60 w.c w.b (w.aP rY (X 2) (X 3) (λ_=>.u)) (sE 2 [] Vw) (w.aP s (cond (aW c) (X 2) (X 3)) (X 4) (λi=>os.getD i .u)) (cond (aW c) (sE 2 [] Vw) (sE 2 [X 11] {Vw with col:=X 10}))
theorem le8{a b B:Nat}(h:a+b≤B)(hB:B≤8000):a≤8000:=ak (bZ a b) (ak h hB)
theorem Kw{a b B:Nat}(h:a+b≤10 * B)(hB:B≤8000):a≤80000:=ak (bZ a b) (ak h (Nat.mul_le_mul_left 10 hB))
theorem bCn{M r B:Nat}(h:M+12 * (r+1)+30≤B):0+1+12 * r+12≤B∧M+1+12 * r+12≤B:=by lia
theorem bLn{a r B:Nat}(h:a+100≤B)(hr:r+1≤10):a+2 * 1+4 * r+4≤B:=by lia
theorem bRn{a r B:Nat}(h:a+1000≤B)(hr:r+1≤10):a+2 * 1+10 * r+8≤B∧a+1+2 * 1+10 * r+8≤B:=by lia
section
variable {w:eL}{x:Cx}(W:gZ w x.au)(hx:jA x){rY s:Nat}{os:List SL}{c:Nat}{r:List Nat}(hv:x.v=c::r){rows:List MV}{line:Nat}(hl:line+100≤x.B2)(hr:rows.length+1000≤10 * x.B2)
include W hx hv hl hr
theorem eL.first(Ow:∀f one b0 b1,w.Kv x.au f one b0 b1 rY s os c=true):∃a,∀k,60≤k→w.W k dF (w.L x rY 0 0 (λ_=>none)) (hw x rows 0 line (.bool true) (.bool true))=w.W k 99999 (w.L x s 0 1 a) (cond (aW c) (hw x rows 0 line (.bool true) (.bool true)) (hw x (rows++[.str (eT x.M)]) x.M line (.bool true) (.bool true))):=by
 have K:Holds L1.prog (RS x 2 [] [] (c::r) rows 0 line true true (λ_=>none) 0 0 []) _:=qq (st:=[]) (Oe hx (pre:=[]) (pend:=[]) (r:=c::r) hv (by decide) (by decide) (ak (le8 hl hx.B2) (by decide)) (ak (Kw hr hx.B2) (by decide)) (Nat.zero_le _)) aa
 have e:=λk (hk:60≤k)=>kR K (Ow 0 _ _ _) hk 99999
 have e1:aG (RS x 2 [] [] (c::r) rows 0 line true true (λ_=>none) 0 0 []) (w.aP rY (X 2) (X 3) (λ_=>.u))=w.L x rY 0 0 (λ_=>none):=W.aP _ _ _ _ _ _ _ _ _ rfl rfl rfl rfl λ_=>rfl
 have e2:∀S,S=X 2∨S=X 3→aG (RS x 2 [] [] (c::r) rows 0 line true true (λ_=>none) 0 0 []) (w.aP s S (X 4) (λi=>os.getD i .u))=w.L x s 0 1 (λi=>(os.getD i .u).I (RS x 2 [] [] (c::r) rows 0 line true true (λ_=>none) 0 0 [])):=λS hS=>W.aP _ _ _ _ _ _ _ _ _ rfl rfl (by rcases hS with rfl|rfl<;>rfl) rfl λ_=>rfl
 rw [e1] at e;rw [e2 (cond (aW c) (X 2) (X 3)) (by cases aW c;exact .inr rfl;exact .inl rfl)] at e
 refine ⟨λi=>(os.getD i .u).I (RS x 2 [] [] (c::r) rows 0 line true true (λ_=>none) 0 0 []),λk hk=>(e k hk).trans ?_⟩
 cases aW c<;>rfl
theorem eL.start(F8:∀c∈x.v,some c∈w.cs)(Kh:none∈w.cs)(Ow:∀f one b0 b1,w.Kv x.au f one b0 b1 rY s os c=true)(hg:w.good s true c)(Kg:w.gm s=true→aW c=true):
  Fin x w.n (w.G s r true true) (λk=>w.W k dF (w.L x rY 0 0 (λ_=>none)) (hw x rows 0 line (.bool true) (.bool true))) rows (cond (aW c) [] (eT x.M)++w.out x.M s [c] r):=by
 have hB:=hx.B.2;have hn:=hx.len.2;rw [hv] at hB hn;obtain ⟨a,e⟩:=eL.first W hx hv hl hr Ow
 have hb:w.gm s=true→∀d∈[c],d∈brk:=λq d hd=>(dN.mp hd)▸kg (Kg q)
 have hf:2+r.length≤99999:=ak (dD (Nat.le_of_succ_le hn) 2) (by decide)
 revert e
 cases aW c with
 |true=>exact λe=>Fin.step e (eL.loop (pre:=[]) (pend:=[c]) W hx F8 Kh hf ⟨hv,hg,hb,(bCn hB).1,bLn hl hn,(bRn hr hn).1⟩ true true a)
 |false=>exact λe=>(Fin.step e (eL.loop (pre:=[]) (pend:=[c]) W hx F8 Kh hf ⟨hv,hg,hb,(bCn hB).2,bLn hl hn,by rw [aY];exact (bRn hr hn).2⟩ true true a)).cons (P:=[.str (eT x.M)]) (congrArg some (cH _))
end
theorem Vu(au:Bool)(f:Nat)(one b0 b1:Bool):(bH.all λc=>ua.Kv au f one b0 b1 1 (cond (aW c) 1 0) [.v (bw c),.u,.u] c)=true:=by kernel_rfl
theorem Vt(au:Bool)(f:Nat)(one b0 b1:Bool):(bH.all λc=>ud.Kv au f one b0 b1 5 (cond (aW c) 5 (cond (Nat.beq c 32) 4 0)) [.v (bw c),.u,.u] c)=true:=by kernel_rfl
noncomputable def RC(x:Cx)(rows cA:List MV)(col n line nQ n2 dQ:Nat)(a:Nat→Option MV):eN:=R [.str x.v,.int (x.v.length:Nat),.none,.none,.none,.none,.none,.int (col:Nat),.int ((col+n:Nat):Int),.none,.int (x.M:Nat),.none,.int (line:Nat),.int ((line+1:Nat):Int),.int (nQ:Nat),.int ((nQ+n2:Nat):Int),.none,.none,.none,.int (dQ:Nat),x.e.state,x.e.event,x.e.fy,x.e.root,x.e.seq,x.e.map,x.e.sk,x.e.oe,x.e.bi,x.e.tp,x.e.an,x.e.st,.none,.none,.none,x.split,.none,x.e.au] [x.w0,x.w1,rows,x.states,x.events,x.aK,cA] a
noncomputable def Cx.oe(x:Cx)(v:MV):Cx:={x with e:={x.e with oe:=v}}
noncomputable def Cx.sp(x:Cx)(v:MV):Cx:={x with split:=v}
structure NR where
 txt:List Nat
 ws:Bool
 ind:Bool
 oe:MV
 z:Bool
 k:Bool
structure Zd where
 Q:List MV
 col:Nat
 line:Nat
structure Ends(T:Nat→Option (MV×Hp))(H:Zd→Hp)(N B B2 r c0:Nat)(q:NR)(d:Zd):Prop where
 run:∀k,N≤k→T k=some (.none,H d)
 j:aC d.Q=some q.txt
 col:d.col≤B+4
 line:d.line≤B2+4
 room:r+d.Q.length≤10 * B2+20
 z:q.z=true→d.col=0
 k:q.k=true→d.col=c0
def Wr(x:Cx)(f:Nat)(args:List MV)(rows:List MV)(col line:Nat)(ws ind:Bool)(q:NR):Prop:=∃d,Ends (λk=>(E L1.prog k).ca f args (hw x rows col line (.bool ws) (.bool ind))) (λd=>hw (x.oe q.oe) (rows++d.Q) d.col d.line (.bool q.ws) (.bool q.ind)) 75 x.B x.B2 rows.length col q d
noncomputable def sep(ws:Bool):List Nat:=cond ws [] [32]
structure cV(x:Cx)(rows:List MV)(col line:Nat):Prop where
 ok:jA x
 col:col+12 * x.v.length+40≤x.B
 line:line+4 * x.v.length+110≤x.B2
 rows:rows.length+2000≤10 * x.B2
theorem cV.oe{x:Cx}(h:jA x)(v:MV):jA (x.oe v):=⟨h.au,h.M,h.v,h.len,h.B,h.B2⟩
theorem cV.sp{x:Cx}(h:jA x)(v:MV):jA (x.sp v):=⟨h.au,h.M,h.v,h.len,h.B,h.B2⟩
noncomputable def XC(ws:Bool):Em:={gk with ws:=.bool false,ind:=.bool false,oe:=.bool false,col:=X 8}
noncomputable def qF(n:Nat)(st:List xh):Facts:={aug:=[(.Add,X 7,.int n,X 8),(.Add,X 14,.int 1,X 15)],room:=[2,6],st:=st}
noncomputable def qSt(s:aB)(l:aR)(n:Nat)(q:Nat)(ws qt gY:Bool):xh:={n:=60,s:=s,l:=l,h:=sE 2 [.str (cond ws [q] [32,q])] (XC ws),l':=fl n,h':=sE 6 [] {XC ws with col:=X 14,line:=X 19,ws:=.bool qt,ind:=.bool gY}}
noncomputable def Ox(f:Nat)(w:eL)(s:aB)(q:Nat)(ws ind qt gY:Bool):Bool:=fK L1.prog (qF (cond ws 1 2) [qSt s (w.aP 0 (.int 0) (.int 0) (λ_=>.u)) w.n q ws qt gY]) 75 f [.obj 4,X 0,X 35] (sE 2 [] {gk with ws:=.bool ws,ind:=.bool ind}) .none (sE 6 [.str [q]] {XC ws with col:=X 15,line:=X 19})
theorem q55:(bools.all λws=>bools.all λind=>bools.all λqt=>bools.all λgY=>Ox 55 t9 Km 39 ws ind qt gY)=true:=by kernel_rfl
theorem q56:(bools.all λau=>bools.all λws=>bools.all λind=>bools.all λqt=>bools.all λgY=>Ox 56 (Gg au) Kr 34 ws ind qt gY)=true:=by kernel_rfl
theorem CH{q:Nat}{ws:Bool}{Q:List MV}{o:List Nat}(h:aC Q=some o):aC (.str (cond ws [q] [32,q])::(Q++[.str [q]]))=some (cond ws [] [32]++(q::(o++[q]))):=by
 have h1:aC [MV.str [q]]=some [q]:=rfl;have h2:aC [MV.str (cond ws [q] [32,q])]=some (cond ws [q] [32,q]):=by cases ws<;>rfl
 have:=dG h2 (dG h h1);refine this.trans (congrArg some ?_);cases ws<;>rfl
theorem bnd{a j n m k B:Nat}(h:a+n+k≤B)(hj:j+m≤k):a+j+n+m≤B:=by lia
section
variable {x:Cx}{rows:List MV}{col line:Nat}(C:cV x rows col line)
include C
theorem cV.cB{j:Nat}(hj:j≤2):col+j+12 * x.v.length+12≤x.B:=bnd C.col (ak (cO hj 12) (by decide))
theorem cV.lB:line+4 * x.v.length+4≤x.B2:=ak (dD (by decide) _) C.line
theorem cV.rB{j:Nat}(hj:j≤2):rows.length+j+10 * x.v.length+8≤10 * x.B2:=bnd (k:=1900) (ak (cO (dD (Nat.mul_le_mul_left 10 C.ok.len.2) _) _) (ak (Nat.le_of_eq (Nat.add_assoc _ _ _)) C.rows)) (ak (cO hj 8) (by decide))
theorem cV.c9:col≤1000:=ak (bZ _ (12 * x.v.length)) (ak (bZ _ 40) (ak C.col (ak C.ok.B.1 (by decide))))
theorem cV.l9:line≤8000:=ak (bZ _ (4 * x.v.length)) (le8 C.line C.ok.B2)
theorem cV.r5:rows.length≤100000:=ak (Kw C.rows C.ok.B2) (by decide)
theorem cV.b9{n:Nat}(h:n≤x.B):n≤1000:=ak h (ak C.ok.B.1 (by decide))
theorem cV.ne:(!x.v.isEmpty)=true:=by
 have h:=C.ok.len.1;revert h
 cases x.v with
 |nil=>exact λh=>absurd h (by decide)
 |cons _ _=>exact λ_=>rfl
end
theorem XD{α:Type}{l Q b:List α}{a:α}:(l++[a]++Q)++b=l++(a::(Q++b)):=by rw [bJ,bJ];rfl
theorem rq{r Q n:Nat}(h:r+1+Q≤n+10):r+(Q+1+1)≤n+20:=by lia
section
variable {f:Nat}{w:eL}{s:aB}{q:Nat}{x:Cx}{rows:List MV}{col line:Nat}{ws ind:Bool}(C:cV x rows col line)(W:gZ w x.au)(Oz:s=.cR w.c w.b)
include C W Oz
theorem Kx{G:Nat→Bool→Bool→Prop}{out:List Nat}{z:F5}(h:CC (x.oe (.bool false)) w.n G (λk=>w.W k dF (w.L (x.oe (.bool false)) 0 0 0 (λ_=>none)) (hw (x.oe (.bool false)) (rows++[.str (cond ws [q] [32,q])]) (col+cond ws 1 2) line (.bool false) (.bool false))) (rows++[.str (cond ws [q] [32,q])]) out z):
  Holds L1.prog (RC x rows (rows++[.str (cond ws [q] [32,q])]++z.Q) col (cond ws 1 2) line z.col 1 z.line z.a) (qF (cond ws 1 2) [qSt s (w.aP 0 (.int 0) (.int 0) (λ_=>.u)) w.n q ws z.ws z.ind]) where
 ny:=aa
 cmp:=aa
 bin:=aa
 sub:=aa
 qM:=aa
 bi:=aa
 join:=aa
 room:=af (CB C.r5) (af (CB (h.r6 C.ok.B2)) aa)
 aug:=af (dH (b:=cond ws 1 2) (by cases ws<;>rfl) (ak (Nat.add_le_add C.c9 (by cases ws<;>decide:cond ws 1 2≤2)) (by decide))) (af (dH (b:=1) rfl (yL (C.b9 h.col))) aa)
 starts:=aa
 st:=af (λk hk=>by
  have e1:aG (RC x rows (rows++[.str (cond ws [q] [32,q])]++z.Q) col (cond ws 1 2) line z.col 1 z.line z.a) (w.aP 0 (.int 0) (.int 0) (λ_=>.u))=w.L (x.oe (.bool false)) 0 0 0 (λ_=>none):=W.aP _ _ _ _ _ _ _ _ _ rfl rfl rfl rfl λ_=>rfl
  show gp L1.prog (E L1.prog k) s (aG _ (w.aP 0 (.int 0) (.int 0) (λ_=>.u))) _=some (.next,aG _ (fl w.n),_)
  rw [e1,Oz,lO];exact h.run k hk) aa
 ev:=aa
 call:=aa
theorem quoted(F8:w.cs=cos)(hg:w.good 0 false 0)(hb:w.gm 0=false)(hq:∀qt gY,Ox f w s q ws ind qt gY=true):Wr x f [.obj 4,.str x.v,x.split] rows col line ws ind ⟨sep ws++(q::(w.out x.M 0 [] x.v++[q])),false,false,.bool false,false,false⟩:=
 (eL.LN (x:=x.oe (.bool false)) W (cV.oe C.ok _) (λc hc=>F8▸yI (C.ok.v c hc)) (F8▸qm) hg hb (C.cB (by cases ws<;>decide:cond ws 1 2≤2)) C.lB (by rw [aY];exact C.rB (j:=1) (by decide)) false false (λ_=>none)).elim λz h=>
  ⟨⟨.str (cond ws [q] [32,q])::(z.Q++[.str [q]]),z.col+1,z.line⟩,λk hk=>(eX (Kx C W Oz h) (hq z.ws z.ind) hk).trans (congrArg (λr=>some (MV.none,hw (x.oe (.bool false)) r (z.col+1) z.line (.bool false) (.bool false))) XD),CH h.j,ak (cO h.col 1) (dD (by decide) _),ak h.line (bZ _ _),
   by
    have r:=h.room;rw [aY] at r;show _+(_::(z.Q++_)).length≤_
    rw [List.length_cons,aY];exact rq r,nofun,nofun⟩
end
theorem OA{x:Cx}{rows:List MV}{col line:Nat}{ws ind:Bool}(C:cV x rows col line):Wr x 55 [.obj 4,.str x.v,x.split] rows col line ws ind ⟨sep ws++(39::(sq x.M false x.v++[39])),false,false,.bool false,false,false⟩:=quoted (w:=t9) (s:=Km) C (Xv x.au) rfl rfl ⟨Nat.succ_pos _,λh=>absurd h bU,λh=>absurd h bU⟩ rfl λqt gY=>ao (ao (ao (ao q55 (ay ws)) (ay ind)) (ay qt)) (ay gY)
theorem OB{x:Cx}{rows:List MV}{col line:Nat}{ws ind:Bool}(C:cV x rows col line):Wr x 56 [.obj 4,.str x.v,x.split] rows col line ws ind ⟨sep ws++(34::(dq x.au x.v++[34])),false,false,.bool false,false,false⟩:=quoted (w:=Gg x.au) (s:=Kr) C (XA x.au) rfl rfl ⟨Nat.succ_pos _,λh=>absurd h bU,λh=>absurd h bU⟩ rfl λqt gY=>ao (ao (ao (ao (ao q56 (ay x.au)) (ay ws)) (ay ind)) (ay qt)) (ay gY)
noncomputable def pOe(root:Bool):MV:=cond root (.bool true) (X 27)
noncomputable def OC(root ws:Bool):Em:={gk with root:=.bool root,ws:=.bool false,ind:=.bool false,oe:=pOe root,col:=cond ws (X 7) (X 8)}
noncomputable def pSt(root ws:Bool):xh:={n:=60,s:=Ot,l:=uc.aP 0 (.int 0) (.int 0) (λi=>cond (Nat.beq i 0) (cond ws .u (.v (.str [32]))) .u),h:=sE 2 (cond ws [] [.str [32]]) (OC root ws),l':=fl 9,h':=sE 6 [] {OC root ws with col:=X 14,line:=X 19}}
noncomputable def pF(st:List xh):Facts:={ny:=[(X 0,true)],aug:=[(.Add,X 7,.int 1,X 8)],room:=[2,6],st:=st}
theorem p60:(bools.all λroot=>bools.all λws=>bools.all λind=>fK L1.prog (pF [pSt root ws]) 75 60 [.obj 4,X 0,X 35] (sE 2 [] {gk with root:=.bool root,ws:=.bool ws,ind:=.bool ind}) .none (sE 6 [] {OC root ws with col:=X 14,line:=X 19}))=true:=by kernel_rfl
theorem XE:(bools.all λroot=>bools.all λws=>bools.all λind=>fK L1.prog {} 75 60 [.obj 4,.str [],X 35] (sE 2 [] {gk with root:=.bool root,ws:=.bool ws,ind:=.bool ind}) .none (sE 2 [] {gk with root:=.bool root,ws:=.bool ws,ind:=.bool ind,oe:=pOe root}))=true:=by kernel_rfl
theorem Ky{c:Nat}(h:c∈bH)(q:aW c=false):some c∈Gf:=bR _ (List.mem_map_of_mem (List.mem_filter.mpr ⟨h,by rw [q];rfl⟩))
theorem lR{x:Cx}{root:Bool}(h:x.e.root=.bool root){rows:List MV}{col line:Nat}{ws ind:MV}:hw x rows col line ws ind=hE x.w0 x.w1 rows x.states x.events x.aK {x.em col line ws ind with root:=.bool root}:=by rw [← h];rfl
noncomputable def qu(ws:Bool)(rows:List MV):List MV:=cond ws rows (rows++[.str [32]])
theorem rZ{ws:Bool}{rows Q:List MV}:qu ws rows++Q=rows++(cond ws [] [.str [32]]++Q):=by
 cases ws with
 |true=>rfl
 |false=>exact bJ ..
section
variable {x:Cx}{rows cA:List MV}{col line n nQ n2 dQ:Nat}{ws ind root:Bool}{a:Nat→Option MV}
theorem pL:aG (RC x rows cA col n line nQ n2 dQ a) (uc.aP 0 (.int 0) (.int 0) (λi=>cond (Nat.beq i 0) (cond ws .u (.v (.str [32]))) .u))=uc.L (x.oe (cond root (.bool true) x.e.oe)) 0 0 0 (λi=>cond (Nat.beq i 0) (cond ws none (some (.str [32]))) none):=by cases ws<;>rfl
theorem pH(hr:x.e.root=.bool root):aV (RC x rows cA col 1 line nQ n2 dQ a) (sE 2 (cond ws [] [.str [32]]) (OC root ws))=hw (x.oe (cond root (.bool true) x.e.oe)) (qu ws rows) (col+cond ws 0 1) line (.bool false) (.bool false):=by
 rw [lR (x:=x.oe (cond root (.bool true) x.e.oe)) hr]
 cases ws<;>cases root<;>rfl
theorem pH6(hr:x.e.root=.bool root):aV (RC x rows cA col n line nQ n2 dQ a) (sE 6 [] {OC root ws with col:=X 14,line:=X 19})=hw (x.oe (cond root (.bool true) x.e.oe)) cA nQ dQ (.bool false) (.bool false):=by rw [lR (x:=x.oe (cond root (.bool true) x.e.oe)) hr];cases root<;>rfl
theorem TR:(qu ws rows).length≤rows.length+1:=by
 cases ws with
 |true=>exact Nat.le_succ _
 |false=>exact Nat.le_of_eq aY
variable (C:cV x rows col line)(hr:x.e.root=.bool root)
include C hr
theorem Kz{G:Nat→Bool→Bool→Prop}{z:F5}{out:List Nat}(h:CC (x.oe (cond root (.bool true) x.e.oe)) uc.n G (λk=>uc.W k dF (uc.L (x.oe (cond root (.bool true) x.e.oe)) 0 0 0 (λi=>cond (Nat.beq i 0) (cond ws none (some (.str [32]))) none)) (hw (x.oe (cond root (.bool true) x.e.oe)) (qu ws rows) (col+cond ws 0 1) line (.bool false) (.bool false))) (qu ws rows) out z)(e1:z.ws=false)(e2:z.ind=false):
  Holds L1.prog (RC x rows (qu ws rows++z.Q) col 1 line z.col 1 z.line z.a) (pF [pSt root ws]) where
 ny:=af (λ_=>congrArg some C.ne) aa
 cmp:=aa
 bin:=aa
 sub:=aa
 qM:=aa
 bi:=aa
 join:=aa
 room:=af (CB C.r5) (af (CB (h.r6 C.ok.B2)) aa)
 aug:=af (dH (b:=1) rfl (yL C.c9)) aa
 starts:=aa
 st:=af (λk hk=>by
  have e:=h.run k hk;rw [e1,e2] at e;show eU (E L1.prog k) uc.c uc.b dF (aG _ (uc.aP 0 (.int 0) (.int 0) (λi=>cond (Nat.beq i 0) (cond ws .u (.v (.str [32]))) .u))) (aV _ (sE 2 (cond ws [] [.str [32]]) (OC root ws)))=some (.next,aG _ (fl uc.n),aV _ (sE 6 [] {OC root ws with col:=X 14,line:=X 19}))
  rw [pL (root:=root),pH hr,pH6 hr,lO];exact e) aa
 ev:=aa
 call:=aa
theorem OD(hb:∀c∈x.v,aW c=false):Wr x 60 [.obj 4,.str x.v,x.split] rows col line ws ind ⟨sep ws++x.v,false,false,cond root (.bool true) x.e.oe,false,false⟩:=
 have hp:(qu ws rows).length≤rows.length+1:=TR
 (eL.LN (x:=x.oe (cond root (.bool true) x.e.oe)) (Xy x.au) (cV.oe C.ok _) (λc h=>Ky (C.ok.v c h) (hb c h)) (cy ..) ⟨Nat.succ_pos _,nofun,nofun⟩ rfl (C.cB (by cases ws<;>decide:cond ws 0 1≤2)) C.lB (ak (cO (cO hp _) 8) (C.rB (j:=1) (by decide))) false false (λi=>cond (Nat.beq i 0) (cond ws none (some (.str [32]))) none)).elim λz h=>
  have g:=h.G.2 trivial
  ⟨⟨cond ws [] [.str [32]]++z.Q,z.col,z.line⟩,λk hk=>by
    have e:=eX (Kz C hr h g.1 g.2) (ao (ao (ao p60 (ay root)) (ay ws)) (ay ind)) hk;rw [pH6 hr] at e;show _=some (MV.none,hw (x.oe (cond root (.bool true) x.e.oe)) (rows++(cond ws [] [.str [32]]++z.Q)) z.col z.line (.bool false) (.bool false))
    rw [← rZ,lR hr];exact e,dG (by cases ws<;>rfl) h.j,ak h.col (bZ _ _),ak h.line (bZ _ _),
   by
    show rows.length+(cond ws [] [MV.str [32]]++z.Q).length≤_
    rw [← aY, ← rZ,aY];exact ak h.room (dD (by decide) _),nofun,nofun⟩
end
theorem KA{x:Cx}{root ws ind:Bool}{sp:MV}(hr:x.e.root=.bool root)(rows:List MV)(col line:Nat):∀k,75≤k→(E L1.prog k).ca 60 [.obj 4,.str [],sp] (hw x rows col line (.bool ws) (.bool ind))=some (.none,hw (x.oe (cond root (.bool true) x.e.oe)) rows col line (.bool ws) (.bool ind)):=λk hk=>by
 have e:=eX (iY (P:=L1.prog) (ρ:=RC (x.sp sp) rows [] col 1 line 0 1 0 (λ_=>none))) (ao (ao (ao XE (ay root)) (ay ws)) (ay ind)) hk
 rw [lR hr,lR (x:=x.oe (cond root (.bool true) x.e.oe)) hr]
 cases root<;>exact e
noncomputable def Qo(b:Nat)(fb lb n1 pb:Bool):List Nat:=cond fb [48+b] []++cond lb [45] (cond (n1||pb) [43] [])
noncomputable def i8(lb n1 pb:Bool):Bool:= !lb&&(n1||pb)
noncomputable def RB(x:Cx)(rows cA:List MV)(col n line dQ f l p:Nat)(a:Nat→Option MV):eN:=R [.str x.v,.int (x.v.length:Nat),.none,.none,.none,.none,.none,.int (col:Nat),.int ((col+n:Nat):Int),.none,.int (x.M:Nat),.none,.int (line:Nat),.int ((line+1:Nat):Int),.none,.none,.none,.none,.none,.int (dQ:Nat),x.e.state,x.e.event,x.e.fy,x.e.root,x.e.seq,x.e.map,x.e.sk,x.e.oe,x.e.bi,x.e.tp,x.e.an,x.e.st,.none,.none,.none,.none,.none,x.e.au,.none,.none,.none,bw f,bw l,bw p] [x.w0,x.w1,rows,x.states,x.events,x.aK,cA] a
noncomputable def XF(b:Nat)(pl:Bool):Em:={Vw with bi:=.int b,line:=X 13,oe:=.bool pl}
noncomputable def C3(q:Nat)(ws:Bool)(h:List Nat):List Nat:=cond ws (q::h) (32::q::h)
noncomputable def bSt(s:aB)(l:aR)(n q b:Nat)(ws:Bool)(h:List Nat)(pl:Bool):xh:={n:=60,s:=s,l:=l,h:=sE 2 [.str (C3 q ws h),.str [10]] (XF b pl),l':=fl n,h':=sE 6 [] {XF b pl with line:=X 19}}
noncomputable def hF(fb lb n1 pb:Bool)(n:Nat)(st:List xh):Facts:={ny:=[(X 0,true)],cmp:=[(.In,X 41,.str [32,10,133,8232,8233],fb),(.NotIn,X 42,.str [10,133,8232,8233],lb),(.In,X 43,.str [10,133,8232,8233],pb),(.Eq,X 1,.int 1,n1)],sub:=(X 0,.int 0,X 41)::(X 0,.int (-1),X 42)::cond n1 [] [(X 0,.int (-2),X 43)],bi:=[(.len,X 0,X 1)],aug:=[(.Add,X 7,.int n,X 8),(.Add,X 12,.int 1,X 13)],room:=[2,6],st:=st}
noncomputable def wK(l:aR)(h:List Nat):aR:=l.set 2 (.v (.str h))
noncomputable def OE(f:Nat)(w:eL)(s:aB)(σ q b:Nat)(ws ind fb lb n1 pb:Bool):Bool:=fK L1.prog (hF fb lb n1 pb (C3 q ws (Qo b fb lb n1 pb)).length [bSt s (wK (w.aP σ (.int 0) (.int 0) (λ_=>.u)) (Qo b fb lb n1 pb)) w.n q b ws (Qo b fb lb n1 pb) (i8 lb n1 pb)]) 75 f [.obj 4,X 0] (sE 2 [] {gk with bi:=.int b,ws:=.bool ws,ind:=.bool ind}) .none (sE 6 [] {XF b (i8 lb n1 pb) with line:=X 19})
theorem b59:([2,3,4].all λb=>bools.all λws=>bools.all λind=>bools.all λfb=>bools.all λlb=>bools.all λn1=>bools.all λpb=>OE 59 ua Kn 1 124 b ws ind fb lb n1 pb)=true:=by kernel_rfl
theorem TS:([2,3,4].all λb=>bools.all λws=>bools.all λind=>bools.all λfb=>bools.all λlb=>bools.all λn1=>bools.all λpb=>OE 58 ud Kq 5 62 b ws ind fb lb n1 pb)=true:=by kernel_rfl
theorem KC{len i:Nat}(h:i+1≤len):idx len (-((i+1:Nat):Int))=some (len - (i+1)):=if_pos h
theorem Gh{s:List Nat}{i c:Nat}(h:s[s.length - (i+1)]? =some c)(hi:i+1≤s.length)(hl:i≤1000)(H:Hp):dP (.str s) (.int (-((i+1:Nat):Int))) H=some (.str [c]):=by
 have hs:bC (-((i+1:Nat):Int))=true:=by unfold bC;rw [Bool.and_eq_true];exact ⟨decide_eq_true (by lia),decide_eq_true (by lia)⟩
 exact S9 hs (KC hi) h H
theorem AH{x:Cx}{b:Nat}(h:x.e.bi=.int b){rows:List MV}{col line:Nat}{ws ind:MV}:hw x rows col line ws ind=hE x.w0 x.w1 rows x.states x.events x.aK {x.em col line ws ind with bi:=.int b}:=by rw [← h];rfl
theorem CJ{c:Nat}{s:List Nat}{b:Bool}(h:s.contains c=b):dz .In (bw c) (.str s)=some b:=congrArg some h
theorem TU{c:Nat}{s:List Nat}{b:Bool}(h:(!s.contains c)=b):dz .NotIn (bw c) (.str s)=some b:=congrArg some h
theorem Gi(c n:Nat):(c==n)=Nat.beq c n:=by
 cases h:Nat.beq c n with
 |true=>rw [cG h];exact beq_self_eq_true n
 |false=>exact beq_false_of_ne (Nat.ne_of_beq_eq_false h)
theorem n9(c:Nat):[10,133,8232,8233].contains c=aW c:=by rw [List.contains_cons,List.contains_cons,List.contains_cons,List.contains_cons,List.contains_nil,Bool.or_false,Gi,Gi,Gi,Gi];rfl
theorem OF(c:Nat):[32,10,133,8232,8233].contains c=(Nat.beq c 32||aW c):=by rw [List.contains_cons,n9,Gi]
noncomputable def hints(b:Nat)(v:List Nat):List Nat:=Qo b (Nat.beq (v.headD 0) 32||aW (v.headD 0)) (!aW (v.getLastD 0)) (decide (v.length=1)) (aW (v.getD (v.length - 2) 0))
noncomputable def plus(v:List Nat):Bool:=i8 (!aW (v.getLastD 0)) (decide (v.length=1)) (aW (v.getD (v.length - 2) 0))
theorem KD{q:Nat}{ws:Bool}{h:List Nat}{Q:List MV}{o:List Nat}(e:aC Q=some o):aC (.str (C3 q ws h)::.str [10]::Q)=some (cond ws [] [32]++(q::(h++(10::o)))):=by
 show ((aC Q).map _).map _=_
 rw [e];cases ws<;>rfl
theorem cl{b:Bool}{x y:List Nat}{n:Nat}(hx:x.length≤n)(hy:y.length≤n):(cond b x y).length≤n:=by
 cases b
 ·exact hy
 ·exact hx
theorem TV{q b:Nat}{ws:Bool}{v:List Nat}:(C3 q ws (hints b v)).length≤10:=by
 have h:∀a1 a2 a3 a4,(Qo b a1 a2 a3 a4).length≤2:=λa1 a2 a3 a4=>ak (Nat.le_of_eq aY) (Nat.add_le_add (cl (n:=1) (bf _) (Nat.zero_le _)) (cl (n:=1) (bf _) (cl (bf _) (Nat.zero_le _))))
 exact cl (ak (Nat.succ_le_succ (h _ _ _ _)) (by decide)) (ak (Nat.succ_le_succ (Nat.succ_le_succ (h _ _ _ _))) (by decide))
theorem rq2{r Q n:Nat}(h:r+2+Q≤n+10):r+(Q+1+1)≤n+20:=by lia
theorem XG{α:Type}{l Q:List α}{a b:α}:l++[a,b]++Q=l++(a::b::Q):=bJ ..
theorem at_neg{v:List Nat}{i:Nat}(h:i+1≤v.length):v[v.length - (i+1)]? =some (v.getD (v.length - (i+1)) 0):=by rw [List.getD_eq_getElem?_getD,List.getElem?_eq_getElem (Nat.sub_lt (Nat.lt_of_lt_of_le (Nat.succ_pos i) h) (Nat.succ_pos i))];rfl
theorem KG{v:List Nat}(h:1≤v.length):v[v.length - 1]? =some (v.getLastD 0):=by
 cases v with
 |nil=>exact absurd h (by decide)
 |cons c t=>rw [← List.getLast?_eq_getElem?];rfl
theorem KH{v:List Nat}(h:1≤v.length):v[0]? =some (v.headD 0):=by
 cases v with
 |nil=>exact absurd h (by decide)
 |cons _ _=>rfl
theorem OG{n:Nat}(h:1≤n)(h1:decide (n=1)=false):2≤n:=Nat.lt_of_le_of_ne h (Ne.symm (of_decide_eq_false h1))
section
variable {f:Nat}{w:eL}{s:aB}{q rY b:Nat}{x:Cx}{rows:List MV}{col line:Nat}{ws ind:Bool}(C:cV x rows col line)(hb:x.e.bi=.int b)
include C hb
theorem OH{G:Nat→Bool→Bool→Prop}{out:List Nat}{z:F5}(h:CC ((x.sp (.str (hints b x.v))).oe (.bool (plus x.v))) w.n G (λk=>w.W k dF (w.L ((x.sp (.str (hints b x.v))).oe (.bool (plus x.v))) rY 0 0 (λ_=>none)) (hw ((x.sp (.str (hints b x.v))).oe (.bool (plus x.v))) (rows++[.str (C3 q ws (hints b x.v)),.str [10]]) 0 (line+1) (.bool true) (.bool true))) (rows++[.str (C3 q ws (hints b x.v)),.str [10]]) out z)
  (g1:z.col=0) (g2:z.ws=true) (g3:z.ind=true) (Oz:s=.cR w.c w.b) (OI:∀(ρ:eN) (h:List Nat),ρ.v 0=.str x.v→aG ρ (wK (w.aP rY (.int 0) (.int 0) (λ_=>.u)) h)=w.L (x.sp (.str h)) rY 0 0 (λ_=>none)):
  Holds L1.prog (RB x rows (rows++[.str (C3 q ws (hints b x.v)),.str [10]]++z.Q) col (C3 q ws (hints b x.v)).length line z.line (x.v.headD 0) (x.v.getLastD 0) (x.v.getD (x.v.length - 2) 0) z.a) (hF (Nat.beq (x.v.headD 0) 32||aW (x.v.headD 0)) (!aW (x.v.getLastD 0)) (decide (x.v.length=1)) (aW (x.v.getD (x.v.length - 2) 0)) (C3 q ws (hints b x.v)).length [bSt s (wK (w.aP rY (.int 0) (.int 0) (λ_=>.u)) (hints b x.v)) w.n q b ws (hints b x.v) (plus x.v)]) where
 ny:=af (λ_=>congrArg some C.ne) aa
 cmp:=af (CJ (OF _)) (af (TU (congrArg (!·) (n9 _))) (af (CJ (n9 _)) (af (yJ (b:=1) rfl) aa)))
 bin:=aa
 sub:=af (lN (i:=0) (KH C.ok.len.1) (by decide)) (af (Gh (i:=0) (KG C.ok.len.1) C.ok.len.1 (by decide)) (by
  have t:=OG C.ok.len.1;revert t
  cases decide (x.v.length=1) with
  |true=>exact λ_=>aa
  |false=>exact λt=>af (Gh (i:=1) (at_neg (t rfl)) (t rfl) (by decide)) aa))
 qM:=aa
 bi:=af (lM rfl) aa
 join:=aa
 room:=af (CB C.r5) (af (CB (h.r6 C.ok.B2)) aa)
 aug:=af (dH rfl (ak (Nat.add_le_add C.c9 TV) (by decide))) (af (dH (b:=1) rfl (ak (Nat.succ_le_succ C.l9) (by decide))) aa)
 starts:=aa
 st:=af (λk hk=>by
  have e:=h.run k hk;rw [g1,g2,g3,AH (x:=(x.sp (.str (hints b x.v))).oe (.bool (plus x.v))) hb,AH (x:=(x.sp (.str (hints b x.v))).oe (.bool (plus x.v))) hb] at e;show gp L1.prog (E L1.prog k) s (aG _ (wK (w.aP rY (.int 0) (.int 0) (λ_=>.u)) (hints b x.v))) _=some (.next,aG _ (fl w.n),_)
  rw [OI _ _ rfl,Oz,lO];exact e) aa
 ev:=aa
 call:=aa
theorem AI{s1:Nat}{out r:List Nat}(Oz:s=.cR w.c w.b)
  (D8:∀(x':Cx) (qv:List MV),jA x'→x'.v=x.v→x'.M=x.M→x'.au=x.au→x'.B2=x.B2→qv.length+1000≤10 * x'.B2→Fin x' w.n (w.G s1 r true true) (λk=>w.W k dF (w.L x' rY 0 0 (λ_=>none)) (hw x' qv 0 (line+1) (.bool true) (.bool true))) qv out)
  (hZ:w.Z s1 r) (OI:∀(ρ:eN) (h:List Nat),ρ.v 0=.str x.v→aG ρ (wK (w.aP rY (.int 0) (.int 0) (λ_=>.u)) h)=w.L (x.sp (.str h)) rY 0 0 (λ_=>none))
  (hq:∀fb lb n1 pb,OE f w s rY q b ws ind fb lb n1 pb=true):Wr x f [.obj 4,.str x.v] rows col line ws ind ⟨sep ws++(q::(hints b x.v++(10::out))),true,true,.bool (plus x.v),true,false⟩:=
 (D8 ((x.sp (.str (hints b x.v))).oe (.bool (plus x.v))) (rows++[.str (C3 q ws (hints b x.v)),.str [10]]) (cV.oe (cV.sp C.ok _) _) rfl rfl rfl rfl (by rw [aY];exact ak (dD (by decide:2+1000≤2000) rows.length|>ak (Nat.le_of_eq (Nat.add_assoc _ _ _))) C.rows)).elim λz h=>
  have g:=h.G.1 hZ
  ⟨⟨.str (C3 q ws (hints b x.v))::.str [10]::z.Q,0,z.line⟩,λk hk=>by
    have e:=eX (OH C hb h g.1 g.2.1 g.2.2 Oz OI) (hq _ _ _ _) hk;show _=some (MV.none,hw (x.oe (.bool (plus x.v))) (rows++(MV.str (C3 q ws (hints b x.v))::.str [10]::z.Q)) 0 z.line (.bool true) (.bool true))
    rw [AH (x:=x.oe (.bool (plus x.v))) hb, ← XG];refine Eq.trans ?_ e;rw [AH hb];rfl,KD h.j,Nat.zero_le _,ak h.line (bZ x.B2 4),
   by have r:=h.room;rw [aY] at r;exact rq2 r,λ_=>rfl,nofun⟩
end
section
variable {x:Cx}{rows:List MV}{col line b:Nat}{ws ind:Bool}(C:cV x rows col line)(hb:x.e.bi=.int b)(XH:b∈[2,3,4])
include C
theorem cV.ln1{B:Nat}(e:B=x.B2):line+1+100≤B:=by rw [e];exact ak (ak (Nat.le_of_eq (Nat.add_assoc line 1 100)) (ak (dD (by decide) _) (ak (cO (bZ line (4 * x.v.length)) 110) (bf _)))) C.line
include hb XH
theorem OJ:Wr x 59 [.obj 4,.str x.v] rows col line ws ind ⟨sep ws++(124::(hints b x.v++(10::lq x.M true x.v))),true,true,.bool (plus x.v),true,false⟩:=by
 obtain ⟨c,r,hv⟩:∃c r,x.v=c::r:=List.exists_cons_of_length_pos C.ok.len.1;have xm:c∈bH:=C.ok.v c (by rw [hv];exact cy ..)
 have XI:cond (aW c) [] (eT x.M)++ua.out x.M (cond (aW c) 1 0) [c] r=lq x.M true x.v:=by
  rw [hv];show _=cond (aW c) (c::lq x.M true r) (eT x.M++c::lq x.M false r)
  cases aW c<;>rfl
 rw [← XI];have hg:ua.gm (cond (aW c) 1 0)=true→aW c=true:=by
  cases aW c
  ·exact nofun
  ·exact λ_=>rfl
 exact AI (w:=ua) (s:=Kn) (rY:=1) (s1:=cond (aW c) 1 0) (r:=r) C hb rfl (λx' qv By e1 e2 e3 e4 hr=>e2▸eL.start (w:=ua) (Xx x'.au) By (e1.trans hv) (cV.ln1 C e4) hr (λd hd=>yI (By.v d hd)) qm (λf one b0 b1=>ao (Vu x'.au f one b0 b1) xm) ⟨by cases aW c<;>decide,λ_=>rfl,hg⟩ hg) trivial (λρ h h0=>by
  show [some (MV.obj 4),some (ρ.v 0),some (MV.str h),_,_,_,_,_,_]=_
  rw [h0];rfl) λfb lb n1 pb=>ao (ao (ao (ao (ao (ao (ao b59 XH) (ay ws)) (ay ind)) (ay fb)) (ay lb)) (ay n1)) (ay pb)
theorem OL{c:Nat}{r:List Nat}(hv:x.v=c::r)(wL:(c::r).getLast (List.cons_ne_nil _ _)≠32):Wr x 58 [.obj 4,.str x.v] rows col line ws ind ⟨sep ws++(62::(hints b x.v++(10::(cond (aW c) [] (eT x.M)++jB iN x.M r (cond (aW c) 5 (cond (Nat.beq c 32) 4 0)) [c])))),true,true,.bool (plus x.v),true,false⟩:=by
 have xm:c∈bH:=C.ok.v c (by rw [hv];exact cy ..)
 have hs:cond (aW c) 5 (cond (Nat.beq c 32) 4 0)< 6:=by cases aW c<;>cases Nat.beq c 32<;>decide
 have Kg:ud.gm (cond (aW c) 5 (cond (Nat.beq c 32) 4 0))=true→aW c=true:=by
  cases aW c
  ·cases Nat.beq c 32<;>exact nofun
  ·exact λ_=>rfl
 have hZ:ud.Z (cond (aW c) 5 (cond (Nat.beq c 32) 4 0)) r:=by
  cases r with
  |nil=>
   have Hu:Nat.beq c 32=false:=Bool.eq_false_iff.mpr λq=>wL (cG q)
   rw [Hu]
   cases aW c
   ·exact (by decide:jC 0≠1)
   ·exact (by decide:jC 5≠1)
  |cons d r=>rw [List.getLast_cons (List.cons_ne_nil _ _)] at wL;exact wL
 exact AI (w:=ud) (s:=Kq) (rY:=5) (s1:=cond (aW c) 5 (cond (Nat.beq c 32) 4 0)) (r:=r) C hb rfl (λx' qv By e1 e2 e3 e4 hr=>e2▸eL.start (w:=ud) (Xz x'.au) By (e1.trans hv) (cV.ln1 C e4) hr (λd hd=>yI (By.v d hd)) qm (λf one b0 b1=>ao (Vt x'.au f one b0 b1) xm) ⟨hs,λ_=>rfl,Kg⟩ Kg) hZ (λρ h h0=>by
  show [some (MV.obj 4),some (ρ.v 0),some (MV.str h),_,_,_,_,_,_,_,_]=_
  rw [h0];rfl) λfb lb n1 pb=>ao (ao (ao (ao (ao (ao (ao TS XH) (ay ws)) (ay ind)) (ay fb)) (ay lb)) (ay n1)) (ay pb)
end
noncomputable def lS:aB:=L1.NY.body.getD 17 .pass
noncomputable def nR(c:Nat):Bool:=[0,32,9,13,10,133,8232,8233].contains c
noncomputable def nS:List Nat:=[35,44,91,93,123,125,38,42,33,124,62,39,34,37,64,96]
noncomputable def OM:List Nat:=[44,63,91,93,123,125]
noncomputable def asc(c:Nat):Bool:=Nat.beq c 10||(Nat.ble 32 c&&Nat.ble c 126)
noncomputable def XJ(c:Nat):Bool:= !asc c&&((Nat.beq c 133||((Nat.ble 160 c&&Nat.ble c 55295)||((Nat.ble 57344 c&&Nat.ble c 65533)||(Nat.ble 65536 c&&Nat.ble (c+1) 1114111))))&& !Nat.beq c 65279)
noncomputable def ON(au:Bool)(c:Nat):Bool:= !asc c&&(!XJ c|| !au)
noncomputable def pf(au first last iP pre ps pb:Bool)(c:Nat):Nat→Bool
 |0=>cond first (nS.contains c||((Nat.beq c 63||Nat.beq c 58)&&iP||Nat.beq c 45&&iP)) (Nat.beq c 58&&iP||Nat.beq c 35&&pre)
 |1=>cond first (nS.contains c||((Nat.beq c 63||Nat.beq c 58)||Nat.beq c 45&&iP)) (OM.contains c||(Nat.beq c 58||Nat.beq c 35&&pre))
 |2=>aW c
 |3=>ON au c
 |4=>Nat.beq c 32&&first
 |5=>aW c&&first
 |6=>Nat.beq c 32&&last
 |7=>aW c&&last
 |8=>Nat.beq c 32&&pb
 |_=>aW c&&ps
noncomputable def aL(fs:Nat→MV)(p f ps pb i:MV)(os:Nat→SL):aR:=[.v (.obj 4),.v (X 0),.v (fs 0),.v (fs 1),.v (fs 2),.v (fs 3),.v (fs 4),.v (fs 5),.v (fs 6),.v (fs 7),.v (fs 8),.v (fs 9),.v p,.v f,.v ps,.v pb,.v i,os 0,os 1,os 2,os 3,os 4,os 5,os 6]
noncomputable def aF(au first last iP pre ps pb e b:Bool)(c:Nat):Facts:={
 ny:=[(X 40,pre),(X 41,iP),(X 42,ps),(X 43,pb),(X 37,au)],
 cmp:=[(.Lt,X 3,X 1,true),(.Eq,X 3,.int 0,first),(.Eq,X 3,X 16,last),(.GtE,X 5,X 1,e),(.In,X 44,.str [0,32,9,13,10,133,8232,8233],b)],
 bin:=[(.Sub,X 1,.int 1,X 16),(.Add,X 4,.int 1,X 5)],
 sub:=(X 0,X 3,bw c)::cond e [] [(X 0,X 5,X 44)],
 bi:=[(.len,X 0,X 1)],
 aug:=[(.Add,X 3,.int 1,X 4)]}
noncomputable def mO(au first last iP pre ps pb e b:Bool)(c:Nat):Bool:=n7 L1.prog (aF au first last iP pre ps pb e b c) 60 (C1 lS) (F1 lS) (aL (λk=>X (50+k)) (X 40) (X 41) (X 42) (X 43) (X 3) .o) (sE 2 [] gk)
 (aL (λk=>cond (pf au first last iP pre ps pb c k) (.bool true) (X (50+k))) (.bool (nR c)) (.bool (e||b)) (.bool (Nat.beq c 32)) (.bool (aW c)) (X 4) (λi=>cond (Nat.beq i 0) (.v (bw c)) (cond (Nat.beq i 1) (cond (XJ c) (.v (.bool true)) (.o 1)) (.o i)))) (sE 2 [] gk)
noncomputable def gA:List Nat:=[97,98,99,100,233,44,39,101,9,34,92,128512,7,37,8364,160]
noncomputable def gB:List Nat:=[58,63,45]
noncomputable def gC:List Nat:=[32,10,8232,133]
section
variable (au first last iP pre ps pb b:Bool)
theorem XK:(bools.all λau=>bools.all λfirst=>gA.all λc=>mO au first last iP pre ps pb true b c&&bools.all λb=>mO au first last iP pre ps pb false b c)=true:=by kernel_rfl
theorem XM:(bools.all λfirst=>bools.all λiP=>gB.all λc=>mO au first last iP pre ps pb true b c&&bools.all λb=>mO au first last iP pre ps pb false b c)=true:=by kernel_rfl
theorem XN:(bools.all λfirst=>bools.all λpre=>mO au first last iP pre ps pb true b 35&&bools.all λb=>mO au first last iP pre ps pb false b 35)=true:=by kernel_rfl
theorem XO:(bools.all λau=>bools.all λfirst=>bools.all λlast=>bools.all λps=>bools.all λpb=>gC.all λc=>mO au first last iP pre ps pb true b c&&bools.all λb=>mO au first last iP pre ps pb false b c)=true:=by kernel_rfl
theorem ue{p:Bool→Bool→Bool}{b:Bool}(h:(p true b&&bools.all λb=>p false b)=true)(e:Bool):p e b=true:=by
 have h:=bl.mp h
 cases e with
 |true=>exact h.1
 |false=>exact ao h.2 (ay b)
theorem yP{c:Nat}(h:c∈bH):c∈gA∨c∈gB∨c=35∨c∈gC:=by
 have:(bH.all λc=>gA.contains c||(gB.contains c||(Nat.beq c 35||gC.contains c)))=true:=by decide
 have:=ao this h;rw [Bool.or_eq_true,Bool.or_eq_true,Bool.or_eq_true,List.contains_iff_mem,List.contains_iff_mem,List.contains_iff_mem] at this;rcases this with h|h|h|h
 ·exact .inl h
 ·exact .inr (.inl h)
 ·exact .inr (.inr (.inl (cG h)))
 ·exact .inr (.inr (.inr h))
theorem a48(e:Bool){c:Nat}(h:c∈bH):mO au first last iP pre ps pb e b c=true:=by
 rcases yP h with h|h|rfl|h
 ·exact ue (p:=λe b=>mO au first last iP pre ps pb e b _) (ao (ao (ao (XK last iP pre ps pb b) (ay au)) (ay first)) h) e
 ·exact ue (p:=λe b=>mO au first last iP pre ps pb e b _) (ao (ao (ao (XM au last pre ps pb b) (ay first)) (ay iP)) h) e
 ·exact ue (p:=λe b=>mO au first last iP pre ps pb e b _) (ao (ao (XN au last iP ps pb b) (ay first)) (ay pre)) e
 ·exact ue (p:=λe b=>mO au first last iP pre ps pb e b _) (ao (ao (ao (ao (ao (ao (XO iP pre b) (ay au)) (ay first)) (ay last)) (ay ps)) (ay pb)) h) e
end
structure Az where
 w0:List MV
 w1:List MV
 rows:List MV
 states:List MV
 events:List MV
 aK:List MV
 e:Em
 v:List Nat
noncomputable def Az.h(z:Az):Hp:=hE z.w0 z.w1 z.rows z.states z.events z.aK z.e
structure Aq where
 pre:Bool
 fo:Bool
 ps:Bool
 pb:Bool
 i:Nat
 a:Nat→Option MV
noncomputable def RA(z:Az)(q:Aq)(F:Nat→Bool)(d:Nat)(p1 p2 p3 p4:Bool):eN:=R [.str z.v,.int (z.v.length:Nat),.none,.int (q.i:Nat),.int ((q.i+1:Nat):Int),.int ((q.i+2:Nat):Int),.none,z.e.col,.none,.none,z.e.indent,.none,z.e.line,.none,.none,.none,.int ((z.v.length - 1:Nat):Int),.none,.none,.none,z.e.state,z.e.event,z.e.fy,z.e.root,z.e.seq,z.e.map,z.e.sk,z.e.oe,z.e.bi,z.e.tp,z.e.an,z.e.st,.none,z.e.ws,z.e.ind,.none,.none,z.e.au,.none,.none,.bool q.pre,.bool q.fo,.bool q.ps,.bool q.pb,bw d,.none,.none,.none,.none,.none,.bool (F 0),.bool (F 1),.bool (F 2),.bool (F 3),.bool (F 4),.bool (F 5),.bool (F 6),.bool (F 7),.bool (F 8),.bool (F 9),.bool p1,.bool p2,.bool p3,.none,.bool p4] [z.w0,z.w1,z.rows,z.states,z.events,z.aK] q.a
noncomputable def iP(r:List Nat):Bool:=match r with
 |[]=>true
 |d::_=>nR d
theorem OO(r:List Nat):iP (r.drop 1)=(decide (r.length≤1)||nR ((r.drop 1).headD 0)):=by
 cases r with
 |nil=>rfl
 |cons a r=>
  cases r with
  |nil=>rfl
  |cons b r=>exact (congrArg (·||nR b) (decide_eq_false (Nat.not_le.mpr (Nat.succ_lt_succ (Nat.succ_pos _))))).symm
noncomputable def uf:List Nat:=[0,1,2,3,4,5,6,7,8,9]
noncomputable def AF(v:List Nat)(f:Nat→MV)(q:Aq):Loc:=some (.obj 4)::some (.str v)::((uf.map λk=>some (f k))++[some (.bool q.pre),some (.bool q.fo),some (.bool q.ps),some (.bool q.pb),some (.int (q.i:Nat)),q.a 0,q.a 1,q.a 2,q.a 3,q.a 4,q.a 5,q.a 6])
noncomputable def AL(v:List Nat)(F:Nat→Bool)(q:Aq):Loc:=AF v (λk=>.bool (F k)) q
noncomputable def Aq.at(first:Bool)(prev:Nat)(s:List Nat)(i:Nat)(a:Nat→Option MV):Aq:=⟨first||nR prev,iP (s.drop 1), !first&&Nat.beq prev 32, !first&&aW prev,i,a⟩
noncomputable def eE(P:Bool→Nat→Nat→List Nat→Bool):Bool→Nat→List Nat→Bool
 |_,_,[]=>false
 |first,prev,c::r=>P first prev c r||eE P false c r
noncomputable def pk(au:Bool)(k:Nat)(first:Bool)(prev c:Nat)(r:List Nat):Bool:=pf au first r.isEmpty (iP r) (first||nR prev) (!first&&Nat.beq prev 32) (!first&&aW prev) c k
theorem XQ:JZ L1.prog {cmp:=[(.Lt,X 3,X 1,false)],bi:=[(.len,X 0,X 1)]} 60 (C1 lS) (aL (λk=>X (50+k)) (X 40) (X 41) (X 42) (X 43) (X 3) .o) (sE 2 [] gk) false (sE 2 [] gk)=true:=by kernel_rfl
theorem XR{ρ:eN}{b B:Bool}{x:MV}(h:x.I ρ=.bool B):(cond b (.bool true) x).I ρ=.bool (B||b):=by
 cases b with
 |true=>rw [Bool.or_true];rfl
 |false=>rw [Bool.or_false];exact h
theorem OP{ρ:eN}{v:List Nat}{q:Aq}{P F:Nat→Bool}{p f s b i:MV}{os:Nat→SL}(h0:ρ.v 0=.str v)(h:∀k∈uf,(X (50+k)).I ρ=.bool (F k))(hp:p.I ρ=.bool q.pre)(hf:f.I ρ=.bool q.fo)(hs:s.I ρ=.bool q.ps)(hb:b.I ρ=.bool q.pb)(hi:i.I ρ=.int (q.i:Nat))(ha:∀i,(os i).I ρ=q.a i):aG ρ (aL (λk=>cond (P k) (.bool true) (X (50+k))) p f s b i os)=AL v (λk=>F k||P k) q:=by
 have e:(uf.map λk=>some ((cond (P k) (.bool true) (X (50+k))).I ρ))=uf.map λk=>some (.bool (F k||P k)):=List.map_congr_left λk hk=>congrArg some (XR (h k hk))
 show some (MV.obj 4)::some (ρ.v 0)::((uf.map λk=>some ((cond (P k) (.bool true) (X (50+k))).I ρ))++[some (p.I ρ),some (f.I ρ),some (s.I ρ),some (b.I ρ),some (i.I ρ),(os 0).I ρ,(os 1).I ρ,(os 2).I ρ,(os 3).I ρ,(os 4).I ρ,(os 5).I ρ,(os 6).I ρ])=_
 rw [h0,e,hp,hf,hs,hb,hi,ha,ha,ha,ha,ha,ha,ha];rfl
theorem OQ{r:List Nat}(h:decide (r.length≤1)=false):r[1]? =some ((r.drop 1).headD 0):=by
 cases r with
 |nil=>cases h
 |cons a r=>
  cases r with
  |nil=>cases h
  |cons b r=>rfl
section
variable {z:Az}{q:Aq}{F:Nat→Bool}{d:Nat}{p1 p2 p3 p4:Bool}
theorem X_I{k:Nat}(h:k∈uf):(X (50+k)).I (RA z q F d p1 p2 p3 p4)=.bool (F k):=(af (p:=λk=>(X (50+k)).I (RA z q F d p1 p2 p3 p4)=.bool (F k)) rfl<|af rfl<|af rfl<|af rfl<|af rfl<|af rfl<|af rfl<|af rfl<|af rfl<|af rfl aa) k h
variable {p r:List Nat}{c:Nat}{au:Bool}(qN:z.e.au=.bool au)(hl:z.v.length≤1000)(hv:z.v=p++c::r)
include qN hl hv
theorem Gj{pre fo ps pb:Bool}{a:Nat→Option MV}:Holds L1.prog (RA z ⟨pre,fo,ps,pb,p.length,a⟩ F ((r.drop 1).headD 0) p1 p2 p3 p4) (aF au p.isEmpty r.isEmpty fo pre ps pb (decide (r.length≤1)) (nR ((r.drop 1).headD 0)) c):=
 have hlen:z.v.length=p.length+(r.length+1):=(congrArg List.length hv).trans aY;have XS:p.length< z.v.length:=Nat.lt_of_lt_of_le (Nat.lt_add_of_pos_right (Nat.succ_pos _)) (Nat.le_of_eq hlen.symm);have hp:p.length≤1000:=ak (Nat.le_of_lt XS) hl
 {ny:=af (λ_=>rfl)<|af (λ_=>rfl)<|af (λ_=>rfl)<|af (λ_=>rfl)<|af (λh=>congrArg (truthy · h) qN) aa
  cmp:=af (wG (decide_eq_true XS))<|af (yJ (b:=0) (by cases p<;>rfl))<|af (yJ (by
    rw [hlen]
    cases r with
    |nil=>exact decide_eq_true rfl
    |cons _ _=>exact decide_eq_false (Nat.ne_of_lt (Nat.lt_add_of_pos_right (Nat.succ_pos _)))))<|af (N9 (by rw [hlen];exact decide_eq_decide.mpr (Nat.add_le_add_iff_left.trans Nat.succ_le_succ_iff)))<|af (CJ rfl) aa
  bin:=af (Au (b:=1) (Nat.add_sub_cancel' (Nat.lt_of_le_of_lt (Nat.zero_le _) XS)) (big hl))<|af (As (b:=1) rfl (ak (cO hp 2) (by decide))) aa
  sub:=af (lN (by rw [hv,List.getElem?_append_right (bf _),Nat.sub_self];rfl) (big hp)) (by
    have h:=@OQ r;revert h
    cases decide (r.length≤1) with
    |true=>exact λ_=>aa
    |false=>exact λh=>af (lN (by rw [hv,List.getElem?_append_right (bZ _ 2),Nat.add_sub_cancel_left];exact h rfl) (ak (cO hp 2) (by decide))) aa)
  qM:=aa
  bi:=af (lM rfl) aa
  join:=aa
  room:=aa
  aug:=af (dH (b:=1) rfl (yL hp)) aa
  starts:=aa
  st:=aa
  ev:=aa
  call:=aa}
theorem TX(xm:c∈bH){prev:Nat}{a:Nat→Option MV}:∃a',∀k,60≤k→∀j,eU (E L1.prog k) (C1 lS) (F1 lS) (j+1) (AL z.v F (Aq.at p.isEmpty prev (c::r) p.length a)) z.h=eU (E L1.prog k) (C1 lS) (F1 lS) j (AL z.v (λk=>F k||pk au k p.isEmpty prev c r) (Aq.at false c r (p++[c]).length a')) z.h:=by
 refine ⟨λi=>(cond (Nat.beq i 0) (SL.v (bw c)) (cond (Nat.beq i 1) (cond (XJ c) (.v (.bool true)) (.o 1)) (.o i))).I (RA z (Aq.at p.isEmpty prev (c::r) p.length a) F ((r.drop 1).headD 0) true true true true),λk hk j=>(kR (Gj (F:=F) (p1:=true) (p2:=true) (p3:=true) (p4:=true) qN hl hv) (a48 au p.isEmpty r.isEmpty (iP r) (p.isEmpty||nR prev) (!p.isEmpty&&Nat.beq prev 32) (!p.isEmpty&&aW prev) (nR ((r.drop 1).headD 0)) (decide (r.length≤1)) xm) hk j).trans (congrArg (λl=>eU (E L1.prog k) (C1 lS) (F1 lS) j l z.h) ?_)⟩
 unfold Aq.at;rw [OO r,aY];exact OP rfl (λk hk=>X_I hk) rfl rfl rfl rfl rfl λ_=>rfl
end
section
variable {z:Az}{au:Bool}(qN:z.e.au=.bool au)(hl:z.v.length≤1000)(xg:∀c∈z.v,c∈bH)
include qN hl xg
theorem KI(r:List Nat):∀(p:List Nat) (F G:Nat→Bool) (prev j:Nat) (a:Nat→Option MV),z.v=p++r→(∀k,G k=(F k||eE (pk au k) p.isEmpty prev r))→
  ∃q,∀k,60≤k→eU (E L1.prog k) (C1 lS) (F1 lS) (j+1+r.length) (AL z.v F (Aq.at p.isEmpty prev r p.length a)) z.h=some (.next,AL z.v G q,z.h):=by
 induction r with
 |nil=>
  intro p F G prev j a hv hG;obtain rfl:G=F:=funext λk=>(hG k).trans (Bool.or_false _)
  have K:Holds L1.prog (RA z (Aq.at p.isEmpty prev [] p.length a) G 0 true true true true) {cmp:=[(.Lt,X 3,X 1,false)],bi:=[(.len,X 0,X 1)]}:=⟨aa,af (wG (Oc (Nat.le_of_eq (congrArg List.length (hv.trans (cH _)))))) aa,aa,aa,aa,af (lM rfl) aa,aa,aa,aa,aa,aa,aa,aa⟩;exact ⟨_,λk hk=>rT K XQ hk j⟩
 |cons c r ih=>
  intro p F G prev j a hv hG;obtain ⟨a',e⟩:=TX (F:=F) qN hl hv (xg c (by rw [hv];exact List.mem_append_right _ (cy ..))) (prev:=prev) (a:=a)
  have hp:(p++[c]).isEmpty=false:=by cases p<;>rfl
  obtain ⟨q,h⟩:=ih (p++[c]) (λk=>F k||pk au k p.isEmpty prev c r) G c j a' (by rw [hv,bJ];rfl) (λk=>by rw [hG k,hp,Bool.or_assoc];rfl)
  rw [hp] at h;exact ⟨q,λk hk=>(e k hk _).trans (h k hk)⟩
theorem OS{F G:Nat→Bool}(hG:∀k,G k=(F k||eE (pk au k) true 0 z.v)):∃q,∀k,60≤k→eU (E L1.prog k) (C1 lS) (F1 lS) dF (AL z.v F (Aq.at true 0 z.v 0 (λ_=>none))) z.h=some (.next,AL z.v G q,z.h):=by
 have h:=KI qN hl xg z.v [] F G 0 (dF - (1+z.v.length)) (λ_=>none) rfl hG
 rw [Nat.add_assoc,Nat.sub_add_cancel (ak (dD hl 1) (by decide))] at h
 exact h
end
theorem yQ{P:Prog}{k:Nat}{b:List aB}{l1:Loc}{h1:Hp}{a:List aB}:∀{l:Loc} {h:Hp},(E P (k+a.length)).ex a l h=some (.next,l1,h1)→(E P (k+a.length)).ex (a++b) l h=(E P k).ex b l1 h1:=by
 induction a with
 |nil=>
  intro l h e
  cases k with
  |zero=>exact no e
  |succ k=>
   have e:some (Fl.next,l,h)=some (Fl.next,l1,h1):=e
   exact congrArg (λz:Fl×Loc×Hp=>(E P (k+1)).ex b z.2.1 z.2.2) (aI e)
 |cons s a ih=>
  intro l h e;refine aq (x:=gp P (E P (k+a.length)) s l h) e λw e1 e2=>?_
  show (gp P (E P (k+a.length)) s l h).bind _=_
  rw [e1];revert e2;rcases w with ⟨_|v,w⟩
  ·exact ih
  ·exact λe=>nomatch (show Fl.ret v=.next from congrArg (λz:Fl×Loc×Hp=>z.1) (aI e))
theorem yR{P:Prog}{a b:List aB}{n m:Nat}{l l1:Loc}{h h1:Hp}{r:Option (Fl×Loc×Hp)}(ha:∀k,n≤k→(E P k).ex a l h=some (.next,l1,h1))(hb:∀k,m≤k→(E P k).ex b l1 h1=r):∀k,n+m+a.length≤k→(E P k).ex (a++b) l h=r:=λk hk=>by obtain ⟨j,rfl⟩:=Nat.exists_eq_add_of_le' (ak (Nat.le_add_left _ _) hk);have hj:n+m≤j:=Nat.le_of_add_le_add_right hk;rw [yQ (ha _ (ak (ak (bZ _ _) hj) (bZ _ _))),hb j (ak (Nat.le_add_left _ _) hj)]
theorem OT{P:Prog}{f:Nat}{fe:cU}{a b:List aB}{bs:List MV}{h h1 h2:Hp}{l1 l2:Loc}{fl:Fl}{n:Nat}(hf:P.fns[f]? =some fe)(hb:fe.body=a++b)(ha:∀k,n≤k→(E P k).ex a (bs.map some++List.replicate (fe.jw - bs.length) Option.none) h=some (.next,l1,h1))(hc:∀k,n≤k→(E P k).ex b l1 h1=some (fl,l2,h2)):∀k,n+(a.length+1)≤k→(E P k).ca f bs h=some (z0 fl,h2):=λk hk=>by
 obtain ⟨j,rfl⟩:=Nat.exists_eq_add_of_le' (ak (Nat.le_add_left _ _) hk);have hj:n≤j:=Nat.le_of_add_le_add_right hk;show (P.fns[f]?).bind _=_
 rw [hf];show ((E P (j+a.length)).ex fe.body (bs.map some++List.replicate (fe.jw - bs.length) Option.none) h).bind _=_
 rw [hb,yQ (ha _ (ak hj (bZ _ _))),hc j hj];cases fl<;>rfl
noncomputable def OU:List aB:=L1.NY.body.take 18
noncomputable def aSt(d fo:Bool):xh:={n:=60,s:=lS,l:=aL (λk=>.bool (Nat.ble k 1&&d)) (.bool true) (.bool fo) (.bool false) (.bool false) (.int 0) (λ_=>.u),h:=sE 2 [] gk,l':=aL (λk=>X (50+k)) (X 40) (X 41) (X 42) (X 43) (X 3) .o,h':=sE 2 [] gk}
noncomputable def aF1(d1 d2 e b:Bool):Facts:={ny:=[(X 0,true)],starts:=[(X 0,.str [45,45,45],d1),(X 0,.str [46,46,46],d2)],bi:=[(.len,X 0,X 1)],cmp:=[(.Eq,X 1,.int 1,e),(.In,X 44,.str [0,32,9,13,10,133,8232,8233],b)],sub:=cond e [] [(X 0,.int 1,X 44)],st:=[aSt (d1||d2) (e||b)]}
noncomputable def l48:aR:=.v (.obj 4)::.v (X 0)::List.replicate 22 .u
theorem XT:(bools.all λd1=>bools.all λd2=>bools.all λe=>bools.all λb=>eZ L1.prog (aF1 d1 d2 e b) 82 OU l48 (sE 2 [] gk) .next (aL (λk=>X (50+k)) (X 40) (X 41) (X 42) (X 43) (X 3) .o) (sE 2 [] gk))=true:=by kernel_rfl
noncomputable def nT(n m:Nat):List aB:=(L1.NY.body.drop n).take m
noncomputable def aM(p q r s t:MV):aR:=(aL (λk=>X (50+k)) (X 40) (X 41) (X 42) (X 43) (X 3) .o).take 19++[.v p,.v q,.v r,.v s,.v t]
noncomputable def Vx:List (Nat×Bool)→Facts:=λl=>{ny:=l.map λp=>(X (50+p.1),p.2)}
noncomputable def cF(b:Bool)(v:MV):MV:=cond b (.bool false) v
theorem XU:(bools.all λg4=>bools.all λg5=>bools.all λg6=>bools.all λg7=>eZ L1.prog (Vx [(4,g4),(5,g5),(6,g6),(7,g7)]) 40 (nT 18 7) (aL (λk=>X (50+k)) (X 40) (X 41) (X 42) (X 43) (X 3) .o) (sE 2 [] gk) .next (aM (.bool !(g4||(g5||(g6||g7)))) (.bool !(g4||(g5||(g6||g7)))) (.bool true) (.bool true) (.bool !g6)) (sE 2 [] gk))=true:=by kernel_rfl
theorem XW:(bools.all λg8=>bools.all λg9=>bools.all λg3=>eZ L1.prog (Vx [(8,g8),(9,g9),(3,g3)]) 40 (nT 25 2) (aM (X 60) (X 61) (.bool true) (.bool true) (X 64)) (sE 2 [] gk) .next (aM (cF (g8||(g9||g3)) (X 60)) (cF (g8||(g9||g3)) (X 61)) (.bool !(g8||(g9||g3))) (.bool true) (cF (g9||g3) (X 64))) (sE 2 [] gk))=true:=by kernel_rfl
theorem XX:(bools.all λg2=>bools.all λg1=>bools.all λg0=>eZ L1.prog (Vx [(2,g2),(1,g1),(0,g0)]) 40 (nT 27 3) (aM (X 60) (X 61) (X 62) (.bool true) (X 64)) (sE 2 [] gk) .next (aM (cF (g2||g1) (X 60)) (cF (g2||g0) (X 61)) (X 62) (.bool true) (X 64)) (sE 2 [] gk))=true:=by kernel_rfl
theorem XY:eZ L1.prog {} 40 (nT 30 1) (aM (X 60) (X 61) (X 62) (.bool true) (X 64)) (sE 2 [] gk) (.ret (.fU 14 [X 0,.bool false,X 52,X 60,X 61,X 62,.bool true,X 64])) (aM (X 60) (X 61) (X 62) (.bool true) (X 64)) (sE 2 [] gk)=true:=by kernel_rfl
noncomputable def aE(g:Nat→Bool):Bool:=g 4||(g 5||(g 6||g 7))
noncomputable def aS(g:Nat→Bool):Bool:=g 8||(g 9||g 3)
noncomputable def XZ(v:List Nat)(g:Nat→Bool):MV:=.fU 14 [.str v,.bool false,.bool (g 2),.bool (cond (g 2||g 1) false (cond (aS g) false (!aE g))),.bool (cond (g 2||g 0) false (cond (aS g) false (!aE g))),.bool (!aS g),.bool true,.bool (cond (g 9||g 3) false (!g 6))]
noncomputable def dash(v:List Nat):Bool:=[45,45,45].isPrefixOf v||[46,46,46].isPrefixOf v
noncomputable def eG(au:Bool)(v:List Nat)(k:Nat):Bool:=(Nat.ble k 1&&dash v)||eE (pk au k) true 0 v
theorem Gk{ρ:eN}{b B:Bool}{x:MV}(h:x.I ρ=.bool B):(cF b x).I ρ=.bool (cond b false B):=by
 cases b with
 |true=>rfl
 |false=>exact h
section
variable {z:Az}{q:Aq}{g:Nat→Bool}{d:Nat}{p1 p2 p3 p4:Bool}
theorem mP{l:List (Nat×Bool)}(h:∀x∈l,x.1∈uf∧x.2=g x.1):Holds L1.prog (RA z q g d p1 p2 p3 p4) (Vx l):=by
 refine ⟨λy hy H=>?_,aa,aa,aa,aa,aa,aa,aa,aa,aa,aa,aa,aa⟩
 obtain ⟨x,hx,rfl⟩:=List.mem_map.mp hy;rw [(h x hx).2];exact congrArg (truthy · H) (X_I (h x hx).1)
theorem tn{n:Nat}(h:uf.contains n=true):n∈uf:=List.contains_iff_mem.mp h
noncomputable def aN(v:List Nat)(g:Nat→Bool)(q:Aq)(p1 p2 p3 p4:Bool):Loc:=(AL v g q).take 19++[some (.bool p1),some (.bool p2),some (.bool p3),some (.bool true),some (.bool p4)]
theorem Gl{P Q S T:MV}{p' q' r' t':Bool}(h1:P.I (RA z q g 0 p1 p2 p3 p4)=.bool p')(h2:Q.I (RA z q g 0 p1 p2 p3 p4)=.bool q')(h3:S.I (RA z q g 0 p1 p2 p3 p4)=.bool r')(h4:T.I (RA z q g 0 p1 p2 p3 p4)=.bool t'):aG (RA z q g 0 p1 p2 p3 p4) (aM P Q S (.bool true) T)=aN z.v g q p' q' r' t':=by
 unfold aG aM;rw [List.map_append];show _++[some (P.I _),some (Q.I _),some (S.I _),some (.bool true),some (T.I _)]=_
 rw [h1,h2,h3,h4];rfl
theorem TY:aG (RA z q g 0 p1 p2 p3 p4) (aM (X 60) (X 61) (X 62) (.bool true) (X 64))=aN z.v g q p1 p2 p3 p4:=Gl rfl rfl rfl rfl
variable {k:Nat}(hk:40≤k)
include hk
theorem T3:(E L1.prog k).ex (nT 18 7) (AL z.v g q) z.h=some (.next,aN z.v g q (!aE g) (!aE g) true (!g 6),z.h):=(fq (mP (z:=z) (q:=q) (d:=0) (p1:=true) (p2:=true) (p3:=true) (p4:=true) (l:=[(4,g 4),(5,g 5),(6,g 6),(7,g 7)]) (af ⟨tn rfl,rfl⟩ (af ⟨tn rfl,rfl⟩ (af ⟨tn rfl,rfl⟩ (af ⟨tn rfl,rfl⟩ aa))))) (fl:=.next) (ao (ao (ao (ao XU (ay (g 4))) (ay (g 5))) (ay (g 6))) (ay (g 7))) hk).trans (congrArg (λl=>some (Fl.next,l,z.h)) (Gl (p':= !aE g) (q':= !aE g) (r':=true) (t':= !g 6) rfl rfl rfl rfl))
theorem T4:(E L1.prog k).ex (nT 25 2) (aN z.v g q p1 p2 true p4) z.h=some (.next,aN z.v g q (cond (aS g) false p1) (cond (aS g) false p2) (!aS g) (cond (g 9||g 3) false p4),z.h):=by
 have h:=fq (mP (z:=z) (q:=q) (d:=0) (p1:=p1) (p2:=p2) (p3:=true) (p4:=p4) (l:=[(8,g 8),(9,g 9),(3,g 3)]) (af ⟨tn rfl,rfl⟩ (af ⟨tn rfl,rfl⟩ (af ⟨tn rfl,rfl⟩ aa)))) (fl:=.next) (ao (ao (ao XW (ay (g 8))) (ay (g 9))) (ay (g 3))) hk
 rw [Gl (p':=p1) (q':=p2) (r':=true) (t':=p4) rfl rfl rfl rfl,Gl (Gk rfl) (Gk rfl) rfl (Gk rfl)] at h;exact h
theorem T5:(E L1.prog k).ex (nT 27 3) (aN z.v g q p1 p2 p3 p4) z.h=some (.next,aN z.v g q (cond (g 2||g 1) false p1) (cond (g 2||g 0) false p2) p3 p4,z.h):=by
 have h:=fq (mP (z:=z) (q:=q) (d:=0) (p1:=p1) (p2:=p2) (p3:=p3) (p4:=p4) (l:=[(2,g 2),(1,g 1),(0,g 0)]) (af ⟨tn rfl,rfl⟩ (af ⟨tn rfl,rfl⟩ (af ⟨tn rfl,rfl⟩ aa)))) (fl:=.next) (ao (ao (ao XX (ay (g 2))) (ay (g 1))) (ay (g 0))) hk
 rw [TY,Gl (Gk rfl) (Gk rfl) rfl rfl] at h;exact h
theorem T6:(E L1.prog k).ex (nT 30 1) (aN z.v g q p1 p2 p3 p4) z.h=some (.ret (.fU 14 [.str z.v,.bool false,.bool (g 2),.bool p1,.bool p2,.bool p3,.bool true,.bool p4]),aN z.v g q p1 p2 p3 p4,z.h):=by have h:=fq (iY (P:=L1.prog) (ρ:=RA z q g 0 p1 p2 p3 p4)) (fl:=.ret (.fU 14 [X 0,.bool false,X 52,X 60,X 61,X 62,.bool true,X 64])) XY hk;rw [TY] at h;exact h
end
theorem OV{v:List Nat}(oY:v≠[])(h:decide (v.length=1)=false):v[1]? =some ((v.drop 1).headD 0):=by
 cases v with
 |nil=>exact absurd rfl oY
 |cons c r=>
  cases r with
  |nil=>cases h
  |cons b r=>rfl
section
variable {z:Az}{au:Bool}(qN:z.e.au=.bool au)(hl:z.v.length≤1000)(oY:z.v≠[])(xg:∀c∈z.v,c∈bH)
include qN hl oY xg
theorem KJ:∃q,∀k,82≤k→(E L1.prog k).ex OU ([MV.obj 4,.str z.v].map some++List.replicate (L1.NY.jw - 2) Option.none) z.h=some (.next,AL z.v (eG au z.v) q,z.h):=by
 obtain ⟨q,h0⟩:=OS (F:=λk=>Nat.ble k 1&&dash z.v) (G:=eG au z.v) qN hl xg λk=>rfl
 have fo0:iP (z.v.drop 1)=(decide (z.v.length=1)||nR ((z.v.drop 1).headD 0)):=by
  cases z.v with
  |nil=>rfl
  |cons c r=>
   cases r with
   |nil=>rfl
   |cons b r=>exact (congrArg (·||nR b) (decide_eq_false (λh:r.length+1+1=1=>Nat.succ_ne_zero _ (Nat.succ.inj h)))).symm
 have K1:Holds L1.prog (RA z q (eG au z.v) ((z.v.drop 1).headD 0) true true true true) (aF1 ([45,45,45].isPrefixOf z.v) ([46,46,46].isPrefixOf z.v) (decide (z.v.length=1)) (nR ((z.v.drop 1).headD 0))):=by
  refine ⟨af (λ_=>?_) aa,af (yJ (b:=1) rfl) (af (CJ rfl) aa),aa,?_,aa,af (lM rfl) aa,aa,aa,aa,af ⟨_,_,rfl,rfl,rfl⟩ (af ⟨_,_,rfl,rfl,rfl⟩ aa),af (λk hk=>?_) aa,aa,aa⟩
  ·show some (!z.v.isEmpty)=some true
   cases e:z.v with
   |nil=>exact absurd e oY
   |cons _ _=>rfl
  ·have h:=@OV z.v oY
   revert h
   cases decide (z.v.length=1) with
   |true=>exact λ_=>aa
   |false=>exact λh=>af (lN (i:=1) (h rfl) (by decide)) aa
  ·rw [← fo0]
   exact h0 k hk
 exact ⟨q,λk hk=>fq K1 (fl:=.next) (ao (ao (ao (ao XT (ay _)) (ay _)) (ay _)) (ay _)) hk⟩
theorem OW:∀k,250≤k→(E L1.prog k).ca 48 [.obj 4,.str z.v] z.h=some (XZ z.v (eG au z.v),z.h):=by
 obtain ⟨q,h1⟩:=KJ qN hl oY xg;have wM:L1.NY.body=OU++(nT 18 7++(nT 25 2++(nT 27 3++nT 30 1))):=by kernel_rfl
 exact λk hk=>OT (fe:=L1.NY) rfl wM (n:=200) (λk hk=>h1 k (ak (by decide) hk)) (λk hk=>yR (λ_=>T3) (yR (λ_=>T4) (yR (λ_=>T5) (λ_=>T6))) k (ak (cM (by kernel_rfl)) hk)) k (ak (cM (by kernel_rfl)) hk)
end
noncomputable def qO(p0 p1:MV)(v asked:MV):MV:=.fU 9 [.none,.none,.tup [p0,p1],v,.none,.none,asked]
noncomputable def Gm(asked:MV)(p0 fy sk emp mul gu ie gH gf:Bool):List Nat:=match asked with
 |.none=>cond (p0&&(!(sk&&(emp||mul))&&(fy&&gu|| !fy&&ie))) [] (cond (gH&& !(sk&&mul)) [39] [34])
 |.str [39]=>cond (gH&& !(sk&&mul)) [39] [34]
 |.str [124]=>cond (!fy&&(!sk&&gf)) [124] [34]
 |.str [62]=>cond (!fy&&(!sk&&gf)) [62] [34]
 |_=>[34]
noncomputable def Gn(v emp:MV):MV:=.fU 14 [v,emp,X 70,X 71,X 72,X 73,.bool true,X 74]
noncomputable def nF(p0 p1 sk emp mul gu ie gH gf:Bool)(c:List fZ):Facts:={ny:=[(X 26,sk),(X 69,emp),(X 70,mul),(X 71,gu),(X 72,ie),(X 73,gH),(X 74,gf),(X 75,p0),(X 76,p1)],call:=c}
noncomputable def Qp(asked an:MV)(fl:Nat):Em:={gk with event:=qO (X 75) (X 76) (X 0) asked,fy:=.int fl,an:=an}
noncomputable def T7(asked:MV)(fl:Nat):fZ:={n:=250,f:=48,as:=[.obj 4,X 0],h:=sE 2 [] (Qp asked .none fl),r:=Gn (X 0) (X 69),h':=sE 2 [] (Qp asked .none fl)}
noncomputable def OX(b:Bool):MV:=cond b (Gn (X 0) (X 69)) .none
noncomputable def yS(asked:MV)(done:Bool)(fl:Nat)(p0 p1 sk emp mul gu ie gH gf:Bool):Bool:=fK L1.prog (nF p0 p1 sk emp mul gu ie gH gf [T7 asked fl]) 275 44 [.obj 4] (sE 2 [] (Qp asked (OX done) fl)) (.str (Gm asked p0 (Nat.beq fl 1) sk emp mul gu ie gH gf)) (sE 2 [] (Qp asked (Gn (X 0) (X 69)) fl))
noncomputable def bD(p:Bool→Bool):Bool:=bools.all p
theorem aj{p:Bool→Bool}(h:bD p=true)(b:Bool):p b=true:=ao h (ay b)
section
variable (p0 p1 sk emp mul gu ie gH gf:Bool)
theorem cs0:(bD λd=>bD λp0=>bD λsk=>bD λemp=>bD λmul=>bD λie=>bD λgH=>yS .none d 0 p0 p1 sk emp mul gu ie gH gf)=true:=by kernel_rfl
theorem cs1:(bD λd=>bD λp0=>bD λsk=>bD λemp=>bD λmul=>bD λgu=>bD λgH=>yS .none d 1 p0 p1 sk emp mul gu ie gH gf)=true:=by kernel_rfl
theorem cs2:([0,1].all λfl=>bD λd=>bD λsk=>bD λmul=>bD λgH=>yS (.str [39]) d fl p0 p1 sk emp mul gu ie gH gf)=true:=by kernel_rfl
theorem cs3:([0,1].all λfl=>bD λd=>bD λsk=>bD λgf=>yS (.str [124]) d fl p0 p1 sk emp mul gu ie gH gf&&yS (.str [62]) d fl p0 p1 sk emp mul gu ie gH gf)=true:=by kernel_rfl
theorem cs4:([0,1].all λfl=>bD λd=>yS (.str [34]) d fl p0 p1 sk emp mul gu ie gH gf)=true:=by kernel_rfl
noncomputable def bQ:List MV:=[.none,.str [39],.str [34],.str [124],.str [62]]
theorem OY{asked:MV}(ha:asked∈bQ){fl:Nat}(hf:fl∈[0,1])(d:Bool):yS asked d fl p0 p1 sk emp mul gu ie gH gf=true:=by
 have ha:asked=.none∨asked=.str [39]∨asked=.str [34]∨asked=.str [124]∨asked=.str [62]:=by
  rcases bq.mp ha with h|ha
  ·exact .inl h
  rcases bq.mp ha with h|ha
  ·exact .inr (.inl h)
  rcases bq.mp ha with h|ha
  ·exact .inr (.inr (.inl h))
  rcases bq.mp ha with h|ha
  ·exact .inr (.inr (.inr (.inl h)))
  ·exact .inr (.inr (.inr (.inr (dN.mp ha))))
 rcases ha with rfl|rfl|rfl|rfl|rfl
 ·rcases bq.mp hf with rfl|hf
  ·exact aj (aj (aj (aj (aj (aj (aj (cs0 p1 gu gf) d) p0) sk) emp) mul) ie) gH
  ·rw [dN.mp hf]
   exact aj (aj (aj (aj (aj (aj (aj (cs1 p1 ie gf) d) p0) sk) emp) mul) gu) gH
 ·exact aj (aj (aj (aj (ao (cs2 p0 p1 emp gu ie gf) hf) d) sk) mul) gH
 ·exact aj (ao (cs4 p0 p1 sk emp mul gu ie gH gf) hf) d
 ·exact (bl.mp (aj (aj (aj (ao (cs3 p0 p1 emp mul gu ie gH) hf) d) sk) gf)).1
 ·exact (bl.mp (aj (aj (aj (ao (cs3 p0 p1 emp mul gu ie gH) hf) d) sk) gf)).2
end
structure KL where
 v:List Nat
 emp:Bool
 mul:Bool
 gu:Bool
 ie:Bool
 gH:Bool
 gf:Bool
noncomputable def KL.mv(n:KL):MV:=.fU 14 [.str n.v,.bool n.emp,.bool n.mul,.bool n.gu,.bool n.ie,.bool n.gH,.bool true,.bool n.gf]
noncomputable def aA(au:Bool)(v:List Nat):KL:=match v with
 |[]=>⟨[],true,false,false,true,true,false⟩
 |c::r=>⟨c::r,false,eG au (c::r) 2,cond (eG au (c::r) 2||eG au (c::r) 1) false (cond (aS (eG au (c::r))) false (!aE (eG au (c::r)))),cond (eG au (c::r) 2||eG au (c::r) 0) false (cond (aS (eG au (c::r))) false (!aE (eG au (c::r)))), !aS (eG au (c::r)),cond (eG au (c::r) 9||eG au (c::r) 3) false (!eG au (c::r) 6)⟩
theorem e48:fK L1.prog {} 60 48 [.obj 4,.str []] (sE 2 [] gk) (.fU 14 [.str [],.bool true,.bool false,.bool false,.bool true,.bool true,.bool true,.bool false]) (sE 2 [] gk)=true:=by kernel_rfl
theorem wN{w0 w1 rows states events aK:List MV}{e:Em}{au:Bool}(qN:e.au=.bool au){v:List Nat}(hl:v.length≤1000)(xg:∀c∈v,c∈bH):∀k,250≤k→(E L1.prog k).ca 48 [.obj 4,.str v] (hE w0 w1 rows states events aK e)=some ((aA au v).mv,hE w0 w1 rows states events aK e):=λk hk=>by
 cases v with
 |nil=>exact eX (iY (P:=L1.prog) (ρ:=RA ⟨w0,w1,rows,states,events,aK,e,[]⟩ ⟨true,true,true,true,0,λ_=>none⟩ (λ_=>false) 0 true true true true)) e48 (ak (by decide) hk)
 |cons c r=>exact OW (z:=⟨w0,w1,rows,states,events,aK,e,c::r⟩) qN hl (List.cons_ne_nil _ _) xg k hk
noncomputable def RN(w0 w1 rows states events aK:List MV)(e:Em)(n:KL)(p0 p1:Bool)(ex:List MV)(cA:List MV):eN:=R ([.str n.v,.none,.none,.none,.none,.none,.none,e.col,.none,.none,e.indent,.none,e.line,.none,.none,.none,.none,.none,.none,.none,e.state,e.event,e.fy,e.root,e.seq,e.map,e.sk,e.oe,e.bi,e.tp,e.an,e.st,.none,e.ws,e.ind,.none,.none,e.au,.none,.none,.none,.none,.none,.none,.none,.none,.none,.none,.none,.none,.none,.none,.none,.none,.none,.none,.none,.none,.none,.none,.none,.none,.none,.none,.none,.none,.none,.none,.none,.bool n.emp,.bool n.mul,.bool n.gu,.bool n.ie,.bool n.gH,.bool n.gf,.bool p0,.bool p1]++ex) [w0,w1,rows,states,events,aK,cA] (λ_=>none)
noncomputable def Em.c(e:Em)(p0 p1:Bool)(v:List Nat)(asked:MV)(fl:Nat)(an:MV):Em:={e with event:=qO (.bool p0) (.bool p1) (.str v) asked,fy:=.int (fl:Nat),an:=an}
noncomputable def KL.iO(n:KL)(asked:MV)(p0 fy sk:Bool):List Nat:=Gm asked p0 fy sk n.emp n.mul n.gu n.ie n.gH n.gf
theorem OZ{w0 w1 rows states events aK:List MV}{e:Em}{au sk p0 p1:Bool}(qN:e.au=.bool au)(X0:e.sk=.bool sk){v:List Nat}(hl:v.length≤1000)(xg:∀c∈v,c∈bH){asked:MV}(ha:asked∈bQ){fl:Nat}(hf:fl∈[0,1])(d:Bool):
  ∀k,275≤k→(E L1.prog k).ca 44 [.obj 4] (hE w0 w1 rows states events aK (e.c p0 p1 v asked fl (cond d (aA au v).mv .none)))=some (.str ((aA au v).iO asked p0 (Nat.beq fl 1) sk),hE w0 w1 rows states events aK (e.c p0 p1 v asked fl (aA au v).mv)):=λk hk=>by
 have hv:(aA au v).v=v:=by cases v<;>rfl
 obtain ⟨n,hn⟩:∃n,n=aA au v:=⟨_,rfl⟩;rw [← hn] at hv⊢;subst hv;have ch:=OY p0 p1 sk n.emp n.mul n.gu n.ie n.gH n.gf ha hf d;have K:∀asked:MV,yk asked=true→Holds L1.prog (RN w0 w1 rows states events aK e n p0 p1 [] []) (nF p0 p1 sk n.emp n.mul n.gu n.ie n.gH n.gf [T7 asked fl]):=λasked DI=>by
  refine ⟨af (λh=>by show truthy e.sk h=_;rw [X0];rfl)<|af (λ_=>rfl)<|af (λ_=>rfl)<|af (λ_=>rfl)<|af (λ_=>rfl)<|af (λ_=>rfl)<|af (λ_=>rfl)<|af (λ_=>rfl)<|af (λ_=>rfl) aa,aa,aa,aa,aa,aa,aa,aa,aa,aa,aa,aa,af (λk hk=>?_) aa⟩
  have h:=wN (w0:=w0) (w1:=w1) (rows:=rows) (states:=states) (events:=events) (aK:=aK) (e:=e.c p0 p1 n.v asked fl .none) qN hl xg k hk;rw [← hn] at h;show (E L1.prog k).ca 48 [.obj 4,.str n.v] (hE w0 w1 rows states events aK {e with event:=.fU 9 [.none,.none,.tup [.bool p0,.bool p1],.str n.v,.none,.none,asked.I _],fy:=.int (fl:Nat),an:=.none})=some (n.mv,hE w0 w1 rows states events aK {e with event:=.fU 9 [.none,.none,.tup [.bool p0,.bool p1],.str n.v,.none,.none,asked.I _],fy:=.int (fl:Nat),an:=.none})
  rw [iE DI];exact h
 have DI:yk asked=true:=by
  have:∀a∈bQ,yk a=true:=by decide
  exact this asked ha
 have h:=eX (K asked DI) ch hk;have e1:aV (RN w0 w1 rows states events aK e n p0 p1 [] []) (sE 2 [] (Qp asked (OX d) fl))=hE w0 w1 rows states events aK (e.c p0 p1 n.v asked fl (cond d n.mv .none)):=by
  show hE w0 w1 rows states events aK {e with event:=.fU 9 [.none,.none,.tup [.bool p0,.bool p1],.str n.v,.none,.none,asked.I _],fy:=.int (fl:Nat),an:=(OX d).I _}=_
  rw [iE DI];cases d<;>rfl
 have e2:aV (RN w0 w1 rows states events aK e n p0 p1 [] []) (sE 2 [] (Qp asked (Gn (X 0) (X 69)) fl))=hE w0 w1 rows states events aK (e.c p0 p1 n.v asked fl n.mv):=by
  show hE w0 w1 rows states events aK {e with event:=.fU 9 [.none,.none,.tup [.bool p0,.bool p1],.str n.v,.none,.none,asked.I _],fy:=.int (fl:Nat),an:=n.mv}=_
  rw [iE DI];rfl
 rw [e1,e2] at h;exact h
noncomputable def KO:List (List Nat):=[[],[39],[34],[124],[62]]
noncomputable def tagged(s:List Nat)(p1:Bool):Bool:= !s.isEmpty&& !p1
noncomputable def Vy(ws ind:Bool):Em:={gk with event:=qO (X 75) (X 76) (X 0) (X 78),an:=X 77,st:=.none,ws:=.bool ws,ind:=.bool ind}
noncomputable def tSt(ws ind:Bool)(s:List Nat):fZ:={n:=275,f:=44,as:=[.obj 4],h:=sE 2 [] (Vy ws ind),r:=.str s,h':=sE 2 [] {Vy ws ind with an:=X 79}}
noncomputable def tF(p0 p1 ws ind:Bool)(s:List Nat):Facts:={ny:=[(X 75,p0),(X 76,p1)],aug:=[(.Add,X 7,.int 1,X 80),(.Add,X 7,.int 2,X 81)],room:=[2],call:=[tSt ws ind s]}
noncomputable def X3(ws ind tg:Bool)(s:List Nat):Em:={Vy ws ind with an:=X 79,st:=.str s,ws:=.bool (!tg&&ws),ind:=.bool (!tg&&ind),oe:=cond tg (.bool false) (X 27),col:=cond tg (cond ws (X 80) (X 81)) (X 7)}
noncomputable def X4(p0 p1 ws ind:Bool)(s:List Nat):Bool:=fK L1.prog (tF p0 p1 ws ind s) 300 43 [.obj 4] (sE 2 [] (Vy ws ind)) .none (sE 2 (cond (tagged s p1) [.str (cond ws [33] [32,33])] []) (X3 ws ind (tagged s p1) s))
theorem t43:(KO.all λs=>bD λp0=>bD λp1=>bD λws=>bD λind=>imp ((!s.isEmpty||p0)&&(p0||p1)) (X4 p0 p1 ws ind s))=true:=by kernel_rfl
noncomputable def anS:MV:=.fU 14 [X 0,X 70,X 71,X 72,X 73,X 74,X 75,X 76]
noncomputable def Vz(s:List Nat)(sk ws ind:Bool):Em:={gk with an:=anS,st:=.str s,sk:=.bool sk,ws:=.bool ws,ind:=.bool ind}
noncomputable def T8(s:List Nat):Nat:=match s with
 |[]=>60
 |[39]=>55
 |[34]=>56
 |[124]=>59
 |_=>58
noncomputable def two(s:List Nat):Bool:=Nat.beq (T8 s) 59||Nat.beq (T8 s) 58
noncomputable def O0(s:List Nat)(sk:Bool):List MV:=cond (two s) [.obj 4,X 0] [.obj 4,X 0,.bool (!sk)]
noncomputable def wSt(s:List Nat)(sk ws ind qt gY:Bool):fZ:={n:=75,f:=T8 s,as:=O0 s sk,h:=sE 2 [] (Vz s sk ws ind),r:=.none,h':=sE 6 [] {Vz s sk ws ind with oe:=X 80,col:=X 14,line:=X 19,ws:=.bool qt,ind:=.bool gY}}
noncomputable def X5(s:List Nat)(sk ws ind qt gY:Bool):Bool:=fK L1.prog {call:=[wSt s sk ws ind qt gY]} 100 45 [.obj 4] (sE 2 [] (Vz s sk ws ind)) .none (sE 6 [] {Vz s sk ws ind with oe:=X 80,col:=X 14,line:=X 19,ws:=.bool qt,ind:=.bool gY,an:=.none,st:=.none})
theorem s45:(KO.all λs=>bD λsk=>bD λws=>bD λind=>bD λqt=>bD λgY=>X5 s sk ws ind qt gY)=true:=by kernel_rfl
noncomputable def fo(M:Nat):List Nat→List Nat
 |[]=>[]
 |c::r=>cond (aW c) [] (eT M)++jB iN M r (cond (aW c) 5 (cond (Nat.beq c 32) 4 0)) [c]
noncomputable def nr(au:Bool)(M b:Nat)(root:Bool)(s v:List Nat)(ws ind:Bool)(oe:MV):NR:=match s with
 |[]=>(match v with
  |[]=>⟨[],ws,ind,cond root (.bool true) oe,false,true⟩
  |c::r=>⟨sep ws++(c::r),false,false,cond root (.bool true) oe,false,false⟩)
 |[39]=>⟨sep ws++(39::(sq M false v++[39])),false,false,.bool false,false,false⟩
 |[34]=>⟨sep ws++(34::(dq au v++[34])),false,false,.bool false,false,false⟩
 |[124]=>⟨sep ws++(124::(hints b v++(10::lq M true v))),true,true,.bool (plus v),true,false⟩
 |_=>⟨sep ws++(62::(hints b v++(10::fo M v))),true,true,.bool (plus v),true,false⟩
def ug(s v:List Nat):Prop:=(s=[]∧∀c∈v,aW c=false)∨s=[39]∨s=[34]∨(s=[124]∧v≠[])∨(s=[62]∧∃c r,v=c::r∧(c::r).getLast (List.cons_ne_nil _ _)≠32)
structure NodeOk(x:Cx)(rows:List MV)(col line b:Nat)(root:Bool):Prop where
 au:x.e.au=.bool x.au
 M:1≤x.M∧x.M≤100
 v:∀c∈x.v,c∈bH
 len:x.v.length≤10
 B:x.B≤900∧x.M+12 * x.v.length+30≤x.B
 B2:x.B2≤8000
 col:col+12 * x.v.length+40≤x.B
 line:line+4 * x.v.length+110≤x.B2
 rows:rows.length+2000≤10 * x.B2
 bi:x.e.bi=.int (b:Nat)
 b:b∈[2,3,4]
 root:x.e.root=.bool root
theorem NodeOk.call{x:Cx}{rows:List MV}{col line b:Nat}{root:Bool}(h:NodeOk x rows col line b root)(hv:x.v≠[]):cV x rows col line:=⟨⟨h.au,h.M,h.v,⟨by cases q:x.v with|nil=>exact absurd q hv|cons _ _=>exact Nat.succ_le_succ (Nat.zero_le _),h.len⟩,h.B,h.B2⟩,h.col,h.line,h.rows⟩
noncomputable def O1(ws:Bool):Em:={gk with ws:=.bool false,ind:=.bool false,oe:=.bool false,col:=X 14}
noncomputable def VA:Facts:={aug:=[(.Add,X 7,.int 1,X 8),(.Add,X 7,.int 2,X 9),(.Add,X 8,.int 1,X 14),(.Add,X 9,.int 1,X 15)],room:=[2]}
theorem X6:(bD λws=>bD λind=>fK L1.prog VA 75 55 [.obj 4,.str [],X 35] (sE 2 [] {gk with ws:=.bool ws,ind:=.bool ind}) .none (sE 2 [.str (cond ws [39] [32,39]),.str [39]] {O1 ws with col:=cond ws (X 14) (X 15)}))=true:=by kernel_rfl
theorem X7:(bD λws=>bD λind=>fK L1.prog VA 75 56 [.obj 4,.str [],X 35] (sE 2 [] {gk with ws:=.bool ws,ind:=.bool ind}) .none (sE 2 [.str (cond ws [34] [32,34]),.str [34]] {O1 ws with col:=cond ws (X 14) (X 15)}))=true:=by kernel_rfl
noncomputable def RE(x:Cx)(rows:List MV)(col line:Nat):eN:=R [.str x.v,.none,.none,.none,.none,.none,.none,.int (col:Nat),.int ((col+1:Nat):Int),.int ((col+2:Nat):Int),.int (x.M:Nat),.none,.int (line:Nat),.none,.int ((col+2:Nat):Int),.int ((col+3:Nat):Int),.none,.none,.none,.none,x.e.state,x.e.event,x.e.fy,x.e.root,x.e.seq,x.e.map,x.e.sk,x.e.oe,x.e.bi,x.e.tp,x.e.an,x.e.st,.none,.none,.none,x.split,.none,x.e.au] [x.w0,x.w1,rows,x.states,x.events,x.aK] (λ_=>none)
theorem KS{col n:Nat}(h:col≤1000)(hn:n≤3):col+n≤1000000000:=ak (Nat.add_le_add h hn) (by decide)
theorem AJ{x:Cx}{f q:Nat}{rows:List MV}{col line:Nat}{ws ind:Bool}(hc:col≤1000)(hB:col≤x.B)(hl:line≤x.B2)(Qq:x.B2≤8000)(hr:rows.length+2000≤10 * x.B2)
  (h:fK L1.prog VA 75 f [.obj 4,.str [],X 35] (sE 2 [] {gk with ws:=.bool ws,ind:=.bool ind}) .none (sE 2 [.str (cond ws [q] [32,q]),.str [q]] {O1 ws with col:=cond ws (X 14) (X 15)})=true):Wr x f [.obj 4,.str [],x.split] rows col line ws ind ⟨sep ws++[q,q],false,false,.bool false,false,false⟩:=
 have K:Holds L1.prog (RE x rows col line) VA:=⟨aa,aa,aa,aa,aa,aa,aa,af (CB (ak (Kw hr Qq) (by decide))) aa,af (dH (b:=1) rfl (KS hc (by decide)))<|af (dH (b:=2) rfl (KS hc (by decide)))<|af (dH (b:=1) rfl (KS hc (by decide)))<|af (dH (b:=1) rfl (KS hc (by decide))) aa,aa,aa,aa,aa⟩
 ⟨⟨[.str (cond ws [q] [32,q]),.str [q]],cond ws (col+2) (col+3),line⟩,λk hk=>by
   have e:=eX K h hk
   cases ws<;>exact e,by cases ws<;>rfl,ak (by cases ws<;>exact dD (by decide) col:cond ws (col+2) (col+3)≤col+4) (cO hB 4),ak hl (bZ _ _),ak (dD (by decide:2≤2000) _) (ak hr (bZ _ _)),nofun,nofun⟩
section
variable {x:Cx}{rows:List MV}{col line b:Nat}{root:Bool}(C:NodeOk x rows col line b root)
include C
theorem NodeOk.cB:col≤x.B:=ak (bZ _ (12 * x.v.length)) (ak (bZ _ 40) C.col)
theorem NodeOk.lB:line≤x.B2:=ak (bZ _ (4 * x.v.length)) (ak (bZ _ 110) C.line)
theorem NodeOk.c9:col≤1000:=ak C.cB (ak C.B.1 (by decide))
theorem O2{ws ind:Bool}{s:List Nat}(hs:ug s x.v):Wr x (T8 s) (cond (two s) [.obj 4,.str x.v] [.obj 4,.str x.v,x.split]) rows col line ws ind (nr x.au x.M b root s x.v ws ind x.e.oe):=by
 have hn:=C.call;have h60:=λh=>OD (ws:=ws) (ind:=ind) (hn h) C.root
 have h55:=λh=>OA (ws:=ws) (ind:=ind) (hn h)
 have h56:=λh=>OB (ws:=ws) (ind:=ind) (hn h)
 rcases hs with ⟨rfl,hb⟩|rfl|rfl|⟨rfl,oY⟩|⟨rfl,c,r,hv,wL⟩
 ·revert h60 hb
  cases x.v with
  |nil=>exact λ_ _=>⟨⟨[],col,line⟩,λk hk=>(KA C.root rows col line k hk).trans (congrArg (λr=>some (MV.none,hw (x.oe (cond root (.bool true) x.e.oe)) r col line (.bool ws) (.bool ind))) (cH rows).symm),rfl,ak C.cB (bZ _ _),ak C.lB (bZ _ _),ak (bZ rows.length 2000) (ak C.rows (bZ _ _)),nofun,λ_=>rfl⟩
  |cons c r=>exact λh hb=>h (List.cons_ne_nil _ _) hb
 ·revert h55
  cases x.v with
  |nil=>exact λ_=>AJ C.c9 C.cB C.lB C.B2 C.rows (aj (aj X6 ws) ind)
  |cons c r=>exact λh=>h (List.cons_ne_nil _ _)
 ·revert h56
  cases x.v with
  |nil=>exact λ_=>AJ C.c9 C.cB C.lB C.B2 C.rows (aj (aj X7 ws) ind)
  |cons c r=>exact λh=>h (List.cons_ne_nil _ _)
 ·exact OJ (hn oY) C.bi C.b
 ·have h:=OL (ws:=ws) (ind:=ind) (hn (by rw [hv];exact List.cons_ne_nil _ _)) C.bi C.b hv wL
  have e:fo x.M x.v=cond (aW c) [] (eT x.M)++jB iN x.M r (cond (aW c) 5 (cond (Nat.beq c 32) 4 0)) [c]:=by rw [hv];rfl
  rw [← e] at h;exact h
end
noncomputable def Cx.dn(x:Cx)(oe:MV):Cx:={x with e:={x.e with oe:=oe,an:=.none,st:=.none}}
noncomputable def Cx.C4(x:Cx)(a:KL)(s:List Nat)(sk:Bool):Cx:={x with e:={x.e with an:=a.mv,st:=.str s,sk:=.bool sk}}
noncomputable def RQ(x:Cx)(rows cA:List MV)(col line CK r8:Nat)(n:KL)(oe:MV):eN:=R [.str n.v,.none,.none,.none,.none,.none,.none,.int (col:Nat),.none,.none,.int (x.M:Nat),.none,.int (line:Nat),.none,.int (CK:Nat),.none,.none,.none,.none,.int (r8:Nat),x.e.state,x.e.event,x.e.fy,x.e.root,x.e.seq,x.e.map,x.e.sk,x.e.oe,x.e.bi,x.e.tp,x.e.an,x.e.st,.none,.none,.none,.none,.none,x.e.au,.none,.none,.none,.none,.none,.none,.none,.none,.none,.none,.none,.none,.none,.none,.none,.none,.none,.none,.none,.none,.none,.none,.none,.none,.none,.none,.none,.none,.none,.none,.none,.none,.bool n.emp,.bool n.mul,.bool n.gu,.bool n.ie,.bool n.gH,.bool true,.bool n.gf,.none,.none,.none,oe] [x.w0,x.w1,rows,x.states,x.events,x.aK,cA] (λ_=>none)
theorem LO{s v:List Nat}(h:ug s v):s∈KO:=by rcases h with ⟨rfl,_⟩|rfl|rfl|⟨rfl,_⟩|⟨rfl,_⟩<;>decide
section
variable {x:Cx}{a:KL}{s:List Nat}{rows cA:List MV}{col line CK r8:Nat}{ws ind sk:Bool}{oe:MV}
theorem X8(hn:a.v=x.v):MV.Is (RQ x rows cA col line CK r8 a oe) (O0 s sk)=cond (two s) [.obj 4,.str x.v] [.obj 4,.str x.v,.bool (!sk)]:=by
 rw [← hn];unfold O0
 cases two s<;>rfl
theorem O3{b:Nat}{root:Bool}(C:NodeOk (x.C4 a s sk) rows col line b root)(hn:a.v=x.v)(hs:ug s x.v){q:NR}(hq:nr x.au x.M b root s x.v ws ind x.e.oe=q):
  ∃d,Ends (λk=>(E L1.prog k).ca 45 [.obj 4] (hw (x.C4 a s sk) rows col line (.bool ws) (.bool ind))) (λd=>hw ((x.C4 a s sk).dn q.oe) (rows++d.Q) d.col d.line (.bool q.ws) (.bool q.ind)) 100 x.B x.B2 rows.length col q d:=
 (O2 (x:=(x.C4 a s sk).sp (.bool (!sk))) (ws:=ws) (ind:=ind) (b:=b) (root:=root) ⟨C.au,C.M,C.v,C.len,C.B,C.B2,C.col,C.line,C.rows,C.bi,C.b,C.root⟩ hs).elim λd h=>by
  rw [show nr ((x.C4 a s sk).sp (.bool (!sk))).au ((x.C4 a s sk).sp (.bool (!sk))).M b root s ((x.C4 a s sk).sp (.bool (!sk))).v ws ind ((x.C4 a s sk).sp (.bool (!sk))).e.oe=q from hq] at h
  have K:Holds L1.prog (RQ x rows (rows++d.Q) col line d.col d.line a q.oe) {call:=[wSt s sk ws ind q.ws q.ind]}:=⟨aa,aa,aa,aa,aa,aa,aa,aa,aa,aa,aa,aa,af (λk hk=>(congrArg (λl=>(E L1.prog k).ca (T8 s) l (hw (x.C4 a s sk) rows col line (.bool ws) (.bool ind))) (X8 hn)).trans (h.run k hk)) aa⟩
  exact ⟨d,λk hk=>eX K (aj (aj (aj (aj (aj (ao s45 (LO hs)) sk) ws) ind) q.ws) q.ind) hk,h.j,h.col,h.line,h.room,h.z,h.k⟩
end
noncomputable def Em.t(e:Em)(p0 p1:Bool)(v:List Nat)(asked:MV)(fl:Nat)(an st:MV)(col:Nat)(ws ind:Bool)(oe:MV):Em:={e with event:=qO (.bool p0) (.bool p1) (.str v) asked,fy:=.int (fl:Nat),an:=an,st:=st,col:=.int (col:Nat),ws:=.bool ws,ind:=.bool ind,oe:=oe}
noncomputable def RT(w0 w1 rows states events aK:List MV)(e:Em)(v:List Nat)(fl:Nat)(p0 p1:Bool)(col:Nat)(a0 asked rc:MV):eN:=R [.str v,.none,.none,.none,.none,.none,.none,.int (col:Nat),.none,.none,e.indent,.none,e.line,.none,.none,.none,.none,.none,.none,.none,e.state,.none,.int (fl:Nat),e.root,e.seq,e.map,e.sk,e.oe,e.bi,e.tp,.none,.none,.none,.none,.none,.none,.none,e.au,.none,.none,.none,.none,.none,.none,.none,.none,.none,.none,.none,.none,.none,.none,.none,.none,.none,.none,.none,.none,.none,.none,.none,.none,.none,.none,.none,.none,.none,.none,.none,.none,.none,.none,.none,.none,.none,.bool p0,.bool p1,a0,asked,rc,.int ((col+1:Nat):Int),.int ((col+2:Nat):Int)] [w0,w1,rows,states,events,aK] (λ_=>none)
theorem O4{w0 w1 rows states events aK:List MV}{e:Em}{au sk p0 p1:Bool}(qN:e.au=.bool au)(X0:e.sk=.bool sk){v:List Nat}(hl:v.length≤1000)(xg:∀c∈v,c∈bH){asked:MV}(ha:asked∈bQ){fl:Nat}(hf:fl∈[0,1])(d ws ind:Bool){col:Nat}(T9:col≤10000)(hr:rows.length≤90000){s:List Nat}(hs:(aA au v).iO asked p0 (Nat.beq fl 1) sk=s)(hin:s∈KO)(hp:((!s.isEmpty||p0)&&(p0||p1))=true):
  ∀k,300≤k→(E L1.prog k).ca 43 [.obj 4] (hE w0 w1 rows states events aK (e.t p0 p1 v asked fl (cond d (aA au v).mv .none) .none col ws ind e.oe))=some (.none,hE w0 w1 (rows++cond (tagged s p1) [.str (cond ws [33] [32,33])] []) states events aK (e.t p0 p1 v asked fl (aA au v).mv (.str s) (cond (tagged s p1) (col+cond ws 1 2) col) (!tagged s p1&&ws) (!tagged s p1&&ind) (cond (tagged s p1) (.bool false) e.oe))):=λk hk=>by
 have K:Holds L1.prog (RT w0 w1 rows states events aK e v fl p0 p1 col (cond d (aA au v).mv .none) asked (aA au v).mv) (tF p0 p1 ws ind s):=by
  refine ⟨af (λ_=>rfl) (af (λ_=>rfl) aa),aa,aa,aa,aa,aa,aa,af (CB (ak hr (by decide))) aa,af (dH (b:=1) rfl (ak (cO T9 1) (by decide))) (af (dH (b:=2) rfl (ak (cO T9 2) (by decide))) aa),aa,aa,aa,af (λk hk=>?_) aa⟩
  have h:=OZ (w0:=w0) (w1:=w1) (rows:=rows) (states:=states) (events:=events) (aK:=aK) (e:={e with st:=.none,col:=.int (col:Nat),ws:=.bool ws,ind:=.bool ind}) (p0:=p0) (p1:=p1) qN X0 hl xg ha hf d k hk
  rw [hs] at h;exact h
 have h:=eX K (ez (aj (aj (aj (aj (ao t43 hin) p0) p1) ws) ind) hp) hk;revert h
 cases tagged s p1 with
 |true=>cases ws<;>exact λh=>h
 |false=>intro h;rw [show (rows++cond false [MV.str (cond ws [33] [32,33])] [])=rows from cH _];exact h
noncomputable def sX(rp:Nat)(st ind:List MV)(e:Em):bg:=[.list (some 0) [],.list (some 1) [],.inst 16 [(128,.obj 3)],.list (some rp) [],.inst 15 e.at,.list (some 3) st,.list (some 4) [],.list (some 5) ind]
noncomputable def Ua(i0:MV):Em:={gk with event:=qO (X 75) (X 76) (X 0) (X 78),an:=X 77,st:=.none,indent:=i0}
noncomputable def O5(i0:MV):Em:={Ua i0 with root:=X 82,seq:=X 83,map:=X 84,sk:=X 85}
noncomputable def Ub(i0:MV):Em:={O5 i0 with an:=X 79,st:=X 91,col:=X 14,ws:=X 92,ind:=X 93,oe:=X 94}
noncomputable def Uc(i0:MV):Em:={O5 i0 with an:=.none,st:=.none,col:=X 95,line:=X 96,ws:=X 97,ind:=X 98,oe:=X 99}
noncomputable def nMv(i0:Bool):MV:=cond i0 (X 86) (X 28)
noncomputable def LP(i0:Bool):MV:=cond i0 (X 10) .none
noncomputable def n43(i0:Bool):fZ:={n:=300,f:=43,as:=[.obj 4],h:=sX 2 [X 90] [] (O5 (LP i0)),r:=.none,h':=sX 6 [X 90] [] (Ub (LP i0))}
noncomputable def n45(i0:Bool):fZ:={n:=100,f:=45,as:=[.obj 4],h:=sX 6 [X 90] [LP i0] {Ub (LP i0) with indent:=nMv i0},r:=.none,h':=sX 7 [X 90] [LP i0] {Uc (LP i0) with indent:=nMv i0}}
noncomputable def nFc(i0:Bool):Facts:={cmp:=cond i0 [(.Is,X 10,.none,false)] [],aug:=cond i0 [(.Add,X 10,X 28,X 86)] [],room:=[5],call:=[n43 i0,n45 i0]}
theorem n19:(bD λi0=>fK L1.prog (nFc i0) 330 19 [.obj 4,X 82,X 83,X 84,X 85] (sX 2 [X 90] [] (Ua (LP i0))) .none (sX 7 [] [] {Uc (LP i0) with state:=X 90}))=true:=by kernel_rfl
structure N5 where
 v:List Nat
 p0:Bool
 p1:Bool
 asked:MV
 fl:Nat
 col:Nat
 line:Nat
 ws:Bool
 ind:Bool
 b:Nat
 rt:Bool
 sq:Bool
 mp:Bool
 sk:Bool
 s:List Nat
noncomputable def RX(w0 w1 rows S events I cA Ud:List MV)(e:Em)(n:N5)(i:Nat)(a0 rc nx:MV)(KU:Nat)(ws1 X9:Bool)(oe1:MV)(nQ dQ:Nat)(Hv qV:Bool)(oe2:MV):eN:=R [.str n.v,.none,.none,.none,.none,.none,.none,.int (n.col:Nat),.none,.none,.int (i:Nat),.none,.int (n.line:Nat),.none,.int (KU:Nat),.none,.none,.none,.none,.none,e.state,.none,.int (n.fl:Nat),e.root,e.seq,e.map,e.sk,e.oe,e.bi,e.tp,.none,.none,.none,.bool n.ws,.bool n.ind,.none,.none,e.au,.none,.none,.none,.none,.none,.none,.none,.none,.none,.none,.none,.none,.none,.none,.none,.none,.none,.none,.none,.none,.none,.none,.none,.none,.none,.none,.none,.none,.none,.none,.none,.none,.none,.none,.none,.none,.none,.bool n.p0,.bool n.p1,a0,n.asked,rc,.none,.none,.bool n.rt,.bool n.sq,.bool n.mp,.bool n.sk,.int ((i+n.b:Nat):Int),.none,.none,.none,nx,.str n.s,.bool ws1,.bool X9,oe1,.int (nQ:Nat),.int (dQ:Nat),.bool Hv,.bool qV,oe2] [w0,w1,rows,S,events,I,cA,Ud] (λ_=>none)
noncomputable def N5.e0(n:N5)(e:Em)(i0 a0:MV):Em:={e with event:=qO (.bool n.p0) (.bool n.p1) (.str n.v) n.asked,indent:=i0,fy:=.int (n.fl:Nat),line:=.int (n.line:Nat),col:=.int (n.col:Nat),ws:=.bool n.ws,ind:=.bool n.ind,an:=a0,st:=.none}
noncomputable def N5.e1(n:N5)(e:Em)(i0 nx:MV)(col line:Nat)(ws ind:Bool)(oe:MV):Em:={e with state:=nx,event:=qO (.bool n.p0) (.bool n.p1) (.str n.v) n.asked,indent:=i0,fy:=.int (n.fl:Nat),root:=.bool n.rt,seq:=.bool n.sq,map:=.bool n.mp,sk:=.bool n.sk,line:=.int (line:Nat),col:=.int (col:Nat),ws:=.bool ws,ind:=.bool ind,oe:=oe,an:=.none,st:=.none}
noncomputable def N5.tg(n:N5):Bool:=tagged n.s n.p1
noncomputable def N5.nr(n:N5)(au:Bool)(M:Nat)(oe:MV):NR:=Mine.nr au M n.b n.rt n.s n.v (!n.tg&&n.ws) (!n.tg&&n.ind) (cond n.tg (.bool false) oe)
structure qW(n:N5)(e:Em)(au:Bool)(M B B2:Nat)(rows:List MV):Prop where
 qN:e.au=.bool au
 bi:e.bi=.int (n.b:Nat)
 b:n.b∈[2,3,4]
 hM:1≤M∧M≤100
 v:∀c∈n.v,c∈bH
 len:n.v.length≤10
 hB:B≤900∧M+12 * n.v.length+30≤B
 Qq:B2≤8000
 col:n.col+12 * n.v.length+42≤B
 line:n.line+4 * n.v.length+110≤B2
 hr:rows.length+2100≤10 * B2
 asked:n.asked∈bQ
 fl:n.fl∈[0,1]
 s:(aA au n.v).iO n.asked n.p0 (Nat.beq n.fl 1) n.sk=n.s
 ok:ug n.s n.v
 p:((!n.s.isEmpty||n.p0)&&(n.p0||n.p1))=true
theorem LQ(au:Bool)(v:List Nat):(aA au v).v=v:=by cases v<;>rfl
noncomputable def Em.wb(e:Em)(b:Nat):Em:={e with bi:=.int (b:Nat)}
theorem Ue{e:Em}{b:Nat}(h:e.bi=.int (b:Nat)):∃e',e=Em.wb e' b:=⟨e,by cases e;cases h;rfl⟩
noncomputable def N5.r0(n:N5)(rows:List MV):List MV:=rows++cond n.tg [.str (cond n.ws [33] [32,33])] []
noncomputable def N5.c0(n:N5):Nat:=cond n.tg (n.col+cond n.ws 1 2) n.col
theorem N5.O6(n:N5)(rows:List MV):(n.r0 rows).length≤rows.length+1:=by
 unfold N5.r0;rw [aY];cases n.tg
 ·exact Nat.le_succ _
 ·exact bf _
theorem N5.aaa(n:N5)(rows:List MV):rows.length≤(n.r0 rows).length:=ak (bZ _ _) (Nat.le_of_eq aY.symm)
theorem N5.Ug(n:N5):n.c0≤n.col+2:=by
 unfold N5.c0;cases n.tg
 ·exact bZ _ _
 ·exact dD (by cases n.ws<;>decide) _
theorem Yb{au rt ws ind:Bool}{M b:Nat}{s v:List Nat}{oe:MV}(ok:ug s v)(h:(nr au M b rt s v ws ind oe).k=true):s=[]:=by rcases ok with ⟨rfl,_⟩|rfl|rfl|⟨rfl,_⟩|⟨rfl,_⟩<;>first|rfl|exact Bool.noConfusion h
theorem N5.Yc{n:N5}(ok:ug n.s n.v){au:Bool}{M:Nat}{oe:MV}(h:(n.nr au M oe).k=true):n.c0=n.col:=by unfold N5.c0 N5.tg;rw [Yb ok h];rfl
noncomputable def N5.x(n:N5)(e:Em)(w0 w1 S events I:List MV)(au:Bool)(M B B2:Nat):Cx:=⟨w0,w1,S,events,I,{e with event:=qO (.bool n.p0) (.bool n.p1) (.str n.v) n.asked,fy:=.int (n.fl:Nat),root:=.bool n.rt,seq:=.bool n.sq,map:=.bool n.mp,oe:=cond n.tg (.bool false) e.oe},n.v,.none,M,au,B,B2⟩
section
variable {n:N5}{e:Em}{au:Bool}{M B B2:Nat}{rows:List MV}(C:qW n e au M B B2 rows){w0 w1 S events I:List MV}
include C
theorem qW.node:NodeOk ((n.x e w0 w1 S events I au M B B2).C4 (aA au n.v) n.s n.sk) (n.r0 rows) n.c0 n.line n.b n.rt:=⟨C.qN,C.hM,C.v,C.len,C.hB,C.Qq,ak (cO (cO n.Ug _) 40) (ak (Nat.le_of_eq (congrArg (·+40) (Nat.add_right_comm n.col 2 _))) C.col),C.line,ak (cO (n.O6 rows) 2000) (ak (Nat.le_of_eq (Nat.add_assoc _ 1 2000)) (ak (dD (by decide) _) C.hr)),C.bi,C.b,rfl⟩
theorem qW.c9:n.col≤10000:=ak (ak (bZ _ (12 * n.v.length)) (bZ _ 42)) (ak C.col (ak C.hB.1 (by decide)))
theorem qW.r9:rows.length≤90000:=ak (Kw C.hr C.Qq) (by decide)
end
noncomputable abbrev N5.R(n:N5)(e:Em)(w0 w1 rows S events I:List MV)(au:Bool)(M i:Nat)(d:Bool)(nx:MV)(z:Zd):eN:=RX w0 w1 rows S events I (n.r0 rows) (n.r0 rows++z.Q) e n i (cond d (aA au n.v).mv .none) (aA au n.v).mv nx n.c0 (!n.tg&&n.ws) (!n.tg&&n.ind) (cond n.tg (.bool false) e.oe) z.col z.line (n.nr au M e.oe).ws (n.nr au M e.oe).ind (n.nr au M e.oe).oe
section
variable {w0 w1 rows S events I:List MV}{e:Em}{au:Bool}{M B B2:Nat}{n:N5}(C:qW n (e.wb n.b) au M B B2 rows){d:Bool}{i0:Bool}{i:Nat}(hi:cond i0 (i+n.b) n.b=M)(hI:I.length≤1000){nx:MV}
include C hi hI
theorem KV{z:Zd}(h:Ends (λk=>(E L1.prog k).ca 45 [.obj 4] (hw ((n.x (e.wb n.b) w0 w1 (S++[nx]) events (I++[cond i0 (.int (i:Nat)) .none]) au M B B2).C4 (aA au n.v) n.s n.sk) (n.r0 rows) n.c0 n.line (.bool (!n.tg&&n.ws)) (.bool (!n.tg&&n.ind)))) (λd=>hw (((n.x (e.wb n.b) w0 w1 (S++[nx]) events (I++[cond i0 (.int (i:Nat)) .none]) au M B B2).C4 (aA au n.v) n.s n.sk).dn (n.nr au M e.oe).oe) (n.r0 rows++d.Q) d.col d.line (.bool (n.nr au M e.oe).ws) (.bool (n.nr au M e.oe).ind)) 100 B B2 (n.r0 rows).length n.c0 (n.nr au M e.oe) z):
  Holds L1.prog (n.R (e.wb n.b) w0 w1 rows S events I au M i d nx z) (nFc i0) where
 ny:=aa
 cmp:=by cases i0 with
  |true=>exact af rfl aa
  |false=>exact aa
 bin:=aa
 sub:=aa
 qM:=aa
 bi:=aa
 join:=aa
 room:=af (CB (ak hI (by decide))) aa
 aug:=by
  have hM:M≤1000000000:=ak C.hM.2 (by decide)
  clear h;revert hi
  cases i0 with
  |true=>exact λhi=>af (λh=>dH rfl (ak (Nat.le_of_eq hi) hM) h) aa
  |false=>exact λ_=>aa
 starts:=aa
 st:=aa
 ev:=aa
 call:=af (λk hk=>by
  have h:=O4 (w0:=w0) (w1:=w1) (rows:=rows) (states:=S++[nx]) (events:=events) (aK:=I) (e:={e.wb n.b with indent:=cond i0 (.int (i:Nat)) .none,root:=.bool n.rt,seq:=.bool n.sq,map:=.bool n.mp,sk:=.bool n.sk,line:=.int (n.line:Nat)}) (au:=au) (sk:=n.sk) (p0:=n.p0) (p1:=n.p1) C.qN rfl (v:=n.v) (ak C.len (by decide)) C.v (asked:=n.asked) C.asked (fl:=n.fl) C.fl d n.ws n.ind (col:=n.col) C.c9 C.r9 (s:=n.s) C.s (LO C.ok) C.p k hk
  clear hi
  cases i0<;>exact h) (af (λk hk=>by
  have h:=h.run k hk;subst hi;clear C
  cases i0<;>exact h) aa)
end
theorem O7{w0 w1 rows S events I:List MV}{e:Em}{au:Bool}{M B B2:Nat}{n:N5}(C:qW n e au M B B2 rows)(d:Bool)(i0:Bool)(i:Nat)(hi:cond i0 (i+n.b) n.b=M)(hI:I.length≤1000)(nx:MV):
  ∃z,Ends (λk=>(E L1.prog k).ca 19 [.obj 4,.bool n.rt,.bool n.sq,.bool n.mp,.bool n.sk] (hE w0 w1 rows (S++[nx]) events I (n.e0 e (cond i0 (.int (i:Nat)) .none) (cond d (aA au n.v).mv .none)))) (λz=>hE w0 w1 (n.r0 rows++z.Q) S events I (n.e1 e (cond i0 (.int (i:Nat)) .none) nx z.col z.line (n.nr au M e.oe).ws (n.nr au M e.oe).ind (n.nr au M e.oe).oe)) 330 B B2 (n.r0 rows).length n.col (n.nr au M e.oe) z:=by
 obtain ⟨e,rfl⟩:=Ue C.bi;obtain ⟨z,h⟩:=O3 (ws:= !n.tg&&n.ws) (ind:= !n.tg&&n.ind) (sk:=n.sk) (x:=n.x (e.wb n.b) w0 w1 (S++[nx]) events (I++[cond i0 (.int (i:Nat)) .none]) au M B B2) C.node (a:=aA au n.v) (LQ au n.v) (s:=n.s) C.ok (q:=n.nr au M e.oe) rfl;refine ⟨z,λk hk=>?_,h.j,h.col,h.line,h.room,h.z,λq=>(h.k q).trans (N5.Yc C.ok q)⟩
 have r:=eX (KV C hi hI (d:=d) h) (aj n19 i0) hk;clear hi C h
 cases i0<;>exact r
noncomputable def iZ:bg:=[.list (some 0) [],.list (some 1) []]
noncomputable def hL(w0 w1:List MV):Hp:=[.list w0,.list w1]
theorem O8{z:List Nat}(hz:z.length≤1000000):qY z=some (.str z):=if_pos hz
theorem cj{x y z:List Nat}(h:x++y=z)(hz:z.length≤1000000)(H:Hp):binOp .Add (.str x) (.str y) H=some (.str z):=by
 show (qY (x++y)).or _=_
 rw [h,O8 hz];rfl
theorem uh{P:Prog}{ρ:eN}{F:Facts}(K:Holds P ρ F){N t:Nat}{b:List aB}{x:MV}{l l':aR}{h h':bg}(q:eZ P F N b (gV l t x) h .next l' h'=true)(r:List MV):∀k,N≤k→bO (E P k) (.aP t) b (x.I ρ::r) (aG ρ l) (aV ρ h)=bO (E P k) (.aP t) b r (aG ρ l') (aV ρ h'):=λk hk=>wm K q hk r
noncomputable def wQ:aB→List aB
 |.fz _ _ b=>b
 |_=>[]
noncomputable def O9:aB:=L1.f68.body.getD 2 .pass
noncomputable def Yd(w:Bool)(c:Nat):MV:=cond (aW c) (.str (cond (!w&&Nat.beq c 10) [10] [])) (cond w (X 1) (.str []))
noncomputable def Qs(c:Nat):List Nat:=cond (aW c) [c] (cond (Nat.beq c 39) [39,39] [c])
noncomputable def F68(w:Bool)(c:Nat):Facts:={bin:=[(.Add,X 2,Yd w c,X 3),(.Add,X 3,.str (Qs c),X 4)]}
noncomputable def l68(t w c:MV):aR:=[.v (X 0),.v (X 1),.v t,.v w,.v c]
theorem k68:(bD λw=>bH.all λc=>eZ L1.prog (F68 w c) 40 (wQ O9) (l68 (X 2) (.bool w) (bw c)) iZ .next (l68 (X 4) (.bool (aW c)) (bw c)) iZ)=true:=by kernel_rfl
noncomputable def L68(v m t:List Nat)(w:Bool)(a:Option MV):Loc:=[some (.str v),some (.str m),some (.str t),some (.bool w),a]
noncomputable def LS(M:Nat)(w:Bool)(c:Nat):List Nat:=cond (aW c) (cond (!w&&Nat.beq c 10) [10] []) (cond w (eT M) [])
theorem um{M:Nat}(hM:M≤100):(eT M).length≤100:=ak (Nat.le_of_eq List.length_replicate) hM
theorem bP{a b:List Nat}{m n k:Nat}(ha:a.length≤m)(hb:b.length≤n)(h:m+n≤k):(a++b).length≤k:=by rw [aY];exact ak (Nat.add_le_add ha hb) h
theorem Gp{M:Nat}(hM:M≤100){w:Bool}{c:Nat}:(LS M w c).length≤100:=cl (cl (by decide) (Nat.zero_le _)) (cl (um hM) (Nat.zero_le _))
theorem Gq{c:Nat}:(Qs c).length≤2:=cl (by decide:1≤2) (cl (bf _) (by decide:1≤2))
theorem Ye{M:Nat}{w:Bool}{c:Nat}{t r:List Nat}:(t++LS M w c++Qs c)++sq M (aW c) r=t++sq M w (c::r):=by
 rw [bJ,bJ];unfold LS Qs
 cases hb:aW c with
 |true=>rw [Gb hb];rfl
 |false=>rw [Gd hb];rfl
structure Q68 where
 t:List Nat
 w:Bool
 a:Option MV
noncomputable def Yg(w0 w1:List MV)(v:List Nat)(M:Nat)(t x y:List Nat)(a:Option MV):eN:=R [.str v,.str (eT M),.str t,.str x,.str y] [w0,w1] (λ_=>a)
section
variable {w0 w1:List MV}{v:List Nat}{M:Nat}(hM:M≤100)
theorem Uh{t x y:List Nat}{a:Option MV}{w:Bool}{c:Nat}:(Yd w c).I (Yg w0 w1 v M t x y a)=.str (LS M w c):=by
 unfold Yd LS
 cases aW c
 ·cases w<;>rfl
 ·rfl
include hM
theorem K68{t:List Nat}(ht:t.length≤100000){a:Option MV}{w:Bool}{c:Nat}:Holds L1.prog (Yg w0 w1 v M t (t++LS M w c) (t++LS M w c++Qs c) a) (F68 w c):=
 have h:=bP ht (Gp (w:=w) (c:=c) hM) (bf _)
 ⟨aa,aa,af (λH=>(congrArg (binOp .Add (.str t) · H) Uh).trans (cj rfl (ak h (by decide)) H)) (af (λH=>cj rfl (bP h Gq (by decide)) H) aa),aa,aa,aa,aa,aa,aa,aa,aa,aa,aa⟩
theorem Pa(r:List Nat):∀(t:List Nat) (w:Bool) (a:Option MV),(∀c∈r,c∈bH)→t.length+200 * r.length≤100000→
  ∃z:Q68,(∀k,40≤k→bO (E L1.prog k) (.aP 4) (wQ O9) (r.map bw) (L68 v (eT M) t w a) (hL w0 w1)=some (.next,L68 v (eT M) z.t z.w z.a,hL w0 w1))∧z.t++cond z.w (eT M) []=t++sq M w r∧z.t.length≤100000:=by
 induction r with
 |nil=>exact λt w a _ hl=>⟨⟨t,w,a⟩,λk hk=>rfl,rfl,hl⟩
 |cons c r ih=>
  intro t w a hc hl;have ht:=ak (bZ _ _) hl;have zm:(t++LS M w c++Qs c).length+200 * r.length≤100000:=by rw [List.length_cons,Nat.mul_succ,Nat.add_comm _ 200, ← Nat.add_assoc] at hl;exact ak (cO (bP (bP (bf _) (Gp hM) (bf _)) Gq (ak (Nat.le_of_eq (Nat.add_assoc _ _ _)) (dD (by decide) _))) _) hl
  exact (ih _ (aW c) (some (bw c)) (λd hd=>hc d (bR _ hd)) zm).imp λz h=>⟨λk hk=>(uh (K68 (w0:=w0) (w1:=w1) (v:=v) (a:=a) hM ht) (l:=[.v (X 0),.v (X 1),.v (X 2),.v (.bool w),.o 0]) (t:=4) (x:=bw c) (ao (aj k68 w) (hc c (cy ..))) (r.map bw) k hk).trans (h.1 k hk),h.2.1.trans Ye,h.2.2⟩
end
noncomputable def Ui(w:Bool):xh:={n:=40,s:=O9,l:=[.v (X 0),.v (X 1),.v (.str [39]),.v (.bool false),.u],h:=iZ,l':=[.v (X 0),.v (X 1),.v (X 2),.v (.bool w),.o 0],h':=iZ}
theorem c68:(bD λw=>fK L1.prog {bin:=[(.Add,X 2,cond w (X 1) (.str []),X 3),(.Add,X 3,.str [39],X 4)],st:=[Ui w]} 60 68 [X 0,X 1] iZ (X 4) iZ)=true:=by kernel_rfl
theorem Pb{w0 w1:List MV}{v:List Nat}{M:Nat}(hM:M≤100)(hc:∀c∈v,c∈bH)(hl:v.length≤10):∀k,60≤k→(E L1.prog k).ca 68 [.str v,.str (eT M)] (hL w0 w1)=some (.str (39::(sq M false v++[39])),hL w0 w1):=λk hk=>by
 obtain ⟨z,h1,h2,h3⟩:=Pa (w0:=w0) (w1:=w1) (v:=v) hM v [39] false none hc (ak (dD (Nat.mul_le_mul_left 200 hl) 1) (by decide))
 have h4:(z.t++cond z.w (eT M) []).length≤100100:=bP h3 (cl (um hM) (Nat.zero_le _)) (bf _);have e:(z.t++cond z.w (eT M) [])++[39]=39::(sq M false v++[39]):=congrArg (·++[39]) h2;have K:Holds L1.prog (Yg w0 w1 v M z.t (z.t++cond z.w (eT M) []) (39::(sq M false v++[39])) z.a) {bin:=[(.Add,X 2,cond z.w (X 1) (.str []),X 3),(.Add,X 3,.str [39],X 4)],st:=[Ui z.w]}:=⟨aa,aa,af (λh=>(congrArg (binOp .Add (.str z.t) · h) (by cases z.w<;>rfl)).trans (cj rfl (ak h4 (by decide)) h)) (af (λh=>cj e (e▸bP h4 (bf 1) (by decide)) h) aa),aa,aa,aa,aa,aa,aa,aa,af (λk hk=>by obtain ⟨j,rfl⟩:=Nat.exists_eq_add_of_le' hk;exact lP (s:=v) rfl (h1 _ hk)) aa,aa,aa⟩
 exact eX K (aj c68 z.w) hk
noncomputable def CL:aB:=L1.f69.body.getD 1 .pass
noncomputable def Yh(e:List Nat):Nat:=cond (Nat.beq e.length 2) 1 2
noncomputable def F69(au:Bool)(c:Nat):Facts:={ny:=[(X 1,au)],bin:=cond (nE au c).isEmpty [(.Add,X 2,bw c,X 4)] [(.Add,X 2,.str ((nE au c).take (Yh (nE au c))),X 3),(.Add,X 3,.str ((nE au c).drop (Yh (nE au c))),X 4)]}
noncomputable def l69(t c:MV)(n d u:SL):aR:=[.v (X 0),.v (X 1),.v t,.v c,n,d,u]
noncomputable def Uj(au:Bool)(c:Nat):Bool:=gU ((SE L1.prog (F69 au c) 60).ex (wQ CL) (l69 (X 2) (bw c) (.o 1) (.o 2) (.o 3)) iZ) λx=>Co x.1 .next&&EG x.2.2 iZ&&Hq Cn (x.2.1.take 4) [.v (X 0),.v (X 1),.v (X 4),.v (bw c)]&&Nat.beq x.2.1.length 7
theorem k69:(bD λau=>bH.all λc=>Uj au c)=true:=by kernel_rfl
structure Uk where
 a:Option MV
 b:Option MV
 c:Option MV
 d:Option MV
noncomputable def Pd(v:List Nat)(au:Bool)(t:List Nat)(q:Uk):Loc:=[some (.str v),some (.bool au),some (.str t),q.a,q.b,q.c,q.d]
noncomputable def Qt(au:Bool)(c:Nat):List Nat:=cond (nE au c).isEmpty [c] (nE au c)
theorem uo(au:Bool){c:Nat}(h:c∈bH):(Qt au c).length≤10:=by
 have:(bD λau=>bH.all λc=>Nat.ble (Qt au c).length 10)=true:=by decide
 exact cM (ao (aj this au) h)
theorem cons_of{α:Type}{l:List α}{n:Nat}(h:l.length=n+1):∃a r,l=a::r∧r.length=n:=by
 cases l with
 |nil=>cases h
 |cons a r=>exact ⟨a,r,rfl,Nat.succ.inj h⟩
theorem Yi{α:Type}{l:List α}(h:l.length=3):∃a b c,l=[a,b,c]:=
 match cons_of h with
 |⟨a,r,e,h⟩=>match cons_of h with
  |⟨b,q,e2,h⟩=>match cons_of h with
   |⟨c,p,e3,h⟩=>⟨a,b,c,by rw [e,e2,e3,List.eq_nil_of_length_eq_zero h]⟩
theorem Ul{α:Type}{l:List α}{x0 x1 x2 x3:α}(h:l.take 4=[x0,x1,x2,x3])(n:l.length=7):∃a b c,l=[x0,x1,x2,x3,a,b,c]:=
 match Yi (l:=l.drop 4) (by rw [List.length_drop,n]) with
 |⟨a,b,c,e⟩=>⟨a,b,c,by rw [← List.take_append_drop 4 l,h,e];rfl⟩
theorem KW{α β:Type}{o:Option α}{a:α}{f:α→Option β}{r:Option β}(e:o=some a)(h:f a=r:=by rfl):o.bind f=r:=by subst e;exact h
noncomputable abbrev Um(w0 w1:List MV)(v t:List Nat)(au:Bool)(c:Nat)(q:Uk):eN:=R [.str v,.bool au,.str t,.str (t++(nE au c).take (Yh (nE au c))),.str (t++Qt au c)] [w0,w1] (λi=>cond (Nat.beq i 1) q.b (cond (Nat.beq i 2) q.c q.d))
theorem st7{o:Option (Fl×aR×bg)}{x0 x1 x2 x3:SL}(h:(gU o λx=>Co x.1 .next&&EG x.2.2 iZ&&Hq Cn (x.2.1.take 4) [x0,x1,x2,x3]&&Nat.beq x.2.1.length 7)=true):∃a b c,o=some (.next,[x0,x1,x2,x3,a,b,c],iZ):=
 bV h λ(f,l,h') e1 e=>av e λe e5=>av e λe e4=>av e λe2 e3=>match Ul (jP n5 e4) (cG e5) with
  |⟨a,b,c,q⟩=>⟨a,b,c,e1.trans (congrArg some (Prod.ext (n6 e2) (Prod.ext q (jl e3))))⟩
section
variable {w0 w1:List MV}{v:List Nat}{au:Bool}
theorem K69{t:List Nat}{c:Nat}(hc:c∈bH)(hl:t.length≤1000){q:Uk}:Holds L1.prog (Um w0 w1 v t au c q) (F69 au c):=by
 have hlen:=uo au hc;refine ⟨af (λ_=>rfl) aa,aa,?_,aa,aa,aa,aa,aa,aa,aa,aa,aa,aa⟩
 revert hlen;unfold Um Qt;show _→∀e∈cond (nE au c).isEmpty _ _,_
 cases (nE au c).isEmpty with
 |true=>exact λhlen=>af (λh=>cj rfl (bP hl (bf 1) (by decide)) h) aa
 |false=>intro hlen;have hlen:(nE au c).length≤10:=hlen;exact af (λh=>cj rfl (bP hl (ak (List.length_take_le' ..) hlen) (by decide)) h) (af (λh=>cj (by rw [bJ,List.take_append_drop]) (bP hl hlen (by decide)) h) aa)
theorem Pe{t:List Nat}{c:Nat}(hc:c∈bH)(hl:t.length≤1000)(q:Uk)(r:List MV):∃q',∀k,60≤k→bO (E L1.prog k) (.aP 3) (wQ CL) (bw c::r) (Pd v au t q) (hL w0 w1)=bO (E L1.prog k) (.aP 3) (wQ CL) r (Pd v au (t++Qt au c) q') (hL w0 w1):=by obtain ⟨a4,a5,a6,e1⟩:=st7 (ao (aj k69 au) hc);exact ⟨⟨some (bw c),a4.I (Um w0 w1 v t au c q),a5.I (Um w0 w1 v t au c q),a6.I (Um w0 w1 v t au c q)⟩,λk hk=>KW (o:=(E L1.prog k).ex (wQ CL) (fD (Pd v au t q) 3 (bw c)) (hL w0 w1)) ((tW (K69 (q:=q) hc hl) 60 k hk).ex _ _ _ _ e1)⟩
theorem Pf(r:List Nat):∀(t:List Nat) (q:Uk),(∀c∈r,c∈bH)→t.length+10 * r.length≤1000→
  ∃q',∀k,60≤k→bO (E L1.prog k) (.aP 3) (wQ CL) (r.map bw) (Pd v au t q) (hL w0 w1)=some (.next,Pd v au (t++dq au r) q',hL w0 w1):=by
 induction r with
 |nil=>exact λt q _ _=>⟨q,λk hk=>congrArg (λt=>some (Fl.next,Pd v au t q,hL w0 w1)) (cH t).symm⟩
 |cons c r ih=>intro t q hc hl;have xm:=hc c (cy ..);obtain ⟨q1,st⟩:=Pe (w0:=w0) (w1:=w1) (v:=v) (t:=t) (au:=au) xm (ak (bZ _ _) hl) q (r.map bw);rw [List.length_cons,Nat.mul_succ,Nat.add_comm _ 10, ← Nat.add_assoc] at hl;exact (ih (t++Qt au c) q1 (λd hd=>hc d (bR _ hd)) (ak (cO (bP (bf _) (uo au xm) (bf _)) _) hl)).imp λq' h k hk=>(st k hk).trans ((h k hk).trans (congrArg (λt=>some (Fl.next,Pd v au t q',hL w0 w1)) (bJ ..)))
end
noncomputable def Un:xh:={n:=60,s:=CL,l:=[.v (X 0),.v (X 1),.v (.str [34]),.u,.u,.u,.u],h:=iZ,l':=[.v (X 0),.v (X 1),.v (X 2),.o 0,.o 1,.o 2,.o 3],h':=iZ}
theorem c69:fK L1.prog {bin:=[(.Add,X 2,.str [34],X 3)],st:=[Un]} 80 69 [X 0,X 1] iZ (X 3) iZ=true:=by kernel_rfl
theorem Gr(au:Bool){r:List Nat}(h:∀c∈r,c∈bH):(dq au r).length≤10 * r.length:=by
 induction r with
 |nil=>exact bf _
 |cons c r ih=>
  have h2:=ih λd hd=>h d (bR _ hd)
  exact bP (uo au (h c (cy ..))) h2 (Nat.le_of_eq (Nat.add_comm _ _))
theorem Pg{w0 w1:List MV}{v:List Nat}{au:Bool}(hc:∀c∈v,c∈bH)(hl:v.length≤10):∀k,80≤k→(E L1.prog k).ca 69 [.str v,.bool au] (hL w0 w1)=some (.str (34::(dq au v++[34])),hL w0 w1):=λk hk=>by
 have Uo:10 * v.length≤100:=Nat.mul_le_mul_left 10 hl;obtain ⟨q,h1⟩:=Pf (w0:=w0) (w1:=w1) (v:=v) (au:=au) v [34] ⟨none,none,none,none⟩ hc (ak (dD Uo 1) (by decide))
 have K:Holds L1.prog (R [.str v,.bool au,.str (34::dq au v),.str (34::(dq au v++[34]))] [w0,w1] (λi=>cond (Nat.beq i 0) q.a (cond (Nat.beq i 1) q.b (cond (Nat.beq i 2) q.c q.d)))) {bin:=[(.Add,X 2,.str [34],X 3)],st:=[Un]}:=⟨aa,aa,af (λh=>cj rfl (ak (Nat.succ_le_succ (bP (ak (Gr au hc) Uo) (bf 1) (bf _))) (by decide)) h) aa,aa,aa,aa,aa,aa,aa,aa,af (λk hk=>by obtain ⟨j,rfl⟩:=Nat.exists_eq_add_of_le' hk;exact lP (s:=v) rfl (h1 _ hk)) aa,aa,aa⟩
 exact eX K c69 hk
noncomputable def CM:aB:=L1.f70.body.getD 4 .pass
noncomputable def mQ(q:Nat)(op:Bool)(c:Nat)(rn:Bool):List Nat:=cond (Nat.beq q 62&&(op&&(!Nat.beq c 32&&rn))) [10] []
noncomputable def F70(q:Nat)(op rn fr:Bool)(c:Nat):Facts:={cmp:=[(.NotEq,X 6,.str [32],op),(.Eq,X 21,.str [10],rn)],qM:=[(X 5,none,some (.int 1),X 21)],bin:=cond (aW c) [(.Add,X 5,bw c,X 20)] (cond fr [(.Add,X 4,.str (mQ q op c rn),X 22),(.Add,X 22,X 5,X 23),(.Add,X 23,X 2,X 24),(.Add,X 24,bw c,X 25)] [(.Add,X 4,bw c,X 25)])}
noncomputable def Ph(q:Nat)(body run op:MV)(fr:Bool)(c e:SL):aR:=[.v (X 0),.v (.str [q]),.v (X 2),.v (X 3),.v body,.v run,.v op,.v (.bool fr),c,e,.u]
noncomputable def n70(q:Nat)(op rn fr:Bool)(c:Nat):aR:=cond (aW c) (Ph q (X 4) (X 20) (X 6) true (.v (bw c)) (.o 1)) (cond fr (Ph q (X 25) (.str []) (bw c) false (.v (bw c)) (.v (.str (mQ q op c rn)))) (Ph q (X 25) (X 5) (X 6) false (.v (bw c)) (.o 1)))
theorem k70:([124,62].all λq=>bD λop=>bD λrn=>bD λfr=>bH.all λc=>eZ L1.prog (F70 q op rn fr c) 40 (wQ CM) (Ph q (X 4) (X 5) (X 6) fr (.v (bw c)) (.o 1)) iZ .next (n70 q op rn fr c) iZ)=true:=by kernel_rfl
structure LB where
 b:List Nat
 r:List Nat
 o:Nat
 f:Bool
noncomputable def KX(q:Nat)(r:List Nat)(o c:Nat):List Nat:=mQ q (!Nat.beq o 32) c (Nat.beq (r.headD 0) 10)
noncomputable def C5(q M:Nat)(z:LB)(c:Nat):LB:=cond (aW c) ⟨z.b,z.r++[c],z.o,true⟩ (cond z.f ⟨z.b++(KX q z.r z.o c++(z.r++(eT M++[c]))),[],c,false⟩ ⟨z.b++[c],z.r,z.o,false⟩)
noncomputable def jv(q M:Nat)(b r:List Nat)(o:Nat)(f:Bool)(v:List Nat):LB:=v.foldl (C5 q M) ⟨b,r,o,f⟩
theorem Gs{q M:Nat}{b r:List Nat}{o:Nat}{f:Bool}{c:Nat}{v:List Nat}:jv q M b r o f (c::v)=cond (aW c) (jv q M b (r++[c]) o true v) (cond f (jv q M (b++(KX q r o c++(r++(eT M++[c])))) [] c false v) (jv q M (b++[c]) r o false v)):=by
 show v.foldl (C5 q M) (cond (aW c) _ (cond f _ _))=_
 cases aW c
 ·cases f<;>rfl
 ·rfl
noncomputable def VB(v:List Nat)(q M d:Nat)(z:LB)(x y:Option MV):Loc:=[some (.str v),some (.str [q]),some (.str (eT M)),some (.str [d]),some (.str z.b),some (.str z.r),some (bw z.o),some (.bool z.f),x,y,none]
noncomputable def R70(w0 w1:List MV)(v:List Nat)(M d:Nat)(b r:List Nat)(o c:Nat)(e:List Nat)(fr:Bool)(x y:Option MV):eN:=R [.str v,.none,.str (eT M),.str [d],.str b,.str r,bw o,.none,.none,.none,.none,.none,.none,.none,.none,.none,.none,.none,.none,.none,.str (r++[c]),.str (r.take 1),.str (b++e),.str (b++e++r),.str (b++e++r++eT M),.str (cond fr (b++(e++(r++(eT M++[c])))) (b++[c]))] [w0,w1] (λi=>cond (Nat.beq i 1) y x)
theorem Gu{q:Nat}{r:List Nat}{o c:Nat}:(KX q r o c).length≤1:=cl (bf _) (Nat.zero_le _)
theorem AK{q M:Nat}(hM:M≤100){z:LB}{c:Nat}:(C5 q M z c).b.length+(C5 q M z c).r.length≤z.b.length+z.r.length+200:=by
 have hm:=um hM;have he:=@Gu q z.r z.o c;unfold C5
 cases aW c
 ·cases z.f
  ·show (z.b++[c]).length+z.r.length≤_
   rw [aY,Nat.add_right_comm];exact dD (by decide:1≤200) _
  ·show (z.b++(KX q z.r z.o c++(z.r++(eT M++[c])))).length≤_
   rw [aY,Nat.add_assoc];refine dD ?_ _;rw [aY,aY,Nat.add_left_comm];exact dD (ak (Nat.add_le_add he (bP hm (bf 1) (bf _))) (by decide)) _
 ·show z.b.length+(z.r++[c]).length≤_
  rw [aY, ← Nat.add_assoc];exact dD (by decide:1≤200) _
theorem AM{q M:Nat}(hM:M≤100)(s:List Nat):∀z:LB,(s.foldl (C5 q M) z).b.length+(s.foldl (C5 q M) z).r.length≤z.b.length+z.r.length+200 * s.length:=by
 induction s with
 |nil=>exact λz=>bf _
 |cons c s ih=>exact λz=>ak (ih _) (ak (cO (AK hM) _) (Nat.le_of_eq (by rw [List.length_cons,Nat.mul_succ,Nat.add_assoc,Nat.add_comm 200])))
theorem KY{q M:Nat}(hM:M≤100)(s b r:List Nat)(o:Nat)(f:Bool):(jv q M b r o f s).1.length+(jv q M b r o f s).2.length≤b.length+r.length+200 * s.length:=AM hM s ⟨b,r,o,f⟩
theorem Gv(a n:Nat):decide ([a]=[n])=Nat.beq a n:=by
 cases h:Nat.beq a n with
 |true=>exact decide_eq_true (congrArg (λa=>[a]) (cG h))
 |false=>exact decide_eq_false λz=>Nat.ne_of_beq_eq_false h (List.cons.inj z).1
theorem Up{α:Type}{a b c d e:List α}:(((a++b)++c)++d)++e=a++(b++(c++(d++e))):=by rw [bJ,bJ,bJ]
section
variable {w0 w1:List MV}{v:List Nat}{q M d:Nat}(hq:q∈[124,62])(hM:M≤100)
include hM in
theorem K70{b r:List Nat}{o c:Nat}{f:Bool}(hb:b.length+r.length≤5000){x y:Option MV}:Holds L1.prog (R70 w0 w1 v M d b r o c (KX q r o c) f x y) (F70 q (!Nat.beq o 32) (Nat.beq (r.headD 0) 10) f c) where
 ny:=aa
 cmp:=af (congrArg (λz=>some (!z)) (Gv o 32)) (af (congrArg some (by
  cases r with
  |nil=>rfl
  |cons a t=>exact Gv a 10)) aa)
 bin:=by
  have h1:b.length≤5000:=ak (bZ _ _) hb;have h2:r.length≤5000:=ak (Nat.le_add_left _ _) hb;have h3:(b++KX q r o c).length≤5001:=bP h1 Gu (bf _);have h4:(b++KX q r o c++r).length≤10001:=bP h3 h2 (bf _);have h5:(b++KX q r o c++r++eT M).length≤10101:=bP h4 (um hM) (bf _);show ∀z∈cond (aW c) _ (cond f _ _),_
  cases aW c with
  |true=>exact af (λh=>cj rfl (bP h2 (bf 1) (by decide)) h) aa
  |false=>
   cases f with
   |false=>exact af (λh=>cj rfl (bP h1 (bf 1) (by decide)) h) aa
   |true=>exact af (λh=>cj rfl (ak h3 (by decide)) h) (af (λh=>cj rfl (ak h4 (by decide)) h) (af (λh=>cj rfl (ak h5 (by decide)) h) (af (λh=>cj Up (Up▸bP h5 (bf 1) (by decide)) h) aa)))
 sub:=aa
 qM:=af (λh=>yK rfl (fL rfl) (t6 r 1) h) aa
 bi:=aa
 join:=aa
 room:=aa
 aug:=aa
 starts:=aa
 st:=aa
 ev:=aa
 call:=aa
include hq hM
theorem Pj{z:LB}{c:Nat}(hc:c∈bH)(hb:z.b.length+z.r.length≤5000)(x y:Option MV)(rest:List MV):
  ∃y',∀k,40≤k→bO (E L1.prog k) (.aP 8) (wQ CM) (bw c::rest) (VB v q M d z x y) (hL w0 w1)=bO (E L1.prog k) (.aP 8) (wQ CM) rest (VB v q M d (C5 q M z c) (some (bw c)) y') (hL w0 w1):=by
 obtain ⟨b,r,o,f⟩:=z;refine ⟨cond (aW c) y (cond f (some (.str (KX q r o c))) y),λk hk=>(uh (K70 (w0:=w0) (w1:=w1) (v:=v) (d:=d) (x:=x) (y:=y) hM hb) (l:=Ph q (X 4) (X 5) (X 6) f (.o 0) (.o 1)) (t:=8) (x:=bw c) (ao (aj (aj (aj (ao k70 hq) (!Nat.beq o 32)) (Nat.beq (r.headD 0) 10)) f) hc) rest k hk).trans (congrArg (λl=>bO (E L1.prog k) (.aP 8) (wQ CM) rest l (hL w0 w1)) ?_)⟩
 unfold n70 C5
 cases aW c
 ·cases f<;>rfl
 ·rfl
theorem Pn(s:List Nat):∀(z:LB) (x y:Option MV),(∀c∈s,c∈bH)→z.b.length+z.r.length+200 * s.length≤5000→
  ∃x' y',∀k,40≤k→bO (E L1.prog k) (.aP 8) (wQ CM) (s.map bw) (VB v q M d z x y) (hL w0 w1)=some (.next,VB v q M d (s.foldl (C5 q M) z) x' y',hL w0 w1):=by
 induction s with
 |nil=>exact λz x y _ _=>⟨x,y,λk hk=>rfl⟩
 |cons c s ih=>intro z x y hc hl;obtain ⟨y1,st⟩:=Pj (w0:=w0) (w1:=w1) (v:=v) (d:=d) hq hM (z:=z) (hc c (cy ..)) (ak (bZ _ _) hl) x y (s.map bw);exact (ih (C5 q M z c) (some (bw c)) y1 (λz hz=>hc z (bR _ hz)) (ak (cO (AK hM) _) (by rw [List.length_cons,Nat.mul_succ,Nat.add_comm _ 200, ← Nat.add_assoc] at hl;exact hl))).imp λx' h=>h.imp λy' h k hk=>(st k hk).trans (h k hk)
end
noncomputable def wU(rz r1 bz:Bool):List Nat:=cond rz [45] (cond (r1&& !bz) [] [43])
noncomputable def Yj(q:Nat)(f:Bool):xh:={n:=40,s:=CM,l:=Ph q (.str []) (.str []) (.str [32]) true .u .u,h:=iZ,l':=Ph q (X 4) (X 5) (X 6) f (.o 0) (.o 1),h':=iZ}
noncomputable def G70(q:Nat)(f rz r1 bz fb sp:Bool):Facts:={cmp:=[(.Eq,X 5,.str [],rz),(.Eq,X 7,.int 1,r1),(.NotEq,X 4,.str [], !bz),(.Eq,X 8,.str [32],sp),(.In,X 8,.str [10,133,8232,8233],fb),(.NotEq,X 5,.str [], !rz)],bi:=[(.len,X 5,X 7)],sub:=[(X 0,.int 0,X 8)],bin:=cond (sp||fb) [(.Add,.str [q],X 3,X 10),(.Add,X 10,.str (wU rz r1 bz),X 11),(.Add,X 11,.str [10],X 12),(.Add,X 12,X 4,X 13),(.Add,X 13,cond rz (.str [10]) (X 5),X 14)] [(.Add,.str (q::(wU rz r1 bz++[10])),X 4,X 13),(.Add,X 13,cond rz (.str [10]) (X 5),X 14)],st:=[Yj q f]}
theorem c70:([124,62].all λq=>bD λf=>bD λrz=>bD λr1=>bD λbz=>bD λfb=>bD λsp=>fK L1.prog (G70 q f rz r1 bz fb sp) 70 70 [X 0,.str [q],X 2,X 3] iZ (X 14) iZ)=true:=by kernel_rfl
noncomputable def KZ(q M d:Nat)(v:List Nat):List Nat:=q::(cond (Nat.beq (v.headD 0) 32||aW (v.headD 0)) [d] []++(wU (jv q M [] [] 32 true v).2.isEmpty (decide ((jv q M [] [] 32 true v).2.length=1)) (jv q M [] [] 32 true v).1.isEmpty++(10::((jv q M [] [] 32 true v).1++cond (jv q M [] [] 32 true v).2.isEmpty [10] (jv q M [] [] 32 true v).2))))
noncomputable def Qu(w0 w1:List MV)(v:List Nat)(M d:Nat)(z:LB)(x y:Option MV)(q:Nat)(p e t:List Nat):eN:=R [.str v,.none,.str (eT M),.str [d],.str z.b,.str z.r,bw z.o,.int (z.r.length:Nat),bw (v.headD 0),.none,.str (q::p),.str (q::(p++e)),.str (q::(p++(e++[10]))),.str (q::(p++(e++(10::z.b)))),.str (q::(p++(e++(10::(z.b++t)))))] [w0,w1] (λi=>cond (Nat.beq i 1) y x)
theorem LU{x:List Nat}:dz .Eq (.str x) (.str [])=some x.isEmpty:=by
 show some (decide (x=[]))=_
 cases x with
 |nil=>rfl
 |cons _ _=>rfl
theorem sd{x:List Nat}:dz .NotEq (.str x) (.str [])=some (!x.isEmpty):=by
 show some (!decide (x=[]))=_
 cases x with
 |nil=>rfl
 |cons _ _=>rfl
theorem Po{c n:Nat}:dz .Eq (bw c) (.str [n])=some (Nat.beq c n):=congrArg some (Gv c n)
theorem Uq{p e b t:List Nat}{n:Nat}:(p++(e++(n::b)))++t=p++(e++(n::(b++t))):=by rw [bJ,bJ];rfl
section
variable {w0 w1:List MV}{v:List Nat}{q M d:Nat}
theorem Ur{z:LB}{x y:Option MV}{p e t:List Nat}{B:Bool}{tv:MV}(hp:cond B [d] []=p)(he:e.length≤1)(hz:z.b.length≤5000)(ht:t.length≤5000)(htv:tv.I (Qu w0 w1 v M d z x y q p e t)=.str t):
  ∀a∈cond B [(.Add,.str [q],X 3,X 10),(.Add,X 10,.str e,X 11),(.Add,X 11,.str [10],X 12),(.Add,X 12,X 4,X 13),(.Add,X 13,tv,X 14)] [(.Add,.str (q::(e++[10])),X 4,X 13),(Operator.Add,X 13,tv,X 14)],∀h,binOp a.1 (a.2.1.I (Qu w0 w1 v M d z x y q p e t)) (a.2.2.1.I (Qu w0 w1 v M d z x y q p e t)) h=some (a.2.2.2.I (Qu w0 w1 v M d z x y q p e t)):=by
 have h0:p.length≤1:=hp▸cl (bf _) (Nat.zero_le _);have h1:(10::z.b).length≤5001:=Nat.succ_le_succ hz;have h4:(q::(p++(e++(10::z.b)))).length≤1000000:=ak (Nat.succ_le_succ (bP h0 (bP he h1 (bf _)) (bf _))) (by decide)
 have h5:(q::(p++(e++(10::(z.b++t))))).length≤1000000:=ak (Nat.succ_le_succ (bP h0 (bP he (Nat.succ_le_succ (bP hz ht (bf _))) (bf _)) (bf _))) (by decide)
 have l:∀h,binOp .Add (.str (q::(p++(e++(10::z.b))))) (tv.I (Qu w0 w1 v M d z x y q p e t)) h=some (.str (q::(p++(e++(10::(z.b++t)))))):=λh=>by rw [htv];exact cj (congrArg (q::·) Uq) h5 h
 have m:(q::(p++(e++[10])))++z.b=q::(p++(e++(10::z.b))):=congrArg (q::·) Uq
 cases B with
 |true=>subst hp;exact af (λh=>cj (x:=[q]) (y:=[d]) rfl (cM (m:=1000000) (n:=2) rfl) h)<|af (λh=>cj rfl (ak (Nat.succ_le_succ (bP h0 he (bf _))) (by decide)) h)<|af (λh=>cj (congrArg (q::·) (bJ ..)) (ak (Nat.succ_le_succ (bP h0 (bP he (bf 1) (bf _)) (bf _))) (by decide)) h)<|af (λh=>cj m h4 h)<|af l aa
 |false=>subst hp;exact af (λh=>cj m h4 h)<|af l aa
theorem Gw(hq:q∈[124,62])(hM:M≤100)(hc:∀c∈v,c∈bH)(oY:v≠[])(hl:v.length≤10):∀k,70≤k→(E L1.prog k).ca 70 [.str v,.str [q],.str (eT M),.str [d]] (hL w0 w1)=some (.str (KZ q M d v),hL w0 w1):=λk hk=>by
 have Us:200 * v.length≤2000:=Nat.mul_le_mul_left 200 hl;obtain ⟨x',y',h1⟩:=Pn (w0:=w0) (w1:=w1) (v:=v) (d:=d) hq hM v ⟨[],[],32,true⟩ none none hc (ak (Nat.le_of_eq (Nat.zero_add _)) (ak Us (by decide)))
 have h2:=ak (AM (q:=q) hM v ⟨[],[],32,true⟩) (ak (Nat.le_of_eq (Nat.zero_add _)) Us);unfold KZ jv;revert h1 h2;generalize v.foldl (C5 q M) ⟨[],[],32,true⟩=z;intro h1 h2;have hb:z.b.length≤5000:=ak (bZ _ _) (ak h2 (by decide))
 have hr:z.r.length≤5000:=ak (Nat.le_add_left _ _) (ak h2 (by decide))
 have K:Holds L1.prog (Qu w0 w1 v M d z x' y' q (cond (Nat.beq (v.headD 0) 32||aW (v.headD 0)) [d] []) (wU z.r.isEmpty (decide (z.r.length=1)) z.b.isEmpty) (cond z.r.isEmpty [10] z.r)) (G70 q z.f z.r.isEmpty (decide (z.r.length=1)) z.b.isEmpty (aW (v.headD 0)) (Nat.beq (v.headD 0) 32)):=⟨aa,af LU<|af (yJ (b:=1) rfl)<|af sd<|af Po<|af (CJ (n9 _))<|af sd aa,Ur rfl (cl (bf _) (cl (Nat.zero_le _) (bf _))) hb (cl (ak (by decide:1≤5000) (bf _)) hr) (by cases z.r.isEmpty<;>rfl),af (λh=>lN (i:=0) (by cases v with|nil=>exact absurd rfl oY|cons _ _=>rfl) (by decide) h) aa,aa,af (lM rfl) aa,aa,aa,aa,aa,af (λk hk=>by obtain ⟨j,rfl⟩:=Nat.exists_eq_add_of_le' hk;exact lP (s:=v) rfl (h1 _ hk)) aa,aa,aa⟩
 exact eX K (aj (aj (aj (aj (aj (aj (ao c70 hq) z.f) z.r.isEmpty) (decide (z.r.length=1))) z.b.isEmpty) (aW (v.headD 0))) (Nat.beq (v.headD 0) 32)) hk
end
noncomputable def ki(x:Option MV)(l:Loc):Loc:=Option.none::x::l
theorem oh{P:Prog}{k:Nat}{elt:ai}{h:Hp}{α:Type}{inj:α→MV}{g:α→MV}{fr:Option MV→Loc}{tgt:List Nat}{tup:Bool}(hb:∀a x,dU (fr x) tgt tup (inj a)=some (fr (some (inj a)))):∀(s:List α) (x:Option MV),(∀a∈s,(E P k).ev elt (fr (some (inj a))) h=some (g a,h))→cg (E P k) elt tgt tup [] (s.map inj) (fr x) h=some (s.map g,h)
 |[],x,_=>rfl
 |a::s,x,he=>by
  have h1:=he a (cy ..);have h2:=oh hb s (some (inj a)) λb hb=>he b (bR _ hb)
  show (dU (fr x) tgt tup (inj a)).bind (λl=>(tests (E P k) [] l h).bind λb=>if b.1=true then ((E P k).ev elt l b.2).bind (λv=>(cg (E P k) elt tgt tup [] (s.map inj) l v.2).bind λvs=>some (v.1::vs.1,vs.2)) else cg (E P k) elt tgt tup [] (s.map inj) l b.2)=_
  rw [hb];show ((E P k).ev elt (fr (some (inj a))) h).bind _=_
  rw [h1];show (cg (E P k) elt tgt tup [] (s.map inj) (fr (some (inj a))) h).bind _=_
  rw [h2];rfl
theorem uq{P:Prog}{k:Nat}{e:ai}{l:Loc}{h:Hp}{v:MV}{I:It}(he:(E P k).ev e l h=some (v,h))(hv:rg v h=some I):je (E P k) (.val e) l h=some (I,h):=by
 show ((E P k).ev e l h).bind _=_
 rw [he];exact congrArg (Option.map _) hv
theorem oi{P:Prog}{k nv:Nat}{elt:ai}{tgt:List Nat}{tup:Bool}{it:dw}{ifs:List ai}{l:Loc}{h:Hp}{xs ys:List MV}(hI:je (E P k) it l h=some (.items xs,h))(hg:cg (E P k) elt tgt tup ifs xs (List.replicate nv none++l) h=some (ys,h))(hl:ys.length≤1000):(E P (k+1)).ev (.comp false elt nv tgt tup it ifs) l h=some (.lst ys,h):=by
 show (je (E P k) it l h).bind _=_
 rw [hI];show (dW (E P k) elt tgt tup ifs (fE xs) (xs.length+1) 0 (List.replicate nv none++l) h).bind _=_
 rw [wj _ _ _ _ _ xs xs 0 _ _ rfl,hg];exact if_pos (decide_eq_true (ak hl (by decide)))
theorem ur{α β:Type}{l:List α}{f:α→β}(h:l.length≤1000):(l.map f).length≤1000:=ak (Nat.le_of_eq (cu ..)) h
theorem i6{P:Prog}{k:Nat}{elt e:ai}{l:Loc}{h:Hp}{s:List Nat}{g:Nat→MV}(hl:s.length≤1000)(he:(E P k).ev e l h=some (.str s,h))(hg:∀c∈s,(E P k).ev elt (ki (some (bw c)) l) h=some (g c,h)):(E P (k+1)).ev (.comp false elt 2 [1] false (.val e) []) l h=some (.lst (s.map g),h):=oi (uq he rfl) (oh (fr:=λx=>ki x l) (inj:=bw) (tgt:=[1]) (tup:=false) (λ_ _=>rfl) s none hg) (ur hl)
noncomputable def Qv(p:Nat×Nat):MV:=.tup [bw p.1,bw p.2]
noncomputable def K2(x:Option (Nat×Nat))(l:Loc):Loc:=Option.none::(x.map λp=>bw p.1)::(x.map λp=>bw p.2)::l
theorem qw{P:Prog}{k:Nat}{elt:ai}{h:Hp}{l:Loc}{g:Nat×Nat→MV}:∀(s:List (Nat×Nat)) (x:Option (Nat×Nat)),(∀a∈s,(E P k).ev elt (K2 (some a) l) h=some (g a,h))→cg (E P k) elt [1,2] true [] (s.map Qv) (K2 x l) h=some (s.map g,h)
 |[],x,_=>rfl
 |a::s,x,he=>by
  have h1:=he a (cy ..);have h2:=qw s (some a) λb hb=>he b (bR _ hb)
  show ((E P k).ev elt (K2 (some a) l) h).bind (λv=>(cg (E P k) elt [1,2] true [] (s.map Qv) (K2 (some a) l) v.2).bind λvs=>some (v.1::vs.1,vs.2))=_
  rw [h1];show (cg (E P k) elt [1,2] true [] (s.map Qv) (K2 (some a) l) h).bind _=_
  rw [h2];rfl
theorem Gx{P:Prog}{k:Nat}{elt a b:ai}{l:Loc}{h:Hp}{s t:List Nat}{g:Nat×Nat→MV}(hl:s.length≤1000)(ha:(E P k).ev a l h=some (.str s,h))(hb:(E P k).ev b l h=some (.str t,h))(hg:∀p∈s.zip t,(E P k).ev elt (K2 (some p) l) h=some (g p,h)):(E P (k+1)).ev (.comp false elt 3 [1,2] true (.zip a b) []) l h=some (.lst ((s.zip t).map g),h):=
 oi (xs:=(s.zip t).map Qv) (by
  show ((E P k).ev a l h).bind _=_
  rw [ha];show ((E P k).ev b l h).bind _=_
  rw [hb];rfl) (qw (s.zip t) none hg) (ur (ak (Nat.le_of_eq List.length_zip) (ak (Nat.min_le_left ..) hl)))
theorem wV{P:Prog}{k:Nat}{elt e:ai}{l:Loc}{h:Hp}{s:List (Nat×Nat)}{g:Nat×Nat→MV}(hl:s.length≤1000)(he:(E P k).ev e l h=some (.lst (s.map Qv),h))(hg:∀p∈s,(E P k).ev elt (K2 (some p) l) h=some (g p,h)):(E P (k+1)).ev (.comp false elt 3 [1,2] true (.val e) []) l h=some (.lst (s.map g),h):=oi (uq he rfl) (qw s none hg) (ur hl)
theorem CN{P:Prog}{k:Nat}{elt:ai}{h:Hp}{l:Loc}{o:Nat}{g:List Nat→MV}{ws:List (List Nat)}(ho:h[o]? =some (.list (ws.map .str)))(hg:∀w∈ws,(E P k).ev elt (ki (some (.str w)) l) h=some (g w,h))(r:List (List Nat)):∀(j:Nat) (x:Option MV),ws.drop j=r→dW (E P k) elt [1] false [] (kE o) (r.length+1) j (ki x l) h=some (r.map g,h):=by
 have ha:∀j,kE o j h=some ((ws[j]?).map .str):=λj=>by unfold kE;rw [ho, ← List.getElem?_map];rfl
 induction r with
 |nil=>
  intro j x e;show (kE o j h).bind _=_
  rw [ha,List.getElem?_eq_none (List.drop_eq_nil_iff.mp e)];rfl
 |cons w r ih=>
  intro j x e;have hj:ws[j]? =some w:=by rw [← Nat.add_zero j, ← List.getElem?_drop,e];rfl
  have h2:=ih (j+1) (some (.str w)) (by rw [← List.drop_drop,e];rfl)
  show (kE o j h).bind _=_
  rw [ha,hj];show ((E P k).ev elt (ki (some (.str w)) l) h).bind (λv=>(dW (E P k) elt [1] false [] (kE o) (r.length+1) (j+1) (ki (some (.str w)) l) v.2).bind λvs=>some (v.1::vs.1,vs.2))=_
  rw [hg w (List.mem_of_getElem? hj)];show (dW (E P k) elt [1] false [] (kE o) (r.length+1) (j+1) (ki (some (.str w)) l) h).bind _=_
  rw [h2];rfl
theorem Gy{P:Prog}{k:Nat}{elt e:ai}{l:Loc}{h:Hp}{o:Nat}{g:List Nat→MV}{ws:List (List Nat)}(hl:ws.length≤1000)(he:(E P k).ev e l h=some (.obj o,h))(ho:h[o]? =some (.list (ws.map .str)))(hg:∀w∈ws,(E P k).ev elt (ki (some (.str w)) l) h=some (g w,h)):(E P (k+1)).ev (.comp false elt 2 [1] false (.val e) []) l h=some (.lst (ws.map g),h):=by
 show (je (E P k) (.val e) l h).bind _=_
 rw [uq he (I:=.oJ o) (by show ((h[o]?).bind dS).map _=_;rw [ho];rfl)]
 show (dW (E P k) elt [1] false [] (kE o) ((((h[o]?).bind dS).map List.length).getD 0+1) 0 (ki none l) h).bind _=_
 rw [show (((h[o]?).bind dS).map List.length).getD 0=ws.length by rw [ho];exact cu ..,CN ho hg ws 0 none rfl]
 exact if_pos (decide_eq_true (ak (ur hl) (by decide)))
theorem wW:∀{α:Type} (p:α→Bool) (s:List α),allB (s.map λa=>.bool (p a))=some (s.all p)
 |_,_,[]=>rfl
 |_,p,a::s=>by
  show (allB (s.map _)).map _=_
  rw [wW p s];rfl
theorem fM{α:Type}{P:Prog}{p:α→Bool}{s:List α}(h:Hp):iH P .all [.lst (s.map λa=>.bool (p a))] h=some (.bool (s.all p)):=by
 show (allB (s.map λa=>.bool (p a))).map MV.bool=_
 rw [wW];rfl
noncomputable def hW(b:Bool)(cur:List MV):bg:=cond b [.list (some 0) [],.list (some 1) cur] [.list (some 1) cur]
noncomputable def hC(b:Bool)(w0 ws:List MV):Hp:=cond b [.list w0,.list ws] [.list ws]
noncomputable def wO(b:Bool):Nat:=cond b 1 0
noncomputable def yT:aB:=L1.Hs.body.getD 1 .pass
noncomputable def uF(c:Nat):Bool:=[32,9,10,133,8232].contains c
noncomputable def lw(b:Bool)(c:SL):aR:=[.v (X 0),.v (X 1),.v (X 2),.v (X 3),.v (X 4),.v (X 5),.v (.obj (wO b)),c,.u,.u,.u,.u,.u,.u,.u,.u]
noncomputable def F67(c:Nat):Facts:={room:=[1],bin:=[(.Add,X 10,bw c,X 11)]}
theorem k67:(bD λb=>bH.all λc=>eZ L1.prog (F67 c) 40 (wQ yT) (lw b (.v (bw c))) (hW b [X 10]) .next (lw b (.v (bw c))) (hW b (cond (uF c) [X 10,.str []] [X 11])))=true:=by kernel_rfl
noncomputable def gv:List Nat→List Nat→List (List Nat)
 |cur,[]=>[cur]
 |cur,c::r=>cond (uF c) (cur::gv [] r) (gv (cur++[c]) r)
structure CV where
 v:List Nat
 fl:MV
 ky:MV
 as:MV
 fr:MV
 wd:MV
noncomputable def Lw(b:Bool)(n:CV)(c:Option MV):Loc:=[some (.str n.v),some n.fl,some n.ky,some n.as,some n.fr,some n.wd,some (.obj (wO b)),c,none,none,none,none,none,none,none,none]
noncomputable def Rw(n:CV)(w0 pre:List MV)(cur:List Nat)(d:Nat)(a:Nat→Option MV):eN:=R [.str n.v,n.fl,n.ky,n.as,n.fr,n.wd,.none,.none,.none,.none,.str cur,.str (cur++[d])] [w0,pre] a
section
variable {b:Bool}{n:CV}{w0:List MV}
theorem Yl{W:Bool}{pre:List (List Nat)}{cur:List Nat}{c:Nat}{a:Nat→Option MV}:aV (Rw n w0 (pre.map .str) cur c a) (hW b (cond W [X 10,.str []] [X 11]))=hC b w0 ((cond W (pre++[cur]++[[]]) (pre++[cur++[c]])).map .str):=by
 cases W
 ·show _=hC b w0 ((pre++[cur++[c]]).map .str)
  rw [List.map_append];cases b<;>rfl
 ·show _=hC b w0 ((pre++[cur]++[[]]).map .str)
  rw [bJ,List.map_append];cases b<;>rfl
theorem Ym{pre:List (List Nat)}{cur:List Nat}{c:Nat}{a:Nat→Option MV}:aV (Rw n w0 (pre.map .str) cur c a) (hW b [X 10])=hC b w0 ((pre++[cur]).map .str):=by rw [List.map_append];cases b<;>rfl
theorem Pp{c:Nat}(hc:c∈bH){pre:List (List Nat)}{cur:List Nat}(h1:pre.length≤1000)(h2:cur.length≤1000)(x:Option MV)(rest:List MV)(k:Nat)(hk:40≤k):bO (E L1.prog k) (.aP 7) (wQ yT) (bw c::rest) (Lw b n x) (hC b w0 ((pre++[cur]).map .str))=bO (E L1.prog k) (.aP 7) (wQ yT) rest (Lw b n (some (bw c))) (hC b w0 ((cond (uF c) (pre++[cur]++[[]]) (pre++[cur++[c]])).map .str)):=by
 have K:Holds L1.prog (Rw n w0 (pre.map .str) cur c (λ_=>x)) (F67 c):=⟨aa,aa,af (λh=>cj rfl (bP h2 (bf 1) (by decide)) h) aa,aa,aa,aa,aa,af (CB (ak (Nat.le_of_eq (cu ..)) (ak h1 (by decide)))) aa,aa,aa,aa,aa,aa⟩
 have st:=uh K (l:=lw b (.o 0)) (t:=7) (x:=bw c) (ao (aj k67 b) hc) rest k hk;rw [Ym,Yl] at st;exact st
theorem Pq(r:List Nat):∀(pre:List (List Nat)) (cur:List Nat) (x:Option MV),(∀c∈r,c∈bH)→pre.length+r.length≤1000→cur.length+r.length≤1000→
  ∃x',∀k,40≤k→bO (E L1.prog k) (.aP 7) (wQ yT) (r.map bw) (Lw b n x) (hC b w0 ((pre++[cur]).map .str))=some (.next,Lw b n x',hC b w0 ((pre++gv cur r).map .str)):=by
 induction r with
 |nil=>exact λpre cur x _ _ _=>⟨x,λk hk=>rfl⟩
 |cons c r ih=>
  intro pre cur x hc h1 h2;have st:=Pp (b:=b) (n:=n) (w0:=w0) (hc c (cy ..)) (ak (bZ _ _) h1) (ak (bZ _ _) h2) x (r.map bw);have ih:=λp q=>ih p q (some (bw c)) (λz hz=>hc z (bR _ hz))
  unfold gv;revert st;rw [List.length_cons,Nat.add_comm r.length] at h1 h2
  cases uF c with
  |true=>exact λst=>(ih (pre++[cur]) [] (by rw [aY,Nat.add_assoc];exact h1) (ak (Nat.le_of_eq (Nat.zero_add _)) (ak (Nat.le_add_left _ 1) (ak (Nat.le_add_left _ _) h2)))).imp λx' h k hk=>(st k hk).trans ((h k hk).trans (congrArg (λl=>some (Fl.next,Lw b n x',hC b w0 (l.map .str))) (bJ ..)))
  |false=>exact λst=>(ih pre (cur++[c]) (ak (dD (Nat.le_add_left _ 1) _) h1) (by rw [aY,Nat.add_assoc];exact h2)).imp λx' h k hk=>(st k hk).trans (h k hk)
end
noncomputable def uG(n m:Nat):List aB:=(L1.Hs.body.drop n).take m
noncomputable def lv(b:Bool)(l:List SL):aR:=[.v (X 0),.v (X 1),.v (X 2),.v (X 3),.v (X 4),.v (X 5),.v (.obj (wO b)),.o 0]++l++List.replicate (8 - l.length) .u
noncomputable def K3:aB→ai
 |.assign _ e=>e
 |_=>.b7 .none
noncomputable def uu:ai→ai
 |.bM (.call _ [e] _ _)=>e
 |_=>.b7 .none
noncomputable def lT:ai→ai
 |.comp _ e _ _ _ _ _=>e
 |_=>.b7 .none
noncomputable def cE(i:Nat):ai:=uu (K3 (L1.Hs.body.getD i .pass))
noncomputable def zE:ai:=K3 (L1.Hs.body.getD 3 .pass)
noncomputable def K4(b:Bool)(e:ai)(l:List SL)(r:MV):Z7:={n:=40,e:=e,l:=lv b l,h:=hW b [],r:=r}
noncomputable def FB(b st li ah be:Bool):Facts:={ev:=[K4 b zE [.v (X 8)] (X 20),K4 b (cE 4) [.v (X 8),.v (X 20)] (X 21),K4 b (cE 5) [.v (X 8),.v (X 20),.v (.bool (!st))] (X 22),K4 b (cE 6) [.v (X 8),.v (X 20),.v (.bool (!st)),.v (.bool (!li))] (X 23),K4 b (cE 7) [.v (X 8),.v (X 20),.v (.bool (!st)),.v (.bool (!li)),.v (.bool (!ah))] (X 24)],bi:=[(.all,X 21,.bool st),(.all,X 22,.bool li),(.all,X 23,.bool ah),(.all,X 24,.bool be)]}
noncomputable def slB(st li ah be:Bool):List SL:=[.v (X 8),.v (X 20),.v (.bool (!st)),.v (.bool (!li)),.v (.bool (!ah)),.v (.bool (!be))]
theorem kB:(bD λb=>bD λst=>bD λli=>bD λah=>bD λbe=>eZ L1.prog (FB b st li ah be) 60 (uG 3 5) (lv b [.v (X 8)]) (hW b []) .next (lv b (slB st li ah be)) (hW b []))=true:=by kernel_rfl
noncomputable def qx(w:Bool)(c:Nat):Bool:=Nat.beq c 10||((Nat.ble 32 c&&Nat.ble c 126)||(w&&Nat.blt 159 c))
noncomputable def oL:aR:=(List.range 16).map .o
noncomputable def o5(w:Bool):aR:=oL.set 5 (.v (.bool w))
theorem kst:(bD λw=>bD λb=>bH.all λc=>gr L1.prog {} 30 (lT (cE 4)) (.u::.v (bw c)::o5 w) (hW b []) (.bool (qx w c)) (hW b []))=true:=by kernel_rfl
theorem kli:(bD λb=>bH.all λc=>gr L1.prog {} 30 (lT (cE 5)) (.u::.v (bw c)::oL) (hW b []) (.bool (!aW c)) (hW b []))=true:=by kernel_rfl
theorem kzp:(bD λb=>bH.all λc=>bH.all λd=>gr L1.prog {} 30 (lT zE) (.u::.v (bw c)::.v (bw d)::oL) (hW b []) (.tup [bw c,bw d]) (hW b []))=true:=by kernel_rfl
theorem kah:(bD λb=>bH.all λc=>bH.all λd=>gr L1.prog {} 30 (lT (cE 6)) (.u::.v (bw c)::.v (bw d)::oL) (hW b []) (.bool (!(Nat.beq c 32&&aW d))) (hW b []))=true:=by kernel_rfl
theorem kbe:(bD λb=>bH.all λc=>bH.all λd=>gr L1.prog {} 30 (lT (cE 7)) (.u::.v (bw c)::.v (bw d)::oL) (hW b []) (.bool (!(Nat.beq d 32&&aW c))) (hW b []))=true:=by kernel_rfl
noncomputable def FA:Facts:={qM:=[(X 0,none,some (.int 1),X 30),(X 0,some (.int (-1)),none,X 31)],bin:=[(.Add,X 30,X 31,X 8)]}
theorem kA:(bD λb=>eZ L1.prog FA 60 (uG 2 1) (lv b []) (hW b []) .next (lv b [.v (X 8)]) (hW b []))=true:=by kernel_rfl
noncomputable def qy:ai→List ai
 |.fc l=>l
 |.bE l=>l
 |.bM (.fc l)=>l
 |_=>[]
noncomputable def mkE:ai:=K3 (L1.Hs.body.getD 8 .pass)
noncomputable def Yn:ai→ai
 |.cmp a _ _=>a
 |_=>.b7 .none
noncomputable def w0E:ai:=Yn ((qy mkE).getD 1 (.b7 .none))
noncomputable def VC:ai:=uu ((qy mkE).getD 3 (.b7 .none))
noncomputable def Hw:List SL:=[.v (X 8),.v (X 20),.v (X 60),.v (X 61),.v (X 62),.v (X 63)]
noncomputable def FC(b ne m1 m2 m3 m4:Bool):Facts:={cmp:=[(.NotEq,X 8,.str [],ne),(.In,X 32,.str nS,m1),(.In,X 33,.lst [.str [45],.str [63]],m2),(.In,X 34,.lst [.str [45,45,45],.str [46,46,46]],m3)],sub:=cond ne [(X 0,.int 0,X 32)] [],qM:=[(X 0,none,some (.int 3),X 34)],bi:=[(.all,X 35,.bool m4)],ev:=[K4 b w0E Hw (X 33),K4 b VC Hw (X 35)]}
theorem kC:(bD λb=>bD λne=>bD λm1=>bD λm2=>bD λm3=>bD λm4=>eZ L1.prog (FC b ne m1 m2 m3 m4) 60 (uG 8 1) (lv b Hw) (hW b []) .next (lv b (Hw++[.v (.bool ((ne&&m1)||(m2||(m3|| !m4))))])) (hW b []))=true:=by kernel_rfl
noncomputable def plE:ai:=K3 (L1.Hs.body.getD 9 .pass)
noncomputable def Yo:ai:=uu ((qy plE).getD 3 (.b7 .none))
noncomputable def ifC:aB→ai
 |.aO c _ _=>c
 |_=>.b7 .none
noncomputable def Yp:ai:=uu ((qy ((qy (ifC (L1.Hs.body.getD 10 .pass))).getD 1 (.b7 .none))).getD 1 (.b7 .none))
noncomputable def Gz:List SL:=Hw++[.v (X 64)]
noncomputable def FD(b st li mk ed fl em f3:Bool):Facts:={ny:=[(X 60,st),(X 61,li),(X 64,mk),(X 1,fl)],cmp:=[(.Eq,X 0,.str [],em)],bi:=[(.all,X 36,.bool ed),(.all,X 37,.bool f3)],ev:=[K4 b Yo Gz (X 36),K4 b Yp (Gz++[.v (.bool (!(st||(li||(mk|| !ed)))))]) (X 37)]}
theorem kD:(bD λb=>bD λst=>bD λli=>bD λmk=>bD λed=>bD λfl=>bD λem=>bD λf3=>eZ L1.prog (FD b st li mk ed fl em f3) 60 (uG 9 2) (lv b Gz) (hW b []) .next (lv b (Gz++[.v (.bool (cond (fl&&(em|| !f3)) false (!(st||(li||(mk|| !ed))))))])) (hW b []))=true:=by kernel_rfl
noncomputable def GA(asked:MV)(fl ky fr pl em st ah be ls:Bool):MV:=match asked with
 |.none=>cond (fr&&pl) .none (cond (!(st||(ah||be))) (.str [39]) (.str [34]))
 |.str [39]=>cond (!(st||(ah||be))) (.str [39]) (.str [34])
 |.str [124]=>cond (!fl&&(!ky&&(!em&& !(st||(ah||ls))))) (.str [124]) (.str [34])
 |.str [62]=>cond (!fl&&(!ky&&(!em&& !(st||(ah||ls))))) (.str [62]) (.str [34])
 |_=>.str [34]
noncomputable def VD:List SL:=Gz++[.v (X 65)]
noncomputable def FE(fl ky fr pl em st ah be ls:Bool):Facts:={ny:=[(X 1,fl),(X 2,ky),(X 4,fr),(X 65,pl),(X 60,st),(X 62,ah),(X 63,be)],cmp:=[(.NotEq,X 0,.str [], !em),(.Eq,X 38,.str [32],ls)],sub:=cond em [] [(X 0,.int (-1),X 38)]}
noncomputable def Yq(b:Bool)(asked:MV):aR:=(lv b VD).set 3 (.v asked)
noncomputable def mS(F:Facts)(b:Bool)(asked r:MV):Bool:=gU ((SE L1.prog F 60).ex (uG 11 4) (Yq b asked) (hW b [])) λx=>Co x.1 (.ret r)&&EG x.2.2 (hW b [])
section
variable (fl ky fr pl em st ah be ls:Bool)
theorem kE0:(bD λb=>bD λfr=>bD λpl=>bD λst=>bD λah=>bD λbe=>mS (FE fl ky fr pl em st ah be ls) b .none (GA .none fl ky fr pl em st ah be ls))=true:=by kernel_rfl
theorem kE1:(bD λb=>bD λst=>bD λah=>bD λbe=>mS (FE fl ky fr pl em st ah be ls) b (.str [39]) (GA (.str [39]) fl ky fr pl em st ah be ls))=true:=by kernel_rfl
theorem kE2:(bD λb=>bD λfl=>bD λky=>bD λem=>bD λst=>bD λah=>bD λls=>mS (FE fl ky fr pl em st ah be ls) b (.str [124]) (GA (.str [124]) fl ky fr pl em st ah be ls)&&mS (FE fl ky fr pl em st ah be ls) b (.str [62]) (GA (.str [62]) fl ky fr pl em st ah be ls))=true:=by kernel_rfl
theorem kE3:(bD λb=>mS (FE fl ky fr pl em st ah be ls) b (.str [34]) (.str [34]))=true:=by kernel_rfl
end
theorem K5{ρ:eN}{L:Loc}(hL:L.length=16)(ho:∀i,ρ.o i=L.getD i none):aG ρ oL=L:=by
 show ((List.range 16).map SL.o).map (SL.I ρ)=L
 rw [List.map_map];refine List.ext_getElem? λj=>?_
 rw [List.getElem?_map]
 by_cases q:j< 16
 ·rw [List.getElem?_range q]
  show some (ρ.o j)=_
  rw [ho,List.getD_eq_getElem?_getD,List.getElem?_eq_getElem (by lia)];rfl
 ·rw [List.getElem?_eq_none (by rw [List.length_range];lia),List.getElem?_eq_none (by lia)];rfl
noncomputable def RO(w0 ws:List MV)(L:Loc):eN:=R [] [w0,ws] (λi=>L.getD i none)
theorem Pr{b:Bool}{w0 ws:List MV}{L:Loc}:aV (RO w0 ws L) (hW b [])=hC b w0 ws:=by cases b<;>rfl
theorem Pu{b:Bool}{w0 ws:List MV}{elt:ai}{c:Nat}{r:MV}{L:Loc}(hL:L.length=16)(q:gr L1.prog {} 30 elt (.u::.v (bw c)::oL) (hW b []) r (hW b [])=true)(hr:yk r=true){k:Nat}(hk:30≤k):(E L1.prog k).ev elt (ki (some (bw c)) L) (hC b w0 ws)=some (r,hC b w0 ws):=by
 have h:=qj (iY (P:=L1.prog) (ρ:=RO w0 ws L)) q hk;rw [Pr,iE hr] at h;have e:aG (RO w0 ws L) (.u::.v (bw c)::oL)=ki (some (bw c)) L:=congrArg (λz=>Option.none::some (bw c)::z) (K5 hL λ_=>rfl)
 rw [e] at h;exact h
theorem Pw{b:Bool}{w0 ws:List MV}{elt:ai}{p:Nat×Nat}{r:MV}{L:Loc}(hL:L.length=16)(q:gr L1.prog {} 30 elt (.u::.v (bw p.1)::.v (bw p.2)::oL) (hW b []) r (hW b [])=true)(hr:yk r=true){k:Nat}(hk:30≤k):(E L1.prog k).ev elt (K2 (some p) L) (hC b w0 ws)=some (r,hC b w0 ws):=by
 have h:=qj (iY (P:=L1.prog) (ρ:=RO w0 ws L)) q hk;rw [Pr,iE hr] at h;have e:aG (RO w0 ws L) (.u::.v (bw p.1)::.v (bw p.2)::oL)=K2 (some p) L:=congrArg (λz=>Option.none::some (bw p.1)::some (bw p.2)::z) (K5 hL λ_=>rfl)
 rw [e] at h;exact h
theorem Yr{b w:Bool}{w0 ws:List MV}{elt:ai}{c:Nat}{r:MV}{L:Loc}(hL:L.length=16)(hw:L[5]? =some (some (.bool w)))(q:gr L1.prog {} 30 elt (.u::.v (bw c)::o5 w) (hW b []) r (hW b [])=true)(hr:yk r=true){k:Nat}(hk:30≤k):(E L1.prog k).ev elt (ki (some (bw c)) L) (hC b w0 ws)=some (r,hC b w0 ws):=by
 have h:=qj (iY (P:=L1.prog) (ρ:=RO w0 ws L)) q hk;rw [Pr,iE hr] at h;have e5:aG (RO w0 ws L) (o5 w)=L:=by
  show (oL.set 5 (.v (.bool w))).map (SL.I (RO w0 ws L))=L
  rw [List.map_set,show oL.map (SL.I (RO w0 ws L))=L from K5 hL λ_=>rfl]
  refine List.ext_getElem? λj=>?_
  rw [List.getElem?_set]
  by_cases q:5=j
  ·subst q;rw [if_pos rfl,if_pos (by lia),hw];rfl
  ·rw [if_neg q]
 have e:aG (RO w0 ws L) (.u::.v (bw c)::o5 w)=ki (some (bw c)) L:=congrArg (λz=>Option.none::some (bw c)::z) e5
 rw [e] at h;exact h
theorem Ut{v:List Nat}(h:Hp):dM (.str v) (some (.int 1)) none h=some (.str (v.drop 1)):=yK (fL rfl) rfl (F4 v 1) h
theorem Px{v:List Nat}{n:Nat}(hn:n≤100)(h:Hp):dM (.str v) none (some (.int (n:Nat))) h=some (.str (v.take n)):=yK rfl (fL (bK (by lia))) (t6 v n) h
theorem se{v:List Nat}(hv:v.length≤1000)(h:Hp):dM (.str v) (some (.int (-1))) none h=some (.str (v.drop (v.length - 1))):=yK (fL rfl) rfl (wH v 0) h
noncomputable def yU:List Nat:=[44,63,91,93,123,125,58]
theorem ked:(bD λb=>bH.all λc=>gr L1.prog {} 30 (lT Yo) (.u::.v (bw c)::oL) (hW b []) (.bool (!Nat.beq c 32)) (hW b []))=true:=by kernel_rfl
theorem kf3:(bD λb=>bH.all λc=>gr L1.prog {} 30 (lT Yp) (.u::.v (bw c)::oL) (hW b []) (.bool (!yU.contains c)) (hW b []))=true:=by kernel_rfl
noncomputable def wX(w:List Nat):Bool:= !decide (w.take 1=[35])&& !decide (w.drop (w.length - 1)=[58])
noncomputable def FW(b1 b2:Bool):Facts:={qM:=[(X 0,none,some (.int 1),X 1),(X 0,some (.int (-1)),none,X 2)],cmp:=[(.NotEq,X 1,.str [35],b1),(.NotEq,X 2,.str [58],b2)]}
theorem kw:(bD λb=>bD λb1=>bD λb2=>gr L1.prog (FW b1 b2) 30 (lT VC) (.u::.v (X 0)::oL) (hW b []) (.bool (b1&&b2)) (hW b []))=true:=by kernel_rfl
theorem Ys{b:Bool}{w0 ws:List MV}{w:List Nat}{L:Loc}(hL:L.length=16)(hw:w.length≤1000){k:Nat}(hk:30≤k):(E L1.prog k).ev (lT VC) (ki (some (.str w)) L) (hC b w0 ws)=some (.bool (wX w),hC b w0 ws):=by
 have K:Holds L1.prog (R [.str w,.str (w.take 1),.str (w.drop (w.length - 1))] [w0,ws] (λi=>L.getD i none)) (FW (!decide (w.take 1=[35])) (!decide (w.drop (w.length - 1)=[58]))):=⟨aa,af rfl (af rfl aa),aa,aa,af (λh=>Px (n:=1) (by decide) h) (af (λh=>se hw h) aa),aa,aa,aa,aa,aa,aa,aa,aa⟩
 have h:=qj K (aj (aj (aj kw b) _) _) hk;have e:aG (R [.str w,.str (w.take 1),.str (w.drop (w.length - 1))] [w0,ws] (λi=>L.getD i none)) (.u::.v (X 0)::oL)=ki (some (.str w)) L:=congrArg (λz=>Option.none::some (MV.str w)::z) (K5 hL λ_=>rfl)
 have e2:aV (R [.str w,.str (w.take 1),.str (w.drop (w.length - 1))] [w0,ws] (λi=>L.getD i none)) (hW b [])=hC b w0 ws:=by cases b<;>rfl
 rw [e,e2] at h;exact h
noncomputable def lE(v:List Nat):List Nat:=v.take 1++v.drop (v.length - 1)
noncomputable def CO(v:List Nat):List (Nat×Nat):=v.zip (v.drop 1)
noncomputable def lst(w:Bool)(v:List Nat):Bool:=v.all (qx w)
noncomputable def sj(v:List Nat):Bool:=v.all λc=> !aW c
noncomputable def CP(v:List Nat):Bool:=(CO v).all λp=> !(Nat.beq p.1 32&&aW p.2)
noncomputable def GB(v:List Nat):Bool:=(CO v).all λp=> !(Nat.beq p.2 32&&aW p.1)
noncomputable def VE(v:List Nat):Bool:=decide ([45]=(gv [] v).headD [])||(decide ([63]=(gv [] v).headD [])||false)
noncomputable def Uu(v:List Nat):Bool:=decide ([45,45,45]=v.take 3)||(decide ([46,46,46]=v.take 3)||false)
noncomputable def Py(v:List Nat):Bool:=(!(lE v).isEmpty&&nS.contains (v.headD 0))||(VE v||(Uu v|| !(gv [] v).all wX))
noncomputable def led(v:List Nat):Bool:=(lE v).all λc=> !Nat.beq c 32
noncomputable def Qw(v:List Nat):Bool:=v.all λc=> !yU.contains c
noncomputable def Uv(fl w:Bool)(v:List Nat):Bool:=cond (fl&&(v.isEmpty|| !Qw v)) false (!(!lst w v||(!sj v||(Py v|| !led v))))
noncomputable def yV(asked:MV)(fl ky fr w:Bool)(v:List Nat):MV:=GA asked fl ky fr (Uv fl w v) v.isEmpty (!lst w v) (!CP v) (!GB v) (Nat.beq (v.getLastD 0) 32)
noncomputable def R7(n:CV)(w pl:Bool)(w0 ws:List MV)(x:Option MV):eN:=R [.str n.v,n.fl,n.ky,n.as,n.fr,n.wd,.none,.none,.str (lE n.v),.none,.none,.none,.none,.none,.none,.none,.none,.none,.none,.none,.lst ((CO n.v).map Qv),.lst (n.v.map λc=>.bool (qx w c)),.lst (n.v.map λc=>.bool (!aW c)),.lst ((CO n.v).map λp=>.bool (!(Nat.beq p.1 32&&aW p.2))),.lst ((CO n.v).map λp=>.bool (!(Nat.beq p.2 32&&aW p.1))),.none,.none,.none,.none,.none,.str (n.v.take 1),.str (n.v.drop (n.v.length - 1)),bw (n.v.headD 0),.str ((gv [] n.v).headD []),.str (n.v.take 3),.lst ((gv [] n.v).map λw=>.bool (wX w)),.lst ((lE n.v).map λc=>.bool (!Nat.beq c 32)),.lst (n.v.map λc=>.bool (!yU.contains c)),bw (n.v.getLastD 0),.none,.none,.none,.none,.none,.none,.none,.none,.none,.none,.none,.none,.none,.none,.none,.none,.none,.none,.none,.none,.none,.bool (!lst w n.v),.bool (!sj n.v),.bool (!CP n.v),.bool (!GB n.v),.bool (Py n.v),.bool pl] [w0,ws] (λ_=>x)
noncomputable def hI(b:Bool):bg:=cond b [.list (some 0) []] []
noncomputable def VF(b:Bool)(w0:List MV):Hp:=cond b [.list w0] []
noncomputable def Yt(b:Bool):bg:=cond b [.list (some 0) [],.list none [.str []]] [.list none [.str []]]
noncomputable def Uw(b:Bool):xh:={n:=40,s:=yT,l:=lw b .u,h:=Yt b,l':=lw b (.o 0),h':=hW b []}
noncomputable def l67:aR:=[.v (X 0),.v (X 1),.v (X 2),.v (X 3),.v (X 4),.v (X 5)]++List.replicate 10 .u
theorem Yu:(bD λb=>eZ L1.prog {st:=[Uw b]} 60 (uG 0 2) l67 (hI b) .next (lv b []) (hW b []))=true:=by kernel_rfl
theorem kk{a b k:Nat}(h:b≤k)(q:Nat.ble a b=true:=by rfl):a≤k:=ak (cM q) h
theorem GC{v:List Nat}(h:v.length≤10):(CO v).length≤1000:=by unfold CO;rw [List.length_zip];exact ak (Nat.min_le_left ..) (ak h (by decide))
theorem Yv{P:Prog}{k i n:Nat}(hk:n+1≤k){l:Loc}{H:Hp}:(E P k).ev (.aP i) l H=(match l[i]? with|some (some v)=>some (v,H)|_=>none):=by
 cases k with
 |zero=>exact absurd hk (Nat.not_succ_le_zero _)
 |succ k=>rfl
section
variable {b:Bool}{n:CV}{w pl:Bool}{w0:List MV}{x:Option MV}
theorem jU{ρ:eN}(l:List SL)(h:l.length≤8):(aG ρ (lv b l)).length=16:=by
 show (List.map _ _).length=16
 rw [cu];unfold lv;rw [aY,aY,List.length_replicate];show 8+l.length+(8 - l.length)=16
 lia
theorem Yw{ρ:eN}(l:List SL)(h5:ρ.v 5=.bool w):(aG ρ (lv b l))[5]? =some (some (.bool w)):=by rw [← h5];rfl
theorem wY{ws:List MV}:aV (R7 n w pl w0 ws x) (hW b [])=hC b w0 ws:=by cases b<;>rfl
theorem iG{v:List Nat}{p:Nat×Nat}(h:p∈CO v):p.1∈v∧p.2∈v:=by obtain ⟨a,c⟩:=p;have:=List.of_mem_zip h;exact ⟨this.1,List.mem_of_mem_drop this.2⟩
theorem Yx(hc:∀c∈n.v,c∈bH)(hl:n.v.length≤10):∃x,∀pl k,60≤k→(E L1.prog k).ex (uG 0 2) (aG (R7 n w pl w0 [] x) l67) (VF b w0)=some (.next,aG (R7 n w pl w0 ((gv [] n.v).map .str) x) (lv b []),hC b w0 ((gv [] n.v).map .str)):=by
 obtain ⟨x,h⟩:=Pq (b:=b) (n:=n) (w0:=w0) n.v [] [] none hc (ak (Nat.le_of_eq (Nat.zero_add _)) (ak hl (by decide))) (ak (Nat.le_of_eq (Nat.zero_add _)) (ak hl (by decide)))
 refine ⟨x,λpl k hk=>?_⟩
 have K:Holds L1.prog (R7 n w pl w0 ((gv [] n.v).map .str) x) {st:=[Uw b]}:=⟨aa,aa,aa,aa,aa,aa,aa,aa,aa,aa,af (λk hk=>by
  have e:=lP (k:=k) (t:=.aP 7) (e:=.aP 0) (b:=wQ yT) (s:=n.v) (l:=Lw b n none) (h:=hC b w0 [.str []]) (Yv hk) (h k hk);have e1:aV (R7 n w pl w0 ((gv [] n.v).map .str) x) (Yt b)=hC b w0 [.str []]:=by cases b<;>rfl
  show gp L1.prog (E L1.prog k) yT (aG _ (lw b .u)) (aV _ (Yt b))=some (.next,aG _ (lw b (.o 0)),aV _ (hW b []))
  rw [e1,wY];exact e) aa,aa,aa⟩
 have e:=fq K (aj Yu b) hk;have e1:aV (R7 n w pl w0 ((gv [] n.v).map .str) x) (hI b)=VF b w0:=by cases b<;>rfl
 rw [e1,wY] at e;exact e
theorem Yy(hl:n.v.length≤10){ws:List MV}(k:Nat)(hk:60≤k):(E L1.prog k).ex (uG 2 1) (aG (R7 n w pl w0 ws x) (lv b [])) (hC b w0 ws)=some (.next,aG (R7 n w pl w0 ws x) (lv b [.v (X 8)]),hC b w0 ws):=by
 have K:Holds L1.prog (R7 n w pl w0 ws x) FA:=⟨aa,aa,af (λh=>cj rfl (bP (ak (List.length_take_le' ..) hl) (ak (Nat.le_of_eq List.length_drop) (ak (Nat.sub_le _ _) hl)) (by decide)) h) aa,aa,af (λh=>Px (n:=1) (by decide) h) (af (λh=>se (ak hl (by decide)) h) aa),aa,aa,aa,aa,aa,aa,aa,aa⟩
 have e:=fq K (aj kA b) hk;rw [wY] at e;exact e
theorem K6{l:List SL}{ws:List MV}{k:Nat}(hk:1≤k){H:Hp}:(E L1.prog k).ev (.aP 0) (aG (R7 n w pl w0 ws x) (lv b l)) H=some (.str n.v,H):=by
 cases k with
 |zero=>exact absurd hk (by decide)
 |succ k=>rfl
theorem Yz(hw:n.wd=.bool w)(hc:∀c∈n.v,c∈bH)(hl:n.v.length≤10){ws:List MV}(k:Nat)(hk:60≤k):(E L1.prog k).ex (uG 3 5) (aG (R7 n w pl w0 ws x) (lv b [.v (X 8)])) (hC b w0 ws)=some (.next,aG (R7 n w pl w0 ws x) (lv b Hw),hC b w0 ws):=by
 have K:Holds L1.prog (R7 n w pl w0 ws x) (FB b (lst w n.v) (sj n.v) (CP n.v) (GB n.v)):=by
  refine ⟨aa,aa,aa,aa,aa,af (λh=>fM h)<|af (λh=>fM h)<|af (λh=>fM h)<|af (λh=>fM h) aa,aa,aa,aa,aa,aa,af (λk hk=>?_)<|af (λk hk=>?_)<|af (λk hk=>?_)<|af (λk hk=>?_)<|af (λk hk=>?_) aa,aa⟩
  all_goals (obtain ⟨k,rfl⟩:=Nat.exists_eq_add_of_le' (kk (show 40≤k from hk):1≤k))
  all_goals (have hk:39≤k:=Nat.le_of_succ_le_succ hk)
  ·show (E L1.prog (k+1)).ev zE (aG _ (lv b [.v (X 8)])) (aV _ (hW b []))=some (MV.I _ (X 20),aV _ (hW b []))
   have hL:=jU (b:=b) (ρ:=R7 n w pl w0 ws x) [.v (X 8)] (cM rfl);rw [wY];refine Gx (ak hl (by decide)) (K6 (k:=k) (kk hk)) ?_ λp hp=>Pw hL (ao (ao (aj kzp b) (hc _ (iG hp).1)) (hc _ (iG hp).2)) rfl (k:=k) (kk hk)
   obtain ⟨k,rfl⟩:=Nat.exists_eq_add_of_le' (kk hk:2≤k);exact (congrArg (λz=>z.bind λr=>some (r,hC b w0 ws)) (Ut (v:=n.v) (hC b w0 ws)):_)
  ·show (E L1.prog (k+1)).ev (cE 4) (aG _ (lv b [.v (X 8),.v (X 20)])) (aV _ (hW b []))=some (MV.I _ (X 21),aV _ (hW b []))
   have hL:=jU (b:=b) (ρ:=R7 n w pl w0 ws x) [.v (X 8),.v (X 20)] (cM rfl);rw [wY];exact i6 (ak hl (by decide)) (K6 (k:=k) (kk hk)) λc Pz=>Yr (w:=w) hL (Yw _ hw) (ao (aj (aj kst w) b) (hc c Pz)) rfl (k:=k) (kk hk)
  ·show (E L1.prog (k+1)).ev (cE 5) (aG _ (lv b [.v (X 8),.v (X 20),.v (.bool (!lst w n.v))])) (aV _ (hW b []))=some (MV.I _ (X 22),aV _ (hW b []))
   have hL:=jU (b:=b) (ρ:=R7 n w pl w0 ws x) [.v (X 8),.v (X 20),.v (.bool (!lst w n.v))] (cM rfl);rw [wY];exact i6 (ak hl (by decide)) (K6 (k:=k) (kk hk)) λc Pz=>Pu hL (ao (aj kli b) (hc c Pz)) rfl (k:=k) (kk hk)
  ·show (E L1.prog (k+1)).ev (cE 6) (aG _ (lv b [.v (X 8),.v (X 20),.v (.bool (!lst w n.v)),.v (.bool (!sj n.v))])) (aV _ (hW b []))=some (MV.I _ (X 23),aV _ (hW b []))
   have hL:=jU (b:=b) (ρ:=R7 n w pl w0 ws x) [.v (X 8),.v (X 20),.v (.bool (!lst w n.v)),.v (.bool (!sj n.v))] (cM rfl);rw [wY];refine wV (s:=CO n.v) (GC hl) ?_ λp hp=>Pw hL (ao (ao (aj kah b) (hc _ (iG hp).1)) (hc _ (iG hp).2)) rfl (k:=k) (kk hk)
   obtain ⟨k,rfl⟩:=Nat.exists_eq_add_of_le' (kk hk:1≤k);rfl
  ·show (E L1.prog (k+1)).ev (cE 7) (aG _ (lv b [.v (X 8),.v (X 20),.v (.bool (!lst w n.v)),.v (.bool (!sj n.v)),.v (.bool (!CP n.v))])) (aV _ (hW b []))=some (MV.I _ (X 24),aV _ (hW b []))
   have hL:=jU (b:=b) (ρ:=R7 n w pl w0 ws x) [.v (X 8),.v (X 20),.v (.bool (!lst w n.v)),.v (.bool (!sj n.v)),.v (.bool (!CP n.v))] (cM rfl);rw [wY];refine wV (s:=CO n.v) (GC hl) ?_ λp hp=>Pw hL (ao (ao (aj kbe b) (hc _ (iG hp).1)) (hc _ (iG hp).2)) rfl (k:=k) (kk hk)
   obtain ⟨k,rfl⟩:=Nat.exists_eq_add_of_le' (kk hk:1≤k);rfl
 have e:=fq K (aj (aj (aj (aj (aj kB b) _) _) _) _) hk;rw [wY] at e;exact e
theorem K7(r:List Nat):∀(cur:List Nat),(∀w∈gv cur r,w.length≤cur.length+r.length)∧(gv cur r).length≤r.length+1:=by
 induction r with
 |nil=>exact λcur=>⟨λw hw=>by rw [dN.mp hw];exact bZ _ _,bf _⟩
 |cons c r ih=>
  intro cur;unfold gv
  cases uF c with
  |true=>exact ⟨af (bZ _ _) λw hw=>ak ((ih []).1 w hw) (ak (Nat.le_of_eq (Nat.zero_add _)) (ak (Nat.le_succ _) (Nat.le_add_left _ _))),Nat.succ_le_succ (ih []).2⟩
  |false=>
   refine ⟨λw hw=>?_,Nat.le_succ_of_le (ih (cur++[c])).2⟩
   have h:=(ih (cur++[c])).1 w hw;rw [aY,Nat.add_assoc,Nat.add_comm [c].length] at h;exact h
theorem GD:∀(r cur:List Nat),∃a t,gv cur r=a::t
 |[],cur=>⟨cur,[],rfl⟩
 |c::r,cur=>by
  unfold gv
  cases uF c with
  |true=>exact ⟨cur,gv [] r,rfl⟩
  |false=>exact GD r (cur++[c])
theorem PA{v:List Nat}:(lE v).isEmpty=v.isEmpty:=by cases v<;>rfl
theorem PB{v:List Nat}{c:Nat}(h:c∈lE v):c∈v:=(List.mem_append.mp h).elim List.mem_of_mem_take List.mem_of_mem_drop
theorem YA(hl:n.v.length≤10)(k:Nat)(hk:60≤k):(E L1.prog k).ex (uG 8 1) (aG (R7 n w pl w0 ((gv [] n.v).map .str) x) (lv b Hw)) (hC b w0 ((gv [] n.v).map .str))=some (.next,aG (R7 n w pl w0 ((gv [] n.v).map .str) x) (lv b Gz),hC b w0 ((gv [] n.v).map .str)):=by
 have Xj:=K7 n.v [];obtain ⟨a,t,qL⟩:=GD n.v [];have K:Holds L1.prog (R7 n w pl w0 ((gv [] n.v).map .str) x) (FC b (!(lE n.v).isEmpty) (nS.contains (n.v.headD 0)) (VE n.v) (Uu n.v) ((gv [] n.v).all wX)):=by
  refine ⟨aa,af sd<|af (CJ rfl)<|af rfl<|af rfl aa,aa,?_,af (λh=>Px (n:=3) (by decide) h) aa,af (λh=>fM h) aa,aa,aa,aa,aa,aa,af (λk hk=>?_)<|af (λk hk=>?_) aa,aa⟩
  ·rw [PA]
   unfold FC;show ∀e∈cond (!n.v.isEmpty) _ _,_
   cases q:n.v with
   |nil=>exact aa
   |cons c r=>exact af (λh=>by show dP (.str n.v) (.int 0) h=some (bw (n.v.headD 0));rw [q];exact lN (i:=0) rfl (by decide) h) aa
  ·obtain ⟨k,rfl⟩:=Nat.exists_eq_add_of_le' (kk (show 40≤k from hk):2≤k)
   show (E L1.prog (k+2)).ev w0E (aG _ (lv b Hw)) (aV _ (hW b []))=some (.str ((gv [] n.v).headD []),aV _ (hW b []))
   rw [wY,qL];have h0:∀H:Hp,H[wO b]? =some (.list ((a::t).map .str))→dP (.obj (wO b)) (.int 0) H=some (.str a):=λH hH=>by
    show ((H[wO b]?).bind dS).bind (λl=>(idx l.length 0).bind λj=>l[j]?)=_
    rw [hH];rfl
   show (dP (.obj (wO b)) (.int 0) (hC b w0 ((a::t).map .str))).bind (λr=>some (r,hC b w0 ((a::t).map .str)))=_
   rw [h0 _ (by cases b<;>rfl)];rfl
  ·obtain ⟨k,rfl⟩:=Nat.exists_eq_add_of_le' (kk (show 40≤k from hk):1≤k)
   have hk:39≤k:=Nat.le_of_succ_le_succ hk;show (E L1.prog (k+1)).ev VC (aG _ (lv b Hw)) (aV _ (hW b []))=some (MV.I _ (X 35),aV _ (hW b []))
   have hL:=jU (b:=b) (ρ:=R7 n w pl w0 ((gv [] n.v).map .str) x) Hw (cM rfl);rw [wY];refine Gy (o:=wO b) (ak Xj.2 (ak (Nat.succ_le_succ hl) (by decide))) ?_ (by cases b<;>rfl) λv hv=>Ys hL (ak (Xj.1 v hv) (ak (Nat.le_of_eq (Nat.zero_add _)) (ak hl (by decide)))) (k:=k) (kk hk)
   obtain ⟨k,rfl⟩:=Nat.exists_eq_add_of_le' (kk hk:1≤k);rfl
 have e:=fq K (aj (aj (aj (aj (aj (aj kC b) _) _) _) _) _) hk;rw [wY] at e;exact e
theorem YB{fl:Bool}(DB:n.fl=.bool fl)(i8:pl=Uv fl w n.v)(hc:∀c∈n.v,c∈bH)(hl:n.v.length≤10){ws:List MV}(k:Nat)(hk:60≤k):(E L1.prog k).ex (uG 9 2) (aG (R7 n w pl w0 ws x) (lv b Gz)) (hC b w0 ws)=some (.next,aG (R7 n w pl w0 ws x) (lv b VD),hC b w0 ws):=by
 have K:Holds L1.prog (R7 n w pl w0 ws x) (FD b (!lst w n.v) (!sj n.v) (Py n.v) (led n.v) fl n.v.isEmpty (Qw n.v)):=by
  refine ⟨af (λ_=>rfl)<|af (λ_=>rfl)<|af (λ_=>rfl)<|af (λh=>by show truthy n.fl h=_;rw [DB];rfl) aa,af LU aa,aa,aa,aa,af (λh=>fM h)<|af (λh=>fM h) aa,aa,aa,aa,aa,aa,af (λk hk=>?_)<|af (λk hk=>?_) aa,aa⟩
  all_goals (obtain ⟨k,rfl⟩:=Nat.exists_eq_add_of_le' (kk (show 40≤k from hk):1≤k))
  all_goals (have hk:39≤k:=Nat.le_of_succ_le_succ hk)
  ·show (E L1.prog (k+1)).ev Yo (aG _ (lv b Gz)) (aV _ (hW b []))=some (MV.I _ (X 36),aV _ (hW b []))
   have hL:=jU (b:=b) (ρ:=R7 n w pl w0 ws x) Gz (cM rfl);rw [wY];refine i6 (s:=lE n.v) (bP (ak (List.length_take_le' ..) hl) (ak (Nat.le_of_eq List.length_drop) (ak (Nat.sub_le _ _) hl)) (by decide)) ?_ λc Pz=>Pu hL (ao (aj ked b) (hc c (PB Pz))) rfl (k:=k) (kk hk)
   obtain ⟨k,rfl⟩:=Nat.exists_eq_add_of_le' (kk hk:1≤k);rfl
  ·show (E L1.prog (k+1)).ev Yp (aG _ (lv b (Gz++[.v (.bool (!(!lst w n.v||(!sj n.v||(Py n.v|| !led n.v)))))]))) (aV _ (hW b []))=some (MV.I _ (X 37),aV _ (hW b []))
   have hL:=jU (b:=b) (ρ:=R7 n w pl w0 ws x) (Gz++[.v (.bool (!(!lst w n.v||(!sj n.v||(Py n.v|| !led n.v)))))]) (cM rfl);rw [wY];exact i6 (ak hl (by decide)) (K6 (k:=k) (kk hk)) λc Pz=>Pu hL (ao (aj kf3 b) (hc c Pz)) rfl (k:=k) (kk hk)
 have e:=fq K (aj (aj (aj (aj (aj (aj (aj (aj kD b) _) _) _) _) _) _) _) hk;rw [wY] at e;subst i8;exact e
end
theorem jt{P:Prog}{a b:List aB}{n m N:Nat}{l l1:Loc}{h h1:Hp}{r:Option (Fl×Loc×Hp)}(ha:∀k,n≤k→(E P k).ex a l h=some (.next,l1,h1))(hb:∀k,m≤k→(E P k).ex b l1 h1=r)(h1N:n≤N)(h2N:m+a.length≤N):∀k,N≤k→(E P k).ex (a++b) l h=r:=λk hk=>by
 obtain ⟨j,rfl⟩:∃j,k=j+a.length:=⟨k - a.length,by lia⟩
 rw [yQ (ha _ (by lia)),hb j (by lia)]
theorem GF{P:Prog}{f:Nat}{fe:cU}{bs:List MV}{h h2:Hp}{l2:Loc}{fl:Fl}{n:Nat}(hf:P.fns[f]? =some fe)(ha:∀k,n≤k→(E P k).ex fe.body (bs.map some++List.replicate (fe.jw - bs.length) Option.none) h=some (fl,l2,h2)):∀k,n+1≤k→(E P k).ca f bs h=some (z0 fl,h2):=λk hk=>by
 obtain ⟨j,rfl⟩:∃j,k=j+1:=⟨k - 1,by lia⟩
 show (P.fns[f]?).bind (λfe=>((E P j).ex fe.body (bs.map some++List.replicate (fe.jw - bs.length) Option.none) h).bind λw=>match w.1 with|.next=>some (MV.none,w.2.2)|.ret v=>some (v,w.2.2))=_
 rw [hf];show ((E P j).ex fe.body (bs.map some++List.replicate (fe.jw - bs.length) Option.none) h).bind _=_
 rw [ha j (by lia)]
 cases fl<;>rfl
section
variable {b:Bool}{n:CV}{w pl:Bool}{w0 ws:List MV}{x:Option MV}
theorem YC{fl ky fr LV:Bool}(asked:MV)(ha:asked∈bQ)(em st ah be ls:Bool):mS (FE fl ky fr LV em st ah be ls) b asked (GA asked fl ky fr LV em st ah be ls)=true:=by
 rcases bq.mp ha with rfl|ha
 ·exact aj (aj (aj (aj (aj (aj (kE0 fl ky em ls) b) fr) LV) st) ah) be
 rcases bq.mp ha with rfl|ha
 ·exact aj (aj (aj (aj (kE1 fl ky fr LV em ls) b) st) ah) be
 rcases bq.mp ha with rfl|ha
 ·exact aj (kE3 fl ky fr LV em st ah be ls) b
 rcases bq.mp ha with rfl|ha
 ·exact (bl.mp (aj (aj (aj (aj (aj (aj (aj (kE2 fr LV be) b) fl) ky) em) st) ah) ls)).1
 ·rw [dN.mp ha]
  exact (bl.mp (aj (aj (aj (aj (aj (aj (aj (kE2 fr LV be) b) fl) ky) em) st) ah) ls)).2
theorem YD{fl ky fr:Bool}(DB:n.fl=.bool fl)(YE:n.ky=.bool ky)(YF:n.fr=.bool fr)(has:n.as∈bQ)(hl:n.v.length≤10):∃l2,∀k,60≤k→(E L1.prog k).ex (uG 11 4) (aG (R7 n w pl w0 ws x) (lv b VD)) (hC b w0 ws)=some (.ret (GA n.as fl ky fr pl n.v.isEmpty (!lst w n.v) (!CP n.v) (!GB n.v) (Nat.beq (n.v.getLastD 0) 32)),l2,hC b w0 ws):=by
 have K:Holds L1.prog (R7 n w pl w0 ws x) (FE fl ky fr pl n.v.isEmpty (!lst w n.v) (!CP n.v) (!GB n.v) (Nat.beq (n.v.getLastD 0) 32)):=by
  refine ⟨af (λh=>by show truthy n.fl h=_;rw [DB];rfl)<|af (λh=>by show truthy n.ky h=_;rw [YE];rfl)<|af (λh=>by show truthy n.fr h=_;rw [YF];rfl)<|af (λ_=>rfl)<|af (λ_=>rfl)<|af (λ_=>rfl)<|af (λ_=>rfl) aa,af sd<|af Po aa,aa,?_,aa,aa,aa,aa,aa,aa,aa,aa,aa⟩
  unfold FE;show ∀e∈cond n.v.isEmpty _ _,_
  cases q:n.v with
  |nil=>exact aa
  |cons c r=>
   refine af (λh=>?_) aa
   show dP (.str n.v) (.int (-1)) h=some (bw (n.v.getLastD 0))
   refine Gh (i:=0) ?_ (by rw [q];exact Nat.succ_pos _) (by decide) h
   rw [q, ← List.getLast?_eq_getElem?];rfl
 have hq:=YC (b:=b) (fl:=fl) (ky:=ky) (fr:=fr) (LV:=pl) n.as has n.v.isEmpty (!lst w n.v) (!CP n.v) (!GB n.v) (Nat.beq (n.v.getLastD 0) 32);refine bV hq λy e1 e2=>av e2 λe2 e3=>?_
 refine ⟨aG (R7 n w pl w0 ws x) y.2.1,λk hk=>?_⟩
 have h:=(tW K 60 k hk).ex _ _ _ _ e1;have DI:yk n.as=true:=by
  have:∀a∈bQ,yk a=true:=by decide
  exact this _ has
 have el:aG (R7 n w pl w0 ws x) (Yq b n.as)=aG (R7 n w pl w0 ws x) (lv b VD):=by
  unfold Yq aG;rw [List.map_set];show List.set _ 3 (some (n.as.I _))=_
  rw [iE DI];rfl
 have hr:(GA n.as fl ky fr pl n.v.isEmpty (!lst w n.v) (!CP n.v) (!GB n.v) (Nat.beq (n.v.getLastD 0) 32)).I (R7 n w pl w0 ws x)=GA n.as fl ky fr pl n.v.isEmpty (!lst w n.v) (!CP n.v) (!GB n.v) (Nat.beq (n.v.getLastD 0) 32):=by
  refine iE ?_;have:∀a∈bQ,∀p1 p2 p3 p4 p5 p6 p7 p8 p9,yk (GA a p1 p2 p3 p4 p5 p6 p7 p8 p9)=true:=λa ha p1 p2 p3 p4 p5 p6 p7 p8 p9=>by
   have hh:∀(p:Bool) (s t:MV),yk s=true→yk t=true→yk (cond p s t)=true:=λp s t h1 h2=>by cases p;exact h2;exact h1
   rcases bq.mp ha with rfl|ha
   ·exact hh _ _ _ rfl (hh _ _ _ rfl rfl)
   rcases bq.mp ha with rfl|ha
   ·exact hh _ _ _ rfl rfl
   rcases bq.mp ha with rfl|ha
   ·rfl
   rcases bq.mp ha with rfl|ha
   ·exact hh _ _ _ rfl rfl
   ·rw [dN.mp ha];exact hh _ _ _ rfl rfl
  exact this _ has _ _ _ _ _ _ _ _ _
 rw [el,wY] at h;rw [h];show some ((y.1).I _,_,aV _ y.2.2)=_
 rw [n6 e2,jl e3,wY];show some (Fl.ret (MV.I _ _),_,_)=_
 rw [hr]
theorem PC{fl ky fr:Bool}(DB:n.fl=.bool fl)(YE:n.ky=.bool ky)(YF:n.fr=.bool fr)(hwd:n.wd=.bool w)(has:n.as∈bQ)(hc:∀c∈n.v,c∈bH)(hl:n.v.length≤10):∀k,75≤k→(E L1.prog k).ca 67 [.str n.v,n.fl,n.ky,n.as,n.fr,n.wd] (VF b w0)=some (yV n.as fl ky fr w n.v,hC b w0 ((gv [] n.v).map .str)):=λk hk=>by
 obtain ⟨x,h1⟩:=Yx (b:=b) (n:=n) (w:=w) (w0:=w0) hc hl;obtain ⟨l2,h6⟩:=YD (b:=b) (n:=n) (w:=w) (pl:=Uv fl w n.v) (w0:=w0) (ws:=(gv [] n.v).map .str) (x:=x) DB YE YF has hl;have wM:L1.Hs.body=uG 0 2++(uG 2 1++(uG 3 5++(uG 8 1++(uG 9 2++uG 11 4)))):=by kernel_rfl
 refine GF (fe:=L1.Hs) (l2:=l2) (fl:=.ret _) rfl (n:=74) (λk hk=>?_) k hk
 rw [wM];exact jt (λk hk=>h1 (Uv fl w n.v) k hk) (jt (Yy hl) (jt (Yz hwd hc hl) (jt (YA hl) (jt (YB DB rfl hc hl) h6 (N:=62) (by decide) (bf _)) (N:=63) (by decide) (bf _)) (N:=68) (by decide) (bf _)) (N:=69) (by decide) (bf _)) (N:=71) (by decide) (bf _) k (by lia)
end
theorem yW{M:Nat}(hM:M≤100):∀(r:List Nat) (w:Bool),(sq M w r).length≤150 * r.length+100
 |[],w=>by
  have hm:(eT M).length≤100:=by rw [eT,List.length_replicate];exact hM
  cases w
  ·exact Nat.zero_le _
  ·exact ak hm (by lia)
 |c::r,w=>by
  have hm:(eT M).length≤100:=by rw [eT,List.length_replicate];exact hM
  rw [List.length_cons]
  cases hb:aW c with
  |true=>
   rw [Gb hb,aY,List.length_cons];have:=yW hM r true;have:(cond (!w&&Nat.beq c 10) [10] []:List Nat).length≤1:=by cases (!w&&Nat.beq c 10)<;>simp
   lia
  |false=>
   rw [Gd hb,aY,aY];have:=yW hM r false;have:(cond w (eT M) []).length≤100:=by cases w<;>simp [hm]
   have:(cond (Nat.beq c 39) [39,39] [c]).length≤2:=by cases Nat.beq c 39<;>simp
   lia
theorem K8{q M d:Nat}{v:List Nat}(hM:M≤100):(KZ q M d v).length≤200 * v.length+10:=by
 have h:=KY (q:=q) hM v [] [] 32 true;unfold KZ;obtain ⟨b,hb⟩:∃b,b=(jv q M [] [] 32 true v).1:=⟨_,rfl⟩;obtain ⟨r,hr⟩:∃r,r=(jv q M [] [] 32 true v).2:=⟨_,rfl⟩;rw [← hb, ← hr] at h⊢;have P5:(wU r.isEmpty (decide (r.length=1)) b.isEmpty).length≤1:=by unfold wU;cases r.isEmpty<;>cases decide (r.length=1)<;>cases b.isEmpty<;>simp
 have htl:(cond r.isEmpty [10] r).length≤r.length+1:=by cases r.isEmpty<;>simp
 have hd:(cond (Nat.beq (v.headD 0) 32||aW (v.headD 0)) [d] []).length≤1:=by cases (Nat.beq (v.headD 0) 32||aW (v.headD 0))<;>simp
 have h0:([]:List Nat).length=0:=rfl;simp only [List.length_cons,aY]
 lia
noncomputable def AN(q:Nat)(w:Bool)(M d:Nat)(v:List Nat):List Nat:=cond (Nat.beq q 39) (39::(sq M false v++[39])) (cond (Nat.beq q 34) (34::(dq w v++[34])) (KZ q M d v))
noncomputable def bG(s:List Nat)(p1 w:Bool)(M d:Nat)(v:List Nat):List Nat:=match s with
 |[]=>v
 |q::_=>cond p1 [] [33,32]++AN q w M d v
theorem AO{q M d:Nat}{w:Bool}{v:List Nat}(hM:M≤100)(hc:∀c∈v,c∈bH):(AN q w M d v).length≤200 * v.length+110:=by
 unfold AN
 cases Nat.beq q 39 with
 |true=>
  have:=yW hM v false;show (39::(sq M false v++[39])).length≤_
  rw [List.length_cons,aY,List.length_singleton]
  lia
 |false=>
  cases Nat.beq q 34 with
  |true=>
   have:=Gr w hc;show (34::(dq w v++[34])).length≤_
   rw [List.length_cons,aY,List.length_singleton]
   lia
  |false=>
   have:=K8 (q:=q) (d:=d) (v:=v) hM;show (KZ q M d v).length≤_
   lia
theorem mT{s:List Nat}{p1 w:Bool}{M d:Nat}{v:List Nat}(hM:M≤100)(hc:∀c∈v,c∈bH):(bG s p1 w M d v).length≤200 * v.length+112:=by
 cases s with
 |nil=>show v.length≤_;lia
 |cons q _=>
  have:=AO (q:=q) (d:=d) (w:=w) hM hc;show (cond p1 [] [33,32]++AN q w M d v).length≤_
  rw [aY];have:(cond p1 [] [33,32]:List Nat).length≤2:=by cases p1<;>simp
  lia
noncomputable def uv(s:List Nat):MV:=cond s.isEmpty .none (.str s)
noncomputable def C71(q:Nat):fZ:=cond (Nat.beq q 39) {n:=80,f:=68,as:=[X 0,X 3],h:=iZ,r:=X 6,h':=iZ} (cond (Nat.beq q 34) {n:=80,f:=69,as:=[X 0,X 5],h:=iZ,r:=X 6,h':=iZ} {n:=80,f:=70,as:=[X 0,.str [q],X 3,X 4],h:=iZ,r:=X 6,h':=iZ})
noncomputable def F71(q:Nat)(p1:Bool):Facts:={bin:=[(.Add,.str (cond p1 [] [33,32]),X 6,X 7)],call:=[C71 q]}
theorem c71:([39,34,124,62].all λq=>bD λp0=>bD λp1=>fK L1.prog (F71 q p1) 90 71 [X 0,.str [q],.tup [.bool p0,.bool p1],X 3,X 4,X 5] iZ (X 7) iZ)=true:=by kernel_rfl
theorem YG:(bD λp0=>bD λp1=>fK L1.prog {} 90 71 [X 0,.none,.tup [.bool p0,.bool p1],X 3,X 4,X 5] iZ (X 0) iZ)=true:=by kernel_rfl
theorem GG{w0 w1:List MV}{v s:List Nat}{M d:Nat}{p0 p1 w:Bool}(hM:M≤100)(hc:∀c∈v,c∈bH)(hl:v.length≤10)(hs:s∈[[],[39],[34],[124],[62]])(oY:s=[124]∨s=[62]→v≠[]):
  ∀k,90≤k→(E L1.prog k).ca 71 [.str v,uv s,.tup [.bool p0,.bool p1],.str (eT M),.str [d],.bool w] (hL w0 w1)=some (.str (bG s p1 w M d v),hL w0 w1):=λk hk=>by
 have main:∀q∈[39,34,124,62],(q=124∨q=62→v≠[])→(E L1.prog k).ca 71 [.str v,.str [q],.tup [.bool p0,.bool p1],.str (eT M),.str [d],.bool w] (hL w0 w1)=some (.str (cond p1 [] [33,32]++AN q w M d v),hL w0 w1):=λq hq hq2=>by
  have hlen:=AO (q:=q) (d:=d) (w:=w) hM hc;have K:Holds L1.prog (R [.str v,.none,.none,.str (eT M),.str [d],.bool w,.str (AN q w M d v),.str (cond p1 [] [33,32]++AN q w M d v)] [w0,w1] (λ_=>none)) (F71 q p1):=by
   refine ⟨aa,aa,af (λh=>cj rfl ?_ h) aa,aa,aa,aa,aa,aa,aa,aa,aa,aa,af (λk hk=>?_) aa⟩
   ·rw [aY]
    have:(cond p1 [] [33,32]:List Nat).length≤2:=by cases p1<;>simp
    lia
   ·have hq':=hq
    simp only [bq,dm,or_false] at hq';rcases hq' with rfl|rfl|rfl|rfl
    ·exact Pb hM hc hl k (ak (show 60≤80 by decide) hk)
    ·exact Pg hc hl k hk
    ·exact Gw (by decide) hM hc (hq2 (.inl rfl)) hl k (ak (show 70≤80 by decide) hk)
    ·exact Gw (by decide) hM hc (hq2 (.inr rfl)) hl k (ak (show 70≤80 by decide) hk)
  exact eX K (aj (aj (ao c71 hq) p0) p1) hk
 simp only [bq,dm,or_false] at hs;rcases hs with rfl|rfl|rfl|rfl|rfl
 ·exact eX (show Holds L1.prog (R [.str v,.none,.none,.str (eT M),.str [d],.bool w] [w0,w1] (λ_=>none)) {} from ⟨aa,aa,aa,aa,aa,aa,aa,aa,aa,aa,aa,aa,aa⟩) (aj (aj YG p0) p1) hk
 ·exact main 39 (by decide) (λh=>absurd h (by decide))
 ·exact main 34 (by decide) (λh=>absurd h (by decide))
 ·exact main 124 (by decide) (λ_=>oY (.inl rfl))
 ·exact main 62 (by decide) (λ_=>oY (.inr rfl))
noncomputable def dI(s:List Nat):Bool:=decide (s=[124])||decide (s=[62])
noncomputable def iy(sg nd s:List Nat):List Nat:=sg++(cond nd.isEmpty [] [32]++(nd++cond (dI s) [] [10]))
noncomputable def F72(em bk:Bool):Facts:={cmp:=[(.NotEq,X 1,.str [], !em)],bin:=[(.Add,X 0,.str (cond em [] [32]),X 3),(.Add,X 3,X 1,X 4),(.Add,X 4,.str (cond bk [] [10]),X 5)]}
theorem c72:([[],[39],[34],[124],[62]].all λs=>bD λem=>fK L1.prog (F72 em (dI s)) 30 72 [X 0,X 1,uv s] iZ (X 5) iZ)=true:=by kernel_rfl
theorem qz{w0 w1:List MV}{sg nd s:List Nat}(h1:sg.length≤10)(h2:nd.length≤5000)(hs:s∈[[],[39],[34],[124],[62]]):
  ∀k,30≤k→(E L1.prog k).ca 72 [.str sg,.str nd,uv s] (hL w0 w1)=some (.str (iy sg nd s),hL w0 w1):=λk hk=>by
 have he:(cond nd.isEmpty [] [32]:List Nat).length≤1:=by cases nd.isEmpty<;>simp
 have hb:(cond (dI s) [] [10]:List Nat).length≤1:=by cases dI s<;>simp
 have hI:(uv s).I (R [.str sg,.str nd,.none,.str (sg++cond nd.isEmpty [] [32]),.str (sg++cond nd.isEmpty [] [32]++nd),.str (iy sg nd s)] [w0,w1] (λ_=>none))=uv s:=by cases s<;>rfl
 have K:Holds L1.prog (R [.str sg,.str nd,.none,.str (sg++cond nd.isEmpty [] [32]),.str (sg++cond nd.isEmpty [] [32]++nd),.str (iy sg nd s)] [w0,w1] (λ_=>none)) (F72 nd.isEmpty (dI s)):=by
  refine ⟨aa,af sd aa,af (λh=>cj rfl ?_ h) (af (λh=>cj rfl ?_ h) (af (λh=>cj ?_ ?_ h) aa)),aa,aa,aa,aa,aa,aa,aa,aa,aa,aa⟩
  ·rw [aY];lia
  ·rw [aY,aY];lia
  ·unfold iy;rw [bJ,bJ]
  ·unfold iy;rw [aY,aY,aY];lia
 have h:=eX K (aj (ao c72 hs) nd.isEmpty) hk;rw [← hI];exact h
theorem lU{P:Bool→Nat→Nat→List Nat→Bool}{q:Nat→Bool}:∀(v:List Nat) (f:Bool) (p:Nat),(∀c∈v,∀f p r,P f p c r=q c)→eE P f p v=v.any q
 |[],f,p,h=>rfl
 |c::r,f,p,h=>by
  show (P f p c r||eE P false c r)=(q c||r.any q)
  rw [h c (cy ..),lU r false c (λd hd=>h d (bR _ hd))]
theorem AP{P Q T:Bool→Nat→Nat→List Nat→Bool}:∀(v:List Nat) (f:Bool) (p:Nat),(∀c∈v,∀f p r,T f p c r=(P f p c r||Q f p c r))→eE T f p v=(eE P f p v||eE Q f p v)
 |[],f,p,h=>rfl
 |c::r,f,p,h=>by
  show (T f p c r||eE T false c r)=((P f p c r||eE P false c r)||(Q f p c r||eE Q false c r))
  rw [h c (cy ..),AP r false c (λd hd=>h d (bR _ hd))]
  cases P f p c r<;>cases Q f p c r<;>cases eE P false c r<;>cases eE Q false c r<;>rfl
theorem uw{q:Nat→Bool}:∀v:List Nat,v.any q= !(v.all λc=> !q c)
 |[]=>rfl
 |c::r=>by
  show (q c||r.any q)= !((!q c)&&r.all λc=> !q c)
  rw [uw r];cases q c<;>cases (r.all λc=> !q c)<;>rfl
theorem GH{q s:Nat→Bool}{v:List Nat}(h:∀c∈v,q c= !s c):v.any q= !(v.all s):=by
 induction v with
 |nil=>rfl
 |cons c r ih=>
  show (q c||r.any q)= !(s c&&r.all s)
  rw [ih (λd hd=>h d (bR _ hd)),h c (cy ..)];cases s c<;>cases r.all s<;>rfl
theorem jV{au:Bool}{v:List Nat}{k:Nat}(h:Nat.ble k 1=false):eG au v k=eE (pk au k) true 0 v:=by unfold eG;rw [h];rfl
theorem PD{au:Bool}{v:List Nat}:eG au v 2= !sj v:=by rw [jV rfl,lU (P:=pk au 2) (q:=aW) v true 0 (λc _ f p r=>rfl),uw];rfl
theorem Ux:(bD λw=>bH.all λc=>imp (!(w&&Nat.beq c 133)) (ON w c== !qx w c))=true:=by kernel_rfl
theorem YH{au:Bool}{v:List Nat}(hc:∀c∈v,c∈bH)(hw:au=true→∀c∈v,Nat.beq c 133=false):eG au v 3= !lst au v:=by
 rw [jV rfl,lU (P:=pk au 3) (q:=ON au) v true 0 (λc _ f p r=>rfl),GH (s:=qx au) λc h=>?_]
 ·rfl
 ·refine eq_of_beq (ez (ao (aj Ux au) (hc c h)) ?_)
  cases au with
  |true=>rw [hw rfl c h];rfl
  |false=>rfl
theorem qA{P:Bool→Nat→Nat→List Nat→Bool}{q:Nat→Nat→Bool}(h:∀f p c r,P f p c r=(!f&&q p c)):∀(r:List Nat) (p:Nat),eE P false p r=(CO (p::r)).any λx=>q x.1 x.2
 |[],p=>rfl
 |c::r,p=>by
  show (P false p c r||eE P false c r)=(q p c||(CO (c::r)).any λx=>q x.1 x.2)
  rw [h,qA h r c];rfl
theorem nG{P:Bool→Nat→Nat→List Nat→Bool}{q:Nat→Nat→Bool}(h:∀f p c r,P f p c r=(!f&&q p c))(v:List Nat):eE P true 0 v=(CO v).any λx=>q x.1 x.2:=by
 cases v with
 |nil=>rfl
 |cons c r=>
  show (P true 0 c r||eE P false c r)=_
  rw [h,qA h r c];rfl
theorem qB{α:Type}{q:α→Bool}:∀v:List α,v.any q= !(v.all λc=> !q c)
 |[]=>rfl
 |c::r=>by
  show (q c||r.any q)= !((!q c)&&r.all λc=> !q c)
  rw [qB r];cases q c<;>cases (r.all λc=> !q c)<;>rfl
theorem YI{au:Bool}{v:List Nat}:eG au v 8= !GB v:=by
 rw [jV rfl,nG (P:=pk au 8) (q:=λp c=>Nat.beq c 32&&aW p) (λf p c r=>?_) v,qB]
 ·rfl
 ·show (Nat.beq c 32&&(!f&&aW p))=(!f&&(Nat.beq c 32&&aW p))
  cases f<;>cases Nat.beq c 32<;>rfl
theorem YJ{au:Bool}{v:List Nat}:eG au v 9= !CP v:=by
 rw [jV rfl,nG (P:=pk au 9) (q:=λp c=>Nat.beq p 32&&aW c) (λf p c r=>?_) v,qB]
 ·rfl
 ·show (aW c&&(!f&&Nat.beq p 32))=(!f&&(Nat.beq p 32&&aW c))
  cases f<;>cases Nat.beq p 32<;>cases aW c<;>rfl
theorem qC{P:Bool→Nat→Nat→List Nat→Bool}{q:Nat→Bool}(h:∀f p c r,P f p c r=(q c&&f)):∀(r:List Nat) (p:Nat),eE P false p r=false
 |[],p=>rfl
 |c::r,p=>by
  show (P false p c r||eE P false c r)=false
  rw [h,qC h r c];cases q c<;>rfl
theorem nH{P:Bool→Nat→Nat→List Nat→Bool}{q:Nat→Bool}(h:∀f p c r,P f p c r=(q c&&f))(c:Nat)(r:List Nat):eE P true 0 (c::r)=q c:=by
 show (P true 0 c r||eE P false c r)=_
 rw [h,qC h r c];cases q c<;>rfl
theorem mU{P:Bool→Nat→Nat→List Nat→Bool}{q:Nat→Bool}(h:∀f p c r,P f p c r=(q c&&r.isEmpty)):∀(r:List Nat) (f:Bool) (p c:Nat),eE P f p (c::r)=q ((c::r).getLastD 0)
 |[],f,p,c=>by
  show (P f p c []||false)=q c
  rw [h];cases q c<;>rfl
 |d::r,f,p,c=>by
  show (P f p c (d::r)||eE P false c (d::r))=q ((d::r).getLastD 0)
  rw [h,mU h r false c d];cases q c<;>rfl
theorem YK{au:Bool}{c:Nat}{r:List Nat}:eG au (c::r) 4=Nat.beq c 32:=by rw [jV rfl];exact nH (P:=pk au 4) (q:=λc=>Nat.beq c 32) (λf p c r=>rfl) c r
theorem YL{au:Bool}{c:Nat}{r:List Nat}:eG au (c::r) 5=aW c:=by rw [jV rfl];exact nH (P:=pk au 5) (q:=aW) (λf p c r=>rfl) c r
theorem Uy{au:Bool}{c:Nat}{r:List Nat}:eG au (c::r) 6=Nat.beq ((c::r).getLastD 0) 32:=by rw [jV rfl];exact mU (P:=pk au 6) (q:=λc=>Nat.beq c 32) (λf p c r=>rfl) r true 0 c
theorem YM{au:Bool}{c:Nat}{r:List Nat}:eG au (c::r) 7=aW ((c::r).getLastD 0):=by rw [jV rfl];exact mU (P:=pk au 7) (q:=aW) (λf p c r=>rfl) r true 0 c
theorem LW:(bH.all λc=>(nR c==uF c)&&imp (uF c) (!(nS.contains c||(OM.contains c||(Nat.beq c 45||(Nat.beq c 63||(Nat.beq c 58||Nat.beq c 35)))))))=true:=by kernel_rfl
theorem Uz:(bH.all λc=>bD λf=>bD λfo=>bD λpr=>(pf true f false fo pr false false c 1==(pf true f false fo pr false false c 0||yU.contains c)))=true:=by kernel_rfl
theorem YN{au:Bool}{v:List Nat}(hc:∀c∈v,c∈bH):eG au v 1=(eG au v 0|| !Qw v):=by
 show (dash v||eE (pk au 1) true 0 v)=((dash v||eE (pk au 0) true 0 v)|| !Qw v)
 rw [AP (P:=pk au 0) (Q:=λ_ _ c _=>yU.contains c) v true 0 (λc h f p r=>?_),lU (P:=λ_ _ c _=>yU.contains c) (q:=λc=>yU.contains c) v true 0 (λ_ _ _ _ _=>rfl),uw]
 ·unfold Qw;cases dash v<;>cases eE (pk au 0) true 0 v<;>rfl
 ·exact eq_of_beq (aj (aj (aj (ao Uz (hc c h)) f) (iP r)) (f||nR p))
theorem K9(a n:Nat):decide ([a]=[n])=Nat.beq a n:=by
 cases h:Nat.beq a n with
 |true=>exact decide_eq_true (congrArg (λx=>[x]) (cG h))
 |false=>exact decide_eq_false λe=>Nat.ne_of_beq_eq_false h (List.cons.inj e).1
theorem su(a n:Nat):Nat.beq a n=Nat.beq n a:=by
 cases h:Nat.beq n a with
 |true=>rw [cG h];exact Nat.beq_refl _
 |false=>cases h2:Nat.beq a n with
  |false=>rfl
  |true=>rw [cG h2,Nat.beq_refl] at h;exact h
structure Ws(c:Nat):Prop where
 s1:nS.contains c=false
 b45:Nat.beq c 45=false
 b63:Nat.beq c 63=false
 TS:Nat.beq c 58=false
 b35:Nat.beq c 35=false
theorem LX{c:Nat}(h:c∈bH)(hs:uF c=true):Ws c:=by have h1:=ao LW h;rw [hs] at h1;rw [Bool.and_eq_true] at h1;have h2:=h1.2;change (!(nS.contains c||(OM.contains c||(Nat.beq c 45||(Nat.beq c 63||(Nat.beq c 58||Nat.beq c 35))))))=true at h2;rw [Bool.not_eq_true',Bool.or_eq_false_iff,Bool.or_eq_false_iff,Bool.or_eq_false_iff,Bool.or_eq_false_iff,Bool.or_eq_false_iff] at h2;exact ⟨h2.1,h2.2.2.1,h2.2.2.2.1,h2.2.2.2.2.1,h2.2.2.2.2.2⟩
theorem wZ{c:Nat}(h:c∈bH):nR c=uF c:=by have h1:=ao LW h;rw [Bool.and_eq_true] at h1;exact eq_of_beq h1.1
theorem VG{au:Bool}{p c:Nat}{r:List Nat}:pk au 0 false p c r=(Nat.beq c 58&&iP r||Nat.beq c 35&&nR p):=rfl
theorem w4{c:Nat}{r cur:List Nat}(h:uF c=true):gv cur (c::r)=cur::gv [] r:=by unfold gv;rw [h];cases r<;>rfl
theorem w5{c:Nat}{r cur:List Nat}(h:uF c=false):gv cur (c::r)=gv (cur++[c]) r:=by rw [gv,h];rfl
theorem GI{c:Nat}{r:List Nat}:iP (c::r)=nR c:=rfl
theorem bw1:∀a p:Bool,(!((!a&& !p)&&true))=(a||(p&&true||false)):=by decide
theorem bw2:∀a p q f g:Bool,(!((!a&& !p)&&q))=(a||(p&&true||((false&&f||false&&g)|| !q))):=by decide
theorem bw3:∀a p m k f y:Bool,(a||(m&&f||y))=(a||(p&&false||((m&&f||k&&false)||y))):=by decide
theorem bw4:∀m k f y:Bool,(k||(m&&f||y))=((m&&f||k&&true)||y):=by decide
def PE(au:Bool)(r:List Nat):Prop:=(∀(cur:List Nat) (a p:Nat),cur.take 1=[a]→cur.drop (cur.length - 1)=[p]→nR p=false→(!(gv cur r).all wX)=(Nat.beq a 35||(Nat.beq p 58&&iP r||eE (pk au 0) false p r)))∧(∀p,nR p=true→(!(gv [] r).all wX)=eE (pk au 0) false p r)
theorem GJ{cur:List Nat}{a p:Nat}(h1:cur.take 1=[a])(h2:cur.drop (cur.length - 1)=[p]):wX cur=(!Nat.beq a 35&& !Nat.beq p 58):=by unfold wX;rw [h1,h2,K9,K9]
theorem YO{au:Bool}{c:Nat}{r:List Nat}(W:Ws c)(hs:uF c=true)(hx:nR c=true)(ihB:∀p,nR p=true→(!(gv [] r).all wX)=eE (pk au 0) false p r):PE au (c::r):=by
 refine ⟨λcur a p h1 h2 h3=>?_,λp hp=>?_⟩
 ·rw [w4 hs,GI,hx]
  show (!(wX cur&&(gv [] r).all wX))=(Nat.beq a 35||(Nat.beq p 58&&true||(pk au 0 false p c r||eE (pk au 0) false c r)))
  rw [VG,W.TS,W.b35, ← ihB c hx,GJ h1 h2];exact bw2 _ _ _ _ _
 ·rw [w4 hs]
  show (!(wX []&&(gv [] r).all wX))=(pk au 0 false p c r||eE (pk au 0) false c r)
  rw [VG,W.TS,W.b35, ← ihB c hx];rfl
theorem YQ{au:Bool}{c:Nat}{r:List Nat}(hs:uF c=false)(hx:nR c=false)(ihA:∀(cur:List Nat) (a p:Nat),cur.take 1=[a]→cur.drop (cur.length - 1)=[p]→nR p=false→(!(gv cur r).all wX)=(Nat.beq a 35||(Nat.beq p 58&&iP r||eE (pk au 0) false p r))):PE au (c::r):=by
 refine ⟨λcur a p h1 h2 h3=>?_,λp hp=>?_⟩
 ·rw [w5 hs,GI,hx,ihA (cur++[c]) a c ?_ ?_ hx]
  ·show _=(Nat.beq a 35||(Nat.beq p 58&&false||(pk au 0 false p c r||eE (pk au 0) false c r)))
   rw [VG,h3];exact bw3 _ _ _ _ _ _
  ·cases cur with
   |nil=>exact (List.cons_ne_nil _ _ h1.symm).elim
   |cons x t=>exact h1
  ·rw [aY,List.length_singleton,Nat.add_sub_cancel,List.drop_append_of_le_length (bf _),List.drop_length];rfl
 ·rw [w5 hs]
  show (!(gv [c] r).all wX)=(pk au 0 false p c r||eE (pk au 0) false c r)
  rw [VG,hp,ihA [c] c c rfl rfl hx];exact bw4 _ _ _ _
theorem wA(au:Bool)(r:List Nat)(hr:∀c∈r,c∈bH):PE au r:=by
 induction r with
 |nil=>exact ⟨λcur a p h1 h2 h3=>(congrArg (λb=> !(b&&true)) (GJ h1 h2)).trans (bw1 _ _),λp hp=>rfl⟩
 |cons c r ih=>
  have hc:=hr c (cy ..);have ih:=ih λd hd=>hr d (bR _ hd)
  cases hs:uF c with
  |true=>exact YO (LX hc hs) hs ((wZ hc).trans hs) ih.2
  |false=>exact YQ hs ((wZ hc).trans hs) ih.1
theorem GK:∀(r cur:List Nat),cur.length≤((gv cur r).headD []).length
 |[],cur=>bf _
 |c::r,cur=>by
  cases hs:uF c with
  |true=>rw [w4 hs];exact bf _
  |false=>rw [w5 hs];refine ak ?_ (GK r (cur++[c]));rw [aY];lia
theorem UA{n c:Nat}{r:List Nat}(hr:∀d∈r,d∈bH):decide ([n]=(gv [c] r).headD [])=(Nat.beq c n&&iP r):=by
 cases r with
 |nil=>show decide ([n]=[c])=(Nat.beq c n&&true);rw [K9,su,Bool.and_true]
 |cons d t=>
  rw [GI,wZ (hr d (cy ..))]
  cases hs:uF d with
  |true=>rw [w4 hs];show decide ([n]=[c])=(Nat.beq c n&&true);rw [K9,su,Bool.and_true]
  |false=>
   rw [w5 hs,Bool.and_false];refine decide_eq_false λe=>?_
   have h:=GK t ([c]++[d]);rw [← e] at h;exact absurd (show 2≤1 from h) (by decide)
theorem UB(a:List Nat)(v:List Nat)(h:a.length=3):decide (a=v.take 3)=a.isPrefixOf v:=by
 cases hp:a.isPrefixOf v with
 |true=>have:=List.prefix_iff_eq_take.mp (List.isPrefixOf_iff_prefix.mp hp);rw [h] at this;exact decide_eq_true this
 |false=>
  refine decide_eq_false λe=>?_
  have:a.isPrefixOf v=true:=List.isPrefixOf_iff_prefix.mpr (List.prefix_iff_eq_take.mpr (by rw [h];exact e))
  rw [hp] at this;exact absurd this (by decide)
theorem bf0:∀d s x m n f y:Bool,(d||((s||((x||m)&&f||n&&f))||y))=(s||(((n&&f)||((x&&f)||false))||(d||(false||(m&&f||y))))):=by decide
theorem bf1:∀d f q:Bool,(d||((false||((false||false)&&f||false&&f))|| !q))=(false||((false||(false||false))||(d|| !(true&&q)))):=by decide
theorem bf2:∀d p:Bool,(d||(true||p))=true:=by decide
theorem YR{au:Bool}{c:Nat}{r:List Nat}(hc:∀d∈c::r,d∈bH):eG au (c::r) 0=Py (c::r):=by
 have xm:=hc c (cy ..);have hr:∀d∈r,d∈bH:=λd hd=>hc d (bR _ hd)
 have h3:Uu (c::r)=dash (c::r):=by unfold Uu dash;rw [UB [45,45,45] (c::r) rfl,UB [46,46,46] (c::r) rfl,Bool.or_false]
 show (dash (c::r)||((nS.contains c||((Nat.beq c 63||Nat.beq c 58)&&iP r||Nat.beq c 45&&iP r))||eE (pk au 0) false c r))=(nS.contains c||(VE (c::r)||(Uu (c::r)|| !(gv [] (c::r)).all wX)))
 rw [h3];unfold VE
 cases hs:uF c with
 |true=>have W:=LX xm hs;have hx:nR c=true:=(wZ xm).trans hs;rw [w4 hs,W.s1,W.b63,W.TS,W.b45, ← (wA au r hr).2 c hx];exact bf1 _ _ _
 |false=>
  have hx:nR c=false:=(wZ xm).trans hs;rw [w5 hs];show _=(nS.contains c||((decide ([45]=(gv [c] r).headD [])||(decide ([63]=(gv [c] r).headD [])||false))||(dash (c::r)|| !(gv [c] r).all wX)))
  rw [UA hr,UA hr,(wA au r hr).1 [c] c c rfl rfl hx]
  cases h35:Nat.beq c 35 with
  |true=>
   have:nS.contains c=true:=by rw [cG h35];rfl
   rw [this]
   cases dash (c::r)<;>rfl
  |false=>exact bf0 _ _ _ _ _ _ _
theorem lV{v:List Nat}(h:sj v=true){c:Nat}(hc:c∈v):aW c=false:=by have:=ao h hc;rw [Bool.not_eq_true'] at this;exact this
theorem GL(c:Nat)(r:List Nat):(c::r).getLastD 0∈c::r:=by
 rw [List.getLastD_cons]
 cases r with
 |nil=>exact cy ..
 |cons d t=>exact bR _ (by rw [List.getLastD_eq_getLast?,List.getLast?_eq_some_getLast (List.cons_ne_nil d t)];exact List.getLast_mem _)
theorem AQ{v:List Nat}(h:sj v=true):CP v=true∧GB v=true:=by
 constructor
 ·refine List.all_eq_true.mpr λp hp=>?_
  rw [lV h (iG hp).2,Bool.and_false];rfl
 ·refine List.all_eq_true.mpr λp hp=>?_
  rw [lV h (iG hp).1,Bool.and_false];rfl
theorem CQ(r:List Nat)(c:Nat):(c::r).drop ((c::r).length - 1)=[(c::r).getLastD 0]:=by
 induction r generalizing c with
 |nil=>rfl
 |cons d t ih=>exact ih d
theorem PF{c:Nat}{r:List Nat}:led (c::r)=(!Nat.beq c 32&& !Nat.beq ((c::r).getLastD 0) 32):=by
 unfold led lE;rw [CQ];show (!Nat.beq c 32&&(!Nat.beq ((c::r).getLastD 0) 32&&true))=_
 rw [Bool.and_true]
noncomputable def cC(asked:MV)(p0 fl key st li ah be mk f3 g4 g5 g6 g7:Bool):Bool:=
 imp (imp li (!g5&&(!g7&&(ah&&be)))) (imp (imp key li) (nM (uv (Gm asked p0 fl key false (!li) (cond (!li||(mk|| !f3)) false (cond (!be||(!ah|| !st)) false (!(g4||(g5||(g6||g7)))))) (cond (!li||mk) false (cond (!be||(!ah|| !st)) false (!(g4||(g5||(g6||g7)))))) (!(!be||(!ah|| !st))) (cond (!ah|| !st) false (!g6))))
  (GA asked fl key p0 (cond (fl&&(false|| !f3)) false (!(!st||(!li||(mk|| !(!g4&& !g6)))))) false (!st) (!ah) (!be) g6)))
theorem UC:(bQ.all λa=>bD λp0=>bD λfl=>bD λkey=>bD λst=>bD λli=>bD λah=>bD λbe=>bD λmk=>bD λf3=>bD λg4=>bD λg5=>bD λg6=>bD λg7=>cC a p0 fl key st li ah be mk f3 g4 g5 g6 g7)=true:=by kernel_rfl
theorem UD:(bQ.all λa=>bD λp0=>bD λfl=>bD λau=>nM (uv ((aA au []).iO a p0 fl false)) (yV a fl false p0 au []))=true:=by kernel_rfl
theorem AR{au fl key p0:Bool}{asked:MV}{v:List Nat}(ha:asked∈bQ)(hc:∀c∈v,c∈bH)(hw:au=true→∀c∈v,Nat.beq c 133=false)(hk:key=true→v≠[]∧sj v=true):
  uv ((aA au v).iO asked p0 fl key)=yV asked fl key p0 au v:=by
 cases v with
 |nil=>
  cases key with
  |true=>exact absurd rfl (hk rfl).1
  |false=>exact dc (aj (aj (aj (ao UD ha) p0) fl) au)
 |cons c r=>
  have h:=aj (aj (aj (aj (aj (aj (aj (aj (aj (aj (aj (aj (aj (ao UC ha) p0) fl) key) (lst au (c::r))) (sj (c::r))) (CP (c::r))) (GB (c::r))) (Py (c::r))) (Qw (c::r))) (Nat.beq c 32)) (aW c)) (Nat.beq ((c::r).getLastD 0) 32)) (aW ((c::r).getLastD 0));have h:=dc (ez (ez h ?_) ?_)
  ·show uv (Gm asked p0 fl key false (eG au (c::r) 2) (cond (eG au (c::r) 2||eG au (c::r) 1) false (cond (eG au (c::r) 8||(eG au (c::r) 9||eG au (c::r) 3)) false (!(eG au (c::r) 4||(eG au (c::r) 5||(eG au (c::r) 6||eG au (c::r) 7)))))) (cond (eG au (c::r) 2||eG au (c::r) 0) false (cond (eG au (c::r) 8||(eG au (c::r) 9||eG au (c::r) 3)) false (!(eG au (c::r) 4||(eG au (c::r) 5||(eG au (c::r) 6||eG au (c::r) 7)))))) (!(eG au (c::r) 8||(eG au (c::r) 9||eG au (c::r) 3))) (cond (eG au (c::r) 9||eG au (c::r) 3) false (!eG au (c::r) 6)))=_
   rw [YN hc,YR hc,PD,YH hc hw,YK,YL,Uy,YM,YI,YJ];unfold yV Uv;rw [PF];exact h
  ·cases hl:sj (c::r) with
   |false=>rfl
   |true=>rw [lV hl (cy ..),lV hl (GL c r),(AQ hl).1,(AQ hl).2];rfl
  ·cases key with
   |false=>rfl
   |true=>rw [(hk rfl).2];rfl
theorem ux{M:Nat}:∀(s b r:List Nat) (o:Nat) (f:Bool),(f=false→r=[])→(f=true→r=[]→s≠[])→(jv 124 M b r o f s).1++cond (jv 124 M b r o f s).2.isEmpty [10] (jv 124 M b r o f s).2=b++(r++lq M f s)
 |[],b,r,o,f,h1,h2=>by
  cases f with
  |false=>rw [h1 rfl];rfl
  |true=>
   cases r with
   |nil=>exact absurd rfl (h2 rfl rfl)
   |cons x t=>show b++(x::t)=b++((x::t)++[]);rw [cH]
 |c::v,b,r,o,f,h1,h2=>by
  rw [Gs];unfold lq
  cases aW c with
  |true=>
   have:=ux (M:=M) v b (r++[c]) o true (λh=>absurd h (by decide)) (λ_ h=>absurd (congrArg List.length h) (by rw [aY];exact Nat.succ_ne_zero _))
   rw [bJ] at this;exact this
  |false=>
   cases f with
   |true=>
    have:=ux (M:=M) v (b++([]++(r++(eT M++[c])))) [] c false (λ_=>rfl) (λh=>absurd h (by decide))
    refine Eq.trans this ?_;show (b++([]++(r++(eT M++[c]))))++([]++lq M false v)=b++(r++(eT M++c::lq M false v))
    simp only [bJ,List.nil_append,List.singleton_append]
   |false=>
    rw [h1 rfl];have:=ux (M:=M) v (b++[c]) [] o false (λ_=>rfl) (λh=>absurd h (by decide))
    refine Eq.trans this ?_;show (b++[c])++([]++lq M false v)=b++([]++([]++c::lq M false v))
    simp only [bJ,List.nil_append,List.singleton_append]
noncomputable def tl(n:Nat):List Nat→Nat
 |[]=>n
 |c::s=>cond (aW c) (tl (n+1) s) (tl 0 s)
theorem oj(c:Nat):∀(s:List Nat) (n:Nat),tl n (s++[c])=cond (aW c) (tl n s+1) 0
 |[],n=>rfl
 |d::s,n=>by
  show cond (aW d) (tl (n+1) (s++[c])) (tl 0 (s++[c]))=cond (aW c) (cond (aW d) (tl (n+1) s) (tl 0 s)+1) 0
  rw [oj c s,oj c s]
  cases aW d<;>rfl
theorem AS{a b:List Nat}:(a++b).isEmpty=(a.isEmpty&&b.isEmpty):=by cases a<;>rfl
theorem VH{q M:Nat}:∀(s b r:List Nat) (o:Nat) (f:Bool),(f=false→r=[])→(jv q M b r o f s).2.length=tl r.length s∧(jv q M b r o f s).1.isEmpty=(b.isEmpty&&s.all aW)
 |[],b,r,o,f,h1=>⟨rfl,(Bool.and_true _).symm⟩
 |c::v,b,r,o,f,h1=>by
  rw [Gs];show _=cond (aW c) _ _∧_=(b.isEmpty&&(aW c&&v.all aW))
  cases aW c with
  |true=>
   have:=VH (q:=q) (M:=M) v b (r++[c]) o true (λh=>absurd h (by decide))
   rw [aY] at this;exact this
  |false=>
   rw [Bool.false_and,Bool.and_false]
   cases f with
   |true=>
    have:=VH (q:=q) (M:=M) v (b++(mQ q (!Nat.beq o 32) c (Nat.beq (r.headD 0) 10)++(r++(eT M++[c])))) [] c false (λ_=>rfl)
    refine ⟨this.1,this.2.trans ?_⟩;simp [AS]
   |false=>
    rw [h1 rfl];have:=VH (q:=q) (M:=M) v (b++[c]) [] o false (λ_=>rfl)
    refine ⟨this.1,this.2.trans ?_⟩;simp [AS]
noncomputable def fin2(p:LB):List Nat:=p.1++cond p.2.isEmpty [10] p.2
theorem PG{q M:Nat}{b r:List Nat}{o:Nat}{f:Bool}{c:Nat}{v:List Nat}(h:aW c=true):jv q M b r o f (c::v)=jv q M b (r++[c]) o true v:=by rw [Gs,h];rfl
theorem YS{q M:Nat}{b r:List Nat}{o:Nat}{c:Nat}{v:List Nat}(h:aW c=false):jv q M b r o false (c::v)=jv q M (b++[c]) r o false v:=by rw [Gs,h];rfl
theorem UE{q M:Nat}{b r:List Nat}{o:Nat}{c:Nat}{v:List Nat}(h:aW c=false):jv q M b r o true (c::v)=jv q M (b++(mQ q (!Nat.beq o 32) c (Nat.beq (r.headD 0) 10)++(r++(eT M++[c])))) [] c false v:=by rw [Gs,h];rfl
theorem w6{M σ:Nat}{c:Nat}{r pend:List Nat}:jB iN M (c::r) σ pend=(lQ σ (pend.headD 0) c).out M pend++jB iN M r (lQ σ (pend.headD 0) c).s ((lQ σ (pend.headD 0) c).kd.pend pend c):=rfl
theorem b32{c:Nat}(h:Nat.beq c 32=true):aW c=false:=by rw [cG h];rfl
theorem La{α:Type}{l:List α}{a:α}:l++[a]≠[]:=λh=>absurd (congrArg List.length h) (by rw [aY];exact Nat.succ_ne_zero _)
noncomputable abbrev mR(M:Nat)(s:List Nat)(g:Bool)(a b:Nat)(pend:List Nat):List Nat:=jB iN M s (cond g a b) pend
section
variable {M c:Nat}{s pend:List Nat}{g:Bool}
theorem t3b(hb:aW c=true):mR M (c::s) g 3 0 pend=pend++mR M s g 5 2 [c]:=by
 show jB iN M (c::s) _ pend=_
 rw [w6]
 cases g<;>simp only [lQ,jC,hb]<;>exact congrArg (·++_) (cH pend)
theorem t3s(hb:aW c=false)(h2:Nat.beq c 32=true):mR M (c::s) g 3 0 pend=pend++mR M s g 4 1 [c]:=by
 show jB iN M (c::s) _ pend=_
 rw [w6]
 cases g<;>simp only [lQ,jC,hb,h2]<;>exact congrArg (·++_) (cH pend)
theorem t3c(hb:aW c=false)(h2:Nat.beq c 32=false):mR M (c::s) g 3 0 pend=mR M s g 3 0 (pend++[c]):=by
 show jB iN M (c::s) _ pend=_
 rw [w6]
 cases g<;>simp only [lQ,jC,hb,h2]<;>rfl
theorem t4b(hb:aW c=true)(h2:Nat.beq c 32=false):mR M (c::s) g 4 1 pend=pend++mR M s g 5 2 [c]:=by
 show jB iN M (c::s) _ pend=_
 rw [w6]
 cases g<;>simp only [lQ,jC,hb,h2]<;>exact congrArg (·++_) (cH pend)
theorem t4s(hb:aW c=false)(h2:Nat.beq c 32=true):mR M (c::s) g 4 1 pend=mR M s g 4 1 (pend++[c]):=by
 show jB iN M (c::s) _ pend=_
 rw [w6]
 cases g<;>simp only [lQ,jC,hb,h2]<;>rfl
theorem t4c(hb:aW c=false)(h2:Nat.beq c 32=false):mR M (c::s) g 4 1 pend=pend++mR M s g 3 0 [c]:=by
 show jB iN M (c::s) _ pend=_
 rw [w6]
 cases g<;>simp only [lQ,jC,hb,h2]<;>exact congrArg (·++_) (cH pend)
theorem t5b(hb:aW c=true):mR M (c::s) g 5 2 pend=mR M s g 5 2 (pend++[c]):=by
 show jB iN M (c::s) _ pend=_
 rw [w6]
 cases g<;>simp only [lQ,jC,hb]<;>rfl
theorem t5n(hb:aW c=false):mR M (c::s) g 5 2 pend=mQ 62 (!g) c (Nat.beq (pend.headD 0) 10)++(pend++(eT M++jB iN M s (cond (Nat.beq c 32) 4 0) [c])):=by
 show jB iN M (c::s) _ pend=_
 rw [w6];have q:∀{a b d r:List Nat},(a++b)++(d++[])++r=a++(b++(d++r)):=by simp only [bJ,cH,implies_true]
 cases g<;>simp only [lQ,jC,hb]<;>exact q
end
def FoA(M:Nat)(s b pend:List Nat)(o:Nat):Prop:=fin2 (jv 62 M (b++pend) [] o false s)=b++mR M s (Nat.beq o 32) 3 0 pend
def FoB(M:Nat)(s b pend:List Nat)(o:Nat):Prop:=fin2 (jv 62 M (b++pend) [] o false s)=b++mR M s (Nat.beq o 32) 4 1 pend
def FoC(M:Nat)(s b pend:List Nat)(o:Nat):Prop:=fin2 (jv 62 M b pend o true s)=b++mR M s (Nat.beq o 32) 5 2 pend
theorem YT{a b r z:List Nat}(h:z=(a++b)++r):z=a++(b++r):=h.trans (bJ ..)
theorem fold_eq{M:Nat}(s:List Nat):∀(b pend:List Nat) (o d:Nat),s.getLastD d≠32→(d≠32→FoA M s b pend o)∧(d=32→FoB M s b pend o)∧(pend≠[]→FoC M s b pend o):=by
 induction s with
 |nil=>
  refine λb pend o d hd=>⟨λ_=>?_,λh=>absurd h hd,λhp=>?_⟩
  ·exact (YT (r:=[10]) rfl).trans (congrArg (b++·) (show pend++[10]=mR M [] (Nat.beq o 32) 3 0 pend by cases Nat.beq o 32<;>rfl))
  ·cases pend with
   |nil=>exact absurd rfl hp
   |cons x t=>exact congrArg (b++·) (show x::t=mR M [] (Nat.beq o 32) 5 2 (x::t) by cases Nat.beq o 32<;>exact (cH _).symm)
 |cons c s ih=>
  intro b pend o d hd;rw [List.getLastD_cons] at hd;have ne:Nat.beq c 32=false→c≠32:=λh e=>by rw [e] at h;exact absurd h (by decide)
  cases hb:aW c with
  |true=>
   have h2:Nat.beq c 32=false:=by cases h:Nat.beq c 32 with
    |false=>rfl
    |true=>rw [b32 h] at hb;exact absurd hb (by decide)
   have k:=(congrArg fin2 (PG (q:=62) (M:=M) (b:=b++pend) (r:=[]) (o:=o) (f:=false) (v:=s) hb)).trans ((ih (b++pend) [c] o c hd).2.2 (List.cons_ne_nil _ _));exact ⟨λ_=>(YT k).trans (congrArg (b++·) (t3b hb).symm),λ_=>(YT k).trans (congrArg (b++·) (t4b hb h2).symm),λ_=>(congrArg fin2 (PG hb)).trans (((ih b (pend++[c]) o c hd).2.2 La).trans (congrArg (b++·) (t5b hb).symm))⟩
  |false=>
   have k:=congrArg fin2 (YS (q:=62) (M:=M) (b:=b++pend) (r:=[]) (o:=o) (v:=s) hb);have k2:=k.trans (congrArg (λz=>fin2 (jv 62 M z [] o false s)) (bJ b pend [c]))
   have e1:b++(mQ 62 (!Nat.beq o 32) c (Nat.beq (pend.headD 0) 10)++(pend++(eT M++[c])))=(b++(mQ 62 (!Nat.beq o 32) c (Nat.beq (pend.headD 0) 10)++(pend++eT M)))++[c]:=by simp only [bJ]
   have k3:=(congrArg fin2 (UE (q:=62) (M:=M) (b:=b) (r:=pend) (o:=o) (v:=s) hb)).trans (congrArg (λz=>fin2 (jv 62 M z [] c false s)) e1)
   have e2:∀z:List Nat,(b++(mQ 62 (!Nat.beq o 32) c (Nat.beq (pend.headD 0) 10)++(pend++eT M)))++z=b++(mQ 62 (!Nat.beq o 32) c (Nat.beq (pend.headD 0) 10)++(pend++(eT M++z))):=λz=>by simp only [bJ]
   have k4:=λ(z:List Nat) (q:fin2 (jv 62 M ((b++(mQ 62 (!Nat.beq o 32) c (Nat.beq (pend.headD 0) 10)++(pend++eT M)))++[c]) [] c false s)=(b++(mQ 62 (!Nat.beq o 32) c (Nat.beq (pend.headD 0) 10)++(pend++eT M)))++z)=>k3.trans (q.trans (e2 z))
   cases h2:Nat.beq c 32 with
   |true=>have hc:=cG h2;exact ⟨λ_=>(k.trans ((ih (b++pend) [c] o c hd).2.1 hc)).trans ((bJ ..).trans (congrArg (b++·) (t3s hb h2).symm)),λ_=>(k2.trans ((ih b (pend++[c]) o c hd).2.1 hc)).trans (congrArg (b++·) (t4s hb h2).symm),λ_=>(k4 _ ((ih _ [c] c c hd).2.1 hc)).trans (congrArg (b++·) ((t5n hb).trans (by rw [h2];rfl)).symm)⟩
   |false=>exact ⟨λ_=>(k2.trans ((ih b (pend++[c]) o c hd).1 (ne h2))).trans (congrArg (b++·) (t3c hb h2).symm),λ_=>(k.trans ((ih (b++pend) [c] o c hd).1 (ne h2))).trans ((bJ ..).trans (congrArg (b++·) (t4c hb h2).symm)),λ_=>(k4 _ ((ih _ [c] c c hd).1 (ne h2))).trans (congrArg (b++·) ((t5n hb).trans (by rw [h2];rfl)).symm)⟩
theorem UG{M c:Nat}{r:List Nat}(h:(c::r).getLastD 0≠32):fin2 (jv 62 M [] [] 32 true (c::r))=fo M (c::r):=by
 rw [List.getLastD_cons] at h;show _=cond (aW c) [] (eT M)++jB iN M r (cond (aW c) 5 (cond (Nat.beq c 32) 4 0)) [c]
 cases hb:aW c with
 |true=>rw [PG hb];exact (fold_eq (M:=M) r [] [c] 32 c h).2.2 (List.cons_ne_nil _ _)
 |false=>
  rw [UE hb];have e:([]:List Nat)++(mQ 62 (!Nat.beq 32 32) c (Nat.beq (([]:List Nat).headD 0) 10)++([]++(eT M++[c])))=eT M++[c]:=rfl;rw [e]
  cases h2:Nat.beq c 32 with
  |true=>have ih:=(fold_eq (M:=M) r (eT M) [c] c c h).2.1 (cG h2);unfold FoB mR at ih;rw [h2] at ih;exact ih
  |false=>
   have ih:=(fold_eq (M:=M) r (eT M) [c] c c h).1 (λe=>by rw [e] at h2;exact absurd h2 (by decide))
   unfold FoA mR at ih;rw [h2] at ih;exact ih
theorem UH{M c:Nat}{r:List Nat}:fin2 (jv 124 M [] [] 32 true (c::r))=lq M true (c::r):=ux (c::r) [] [] 32 true (λh=>absurd h (by decide)) (λ_ _=>List.cons_ne_nil _ _)
theorem Lb{v:List Nat}(h:v≠[]):∃u c,v=u++[c]:=⟨v.dropLast,v.getLast h,(List.dropLast_concat_getLast h).symm⟩
theorem CR(u:List Nat)(c d:Nat):(u++[c]).getLastD d=c:=by simp
theorem Lc{l:List Nat}:l.isEmpty=Nat.beq l.length 0:=by cases l<;>rfl
theorem AU(n m:Nat):decide (n=m)=Nat.beq n m:=by
 cases h:Nat.beq n m with
 |true=>exact decide_eq_true (cG h)
 |false=>exact decide_eq_false (Nat.ne_of_beq_eq_false h)
theorem GN{q M b:Nat}{v:List Nat}(hv:v≠[]):hints b v=cond (Nat.beq (v.headD 0) 32||aW (v.headD 0)) [48+b] []++wU (jv q M [] [] 32 true v).2.isEmpty (decide ((jv q M [] [] 32 true v).2.length=1)) (jv q M [] [] 32 true v).1.isEmpty:=by
 have h:=VH (q:=q) (M:=M) v [] [] 32 true (λh=>absurd h (by decide))
 rw [Lc,AU,h.1,h.2];unfold hints Qo
 congr 1
 obtain ⟨u,c,rfl⟩:=Lb hv;show _=wU (Nat.beq (tl 0 (u++[c])) 0) (Nat.beq (tl 0 (u++[c])) 1) (true&&(u++[c]).all aW)
 rw [CR,oj,List.all_append,AU,aY]
 cases hb:aW c with
 |false=>rfl
 |true=>
  show cond ((Nat.beq (u.length+1) 1)||aW ((u++[c]).getD (u.length+1 - 2) 0)) [43] []=cond (Nat.beq (tl 0 u) 0&& !(true&&(u.all aW&&(aW c&&true)))) [] [43]
  rw [hb]
  cases hu:u.reverse with
  |nil=>have:u=[]:=List.reverse_eq_nil_iff.mp hu;subst this;rfl
  |cons d t=>
   have e:u=t.reverse++[d]:=by rw [← List.reverse_reverse u,hu,List.reverse_cons]
   subst e;rw [oj,List.all_append];have e2:((t.reverse++[d])++[c]).getD ((t.reverse++[d]).length+1 - 2) 0=d:=by
    rw [aY,bJ];show (t.reverse++[d,c]).getD (t.reverse.length+1+1 - 2) 0=d
    rw [Nat.add_sub_cancel (t.reverse.length) 2];simp [List.getD]
   rw [e2];have e3:Nat.beq ((t.reverse++[d]).length+1) 1=false:=by rw [aY];rfl
   rw [e3,show [d].all aW=aW d from Bool.and_true _]
   cases aW d with
   |true=>
    show [43]=cond (Nat.beq (tl 0 t.reverse+1) 0&&_) [] [43]
    rfl
   |false=>
    show []=cond (true&& !(true&&((t.reverse.all aW&&false)&&(true&&true)))) [] [43]
    cases t.reverse.all aW<;>rfl
theorem GO{q M b:Nat}{v:List Nat}(hv:v≠[]):q::(hints b v++(10::fin2 (jv q M [] [] 32 true v)))=KZ q M (48+b) v:=by rw [GN (q:=q) (M:=M) hv,bJ];rfl
theorem PI{au p1 ws rt i2:Bool}{M b:Nat}{s v:List Nat}{oe:MV}(hs:ug s v):
  cond (tagged s p1) (cond ws [33] [32,33]) []++(nr au M b rt s v (!tagged s p1&&ws) i2 oe).txt=cond (bG s p1 au M (48+b) v).isEmpty [] (sep ws)++bG s p1 au M (48+b) v:=by
 have two:∀(q:Nat) (T:List Nat),AN q au M (48+b) v=T→(nr au M b rt [q] v (!tagged [q] p1&&ws) i2 oe).txt=sep (!tagged [q] p1&&ws)++T→
   cond (tagged [q] p1) (cond ws [33] [32,33]) []++(nr au M b rt [q] v (!tagged [q] p1&&ws) i2 oe).txt=cond (bG [q] p1 au M (48+b) v).isEmpty [] (sep ws)++bG [q] p1 au M (48+b) v:=λq T h1 h2=>by
  rw [h2];show _=cond (cond p1 [] [33,32]++AN q au M (48+b) v).isEmpty [] (sep ws)++(cond p1 [] [33,32]++AN q au M (48+b) v)
  rw [h1]
  cases p1 with
  |true=>
   cases T with
   |nil=>
    refine absurd h1 ?_;unfold AN
    cases Nat.beq q 39 with
    |true=>exact List.cons_ne_nil _ _
    |false=>
     cases Nat.beq q 34 with
     |true=>exact List.cons_ne_nil _ _
     |false=>exact List.cons_ne_nil _ _
   |cons x t=>rfl
  |false=>cases ws<;>rfl
 rcases hs with ⟨rfl,h⟩|rfl|rfl|⟨rfl,h⟩|⟨rfl,c,r,rfl,h⟩
 ·cases v with
  |nil=>cases ws<;>rfl
  |cons c r=>cases ws<;>rfl
 ·exact two 39 _ rfl rfl
 ·exact two 34 _ rfl rfl
 ·refine two 124 (KZ 124 M (48+b) v) rfl ?_
  obtain ⟨c,r,rfl⟩:∃c r,v=c::r:=by cases v with
   |nil=>exact absurd rfl h
   |cons c r=>exact ⟨c,r,rfl⟩
  rw [← GO h,UH];rfl
 ·refine two 62 (KZ 62 M (48+b) (c::r)) rfl ?_
  rw [← GO (List.cons_ne_nil _ _),UG (by rw [List.getLastD_cons, ← List.getLast_eq_getLastD];exact h)];rfl
noncomputable def cS(asked:MV)(p0 fl sk emp mul gu ie gH gf:Bool):Bool:=imp (imp gu (!mul)) (imp (imp ie (!mul)) ([[],[39],[34],[124],[62]].any (λt=>decide (Gm asked p0 fl sk emp mul gu ie gH gf=t))&&(imp (decide (Gm asked p0 fl sk emp mul gu ie gH gf=[])) (!mul)&&(imp (decide (Gm asked p0 fl sk emp mul gu ie gH gf=[124])) gf&&imp (decide (Gm asked p0 fl sk emp mul gu ie gH gf=[62])) gf))))
theorem UI:(bQ.all λa=>bD λp0=>bD λfl=>bD λsk=>bD λemp=>bD λmul=>bD λgu=>bD λie=>bD λgH=>bD λgf=>cS a p0 fl sk emp mul gu ie gH gf)=true:=by kernel_rfl
theorem GP{au fl key p0:Bool}{asked:MV}{v:List Nat}(ha:asked∈bQ):ug ((aA au v).iO asked p0 fl key) v:=by
 have h:=aj (aj (aj (aj (aj (aj (aj (aj (aj (ao UI ha) p0) fl) key) (aA au v).emp) (aA au v).mul) (aA au v).gu) (aA au v).ie) (aA au v).gH) (aA au v).gf;have h:=ez (ez h ?_) ?_
 ·have h':([[],[39],[34],[124],[62]].any (λt=>decide ((aA au v).iO asked p0 fl key=t))&&(imp (decide ((aA au v).iO asked p0 fl key=[])) (!(aA au v).mul)&&(imp (decide ((aA au v).iO asked p0 fl key=[124])) (aA au v).gf&&imp (decide ((aA au v).iO asked p0 fl key=[62])) (aA au v).gf)))=true:=h
  clear h;generalize (aA au v).iO asked p0 fl key=s at h'⊢;simp only [Bool.and_eq_true] at h';obtain ⟨h1,h2,h3,h4⟩:=h';obtain ⟨t,ht,e⟩:=List.any_eq_true.mp h1;have e:s=t:=bN e;subst e;simp only [bq,dm,or_false] at ht;have hb:(aA au v).gf=true→∃c r,v=c::r∧(c::r).getLast (List.cons_ne_nil _ _)≠32:=λhh=>by
   cases v with
   |nil=>exact absurd (show false=true from hh) (by decide)
   |cons c r=>
    refine ⟨c,r,rfl,λe=>?_⟩
    have hh:cond (eG au (c::r) 9||eG au (c::r) 3) false (!eG au (c::r) 6)=true:=hh;rw [Uy,show (c::r).getLastD 0=(c::r).getLast (List.cons_ne_nil _ _) from (List.getLastD_cons ..).trans (List.getLast_eq_getLastD _).symm,e] at hh
    exact (show ∀x:Bool,cond x false (!Nat.beq 32 32)=true→False from by decide) _ hh
  rcases ht with rfl|rfl|rfl|rfl|rfl
  ·refine .inl ⟨rfl,λc hc=>?_⟩
   have hm:=ez h2 (decide_eq_true rfl)
   cases v with
   |nil=>exact absurd hc (dm)
   |cons d r=>have hm:(!eG au (d::r) 2)=true:=hm;rw [PD,Bool.not_not] at hm;exact lV hm hc
  ·exact .inr (.inl rfl)
  ·exact .inr (.inr (.inl rfl))
  ·refine .inr (.inr (.inr (.inl ⟨rfl,?_⟩)))
   obtain ⟨c,r,e,_⟩:=hb (ez h3 (decide_eq_true rfl));rw [e];exact List.cons_ne_nil _ _
  ·exact .inr (.inr (.inr (.inr ⟨rfl,hb (ez h4 (decide_eq_true rfl))⟩)))
 ·cases v with
  |nil=>rfl
  |cons c r=>
   show imp (cond (eG au (c::r) 2||eG au (c::r) 1) false _) (!eG au (c::r) 2)=true
   cases eG au (c::r) 2 with
   |true=>rfl
   |false=>show imp _ true=true;cases (cond (false||eG au (c::r) 1) false (cond (aS (eG au (c::r))) false (!aE (eG au (c::r)))))<;>rfl
 ·cases v with
  |nil=>rfl
  |cons c r=>
   show imp (cond (eG au (c::r) 2||eG au (c::r) 0) false _) (!eG au (c::r) 2)=true
   cases eG au (c::r) 2 with
   |true=>rfl
   |false=>show imp _ true=true;cases (cond (false||eG au (c::r) 0) false (cond (aS (eG au (c::r))) false (!aE (eG au (c::r)))))<;>rfl
noncomputable def kc{α:Type}(k:Nat)(a b c:α):α:=cond (Nat.beq k 0) a (cond (Nat.beq k 1) b c)
noncomputable def c6(s v:List Nat):Nat:=cond (s.isEmpty&&v.isEmpty) 2 (cond (dI s) 1 0)
noncomputable def cJ(s v:List Nat)(rt:Bool):Bool:=cond s.isEmpty rt (cond (dI s) (plus v) false)
noncomputable def N5.txt(n:N5)(au:Bool)(M:Nat):List Nat:=cond (bG n.s n.p1 au M (48+n.b) n.v).isEmpty [] (sep n.ws)++bG n.s n.p1 au M (48+n.b) n.v
theorem i7{a b:List MV}{x y:List Nat}(ha:aC a=some x)(hb:aC b=some y):aC (a++b)=some (x++y):=dG ha hb
structure VI(q:NR)(c:Nat)(ws ind:Bool)(oe:Bool):Prop where
 ws:q.ws=kc c false true ws
 ind:q.ind=kc c false true ind
 oe:q.oe=.bool oe
 z:c=1→q.z=true
 k:c=2→q.k=true
theorem GQ{au rt ws ind tg:Bool}{M b:Nat}{s v:List Nat}{oe:MV}(hs:ug s v)(ht:s=[]→tg=false)(hoe:s=[]→oe=.bool false):VI (nr au M b rt s v (!tg&&ws) (!tg&&ind) oe) (c6 s v) ws ind (cJ s v rt):=by
 rcases hs with ⟨rfl,h⟩|rfl|rfl|⟨rfl,h⟩|⟨rfl,c,r,rfl,h⟩
 ·obtain rfl:=ht rfl
  obtain rfl:=hoe rfl
  cases v with
  |nil=>exact ⟨rfl,rfl,by cases rt<;>rfl,λh=>absurd h (by decide),λ_=>rfl⟩
  |cons c r=>exact ⟨rfl,rfl,by cases rt<;>rfl,λh=>absurd (show 0=1 from h) (by decide),λh=>absurd (show 0=2 from h) (by decide)⟩
 ·exact ⟨rfl,rfl,rfl,λh=>absurd (show 0=1 from h) (by decide),λh=>absurd (show 0=2 from h) (by decide)⟩
 ·exact ⟨rfl,rfl,rfl,λh=>absurd (show 0=1 from h) (by decide),λh=>absurd (show 0=2 from h) (by decide)⟩
 ·exact ⟨rfl,rfl,rfl,λ_=>rfl,λh=>absurd (show 1=2 from h) (by decide)⟩
 ·exact ⟨rfl,rfl,rfl,λ_=>rfl,λh=>absurd (show 1=2 from h) (by decide)⟩
theorem d7(s v:List Nat):c6 s v∈[0,1,2]:=by unfold c6;cases (s.isEmpty&&v.isEmpty)<;>cases dI s<;>decide
theorem VI.col{q:NR}{c:Nat}{ws ind oe:Bool}(h:VI q c ws ind oe)(hm:c∈[0,1,2]){x y:Nat}(hz:q.z=true→x=0)(hk:q.k=true→x=y):x=kc c x 0 y:=by
 have z:=λe=>hz (h.z e)
 have k:=λe=>hk (h.k e)
 clear h hz hk;revert z k;exact (af (a:=0) (p:=λc=>(c=1→x=0)→(c=2→x=y)→x=kc c x 0 y) (λ_ _=>rfl)<|af (a:=1) (λz _=>z rfl)<|af (a:=2) (λ_ k=>k rfl) aa) c hm
noncomputable def N5.tr(n:N5):List MV:=cond n.tg [.str (cond n.ws [33] [32,33])] []
theorem N5.YU(n:N5):aC n.tr=some (cond n.tg (cond n.ws [33] [32,33]) []):=by
 unfold N5.tr;cases n.tg
 ·rfl
 ·cases n.ws<;>rfl
theorem N5.YV(n:N5):n.tr.length≤1:=by
 unfold N5.tr;cases n.tg
 ·exact Nat.zero_le _
 ·exact bf _
theorem yX{w0 w1 rows S events I:List MV}{e:Em}{au:Bool}{M B B2:Nat}{n:N5}(C:qW n e au M B B2 rows)(ho:e.oe=.bool false)(d:Bool)(i0:Bool)(i:Nat)(hi:cond i0 (i+n.b) n.b=M)(hI:I.length≤1000)(nx:MV):
  ∃z:Zd,(∀k,330≤k→(E L1.prog k).ca 19 [.obj 4,.bool n.rt,.bool n.sq,.bool n.mp,.bool n.sk] (hE w0 w1 rows (S++[nx]) events I (n.e0 e (cond i0 (.int (i:Nat)) .none) (cond d (aA au n.v).mv .none)))=some (.none,hE w0 w1 (rows++z.Q) S events I (n.e1 e (cond i0 (.int (i:Nat)) .none) nx (kc (c6 n.s n.v) z.col 0 n.col) z.line (kc (c6 n.s n.v) false true n.ws) (kc (c6 n.s n.v) false true n.ind) (.bool (cJ n.s n.v n.rt)))))∧aC z.Q=some (n.txt au M)∧z.col≤B+4∧z.line≤B2+4∧rows.length+z.Q.length≤10 * B2+21:=by
 obtain ⟨z,h⟩:=O7 (w0:=w0) (w1:=w1) (S:=S) (events:=events) C d i0 i hi hI nx;have c:VI (n.nr au M e.oe) (c6 n.s n.v) n.ws n.ind (cJ n.s n.v n.rt):=GQ C.ok (λh=>by unfold N5.tg tagged;rw [h];rfl) (λ_=>by rw [ho];cases n.tg<;>rfl)
 refine ⟨⟨n.tr++z.Q,z.col,z.line⟩,λk hk=>?_,(i7 n.YU h.j).trans (congrArg some (PI (i2:= !n.tg&&n.ind) C.ok)),h.col,h.line,?_⟩
 ·have r:=h.run k hk
  rw [c.ws,c.ind,c.oe] at r;show _=some (MV.none,hE w0 w1 (rows++(n.tr++z.Q)) S events I (n.e1 e _ nx (kc (c6 n.s n.v) z.col 0 n.col) z.line _ _ _))
  rw [← c.col (d7 n.s n.v) h.z h.k, ← bJ];exact r
 ·have r:=h.room
  show _+(n.tr++z.Q).length≤_
  rw [← aY, ← bJ,aY];exact Nat.le_succ_of_le r
noncomputable def PJ(n m:Nat):List aB:=(L1.Fw.body.drop n).take m
noncomputable def TP:MV:=.jD [.str [33],.str [116,97,103,58,121,97,109,108,46,111,114,103,44,50,48,48,50,58]] [.str [33],.str [33,33]]
noncomputable def Qx:Em:={state:=.bm 4 18,event:=.none,indent:=.none,fy:=.int 0,root:=.bool false,seq:=.bool false,map:=.bool false,sk:=.bool false,line:=.int 0,col:=.int 3,ws:=.bool false,ind:=.bool false,oe:=.bool false,au:=X 37,bi:=X 38,tp:=TP,an:=.none,st:=.none}
noncomputable def CS:MV:=qO (X 75) (X 76) (X 0) (X 78)
noncomputable def kj:MV:=qO (X 75) (X 76) (X 1) (X 79)
noncomputable def hS(rp:Option Nat)(rows S ev I:List MV)(e:Em):bg:=[.list (some 0) [],.list (some 1) [],.inst 16 [(128,.obj 3)],.list rp rows,.inst 15 e.at,.list none S,.list none ev,.list none I]
noncomputable def CT(rp:Option Nat)(rows S ev I:List MV)(nx:Nat)(e:Em)(rt sq mp sk:Bool)(rp':Nat)(col line oe:MV)(k:Nat):fZ:={n:=330,f:=19,as:=[.obj 4,.bool rt,.bool sq,.bool mp,.bool sk],h:=hS rp rows (S++[.bm 4 nx]) ev I e,r:=.none,h':=hS (some rp') [] S ev I {e with state:=.bm 4 nx,root:=.bool rt,seq:=.bool sq,map:=.bool mp,sk:=.bool sk,line:=line,col:=kc k col (.int 0) e.col,ws:=kc k (.bool false) (.bool true) e.ws,ind:=kc k (.bool false) (.bool true) e.ind,oe:=oe,an:=.none,st:=.none}}
noncomputable def uy(k:Nat):List MV:=cond (Nat.beq k 1) [] [.str [10]]
noncomputable def uz(o:Bool):List MV:=cond o [.str [46,46,46],.str [10]] []
noncomputable def LY(inner:List MV):aR:=((((((List.range 25).map SL.o).set 5 (.v (X 37))).set 7 (.v (X 38))).set 22 (.v (.lst inner))).set 17 (.v (X 31))).set 23 (.v (.obj 4))
noncomputable def YW:Em:={Qx with state:=.bm 4 13,col:=.int 0,ws:=.bool true,ind:=.bool true,tp:=.none}
noncomputable def hI0:bg:=hS none [] [] [] [] YW
noncomputable def hL0:bg:=[.list (some 0) [],.list (some 1) []]
noncomputable def YX(F:Facts)(N:Nat)(b:List aB)(l:aR)(h:bg):Bool:=gU ((SE L1.prog F N).ex b l h) λx=>Co x.1 (.ret (.bool true))
noncomputable def FZ(fin:List MV)(c:List fZ):Facts:={room:=[5,6],aug:=[(.Add,X 11,.int 1,X 12),(.Add,X 15,.int 1,X 16),(.Add,X 16,.int 1,X 17)],join:=[(some 6,fin,X 30)],cmp:=[(.Eq,X 30,X 31,true)],call:=c}
theorem YY:([2,4,3].all λb=>eZ L1.prog {} 200 (PJ 22 1) (((((((List.range 25).map SL.o).set 5 (.v (X 37))).set 7 (.v (.int b))).set 22 (.v (X 39))).set 17 (.v (X 31)))) hL0 .next ((((((((List.range 25).map SL.o).set 5 (.v (X 37))).set 7 (.v (.int b))).set 22 (.v (X 39))).set 17 (.v (X 31)))).set 23 (.v (.obj 4))) (hS none [] [] [] [] {YW with bi:=.int b}))=true:=by kernel_rfl
noncomputable def FP0(k:Nat)(o:Bool):Facts:=FZ (uy k++uz o) [CT none [.str [45,45,45]] [] [] [] 17 {Qx with event:=CS} true false false false 6 (X 14) (X 15) (.bool o) k]
noncomputable def Hx(F:Facts)(inner:List MV):Bool:=YX F 400 (PJ 23 2) (LY inner) hI0
theorem YZ:([0,1,2].all λk=>bD λo=>Hx (FP0 k o) [CS])=true:=by kernel_rfl
noncomputable def e11:Em:={Qx with state:=.bm 4 31,event:=CS,indent:=.int 0,root:=.bool true,line:=.int 1,col:=.int 1,ind:=.bool true}
noncomputable def e12(k:Nat):Em:={e11 with state:=.bm 4 32,event:=kj,root:=.bool false,seq:=.bool true,line:=kc k (X 12) (X 11) (X 12)}
noncomputable def FP1(k1 k2:Nat)(o:Bool):Facts:=FZ (uy k2++uz o) [CT none [.str [45,45,45],.str [10],.str [45]] [.bm 4 17] [kj] [.none] 32 e11 false true false false 5 (X 10) (X 11) (X 20) k1,CT (some 5) (uy k1++[.str [45]]) [.bm 4 17] [] [.none] 32 (e12 k1) false true false false 6 (X 14) (X 15) (.bool o) k2]
noncomputable def cols(c d:Nat)(fl:Bool):List MV:=[.fU c [.none,.none,.bool true,.none,.none,.bool fl],CS,kj,.fU d [.none,.none]]
theorem Y0:([0,1,2].all λk1=>[0,1,2].all λk2=>bD λo=>Hx (FP1 k1 k2 o) (cols 10 11 false))=true:=by kernel_rfl
noncomputable def anX:MV:=Gn (X 0) (X 69)
noncomputable def VJ(rows ev:List MV)(e:Em):fZ:={n:=250,f:=48,as:=[.obj 4,X 0],h:=hS none rows [.bm 4 17] ev [.none] e,r:=anX,h':=hS none rows [.bm 4 17] ev [.none] e}
noncomputable def FK(d:Int)(emp mul:Bool)(F:Facts)(c:fZ):Facts:={F with ny:=[(X 69,emp),(X 70,mul)],bi:=[(.len,X 0,X 40)],aug:=(.Add,.int 0,X 40,X 41)::(.Add,X 10,.int d,X 22)::(.Add,X 14,.int 1,X 23)::F.aug,cmp:=(.Lt,X 41,.int 128,true)::(.Gt,X 22,.int 1000,false)::(.Gt,X 10,.int 1000,false)::F.cmp,call:=c::F.call}
noncomputable def Qy:Em:={Qx with state:=.bm 4 34,event:=CS,indent:=.int 0,root:=.bool true,line:=.int 1,col:=.int 0,ws:=.bool true,ind:=.bool true}
noncomputable def LZ:List MV:=[.str [45,45,45],.str [10]]
noncomputable def mE:MV:=.fU 13 [.none,.none]
noncomputable def e22:Em:={Qy with state:=.bm 4 36,event:=kj,root:=.bool false,map:=.bool true,sk:=.bool true,line:=X 11,col:=X 22,ws:=.bool false,ind:=.bool false}
noncomputable def FP2(k2:Nat)(o:Bool):Facts:=FK 1 false false (FZ (uy k2++uz o) [CT none LZ [.bm 4 17] [kj,mE] [.none] 36 {Qy with an:=anX} false false true true 5 (X 10) (X 11) (X 20) 0,CT (some 5) [.str [58]] [.bm 4 17] [mE] [.none] 35 e22 false false true false 6 (X 14) (X 15) (.bool o) k2]) (VJ LZ [kj,mE] Qy)
theorem Y3:([0,1,2].all λk2=>bD λo=>Hx (FP2 k2 o) (cols 12 13 false))=true:=by kernel_rfl
noncomputable def Y4:Em:={Qy with an:=anX,col:=.int 1,ws:=.bool false}
noncomputable def Y5(k:Nat):Em:={Qy with state:=.bm 4 37,event:=kj,root:=.bool false,map:=.bool true,line:=kc k (X 12) (X 11) (X 12),col:=.int 1,ws:=.bool false}
noncomputable def UJ(emp mul:Bool)(k1 k2:Nat)(o:Bool):Facts:=FK 1 emp mul (FZ (uy k2++uz o) [CT none (LZ++[.str [63]]) [.bm 4 17] [kj,mE] [.none] 37 Y4 false false true false 5 (X 10) (X 11) (X 20) k1,CT (some 5) (uy k1++[.str [58]]) [.bm 4 17] [mE] [.none] 35 (Y5 k1) false false true false 6 (X 14) (X 15) (.bool o) k2]) (VJ LZ [kj,mE] Qy)
noncomputable def UK:List (Bool×Bool):=[(true,false),(false,true)]
theorem UL:(UK.all λg=>[0,1,2].all λk1=>[0,1,2].all λk2=>bD λo=>Hx (UJ g.1 g.2 k1 k2 o) (cols 12 13 false))=true:=by kernel_rfl
noncomputable def FX(F:Facts):Facts:={F with aug:=(.Add,X 10,.int 1,X 22)::(.Add,X 14,.int 1,X 23)::F.aug,cmp:=(.Gt,X 22,.int 1000,false)::(.Gt,X 10,.int 1000,false)::F.cmp}
noncomputable def Y7:Em:={Qx with state:=.bm 4 23,event:=CS,indent:=X 38,fy:=.int 1,root:=.bool true,col:=.int 5,ws:=.bool true}
noncomputable def e32:Em:={Y7 with state:=.bm 4 24,event:=kj,root:=.bool false,seq:=.bool true,line:=X 11,col:=X 22,ws:=.bool false}
noncomputable def FP3:Facts:=FX (FZ [.str [93],.str [10]] [CT none [.str [45,45,45],.str [32,91]] [.bm 4 17] [kj] [.none] 24 Y7 false true false false 5 (X 10) (X 11) (X 20) 0,CT (some 5) [.str [44]] [.bm 4 17] [] [.none] 24 e32 false true false false 6 (X 14) (X 15) (X 21) 0])
theorem Y8:Hx FP3 (cols 10 11 true)=true:=by kernel_rfl
noncomputable def d4:List MV:=[.str [45,45,45],.str [32,123]]
noncomputable def UM:Em:={Y7 with state:=.bm 4 26}
noncomputable def e42:Em:={UM with state:=.bm 4 28,event:=kj,root:=.bool false,map:=.bool true,sk:=.bool true,line:=X 11,col:=X 22,ws:=.bool false}
noncomputable def f4:List MV:=[.str [125],.str [10]]
noncomputable def FP4:Facts:=FK 1 false false (FZ f4 [CT none d4 [.bm 4 17] [kj,mE] [.none] 28 {UM with an:=anX} false false true true 5 (X 10) (X 11) (X 20) 0,CT (some 5) [.str [58]] [.bm 4 17] [mE] [.none] 27 e42 false false true false 6 (X 14) (X 15) (X 21) 0]) (VJ d4 [kj,mE] UM)
theorem Y9:Hx FP4 (cols 12 13 true)=true:=by kernel_rfl
noncomputable def Za:Em:={UM with an:=anX,col:=.int 6,ws:=.bool false}
noncomputable def Zb:Em:={e42 with state:=.bm 4 29,sk:=.bool false}
noncomputable def Ld(emp mul:Bool):Facts:=FK 2 emp mul (FZ f4 [CT none (d4++[.str [63]]) [.bm 4 17] [kj,mE] [.none] 29 Za false false true false 5 (X 10) (X 11) (X 20) 0,CT (some 5) [.str [32,58]] [.bm 4 17] [mE] [.none] 27 Zb false false true false 6 (X 14) (X 15) (X 21) 0]) (VJ d4 [kj,mE] UM)
theorem qD{F:Facts}{inner:List MV}{ρ:eN}(K:Holds L1.prog ρ F)(q:Hx F inner=true):∃l' h',∀k,400≤k→(E L1.prog k).ex (PJ 23 2) (aG ρ (LY inner)) (aV ρ hI0)=some (.ret (.bool true),l',h'):=
 bV q λx e1 e2=>⟨aG ρ x.2.1,aV ρ x.2.2,λk hk=>by
  rw [(tW K 400 k hk).ex _ _ _ x e1];show some (x.1.I ρ,_,_)=_
  rw [n6 e2];rfl⟩
structure Sc where
 w0:List MV
 w1:List MV
 v0:List Nat
 v1:List Nat
 d:Nat
 au:Bool
 p0:Bool
 p1:Bool
 b:Nat
 a0:MV
 a1:MV
 inner:MV
 os:Nat→Option MV
noncomputable def Sc.R(x:Sc)(r5 r6:List MV)(KU L0 nQ dQ:Nat)(o1 o2:Bool)(T:List Nat):eN:=Mine.R [.str x.v0,.str x.v1,.none,.none,.none,.none,.none,.none,.none,.none,.int (KU:Nat),.int (L0:Nat),.int ((L0+1:Nat):Int),.none,.int (nQ:Nat),.int (dQ:Nat),.int ((dQ+1:Nat):Int),.int ((dQ+2:Nat):Int),.none,.none,.bool o1,.bool o2,.int ((KU+x.d:Nat):Int),.int ((nQ+1:Nat):Int),.none,.none,.none,.none,.none,.none,.str T,.str T,.none,.none,.none,.none,.none,.bool x.au,.int (x.b:Nat),x.inner,.int (x.v0.length:Nat),.int (x.v0.length:Nat),.none,.none,.none,.none,.none,.none,.none,.none,.none,.none,.none,.none,.none,.none,.none,.none,.none,.none,.none,.none,.none,.none,.none,.none,.none,.none,.none,.bool (aA x.au x.v0).emp,.bool (aA x.au x.v0).mul,.bool (aA x.au x.v0).gu,.bool (aA x.au x.v0).ie,.bool (aA x.au x.v0).gH,.bool (aA x.au x.v0).gf,.bool x.p0,.bool x.p1,.none,x.a0,x.a1] [x.w0,x.w1,[],[],[],r5,r6] x.os
theorem PK{a:List Nat}:dz .Eq (.str a) (.str a)=some true:=by
 show some (decide (a=a))=_
 rw [decide_eq_true rfl]
structure Sc.Ok(x:Sc):Prop where
 b:x.b∈[2,4,3]
 c0:∀c∈x.v0,c∈bH
 c1:∀c∈x.v1,c∈bH
 l0:x.v0.length≤7
 l1:x.v1.length≤7
 a0:x.a0∈bQ
 a1:x.a1∈bQ
 p:(x.p0||x.p1)=true
theorem w7{r6 fin:List MV}{t u:List Nat}(h1:aC r6=some t)(h2:aC fin=some u)(hl:(t++u).length≤1000000):(aC (r6++fin)).bind qY=some (.str (t++u)):=by
 rw [i7 h1 h2];show qY _=_
 unfold qY;rw [if_pos (show _≤aH from hl)]
theorem UN:(bQ.all λa=>bD λp0=>bD λfl=>bD λsk=>bD λemp=>bD λmul=>bD λgu=>bD λie=>bD λgH=>bD λgf=>imp (decide (Gm a p0 fl sk emp mul gu ie gH gf=[])) p0)=true:=by kernel_rfl
theorem UO{au fl key p0:Bool}{asked:MV}{v:List Nat}(ha:asked∈bQ)(h:(aA au v).iO asked p0 fl key=[]):p0=true:=ez (aj (aj (aj (aj (aj (aj (aj (aj (aj (ao UN ha) p0) fl) key) (aA au v).emp) (aA au v).mul) (aA au v).gu) (aA au v).ie) (aA au v).gH) (aA au v).gf) (decide_eq_true h)
noncomputable def Sc.e0(x:Sc):MV:=qO (.bool x.p0) (.bool x.p1) (.str x.v0) x.a0
noncomputable def Sc.e1(x:Sc):MV:=qO (.bool x.p0) (.bool x.p1) (.str x.v1) x.a1
noncomputable def Sc.em(x:Sc):Em:={Qx with au:=.bool x.au,bi:=.int (x.b:Nat)}
noncomputable def Sc.aP(x:Sc)(inner:List MV)(T:List Nat):Loc:=((((((List.range 25).map x.os).set 5 (some (.bool x.au))).set 7 (some (.int (x.b:Nat)))).set 22 (some (.lst inner))).set 17 (some (.str T))).set 23 (some (.obj 4))
noncomputable def Sc.hp(x:Sc):Hp:=hE x.w0 x.w1 [] [] [] [] {YW with au:=.bool x.au,bi:=.int (x.b:Nat)}
def Runs(x:Sc)(inner:List MV)(T:List Nat):Prop:=∃l' h',∀k,400≤k→(E L1.prog k).ex (PJ 23 2) (x.aP inner T) x.hp=some (.ret (.bool true),l',h')
noncomputable def CU(k:Nat):List Nat:=cond (Nat.beq k 1) [] [10]
noncomputable def mV(o:Bool):List Nat:=cond o [46,46,46,10] []
theorem AV(k:Nat)(o:Bool):aC (uy k++uz o)=some (CU k++mV o):=by unfold uy uz CU mV;cases Nat.beq k 1<;>cases o<;>rfl
theorem GR{b:Nat}(h:b∈[2,4,3]):b∈[2,3,4]∧2≤b∧b≤4:=by simp only [bq,dm,or_false] at h;rcases h with rfl|rfl|rfl<;>decide
theorem pOk{p0 p1:Bool}{s:List Nat}(h:s=[]→p0=true)(hp:(p0||p1)=true):((!s.isEmpty||p0)&&(p0||p1))=true:=by
 rw [hp,Bool.and_true]
 cases s with
 |nil=>rw [h rfl];rfl
 |cons _ _=>rfl
noncomputable def Sc.n1(x:Sc)(fl col line:Nat)(ws ind rt sq mp sk:Bool)(s:List Nat):N5:=⟨x.v0,x.p0,x.p1,x.a0,fl,col,line,ws,ind,x.b,rt,sq,mp,sk,s⟩
noncomputable def Sc.n2(x:Sc)(fl col line:Nat)(ws ind sq mp:Bool)(t:List Nat):N5:=⟨x.v1,x.p0,x.p1,x.a1,fl,col,line,ws,ind,x.b,false,sq,mp,false,t⟩
noncomputable def GS(fl b:Nat):Nat:=cond (Nat.beq fl 1) (b+b) b
noncomputable def UP(fl b:Nat):Nat:=cond (Nat.beq fl 1) b 0
theorem L3(fl b:Nat):UP fl b+b=GS fl b:=by unfold UP GS;cases Nat.beq fl 1;exact Nat.zero_add b;rfl
theorem GU{fl b:Nat}(h:b∈[2,4,3]):1≤GS fl b∧GS fl b≤8:=by
 have:=(GR h).2;unfold GS;cases Nat.beq fl 1
 ·exact ⟨by lia,by lia⟩
 ·exact ⟨by show 1≤b+b;lia,by show b+b≤8;lia⟩
structure Lf(x:Sc)(e:Em):Prop where
 au:e.au=.bool x.au
 bi:e.bi=.int (x.b:Nat)
 oe:e.oe=.bool false
theorem nok{n:N5}{e:Em}{au:Bool}{M B B2:Nat}{rows:List MV}(qN:e.au=.bool au)(Ze:e.bi=.int (n.b:Nat))(hb:n.b∈[2,3,4])(hM:1≤M∧M≤8)(hv:∀c∈n.v,c∈bH)(hl:n.v.length≤7)(hB:B≤900)(hc:n.col+126≤B)(Qq:B2≤8000)(hn:n.line+138≤B2)
  (hr:rows.length+2100≤10 * B2) (ha:n.asked∈bQ) (hf:n.fl∈[0,1]) (hs:(aA au n.v).iO n.asked n.p0 (Nat.beq n.fl 1) n.sk=n.s) (hp:(n.p0||n.p1)=true):qW n e au M B B2 rows:=
 ⟨qN,Ze,hb,⟨hM.1,by lia⟩,hv,by lia,⟨hB,by lia⟩,Qq,by lia,by lia,hr,ha,hf,hs,hs▸GP ha,pOk (λe=>UO ha (hs.trans e)) hp⟩
theorem Sc.UQ{x:Sc}(h:x.Ok){e:Em}(he:Lf x e){fl col line:Nat}{ws ind rt sq mp sk:Bool}{s:List Nat}(hf:fl∈[0,1])(hc:col≤6)(hn:line≤1){rows:List MV}(hr:rows.length≤3)(hs:(aA x.au x.v0).iO x.a0 x.p0 (Nat.beq fl 1) sk=s):qW (x.n1 fl col line ws ind rt sq mp sk s) e x.au (GS fl x.b) 300 1000 rows:=nok he.au he.bi (GR h.b).1 (GU h.b) h.c0 h.l0 (by decide) (ak (cO hc _) (by decide)) (by decide) (ak (cO hn _) (by decide)) (ak (cO hr _) (by decide)) h.a0 hf hs h.p
theorem Sc.Zf{x:Sc}(h:x.Ok){e:Em}(he:Lf x e){fl col line:Nat}{ws ind sq mp:Bool}{t:List Nat}(hf:fl∈[0,1])(hc:col≤306)(hn:line≤1005){rows:List MV}(hr:rows.length≤10023)(ht:(aA x.au x.v1).iO x.a1 x.p0 (Nat.beq fl 1) false=t):qW (x.n2 fl col line ws ind sq mp t) e x.au (GS fl x.b) 700 2000 rows:=nok he.au he.bi (GR h.b).1 (GU h.b) h.c1 h.l1 (by decide) (ak (cO hc _) (by decide)) (by decide) (ak (cO hn _) (by decide)) (ak (cO hr _) (by decide)) h.a1 hf ht h.p
theorem AW{l:List MV}(h:l.length≤20021):l.length+1000< aH:=by unfold aH;lia
theorem qE{x:Sc}{r5 r6:List MV}{c1 l1 c2 l2:Nat}{o1 o2:Bool}{T:List Nat}{fin:List MV}{calls:List fZ}(h5:r5.length≤20021)(h6:r6.length≤20021)(Io:l1≤5000)(zm:l2≤5000)(hj:(aC (r6++MV.Is (x.R r5 r6 c1 l1 c2 l2 o1 o2 T) fin)).bind qY=some (.str T))
  (hc:∀e∈calls,∀k,e.n≤k→(E L1.prog k).ca e.f (MV.Is (x.R r5 r6 c1 l1 c2 l2 o1 o2 T) e.as) (aV (x.R r5 r6 c1 l1 c2 l2 o1 o2 T) e.h)=some (e.r.I (x.R r5 r6 c1 l1 c2 l2 o1 o2 T),aV (x.R r5 r6 c1 l1 c2 l2 o1 o2 T) e.h')):Holds L1.prog (x.R r5 r6 c1 l1 c2 l2 o1 o2 T) (FZ fin calls):=
 ⟨aa,af PK aa,aa,aa,aa,aa,af hj aa,af (AW h5) (af (AW h6) aa),af (dH (b:=1) rfl (by lia))<|af (dH (b:=1) rfl (by lia))<|af (dH (b:=1) rfl (by lia)) aa,aa,aa,aa,hc⟩
theorem AX(ρ:eN)(k:Nat)(o:Bool):MV.Is ρ (uy k++uz o)=uy k++uz o:=by unfold uy uz;cases Nat.beq k 1<;>cases o<;>rfl
theorem PL(x:Sc)(h:x.Ok){s:List Nat}(hs:(aA x.au x.v0).iO x.a0 x.p0 false false=s){T:List Nat}(hT:T=([45,45,45]++(x.n1 0 3 0 false false true false false false s).txt x.au x.b)++(CU (c6 s x.v0)++mV (cJ s x.v0 true)))(hl:T.length≤1000000):Runs x [x.e0] T:=by
 obtain ⟨⟨Q,CK,r8⟩,c1,c2,c3,c4,c5⟩:=yX (w0:=x.w0) (w1:=x.w1) (S:=[]) (events:=[]) (I:=[]) (Sc.UQ h (e:=x.em) ⟨rfl,rfl,rfl⟩ (fl:=0) (col:=3) (line:=0) (ws:=false) (ind:=false) (rt:=true) (sq:=false) (mp:=false) (sk:=false) (by decide) (by decide) (by decide) (rows:=[.str [45,45,45]]) (cM rfl) hs) rfl false false 0 rfl (Nat.zero_le _) (.bm 4 17)
 have c5:1+Q.length≤10 * 1000+21:=c5;have hj:=w7 (i7 (a:=[.str [45,45,45]]) (x:=[45,45,45]) rfl c2) (AV (c6 s x.v0) (cJ s x.v0 true)) (ak (Nat.le_of_eq (congrArg List.length hT.symm)) hl);have K:Holds L1.prog (x.R [] ([.str [45,45,45]]++Q) 0 0 CK r8 false false T) (FP0 (c6 s x.v0) (cJ s x.v0 true)):=qE (Nat.zero_le _) (by rw [aY];show 1+Q.length≤_;lia) (by decide) (by lia) (by rw [AX];exact hj.trans (congrArg (λz=>some (MV.str z)) hT.symm)) (af (λk hk=>by have h:(E L1.prog k).ca 19 _ _=some (.none,hE _ _ _ _ _ _ (N5.e1 _ _ _ _ (kc (c6 s x.v0) CK 0 3) r8 (kc (c6 s x.v0) false true false) (kc (c6 s x.v0) false true false) (.bool (cJ s x.v0 true)))):=c1 k hk;have hm:=d7 s x.v0;generalize cJ s x.v0 true=o at h⊢;generalize c6 s x.v0=q at h hm⊢;simp only [bq,dm,or_false] at hm;rcases hm with rfl|rfl|rfl<;>exact h) aa)
 exact qD K (aj (ao YZ (d7 s x.v0)) (cJ s x.v0 true))
theorem L5(k a:Nat):kc k (a+1) a (a+1)≤a+1:=by unfold kc;cases Nat.beq k 0<;>cases Nat.beq k 1<;>simp
theorem AY(k:Nat)(m:MV):(uy k++[m]).length≤2:=by unfold uy;cases Nat.beq k 1;exact bf 2;exact (show 1≤2 by decide)
theorem L6(k c:Nat):aC (uy k++[.str [c]])=some (CU k++[c]):=by unfold uy CU;cases Nat.beq k 1<;>rfl
def Did(x:Sc)(n:N5)(e:Em)(i0 a0 nx:MV)(rows qv S ev I:List MV)(col line:Nat):Prop:=∀k,330≤k→(E L1.prog k).ca 19 [.obj 4,.bool n.rt,.bool n.sq,.bool n.mp,.bool n.sk] (hE x.w0 x.w1 rows (S++[nx]) ev I (n.e0 e i0 a0))=
 some (.none,hE x.w0 x.w1 qv S ev I (n.e1 e i0 nx (kc (c6 n.s n.v) col 0 n.col) line (kc (c6 n.s n.v) false true n.ws) (kc (c6 n.s n.v) false true n.ind) (.bool (cJ n.s n.v n.rt))))
structure TZ where
 r5:List MV
 r6:List MV
 c1:Nat
 l1:Nat
 c2:Nat
 l2:Nat
structure Zg(x:Sc)(n1:N5)(n2:Nat→Nat→N5)(e1 e2:Em)(i0 a0 Qz QA:MV)(rows0 mid QB QC:List MV)(t1 t2:List Nat)(z:TZ):Prop where
 h5:z.r5.length≤20021
 h6:z.r6.length≤20021
 PM:z.c1≤304
 Io:z.l1≤1004
 Ip:z.c2≤704
 zm:z.l2≤2004
 j:aC z.r6=some ((t1++n1.txt x.au (GS n1.fl x.b))++t2++(n2 z.c1 z.l1).txt x.au (GS n1.fl x.b))
 f1:Did x n1 e1 i0 a0 Qz rows0 z.r5 [.bm 4 17] QB [.none] z.c1 z.l1
 f2:Did x (n2 z.c1 z.l1) e2 i0 .none QA (z.r5++mid) z.r6 [.bm 4 17] QC [.none] z.c2 z.l2
theorem UR{c C:Nat}(h:c≤304)(hC:C≤c+2):C≤306:=ak hC (cO h 2)
theorem US{l L:Nat}(h:l≤1004)(hL:L≤l+1):L≤1005:=ak hL (cO h 1)
theorem gK{x:Sc}(h:x.Ok){fl col line:Nat}{ws ind sq mp sk Hv qV L7 L8:Bool}{s t:List Nat}{C2 L2:Nat→Nat→Nat}{e1 e2:Em}(he1:Lf x e1)(he2:Lf x e2)(d:Bool)(Qz QA:MV){rows0 mid:List MV}(QB QC:List MV){t1 t2:List Nat}(hf:fl∈[0,1])(hc:col≤6)(hn:line≤1)
  (hs:(aA x.au x.v0).iO x.a0 x.p0 (Nat.beq fl 1) sk=s) (ht:(aA x.au x.v1).iO x.a1 x.p0 (Nat.beq fl 1) false=t) (hr:rows0.length≤3) (j1:aC rows0=some t1) (hm:mid.length≤2) (j2:aC mid=some t2) (hC:∀c l,C2 c l≤c+2) (hL:∀c l,L2 c l≤l+1):
  ∃z,Zg x (x.n1 fl col line ws ind false sq mp sk s) (λc l=>x.n2 fl (C2 c l) (L2 c l) Hv qV L7 L8 t) e1 e2 (.int (UP fl x.b:Nat)) (cond d (aA x.au x.v0).mv .none) Qz QA rows0 mid QB QC t1 t2 z:=by
 obtain ⟨y,f1,j3,q1,q2,q3⟩:=yX (w0:=x.w0) (w1:=x.w1) (S:=[.bm 4 17]) (events:=QB) (I:=[.none]) (Sc.UQ h he1 (ws:=ws) (ind:=ind) (rt:=false) (sq:=sq) (mp:=mp) hf hc hn hr hs) he1.oe d true (UP fl x.b) (L3 fl x.b) (by decide) Qz
 have h5:(rows0++y.Q).length≤10021:=ak (Nat.le_of_eq (aY ..)) q3;obtain ⟨z,f2,j4,q4,q5,q6⟩:=yX (w0:=x.w0) (w1:=x.w1) (S:=[.bm 4 17]) (events:=QC) (I:=[.none]) (Sc.Zf h he2 (col:=C2 y.col y.line) (line:=L2 y.col y.line) (ws:=Hv) (ind:=qV) (sq:=L7) (mp:=L8) hf (UR q1 (hC _ _)) (US q2 (hL _ _)) (rows:=(rows0++y.Q)++mid) (ak (Nat.le_of_eq (aY ..)) (Nat.add_le_add h5 hm)) ht) he2.oe false true (UP fl x.b) (L3 fl x.b) (by decide) QA
 exact ⟨⟨rows0++y.Q,((rows0++y.Q)++mid)++z.Q,y.col,y.line,z.col,z.line⟩,ak h5 (by decide),ak (Nat.le_of_eq (aY ..)) q6,q1,q2,q4,q5,i7 (i7 (i7 j1 j3) j2) j4,f1,f2⟩
theorem Zg.txt{x:Sc}{n1:N5}{n2:Nat→Nat→N5}{e1 e2:Em}{i0 a0 Qz QA:MV}{rows0 mid QB QC:List MV}{t1 t2:List Nat}{z:TZ}(w:Zg x n1 n2 e1 e2 i0 a0 Qz QA rows0 mid QB QC t1 t2 z){fin:List MV}{ft T:List Nat}(hf:aC fin=some ft)
  (hT:T=((t1++n1.txt x.au (GS n1.fl x.b))++t2++(n2 z.c1 z.l1).txt x.au (GS n1.fl x.b))++ft) (hl:T.length≤1000000):(aC (z.r6++fin)).bind qY=some (.str T):=
 (w7 w.j hf (ak (Nat.le_of_eq (congrArg List.length hT.symm)) hl)).trans (congrArg (λz=>some (MV.str z)) hT.symm)
theorem PN(x:Sc)(h:x.Ok)(hd:x.d=1){s t:List Nat}(hs:(aA x.au x.v0).iO x.a0 x.p0 false false=s)(ht:(aA x.au x.v1).iO x.a1 x.p0 false false=t)
  {T:List Nat} (hT:T=(([45,45,45,10,45]++(x.n1 0 1 1 false true false true false false s).txt x.au x.b)++(CU (c6 s x.v0)++[45])++(x.n2 0 1 0 false true true false t).txt x.au x.b)++(CU (c6 t x.v1)++mV (cJ t x.v1 false))) (hl:T.length≤1000000):
  Runs x [.fU 10 [.none,.none,.bool true,.none,.none,.bool false],x.e0,x.e1,.fU 11 [.none,.none]] T:=by
 obtain ⟨z,w⟩:=gK h (fl:=0) (col:=1) (line:=1) (ws:=false) (ind:=true) (sq:=true) (mp:=false) (sk:=false) (Hv:=false) (qV:=true) (L7:=true) (L8:=false) (C2:=λ_ _=>1) (L2:=λ_ l=>kc (c6 s x.v0) (l+1) l (l+1)) (e1:={x.em with state:=.bm 4 31,root:=.bool true}) (e2:={x.em with state:=.bm 4 32,seq:=.bool true}) ⟨rfl,rfl,rfl⟩ ⟨rfl,rfl,rfl⟩ false (.bm 4 32) (.bm 4 32) (rows0:=[.str [45,45,45],.str [10],.str [45]]) (mid:=uy (c6 s x.v0)++[.str [45]]) [x.e1] [] (by decide) (by decide) (by decide) hs ht (bf _) rfl (AY _ _) (L6 _ 45) (λ_ _=>Nat.le_add_left ..) (λ_ l=>L5 _ l)
 have K:Holds L1.prog (x.R z.r5 z.r6 z.c1 z.l1 z.c2 z.l2 (cJ s x.v0 false) (cJ t x.v1 false) T) (FP1 (c6 s x.v0) (c6 t x.v1) (cJ t x.v1 false)):=qE w.h5 w.h6 (ak w.Io (by decide)) (ak w.zm (by decide)) (by rw [AX];exact w.txt (AV _ _) hT hl) (af (λk hk=>?_) (af (λk hk=>?_) aa))
 ·exact qD K (aj (ao (ao Y0 (d7 s x.v0)) (d7 t x.v1)) (cJ t x.v1 false))
 ·have h:(E L1.prog k).ca 19 _ _=some (.none,hE _ _ _ _ _ _ (N5.e1 _ _ _ _ (kc (c6 s x.v0) z.c1 0 1) z.l1 (kc (c6 s x.v0) false true false) (kc (c6 s x.v0) false true true) (.bool (cJ s x.v0 false)))):=w.f1 k hk
  have hm:=d7 s x.v0;clear w;generalize cJ s x.v0 false=o at h⊢;generalize c6 s x.v0=q at h hm⊢;simp only [bq,dm,or_false] at hm;rcases hm with rfl|rfl|rfl<;>exact h
 ·have h:(E L1.prog k).ca 19 _ (hE _ _ (z.r5++(uy (c6 s x.v0)++[.str [45]])) _ _ _ (N5.e0 (Sc.n2 _ _ _ (kc (c6 s x.v0) (z.l1+1) z.l1 (z.l1+1)) _ _ _ _ _) _ _ _))=some (.none,hE _ _ _ _ _ _ (N5.e1 (Sc.n2 _ _ _ (kc (c6 s x.v0) (z.l1+1) z.l1 (z.l1+1)) _ _ _ _ _) _ _ _ (kc (c6 t x.v1) z.c2 0 1) z.l2 (kc (c6 t x.v1) false true false) (kc (c6 t x.v1) false true true) (.bool (cJ t x.v1 false)))):=w.f2 k hk
  have hm:=d7 s x.v0;have GV:=d7 t x.v1;clear w;generalize cJ s x.v0 false=o1 at h⊢;generalize cJ t x.v1 false=o at h⊢;generalize c6 s x.v0=q at h hm⊢;generalize c6 t x.v1=q2 at h GV⊢;simp only [bq,dm,or_false] at hm GV;rcases hm with rfl|rfl|rfl<;>rcases GV with rfl|rfl|rfl<;>exact h
theorem qG(au:Bool)(v:List Nat):(aA au v).mv=.fU 14 [.str v,.bool (aA au v).emp,.bool (aA au v).mul,.bool (aA au v).gu,.bool (aA au v).ie,.bool (aA au v).gH,.bool true,.bool (aA au v).gf]:=by
 show MV.fU 14 [.str (aA au v).v,_,_,_,_,_,_,_]=_
 rw [LQ]
section
variable {x:Sc}{r5 r6:List MV}{c1 l1 c2 l2:Nat}{o1 o2:Bool}{T:List Nat}{F:Facts}
abbrev UT(ρ:eN)(e:fZ):Prop:=∀k,e.n≤k→(E L1.prog k).ca e.f (MV.Is ρ e.as) (aV ρ e.h)=some (e.r.I ρ,aV ρ e.h')
theorem UU(K:Holds L1.prog (x.R r5 r6 c1 l1 c2 l2 o1 o2 T) F)(hd:x.d=1)(h1:c1≤304)(h2:c2≤704):Holds L1.prog (x.R r5 r6 c1 l1 c2 l2 o1 o2 T) (FX F):=⟨K.ny,af (qU (a:=c1+x.d) (b:=1000) (decide_eq_false (by lia)))<|af (qU (a:=c1) (b:=1000) (decide_eq_false (by lia))) K.cmp,K.bin,K.sub,K.qM,K.bi,K.join,K.room,af (dH (a:=c1) (b:=1) (congrArg (c1+·) hd.symm) (by lia))<|af (dH (b:=1) rfl (by lia)) K.aug,K.starts,K.st,K.ev,K.call⟩
theorem AZ(K:Holds L1.prog (x.R r5 r6 c1 l1 c2 l2 o1 o2 T) F)(h:x.Ok){d:Nat}(hd:x.d=d)(hd2:d≤2)(h1:c1≤304)(h2:c2≤704){emp mul:Bool}(he:(aA x.au x.v0).emp=emp)(hm:(aA x.au x.v0).mul=mul){c:fZ}(hc:UT (x.R r5 r6 c1 l1 c2 l2 o1 o2 T) c):Holds L1.prog (x.R r5 r6 c1 l1 c2 l2 o1 o2 T) (FK (d:Nat) emp mul F c):=
 have hl:=h.l0
 ⟨af (λ_=>congrArg some he)<|af (λ_=>congrArg some hm) aa,af (wG (a:=x.v0.length) (b:=128) (decide_eq_true (by lia)))<|af (qU (a:=c1+x.d) (b:=1000) (decide_eq_false (by lia)))<|af (qU (a:=c1) (b:=1000) (decide_eq_false (by lia))) K.cmp,K.bin,K.sub,K.qM,af (lM rfl) aa,K.join,K.room,af (dH (a:=0) (b:=x.v0.length) (Nat.zero_add _) (by lia))<|af (dH (a:=c1) (b:=d) (congrArg (c1+·) hd.symm) (by lia))<|af (dH (b:=1) rfl (by lia)) K.aug,K.starts,K.st,K.ev,af hc K.call⟩
theorem oq(h:x.Ok)(rows ev:List MV)(e:Em)(he:e.au=.bool x.au):∀k,250≤k→(E L1.prog k).ca 48 [.obj 4,.str x.v0] (hE x.w0 x.w1 rows [.bm 4 17] ev [.none] e)=some (.fU 14 [.str x.v0,.bool (aA x.au x.v0).emp,.bool (aA x.au x.v0).mul,.bool (aA x.au x.v0).gu,.bool (aA x.au x.v0).ie,.bool (aA x.au x.v0).gH,.bool true,.bool (aA x.au x.v0).gf],hE x.w0 x.w1 rows [.bm 4 17] ev [.none] e):=λk hk=>(wN he (v:=x.v0) (ak h.l0 (by decide)) h.c0 k hk).trans (congrArg (λz=>some (z,_)) (qG x.au x.v0))
end
theorem uA(c:Nat)(ρ:eN):aC (MV.Is ρ [.str [c],.str [10]])=some [c,10]:=rfl
theorem PO(x:Sc)(h:x.Ok)(hd:x.d=1){s t:List Nat}(hs:(aA x.au x.v0).iO x.a0 x.p0 false true=s)(ht:(aA x.au x.v1).iO x.a1 x.p0 false false=t)(hk:(aA x.au x.v0).emp=false∧(aA x.au x.v0).mul=false)(yY:c6 s x.v0=0)
  {T:List Nat} (hT:T=(([45,45,45,10]++(x.n1 0 0 1 true true false false true true s).txt x.au x.b)++[58]++(x.n2 0 1 0 false false false true t).txt x.au x.b)++(CU (c6 t x.v1)++mV (cJ t x.v1 false))) (hl:T.length≤1000000):
  Runs x [.fU 12 [.none,.none,.bool true,.none,.none,.bool false],x.e0,x.e1,mE] T:=by
 obtain ⟨z,w⟩:=gK h (fl:=0) (col:=0) (line:=1) (ws:=true) (ind:=true) (sq:=false) (mp:=true) (sk:=true) (Hv:=false) (qV:=false) (L7:=false) (L8:=true) (C2:=λc _=>c+x.d) (L2:=λ_ l=>l) (e1:={x.em with state:=.bm 4 34,root:=.bool true}) (e2:={x.em with state:=.bm 4 36,map:=.bool true,sk:=.bool true}) ⟨rfl,rfl,rfl⟩ ⟨rfl,rfl,rfl⟩ true (.bm 4 36) (.bm 4 35) (rows0:=LZ) (mid:=[.str [58]]) [x.e1,mE] [mE] (by decide) (by decide) (by decide) hs ht (cM rfl) rfl (cM rfl) rfl (λc _=>dD (ak (Nat.le_of_eq hd) (by decide)) c) (λ_ l=>Nat.le_succ _)
 have f1:=w.f1;rw [show (cond true (aA x.au x.v0).mv .none)=_ from qG x.au x.v0] at f1
 have K:Holds L1.prog (x.R z.r5 z.r6 z.c1 z.l1 z.c2 z.l2 (cJ s x.v0 false) (cJ t x.v1 false) T) (FP2 (c6 t x.v1) (cJ t x.v1 false)):=AZ (d:=1) (qE w.h5 w.h6 (ak w.Io (by decide)) (ak w.zm (by decide)) (by rw [AX];exact w.txt (AV _ _) hT hl) (af (λk hk=>?_) (af (λk hk=>?_) aa))) h hd (by decide) w.PM w.Ip hk.1 hk.2 (oq h LZ [x.e1,mE] {x.em with state:=.bm 4 34,event:=x.e0,indent:=.int 0,root:=.bool true,line:=.int 1,col:=.int 0,ws:=.bool true,ind:=.bool true} rfl)
 ·exact qD K (aj (ao Y3 (d7 t x.v1)) (cJ t x.v1 false))
 ·have h:(E L1.prog k).ca 19 _ _=some (.none,hE _ _ _ _ _ _ (N5.e1 _ _ _ _ (kc (c6 s x.v0) z.c1 0 0) z.l1 (kc (c6 s x.v0) false true true) (kc (c6 s x.v0) false true true) (.bool (cJ s x.v0 false)))):=f1 k hk
  rw [yY] at h;exact h
 ·have h:(E L1.prog k).ca 19 _ _=some (.none,hE _ _ _ _ _ _ (N5.e1 _ _ _ _ (kc (c6 t x.v1) z.c2 0 (z.c1+x.d)) z.l2 (kc (c6 t x.v1) false true false) (kc (c6 t x.v1) false true false) (.bool (cJ t x.v1 false)))):=w.f2 k hk
  have GV:=d7 t x.v1;clear w f1;generalize cJ t x.v1 false=o at h⊢;generalize c6 t x.v1=q2 at h GV⊢;simp only [bq,dm,or_false] at GV;rcases GV with rfl|rfl|rfl<;>exact h
theorem Lg(x:Sc)(h:x.Ok)(hd:x.d=1){s t:List Nat}(hs:(aA x.au x.v0).iO x.a0 x.p0 false false=s)(ht:(aA x.au x.v1).iO x.a1 x.p0 false false=t)(hg:((aA x.au x.v0).emp,(aA x.au x.v0).mul)∈UK)
  {T:List Nat} (hT:T=(([45,45,45,10,63]++(x.n1 0 1 1 false true false false true false s).txt x.au x.b)++(CU (c6 s x.v0)++[58])++(x.n2 0 1 0 false true false true t).txt x.au x.b)++(CU (c6 t x.v1)++mV (cJ t x.v1 false))) (hl:T.length≤1000000):
  Runs x [.fU 12 [.none,.none,.bool true,.none,.none,.bool false],x.e0,x.e1,mE] T:=by
 obtain ⟨z,w⟩:=gK h (fl:=0) (col:=1) (line:=1) (ws:=false) (ind:=true) (sq:=false) (mp:=true) (sk:=false) (Hv:=false) (qV:=true) (L7:=false) (L8:=true) (C2:=λ_ _=>1) (L2:=λ_ l=>kc (c6 s x.v0) (l+1) l (l+1)) (e1:={x.em with state:=.bm 4 34,root:=.bool true}) (e2:={x.em with state:=.bm 4 37,map:=.bool true}) ⟨rfl,rfl,rfl⟩ ⟨rfl,rfl,rfl⟩ true (.bm 4 37) (.bm 4 35) (rows0:=LZ++[.str [63]]) (mid:=uy (c6 s x.v0)++[.str [58]]) [x.e1,mE] [mE] (by decide) (by decide) (by decide) hs ht (cM rfl) rfl (AY _ _) (L6 _ 58) (λ_ _=>Nat.le_add_left ..) (λ_ l=>L5 _ l)
 have f1:=w.f1;rw [show (cond true (aA x.au x.v0).mv .none)=_ from qG x.au x.v0] at f1
 have K:Holds L1.prog (x.R z.r5 z.r6 z.c1 z.l1 z.c2 z.l2 (cJ s x.v0 false) (cJ t x.v1 false) T) (UJ (aA x.au x.v0).emp (aA x.au x.v0).mul (c6 s x.v0) (c6 t x.v1) (cJ t x.v1 false)):=AZ (d:=1) (qE w.h5 w.h6 (ak w.Io (by decide)) (ak w.zm (by decide)) (by rw [AX];exact w.txt (AV _ _) hT hl) (af (λk hk=>?_) (af (λk hk=>?_) aa))) h hd (by decide) w.PM w.Ip rfl rfl (oq h LZ [x.e1,mE] {x.em with state:=.bm 4 34,event:=x.e0,indent:=.int 0,root:=.bool true,line:=.int 1,col:=.int 0,ws:=.bool true,ind:=.bool true} rfl)
 ·exact qD K (aj (ao (ao (ao UL hg) (d7 s x.v0)) (d7 t x.v1)) (cJ t x.v1 false))
 ·have h:(E L1.prog k).ca 19 _ _=some (.none,hE _ _ _ _ _ _ (N5.e1 _ _ _ _ (kc (c6 s x.v0) z.c1 0 1) z.l1 (kc (c6 s x.v0) false true false) (kc (c6 s x.v0) false true true) (.bool (cJ s x.v0 false)))):=f1 k hk
  have hm:=d7 s x.v0;clear w f1;generalize cJ s x.v0 false=o at h⊢;generalize c6 s x.v0=q at h hm⊢;simp only [bq,dm,or_false] at hm;rcases hm with rfl|rfl|rfl<;>exact h
 ·have h:(E L1.prog k).ca 19 _ (hE _ _ (z.r5++(uy (c6 s x.v0)++[.str [58]])) _ _ _ (N5.e0 (Sc.n2 _ _ _ (kc (c6 s x.v0) (z.l1+1) z.l1 (z.l1+1)) _ _ _ _ _) _ _ _))=some (.none,hE _ _ _ _ _ _ (N5.e1 (Sc.n2 _ _ _ (kc (c6 s x.v0) (z.l1+1) z.l1 (z.l1+1)) _ _ _ _ _) _ _ _ (kc (c6 t x.v1) z.c2 0 1) z.l2 (kc (c6 t x.v1) false true false) (kc (c6 t x.v1) false true true) (.bool (cJ t x.v1 false)))):=w.f2 k hk
  have hm:=d7 s x.v0;have GV:=d7 t x.v1;clear w f1;generalize cJ s x.v0 false=o1 at h⊢;generalize cJ t x.v1 false=o at h⊢;generalize c6 s x.v0=q at h hm⊢;generalize c6 t x.v1=q2 at h GV⊢;simp only [bq,dm,or_false] at hm GV;rcases hm with rfl|rfl|rfl<;>rcases GV with rfl|rfl|rfl<;>exact h
theorem PS(x:Sc)(h:x.Ok)(hd:x.d=1){s t:List Nat}(hs:(aA x.au x.v0).iO x.a0 x.p0 true false=s)(ht:(aA x.au x.v1).iO x.a1 x.p0 true false=t)(yY:c6 s x.v0=0)(vm:c6 t x.v1=0)
  {T:List Nat} (hT:T=(([45,45,45,32,91]++(x.n1 1 5 0 true false false true false false s).txt x.au (x.b+x.b))++[44]++(x.n2 1 1 0 false false true false t).txt x.au (x.b+x.b))++[93,10]) (hl:T.length≤1000000):
  Runs x [.fU 10 [.none,.none,.bool true,.none,.none,.bool true],x.e0,x.e1,.fU 11 [.none,.none]] T:=by
 obtain ⟨z,w⟩:=gK h (fl:=1) (col:=5) (line:=0) (ws:=true) (ind:=false) (sq:=true) (mp:=false) (sk:=false) (Hv:=false) (qV:=false) (L7:=true) (L8:=false) (C2:=λc _=>c+x.d) (L2:=λ_ l=>l) (e1:={x.em with state:=.bm 4 23,root:=.bool true}) (e2:={x.em with state:=.bm 4 24,seq:=.bool true}) ⟨rfl,rfl,rfl⟩ ⟨rfl,rfl,rfl⟩ false (.bm 4 24) (.bm 4 24) (rows0:=[.str [45,45,45],.str [32,91]]) (mid:=[.str [44]]) [x.e1] [] (by decide) (by decide) (by decide) hs ht (cM rfl) rfl (cM rfl) rfl (λc _=>dD (ak (Nat.le_of_eq hd) (by decide)) c) (λ_ l=>Nat.le_succ _)
 have K:Holds L1.prog (x.R z.r5 z.r6 z.c1 z.l1 z.c2 z.l2 (cJ s x.v0 false) (cJ t x.v1 false) T) FP3:=UU (qE w.h5 w.h6 (ak w.Io (by decide)) (ak w.zm (by decide)) (w.txt (uA 93 _) hT hl) (af (λk hk=>?_) (af (λk hk=>?_) aa))) hd w.PM w.Ip
 ·exact qD K Y8
 ·have h:(E L1.prog k).ca 19 _ _=some (.none,hE _ _ _ _ _ _ (N5.e1 _ _ _ _ (kc (c6 s x.v0) z.c1 0 5) z.l1 (kc (c6 s x.v0) false true true) (kc (c6 s x.v0) false true false) (.bool (cJ s x.v0 false)))):=w.f1 k hk
  rw [yY] at h;exact h
 ·have h:(E L1.prog k).ca 19 _ _=some (.none,hE _ _ _ _ _ _ (N5.e1 _ _ _ _ (kc (c6 t x.v1) z.c2 0 (z.c1+x.d)) z.l2 (kc (c6 t x.v1) false true false) (kc (c6 t x.v1) false true false) (.bool (cJ t x.v1 false)))):=w.f2 k hk
  rw [vm] at h;exact h
theorem PT(x:Sc)(h:x.Ok)(hd:x.d=1){s t:List Nat}(hs:(aA x.au x.v0).iO x.a0 x.p0 true true=s)(ht:(aA x.au x.v1).iO x.a1 x.p0 true false=t)(hk:(aA x.au x.v0).emp=false∧(aA x.au x.v0).mul=false)(yY:c6 s x.v0=0)(vm:c6 t x.v1=0)
  {T:List Nat} (hT:T=(([45,45,45,32,123]++(x.n1 1 5 0 true false false false true true s).txt x.au (x.b+x.b))++[58]++(x.n2 1 1 0 false false false true t).txt x.au (x.b+x.b))++[125,10]) (hl:T.length≤1000000):
  Runs x [.fU 12 [.none,.none,.bool true,.none,.none,.bool true],x.e0,x.e1,mE] T:=by
 obtain ⟨z,w⟩:=gK h (fl:=1) (col:=5) (line:=0) (ws:=true) (ind:=false) (sq:=false) (mp:=true) (sk:=true) (Hv:=false) (qV:=false) (L7:=false) (L8:=true) (C2:=λc _=>c+x.d) (L2:=λ_ l=>l) (e1:={x.em with state:=.bm 4 26,root:=.bool true}) (e2:={x.em with state:=.bm 4 28,map:=.bool true,sk:=.bool true}) ⟨rfl,rfl,rfl⟩ ⟨rfl,rfl,rfl⟩ true (.bm 4 28) (.bm 4 27) (rows0:=d4) (mid:=[.str [58]]) [x.e1,mE] [mE] (by decide) (by decide) (by decide) hs ht (cM rfl) rfl (cM rfl) rfl (λc _=>dD (ak (Nat.le_of_eq hd) (by decide)) c) (λ_ l=>Nat.le_succ _)
 have f1:=w.f1;rw [show (cond true (aA x.au x.v0).mv .none)=_ from qG x.au x.v0] at f1
 have K:Holds L1.prog (x.R z.r5 z.r6 z.c1 z.l1 z.c2 z.l2 (cJ s x.v0 false) (cJ t x.v1 false) T) FP4:=AZ (d:=1) (qE w.h5 w.h6 (ak w.Io (by decide)) (ak w.zm (by decide)) (w.txt (uA 125 _) hT hl) (af (λk hk=>?_) (af (λk hk=>?_) aa))) h hd (by decide) w.PM w.Ip hk.1 hk.2 (oq h d4 [x.e1,mE] {x.em with event:=x.e0,root:=.bool true,state:=.bm 4 26,indent:=.int (x.b:Nat),fy:=.int 1,line:=.int 0,col:=.int 5,ws:=.bool true,ind:=.bool false} rfl)
 ·exact qD K Y9
 ·have h:(E L1.prog k).ca 19 _ _=some (.none,hE _ _ _ _ _ _ (N5.e1 _ _ _ _ (kc (c6 s x.v0) z.c1 0 5) z.l1 (kc (c6 s x.v0) false true true) (kc (c6 s x.v0) false true false) (.bool (cJ s x.v0 false)))):=f1 k hk
  rw [yY] at h;exact h
 ·have h:(E L1.prog k).ca 19 _ _=some (.none,hE _ _ _ _ _ _ (N5.e1 _ _ _ _ (kc (c6 t x.v1) z.c2 0 (z.c1+x.d)) z.l2 (kc (c6 t x.v1) false true false) (kc (c6 t x.v1) false true false) (.bool (cJ t x.v1 false)))):=w.f2 k hk
  rw [vm] at h;exact h
theorem q4a:Hx (Ld true false) (cols 12 13 true)=true:=by kernel_rfl
theorem q4b:Hx (Ld false true) (cols 12 13 true)=true:=by kernel_rfl
theorem q4n(e m:Bool)(h:(e,m)∈UK):Hx (Ld e m) (cols 12 13 true)=true:=by
 cases e<;>cases m
 ·exact absurd h (by decide)
 ·exact q4b
 ·exact q4a
 ·exact absurd h (by decide)
theorem Lh(x:Sc)(h:x.Ok)(hd:x.d=2){s t:List Nat}(hs:(aA x.au x.v0).iO x.a0 x.p0 true false=s)(ht:(aA x.au x.v1).iO x.a1 x.p0 true false=t)(hg:((aA x.au x.v0).emp,(aA x.au x.v0).mul)∈UK)(yY:c6 s x.v0=0)(vm:c6 t x.v1=0)
  {T:List Nat} (hT:T=(([45,45,45,32,123,63]++(x.n1 1 6 0 false false false false true false s).txt x.au (x.b+x.b))++[32,58]++(x.n2 1 1 0 false false false true t).txt x.au (x.b+x.b))++[125,10]) (hl:T.length≤1000000):
  Runs x [.fU 12 [.none,.none,.bool true,.none,.none,.bool true],x.e0,x.e1,mE] T:=by
 obtain ⟨z,w⟩:=gK h (fl:=1) (col:=6) (line:=0) (ws:=false) (ind:=false) (sq:=false) (mp:=true) (sk:=false) (Hv:=false) (qV:=false) (L7:=false) (L8:=true) (C2:=λc _=>c+x.d) (L2:=λ_ l=>l) (e1:={x.em with state:=.bm 4 26,root:=.bool true}) (e2:={x.em with state:=.bm 4 29,map:=.bool true}) ⟨rfl,rfl,rfl⟩ ⟨rfl,rfl,rfl⟩ true (.bm 4 29) (.bm 4 27) (rows0:=d4++[.str [63]]) (mid:=[.str [32,58]]) [x.e1,mE] [mE] (by decide) (by decide) (by decide) hs ht (cM rfl) rfl (cM rfl) rfl (λc _=>dD (ak (Nat.le_of_eq hd) (by decide)) c) (λ_ l=>Nat.le_succ _)
 have f1:=w.f1;rw [show (cond true (aA x.au x.v0).mv .none)=_ from qG x.au x.v0] at f1
 have K:Holds L1.prog (x.R z.r5 z.r6 z.c1 z.l1 z.c2 z.l2 (cJ s x.v0 false) (cJ t x.v1 false) T) (Ld (aA x.au x.v0).emp (aA x.au x.v0).mul):=AZ (d:=2) (qE w.h5 w.h6 (ak w.Io (by decide)) (ak w.zm (by decide)) (w.txt (uA 125 _) hT hl) (af (λk hk=>?_) (af (λk hk=>?_) aa))) h hd (by decide) w.PM w.Ip rfl rfl (oq h d4 [x.e1,mE] {x.em with event:=x.e0,root:=.bool true,state:=.bm 4 26,indent:=.int (x.b:Nat),fy:=.int 1,line:=.int 0,col:=.int 5,ws:=.bool true,ind:=.bool false} rfl)
 ·exact qD (inner:=cols 12 13 true) K (q4n _ _ hg)
 ·have h:(E L1.prog k).ca 19 _ _=some (.none,hE _ _ _ _ _ _ (N5.e1 _ _ _ _ (kc (c6 s x.v0) z.c1 0 6) z.l1 (kc (c6 s x.v0) false true false) (kc (c6 s x.v0) false true false) (.bool (cJ s x.v0 false)))):=f1 k hk
  rw [yY] at h;exact h
 ·have h:(E L1.prog k).ca 19 _ _=some (.none,hE _ _ _ _ _ _ (N5.e1 _ _ _ _ (kc (c6 t x.v1) z.c2 0 (z.c1+x.d)) z.l2 (kc (c6 t x.v1) false true false) (kc (c6 t x.v1) false true false) (.bool (cJ t x.v1 false)))):=w.f2 k hk
  rw [vm] at h;exact h
noncomputable def bL(n m:Nat):List aB:=(L1.Fw.body.drop n).take m
noncomputable def gc(l:List Int):MV:=.lst (l.map .int)
theorem ou{xs:List MV}{i:Int}(h0:0≤i)(h1:i< xs.length)(h2:xs.length≤1000)(H:Hp):dP (.lst xs) (.int i) H=some (xs.getD i.toNat .none):=by
 obtain ⟨n,rfl⟩:=Int.eq_ofNat_of_zero_le h0;have hn:n< xs.length:=by lia
 show (if bC (n:Int)=true then idx xs.length n else none).bind (λj=>xs[j]?)=_
 rw [bK (by lia),if_pos rfl,Av hn]
 show xs[n]? =some (xs.getD n .none)
 rw [List.getD_eq_getElem?_getD,List.getElem?_eq_getElem hn];rfl
theorem GW{l:List Int}{n:Nat}(h1:n< l.length)(h2:l.length≤1000)(H:Hp):dP (gc l) (.int n) H=some (.int (l.getD n 0)):=by
 refine (ou (xs:=l.map .int) (by lia) (by rw [cu];lia) (by rw [cu];exact h2) H).trans ?_
 show some ((l.map MV.int).getD n .none)=_
 rw [List.getD_eq_getElem?_getD,List.getElem?_map,List.getD_eq_getElem?_getD,List.getElem?_eq_getElem h1];rfl
theorem PU{xs:List MV}{a b:Nat}(hb:b≤1000)(Xk:a≤b)(H:Hp):dM (.lst xs) (some (.int a)) (some (.int b)) H=some (.lst ((xs.drop a).take (b - a))):=by
 show (jc _).bind (λlo=>(jc _).bind λhi=>Bk (.lst xs) lo hi H)=_
 rw [fL (bK (by lia)),fL (bK (by lia)), ← Aw];rfl
noncomputable def nums(l:List Int):List Int:=l.take 4++[0,0,0,0]
noncomputable def num(l:List Int)(i:Nat):Int:=(nums l).getD i 0
noncomputable def qH(l:List Int):List Int:=cond (decide (4< l.length)) ((l.drop 4).take 7) l
noncomputable def qX(l:List Int):List Int:=(l.drop 11).take 7
noncomputable def GX:List MV:=[.tup [.bool true,.bool true],.tup [.bool true,.bool false],.tup [.bool false,.bool true]]
noncomputable def Ma:List (List Nat):=[[97,98,32,45,99,58,35,100,233,63,44,39],[97,10,98,32,99,10,100,8232,39,35,45,101],[97,9,10,34,92,32,133,128512,7,37,8364,160]]
noncomputable def QD(t:List Nat):MV:=.lst (t.map bw)
noncomputable def i3(f:List α)(d:α)(n:Int):α:=f.getD n.toNat d
noncomputable def FH1(w gt:Bool):Facts:={
 qM:=[(X 0,none,some (.int 4),X 1),(X 0,some (.int 4),some (.int 11),X 27),(X 0,some (.int 11),some (.int 18),X 28)],
 bin:=[(.Add,X 1,.lst [.int 0,.int 0,.int 0,.int 0],X 2),(.Mod,X 3,.int 5,X 10),(.Mod,X 4,.int 5,X 11),(.FloorDiv,X 4,.int 5,X 12),(.Mod,X 12,.int 5,X 13),(.Mod,X 5,.int 3,X 14),(.FloorDiv,X 5,.int 3,X 15),(.Mod,X 15,.int 2,X 16),(.Mod,X 6,.int 3,X 17),(.FloorDiv,X 6,.int 3,X 18),(.Mod,X 18,.int 3,X 19)],
 sub:=[(X 2,.int 0,X 3),(X 2,.int 1,X 4),(X 2,.int 2,X 5),(X 2,.int 3,X 6),(.lst bQ,X 11,X 20),(.lst bQ,X 13,X 21),(.lst GX,X 14,.tup [X 22,X 23]),(.lst (Ma.map QD),X 17,X 24),(.lst [.int 2,.int 4,.int 3],X 19,X 25)],
 cmp:=[(.Eq,X 16,.int 0,w),(.Gt,X 26,.int 4,gt)],
 bi:=[(.len,X 0,X 26)]}
noncomputable def UW(w gt:Bool):aR:=[.v (X 0),.v (X 2),.v (X 10),.v (.lst [X 20,X 21]),.v (.tup [X 22,X 23]),.v (.bool w),.v (X 24),.v (X 25),.v (.lst [cond gt (X 27) (X 0),X 28])]++List.replicate 16 .u
theorem kH1:(bD λw=>bD λgt=>eZ L1.prog (FH1 w gt) 40 (bL 0 8) (.v (X 0)::List.replicate 24 .u) [] .next (UW w gt) [])=true:=by kernel_rfl
structure Nm where
 p:Int
 a0:MV
 a1:MV
 p0:Bool
 p1:Bool
 w:Bool
 tb:List Nat
 b:Nat
noncomputable def nm(l:List Int):Nm:=⟨num l 0 % 5,i3 bQ .none (num l 1 % 5),i3 bQ .none (num l 1 / 5 % 5),i3 [true,true,false] false (num l 2 % 3),i3 [true,false,true] false (num l 2 % 3),decide (num l 2 / 3 % 2=0),i3 Ma [] (num l 3 % 3),i3 [2,4,3] 0 (num l 3 / 3 % 3)⟩
noncomputable def iz(l:List Int)(x:Nm):Loc:=[some (gc l),some (gc (nums l)),some (.int x.p),some (.lst [x.a0,x.a1]),some (.tup [.bool x.p0,.bool x.p1]),some (.bool x.w),some (QD x.tb),some (.int x.b),some (.lst [gc (qH l),gc (qX l)])]++List.replicate 16 none
theorem md5(x:Int):0≤x % 5∧x % 5< 5:=⟨Int.emod_nonneg _ (by decide),Int.emod_lt_of_pos _ (by decide)⟩
theorem QE(x:Int):0≤x % 3∧x % 3< 3:=⟨Int.emod_nonneg _ (by decide),Int.emod_lt_of_pos _ (by decide)⟩
theorem in3{x:Int}(h:0≤x∧x< 3):x=0∨x=1∨x=2:=by lia
noncomputable def RH(l:List Int):eN:=R [gc l,gc (l.take 4),gc (nums l),.int (num l 0),.int (num l 1),.int (num l 2),.int (num l 3),.none,.none,.none,.int (nm l).p,.int (num l 1 % 5),.int (num l 1 / 5),.int (num l 1 / 5 % 5),.int (num l 2 % 3),.int (num l 2 / 3),.int (num l 2 / 3 % 2),.int (num l 3 % 3),.int (num l 3 / 3),.int (num l 3 / 3 % 3),(nm l).a0,(nm l).a1,.bool (nm l).p0,.bool (nm l).p1,QD (nm l).tb,.int ((nm l).b:Nat),.int (l.length:Nat),gc ((l.drop 4).take 7),gc (qX l)] [] (λ_=>none)
theorem pick{α:Type}{f:α→MV}{ys:List α}{d:α}{x:Int}(h:0≤x∧x< ys.length)(h2:ys.length≤1000)(H:Hp):dP (.lst (ys.map f)) (.int x) H=some (f (i3 ys d x)):=by
 refine (ou h.1 (by rw [cu];exact h.2) (by rw [cu];exact h2) H).trans (congrArg some ?_)
 obtain ⟨n,rfl⟩:=Int.eq_ofNat_of_zero_le h.1;show (ys.map f).getD n .none=f (ys.getD n d)
 rw [List.getD_eq_getElem?_getD,List.getElem?_map,List.getD_eq_getElem?_getD,List.getElem?_eq_getElem (Int.ofNat_lt.mp h.2)];rfl
theorem PV{xs:List MV}{b:Nat}(hb:b≤1000)(H:Hp):dM (.lst xs) none (some (.int b)) H=some (.lst (xs.take b)):=by
 show (jc _).bind (λlo=>(jc _).bind λhi=>Bk (.lst xs) lo hi H)=_
 rw [fL (bK (big hb)), ← t6];rfl
theorem w9(l:List Int):4≤(nums l).length∧(nums l).length≤1000:=by unfold nums;rw [aY,List.length_take];exact ⟨Nat.le_add_left _ _,ak (cO (Nat.min_le_left ..) 4) (by decide)⟩
theorem A0{l:List Int}{n:Nat}(hn:n< 4)(H:Hp):dP (gc (nums l)) (.int n) H=some (.int (num l n)):=GW (Nat.lt_of_lt_of_le hn (w9 l).1) (w9 l).2 H
theorem PW{x:Int}(h:0≤x∧x< 3)(H:Hp):dP (.lst GX) (.int x) H=some (.tup [.bool (i3 [true,true,false] false x),.bool (i3 [true,false,true] false x)]):=by
 refine (ou (xs:=GX) h.1 h.2 (by decide) H).trans ?_
 rcases in3 h with rfl|rfl|rfl<;>rfl
theorem GY{l:List Int}{a b:Nat}(hb:b≤1000)(Xk:a≤b)(H:Hp):dM (gc l) (some (.int a)) (some (.int b)) H=some (gc ((l.drop a).take (b - a))):=(PU hb Xk H).trans (congrArg (λz=>some (MV.lst z)) (by rw [← List.map_drop, ← List.map_take]))
theorem KH1(l:List Int):Holds L1.prog (RH l) (FH1 (nm l).w (decide (4< l.length))) where
 ny:=aa
 cmp:=af rfl (af (qU (b:=4) rfl) aa)
 bin:=af (λh=>(if_pos (by rw [cu,List.length_take];exact ak (cO (Nat.min_le_left ..) 4) (by decide:8≤aH))).trans (congrArg (λz=>some (MV.lst z)) (List.map_append (f:=MV.int) (l₁:=l.take 4) (l₂:=[0,0,0,0])).symm))<|af (λh=>rfl)<|af (λh=>rfl)<|af (λh=>rfl)<|af (λh=>rfl)<|af (λh=>rfl)<|af (λh=>rfl)<|af (λh=>rfl)<|af (λh=>rfl)<|af (λh=>rfl)<|af (λh=>rfl) aa
 sub:=af (A0 (n:=0) (by decide))<|af (A0 (n:=1) (by decide))<|af (A0 (n:=2) (by decide))<|af (A0 (n:=3) (by decide))<|af (pick (f:=λx=>x) (ys:=bQ) (md5 _) (by decide))<|af (pick (f:=λx=>x) (ys:=bQ) (md5 _) (by decide))<|af (PW (QE _))<|af (pick (f:=QD) (ys:=Ma) (QE _) (by decide))<|af (pick (f:=λn:Nat=>.int n) (ys:=[2,4,3]) (QE _) (by decide)) aa
 qM:=af (λh=>(PV (by decide) h).trans (congrArg (λz=>some (MV.lst z)) List.map_take.symm))<|af (GY (a:=4) (b:=11) (by decide) (by decide))<|af (GY (a:=11) (b:=18) (by decide) (by decide)) aa
 bi:=af (λ_=>congrArg (λn:Nat=>some (MV.int n)) (cu ..)) aa
 join:=aa
 room:=aa
 aug:=aa
 starts:=aa
 st:=aa
 ev:=aa
 call:=aa
theorem Zh{l:List Int}(hl:l.length≤63):∀k,40≤k→(E L1.prog k).ex (bL 0 8) (some (gc l)::List.replicate 24 none) []=some (.next,iz l (nm l),[]):=λk hk=>by
 have e:iz l (nm l)=aG (RH l) (UW (nm l).w (decide (4< l.length))):=by
  unfold iz qH
  cases decide (4< l.length)<;>rfl
 rw [e];exact fq (KH1 l) (aj (aj kH1 (nm l).w) (decide (4< l.length))) hk
theorem xd{P:Prog}{k:Nat}{elt:ai}{ifs:List ai}{h:Hp}{α:Type}{inj:α→MV}{p:α→Bool}{fr:Option MV→Loc}{tgt:List Nat}(hb:∀a x,dU (fr x) tgt false (inj a)=some (fr (some (inj a)))):∀(s:List α) (x:Option MV),(∀a∈s,tests (E P k) ifs (fr (some (inj a))) h=some (p a,h))→(∀a∈s,(E P k).ev elt (fr (some (inj a))) h=some (inj a,h))→cg (E P k) elt tgt false ifs (s.map inj) (fr x) h=some ((s.filter p).map inj,h)
 |[],x,_,_=>rfl
 |a::s,x,ht,he=>by
  have h0:=ht a (cy ..);have h1:=he a (cy ..);have h2:=xd (p:=p) hb s (some (inj a)) (λb hb=>ht b (bR _ hb)) (λb hb=>he b (bR _ hb))
  show (dU (fr x) tgt false (inj a)).bind (λl=>(tests (E P k) ifs l h).bind λb=>if b.1=true then ((E P k).ev elt l b.2).bind (λv=>(cg (E P k) elt tgt false ifs (s.map inj) l v.2).bind λvs=>some (v.1::vs.1,vs.2)) else cg (E P k) elt tgt false ifs (s.map inj) l b.2)=_
  rw [hb];show (tests (E P k) ifs (fr (some (inj a))) h).bind _=_
  rw [h0];rw [List.filter_cons]
  cases p a with
  |true=>
   show ((E P k).ev elt (fr (some (inj a))) h).bind _=_
   rw [h1];show (cg (E P k) elt tgt false ifs (s.map inj) (fr (some (inj a))) h).bind _=_
   rw [h2];rfl
  |false=>exact h2
theorem uB{P:Prog}{k:Nat}{elt e:ai}{ifs:List ai}{l:Loc}{h:Hp}{xs ys:List MV}(hl:ys.length≤1000)(he:(E P k).ev e l h=some (.lst xs,h))(hg:cg (E P k) elt [1] false ifs xs (ki none l) h=some (ys,h)):(E P (k+1)).ev (.comp false elt 2 [1] false (.val e) ifs) l h=some (.lst ys,h):=oi (uq he rfl) hg hl
noncomputable def Mb(t:List Nat)(n:Int):Nat:=t.getD (n % 12).toNat 0
noncomputable def keep(w:Bool)(c:Nat):Bool:= !(w&&Nat.beq c 133)
noncomputable def val(w:Bool)(t:List Nat)(r:List Int):List Nat:=(r.map (Mb t)).filter (keep w)
noncomputable def Zi:ai:=match L1.Fw.body.getD 8 .pass with
 |.assign _ e=>e
 |_=>.b7 .none
noncomputable def VK:ai:=match Zi with
 |.comp _ e _ _ _ _ _=>e
 |_=>.b7 .none
noncomputable def VL:ai:=match VK with
 |.aQ _ _ (e::_) _ _=>e
 |_=>.b7 .none
noncomputable def cFi:List ai:=match VL with
 |.comp _ _ _ _ _ _ i=>i
 |_=>[]
noncomputable def Zj:ai:=match VL with
 |.comp _ _ _ _ _ (.val e) _=>e
 |_=>.b7 .none
noncomputable def cMe:ai:=match Zj with
 |.comp _ e _ _ _ _ _=>e
 |_=>.b7 .none
theorem PX{t:List Nat}{n:Int}(ht:t.length=12)(H:Hp):dP (QD t) (.int (n % 12)) H=some (bw (Mb t n)):=by
 have h0:0≤n % 12:=Int.emod_nonneg _ (by decide)
 have h1:n % 12< 12:=Int.emod_lt_of_pos _ (by decide)
 refine (ou (xs:=t.map bw) h0 (by rw [cu,ht];exact h1) (by rw [cu,ht];decide) H).trans ?_
 have hn:(n % 12).toNat< t.length:=by rw [ht];lia
 show some ((t.map bw).getD (n % 12).toNat .none)=some (bw (t.getD (n % 12).toNat 0))
 rw [List.getD_eq_getElem?_getD,List.getElem?_map,List.getD_eq_getElem?_getD,List.getElem?_eq_getElem hn];rfl
section
variable {l:List Int}{x:Nm}(ht:x.tb.length=12)
include ht
theorem Li(r:List Int)(hr:r.length≤63)(k:Nat):(E L1.prog (k+7)).ev VK (ki (some (gc r)) (iz l x)) []=some (.str (val x.w x.tb r),[]):=by
 have hM:(E L1.prog (k+5)).ev Zj (ki (some (gc r)) (iz l x)) []=some (.lst ((r.map (Mb x.tb)).map bw),[]):=by
  refine uB (k:=k+4) (elt:=cMe) (e:=.aP 1) (ifs:=[]) (xs:=r.map .int) (ys:=(r.map (Mb x.tb)).map bw) (by rw [cu,cu];lia) rfl ?_
  have:=oh (P:=L1.prog) (k:=k+4) (elt:=cMe) (h:=[]) (inj:=MV.int) (g:=λn=>bw (Mb x.tb n)) (fr:=λy=>ki y (ki (some (gc r)) (iz l x))) (tgt:=[1]) (tup:=false) (λ_ _=>rfl) r none (λn _=>by
   show (dP (QD x.tb) (.int (n % 12)) []).bind (λr=>some (r,[]))=_
   rw [PX ht];rfl)
  rw [List.map_map];exact this
 have hF:(E L1.prog (k+6)).ev VL (ki (some (gc r)) (iz l x)) []=some (.lst ((val x.w x.tb r).map bw),[]):=by
  refine uB (k:=k+5) (elt:=.aP 1) (e:=Zj) (ifs:=cFi) (ys:=(val x.w x.tb r).map bw) (by rw [cu];exact ak (List.length_filter_le ..) (by rw [cu];lia)) hM ?_
  refine xd (P:=L1.prog) (inj:=bw) (p:=keep x.w) (fr:=λy=>ki y (ki (some (gc r)) (iz l x))) (λ_ _=>rfl) (r.map (Mb x.tb)) none (λc _=>?_) (λc _=>rfl)
  have hc:dz .Eq (bw c) (.str [133])=some (Nat.beq c 133):=Po;show ((((E L1.prog (k+5)).ev (.bM (.bE [.aP 9,.cmp (.aP 1) [.Eq] [.b7 (.str [133])]])) (ki (some (bw c)) (ki (some (gc r)) (iz l x))) []).bind λv=>(truthy v.1 v.2).bind λb=>some (b,v.2)).bind λb=>if b.1=true then some (true,b.2) else some (false,b.2))=_
  have hn:(E L1.prog (k+5)).ev (.bM (.bE [.aP 9,.cmp (.aP 1) [.Eq] [.b7 (.str [133])]])) (ki (some (bw c)) (ki (some (gc r)) (iz l x))) []=some (.bool (keep x.w c),[]):=by
   show (((E L1.prog (k+4)).ev (.bE [.aP 9,.cmp (.aP 1) [.Eq] [.b7 (.str [133])]]) (ki (some (bw c)) (ki (some (gc r)) (iz l x))) []).bind λv=>(truthy v.1 v.2).bind λb=>some (b,v.2)).bind (λb=>some (MV.bool (!b.1),b.2))=_
   have ha:(E L1.prog (k+4)).ev (.bE [.aP 9,.cmp (.aP 1) [.Eq] [.b7 (.str [133])]]) (ki (some (bw c)) (ki (some (gc r)) (iz l x))) []=some (.bool (x.w&&Nat.beq c 133),[]):=by
    show (if x.w=true then ((dz .Eq (bw c) (.str [133])).bind λb=>some (b,([]:Hp))).bind (λb=>some (MV.bool b.1,b.2)) else some (MV.bool x.w,[]))=_
    rw [hc];cases x.w<;>rfl
   rw [ha];rfl
  rw [hn];show (if keep x.w c=true then some (true,([]:Hp)) else some (false,[]))=_
  cases keep x.w c<;>rfl
 show (((E L1.prog (k+6)).ev VL (ki (some (gc r)) (iz l x)) []).bind λa=>(some ([],a.2)).bind λb=>some (a.1::b.1,b.2)).bind (λas=>(some ([],as.2)).bind λks=>gP L1.prog (E L1.prog (k+6)) (.join []) as.1 [] ks.1 ks.2)=_
 rw [hF];show (aC ((val x.w x.tb r).map bw)).bind (λs=>(qY s).map λv=>(v,([]:Hp)))=_
 rw [qo];show (qY (val x.w x.tb r)).map _=_
 unfold qY;rw [if_pos (by refine ak (List.length_filter_le ..) ?_;rw [cu];unfold aH;lia)]
 rfl
noncomputable def UX(l:List Int)(x:Nm):Loc:=(iz l x).set 9 (some (.lst [.str (val x.w x.tb (qH l)),.str (val x.w x.tb (qX l))]))
theorem Zk(h0:(qH l).length≤63)(h1:(qX l).length≤63):∀k,20≤k→(E L1.prog k).ex (bL 8 1) (iz l x) []=some (.next,UX l x,[]):=λk hk=>by
 obtain ⟨j,rfl⟩:∃j,k=j+10:=⟨k - 10,by lia⟩
 have hv:(E L1.prog (j+9)).ev Zi (iz l x) []=some (.lst [.str (val x.w x.tb (qH l)),.str (val x.w x.tb (qX l))],[]):=by
  refine uB (k:=j+8) (elt:=VK) (e:=.aP 8) (ifs:=[]) (xs:=[qH l,qX l].map gc) (show 2≤1000 by decide) rfl ?_
  exact oh (P:=L1.prog) (k:=j+8) (elt:=VK) (h:=[]) (inj:=gc) (g:=λr=>.str (val x.w x.tb r)) (fr:=λy=>ki y (iz l x)) (tgt:=[1]) (tup:=false) (λ_ _=>rfl) [qH l,qX l] none (λr hr=>Li ht r (by
   rcases bq.mp hr with rfl|hr
   ·exact h0
   ·rw [dN.mp hr];exact h1) (j+1))
 show (((E L1.prog (j+9)).ev Zi (iz l x) []).bind λv=>(storeAll L1.prog (E L1.prog (j+9)) [.aP 9] v.1 (iz l x) v.2).bind λa=>some (Fl.next,a.1,a.2)).bind _=_
 rw [hv];rfl
end
noncomputable def mW(p:Nat):Bool:=Nat.blt 2 p
noncomputable def Hy(p:Nat):Bool:=Nat.beq p 2||Nat.beq p 4
noncomputable def cK:ai:=match L1.Fw.body.getD 11 .pass with
 |.assign _ (.bE [_,_,.call _ [e] _ _])=>e
 |_=>.b7 .none
noncomputable def cT:ai:=match L1.Fw.body.getD 18 .pass with
 |.assign _ (.bE [_,.call _ [e] _ _])=>e
 |_=>.b7 .none
noncomputable def pad(s:aR):aR:=s++List.replicate (25 - s.length) .u
noncomputable def s9(p:Nat):aR:=[.o 0,.o 1,.v (.int (p:Int)),.v (.lst [X 20,X 21]),.v (.tup [X 22,X 23]),.v (X 37),.o 6,.v (X 25),.o 8,.v (.lst [X 0,X 1])]
noncomputable def Zl(p:Nat):aR:=s9 p++[.v (.bool (mW p)),.v (.bool (Hy p))]
noncomputable def Zm(p:Nat):Nat:=cond (Nat.beq p 0) 0 1
noncomputable def Zo(p:Nat)(ky:Bool)(due:MV):aR:=Zl p++[.v (.bool ky),.v (X 27),.v (.lst [X 30,X 31]),.v (X 32),.v (X 33),.v due,.v (.int (Zm p:Nat)),.v (X 40)]
noncomputable def Lj(p:Nat)(e0 e1:MV):List MV:=cond (Nat.beq p 0) [e0] (cond (Hy p) [.fU 12 [.none,.none,.bool true,.none,.none,.bool (mW p)],e0,e1,.fU 13 [.none,.none]] [.fU 10 [.none,.none,.bool true,.none,.none,.bool (mW p)],e0,e1,.fU 11 [.none,.none]])
noncomputable def lW(p:Nat)(em kp:Bool):Bool:=kp||(Nat.beq p 0&&em)
noncomputable def QF(p:Nat)(ky em kp:Bool):aR:=Zo p ky (cond (lW p em kp) (X 51) (X 50))++[.v (.bool kp),.v (.lst [qO (X 22) (X 23) (X 0) (X 20),qO (X 22) (X 23) (X 1) (X 21)]),.v (.lst (Lj p (qO (X 22) (X 23) (X 0) (X 20)) (qO (X 22) (X 23) (X 1) (X 21))))]
noncomputable def D4:List Nat:=[45,45,45,10]
noncomputable def fB(p:Nat)(ky:Bool):List (Operator×MV×MV×MV):=match p with
 |0=>[]
 |1=>[(.Add,.str D4,X 34,X 36),(.Add,X 36,X 35,X 50)]
 |2=>[(.Add,cond ky (X 32) (X 34),.str [58],X 38),(.Add,.str D4,X 38,X 36),(.Add,X 36,X 35,X 50)]
 |3=>[(.Add,.str [45,45,45,32,91],X 32,X 36),(.Add,X 36,.str [44,32],X 38),(.Add,X 38,X 33,X 39),(.Add,X 39,.str [93,10],X 50)]
 |_=>[(.Add,.str [63,32],X 32,X 34),(.Add,cond ky (X 32) (X 34),.str (cond ky [58,32] [32,58,32]),X 38),(.Add,.str [45,45,45,32,123],X 38,X 36),(.Add,X 36,X 33,X 39),(.Add,X 39,.str [125,10],X 50)]
noncomputable def UY(sg:List Nat)(n s r:Nat):fZ:={n:=30,f:=72,as:=[.str sg,X n,X s],h:=iZ,r:=X r,h':=iZ}
noncomputable def fC(p:Nat):List fZ:=match p with
 |0=>[UY [45,45,45] 32 30 50]
 |1=>[UY [45] 32 30 34,UY [45] 33 31 35]
 |2=>[UY [63] 32 30 34,UY [] 33 31 35]
 |_=>[]
noncomputable def h1L:bg:=[.list (some 0) []]
noncomputable def FM(p:Nat)(ne nb bk ab em:Bool):Facts:={
 cmp:=[(.NotEq,X 0,.str [],ne),(.In,X (cond (Nat.beq p 0) 30 31),.lst [.str [124],.str [62]],bk),(.Is,X 30,.none,em)],
 bin:=(.Mult,X 25,.int 2,X 26)::(.Add,X 50,.str [46,46,46,10],X 51)::fB p (Hy p&&(ne&&nb)),
 sub:=[(.str [48,49,50,51,52],X 25,X 28)],
 qM:=[(.str [32,32,32,32,32,32,32,32],none,some (X (cond (mW p) 26 25)),X 27),(X (cond (Nat.beq p 0) 0 1),some (.int (-2)),none,X 40)],
 bi:=[(.all,X 41,.bool nb),(.all,X 42,.bool ab)],
 ev:=[{n:=20,e:=cK,l:=pad (Zl p),h:=[],r:=X 41},{n:=20,e:=cT,l:=pad (Zo p (Hy p&&(ne&&nb)) (X 50)),h:=iZ,r:=X 42}],
 call:={n:=75,f:=67,as:=[X 0,.bool (mW p),.bool (Hy p&&(ne&&nb)),X 20,X 22,X 37],h:=[],r:=X 30,h':=h1L}::{n:=75,f:=67,as:=[X 1,.bool (mW p),.bool false,X 21,X 22,X 37],h:=h1L,r:=X 31,h':=iZ}::{n:=90,f:=71,as:=[X 0,X 30,.tup [X 22,X 23],X 27,X 28,X 37],h:=iZ,r:=X 32,h':=iZ}::{n:=90,f:=71,as:=[X 1,X 31,.tup [X 22,X 23],X 27,X 28,X 37],h:=iZ,r:=X 33,h':=iZ}::fC p}
theorem kMn:([0,1,2,3,4].all λp=>bD λne=>bD λnb=>bD λbk=>bD λab=>bD λem=>eZ L1.prog (FM p ne nb bk ab em) 150 (bL 9 13) (pad (s9 p)) [] .next (pad (QF p (Hy p&&(ne&&nb)) em (bk&&ab))) iZ)=true:=by kernel_rfl
noncomputable def UZ(p:Nat)(n s:List Nat):List Nat:=match p with
 |1=>iy [45] n s
 |2=>iy [63] n s
 |_=>[63,32]++n
noncomputable def VM(p:Nat)(n s:List Nat):List Nat:=match p with
 |1=>iy [45] n s
 |_=>iy [] n s
noncomputable def U0(p:Nat)(ky:Bool)(n s:List Nat):List Nat:=match p with
 |2=>cond ky n (UZ 2 n s)++[58]
 |3=>([45,45,45,32,91]++n)++[44,32]
 |_=>cond ky n (UZ 4 n s)++cond ky [58,32] [32,58,32]
noncomputable def U1(p:Nat)(ky:Bool)(n s:List Nat):List Nat:=match p with
 |1=>D4++UZ 1 n s
 |2=>D4++U0 2 ky n s
 |3=>[45,45,45,32,91]++n
 |_=>[45,45,45,32,123]++U0 4 ky n s
noncomputable def VN(p:Nat)(ky:Bool)(n s m:List Nat):List Nat:=match p with
 |3=>U0 3 ky n s++m
 |_=>U1 4 ky n s++m
noncomputable def GZ(p:Nat)(ky:Bool)(n s m t:List Nat):List Nat:=match p with
 |0=>iy [45,45,45] n s
 |1=>U1 1 ky n s++VM 1 m t
 |2=>U1 2 ky n s++VM 2 m t
 |3=>VN 3 ky n s m++[93,10]
 |_=>VN 4 ky n s m++[125,10]
theorem lX(sg nd s:List Nat):(iy sg nd s).length≤sg.length+nd.length+2:=by
 unfold iy;rw [aY,aY,aY];have h1:(cond nd.isEmpty [] [32]:List Nat).length≤1:=by cases nd.isEmpty<;>simp
 have h2:(cond (dI s) [] [10]:List Nat).length≤1:=by cases dI s<;>simp
 lia
theorem A1{c:Bool}{a b:List Nat}{k:Nat}(ha:a.length≤k)(hb:b.length≤k):(cond c a b).length≤k:=by cases c;exact hb;exact ha
section
variable {p:Nat}{ky:Bool}{n s m t:List Nat}(hn:n.length≤3000)(hm:m.length≤3000)
include hn
theorem ow:(UZ p n s).length≤3010:=by
 match p with
 |0|3|_+4=>exact bP (m:=2) (bf _) hn (by decide)
 |1|2=>exact ak (lX _ _ _) (by simp;lia)
theorem oz:(U0 p ky n s).length≤3020:=by
 match p with
 |0|1|_+4=>exact bP (m:=3010) (n:=3) (A1 (ak hn (by decide)) (ow hn)) (A1 (by decide) (by decide)) (by decide)
 |2=>exact bP (m:=3010) (n:=1) (A1 (ak hn (by decide)) (ow hn)) (bf _) (by decide)
 |3=>exact bP (m:=3005) (n:=2) (bP (m:=5) (bf _) hn (by decide)) (bf _) (by decide)
theorem oA:(U1 p ky n s).length≤3030:=by
 match p with
 |1=>exact bP (m:=4) (bf _) (ow hn) (by decide)
 |2=>exact bP (m:=4) (bf _) (oz hn) (by decide)
 |3=>exact bP (m:=5) (bf _) hn (by decide)
 |0|_+4=>exact bP (m:=5) (bf _) (oz hn) (by decide)
include hm
theorem uC:(VN p ky n s m).length≤6030:=by
 match p with
 |3=>exact bP (oz hn) hm (by decide)
 |0|1|2|_+4=>exact bP (oA hn) hm (by decide)
theorem A2:(VM p m t).length≤3010:=by
 match p with
 |1=>exact ak (lX _ _ _) (by simp;lia)
 |0|_+2=>exact ak (lX _ _ _) (by simp;lia)
theorem uD:(GZ p ky n s m t).length≤6050:=by
 match p with
 |0=>exact ak (lX _ _ _) (by simp;lia)
 |1=>exact bP (oA hn) (A2 hn hm) (by decide)
 |2=>exact bP (oA hn) (A2 hn hm) (by decide)
 |3=>exact bP (m:=6030) (n:=2) (uC hn hm) (bf _) (by decide)
 |_+4=>exact bP (m:=6030) (n:=2) (uC hn hm) (bf _) (by decide)
end
noncomputable def keyOf(p:Nat)(v:List Nat):Bool:=Hy p&&(!v.isEmpty&&v.all λc=> !aW c)
noncomputable def qI(p b:Nat):Nat:=cond (mW p) (b+b) b
noncomputable def sy(v:List Nat):List Nat:=v.drop (v.length - 2)
noncomputable def jW(p:Nat)(v0 v1 s t:List Nat):Bool:=dI (cond (Nat.beq p 0) s t)&&(sy (cond (Nat.beq p 0) v0 v1)).all aW
noncomputable def xo(v:List Nat):List MV:=(gv [] v).map .str
noncomputable def Mc(o:Nat→Option MV)(w0 w1:List MV)(a0 a1:MV)(p0 p1 w:Bool)(b M:Nat)(p:Nat)(ky:Bool)(v0 v1 s t n m tl:List Nat):eN:=R [.str v0,.str v1,.none,.none,.none,.none,.none,.none,.none,.none,.none,.none,.none,.none,.none,.none,.none,.none,.none,.none,a0,a1,.bool p0,.bool p1,.none,.int b,.int ((b:Int) * 2),.str (eT M),.str [48+b],.none,uv s,uv t,.str n,.str m,.str (UZ p n s),.str (VM p m t),.str (U1 p ky n s),.bool w,.str (U0 p ky n s),.str (VN p ky n s m),.str tl,.lst (v0.map λc=>.bool (!aW c)),.lst (tl.map λc=>.bool (aW c)),.none,.none,.none,.none,.none,.none,.none,.str (GZ p ky n s m t),.str (GZ p ky n s m t++[46,46,46,10])] [w0,w1] o
noncomputable def kU:List (List Nat):=[[],[39],[34],[124],[62]]
section
variable {o:Nat→Option MV}{w0 w1:List MV}{a0 a1:MV}{p0 p1 w:Bool}{b M p:Nat}{ky:Bool}{v0 v1 s t n m tl:List Nat}
theorem U3(hp:p∈[0,1,2,3,4])(hn:n.length≤3000)(hm:m.length≤3000):∀e∈fB p ky,∀h,binOp e.1 (e.2.1.I (Mc o w0 w1 a0 a1 p0 p1 w b M p ky v0 v1 s t n m tl)) (e.2.2.1.I (Mc o w0 w1 a0 a1 p0 p1 w b M p ky v0 v1 s t n m tl)) h=some (e.2.2.2.I (Mc o w0 w1 a0 a1 p0 p1 w b M p ky v0 v1 s t n m tl)):=by
 have h34:=@ow p n s hn;have VO:=@oA p ky n s hn;have Zp:=@oz p ky n s hn;have h39:=@uC p ky n s m hn hm;have VP:=@uD p ky n s m t hn hm;have up:∀{x y:Nat},x≤y→y≤7000→x≤1000000:=λh1 h2=>by lia
 simp only [bq,dm,or_false] at hp;rcases hp with rfl|rfl|rfl|rfl|rfl
 ·exact aa
 ·exact af (λh=>cj rfl (up VO (by decide)) h)<|af (λh=>cj rfl (up VP (by decide)) h) aa
 ·refine af (λh=>?_)<|af (λh=>cj rfl (up VO (by decide)) h)<|af (λh=>cj rfl (up VP (by decide)) h) aa
  cases ky<;>exact cj rfl (up Zp (by decide)) h
 ·exact af (λh=>cj rfl (up VO (by decide)) h)<|af (λh=>cj rfl (up Zp (by decide)) h)<|af (λh=>cj rfl (up h39 (by decide)) h)<|af (λh=>cj rfl (up VP (by decide)) h) aa
 ·refine af (λh=>cj rfl (up h34 (by decide)) h)<|af (λh=>?_)<|af (λh=>cj rfl (up VO (by decide)) h)<|af (λh=>cj rfl (up h39 (by decide)) h)<|af (λh=>cj rfl (up VP (by decide)) h) aa
  cases ky<;>exact cj rfl (up Zp (by decide)) h
theorem U4(hp:p∈[0,1,2,3,4])(hs:s∈kU)(ht:t∈kU)(hn:n.length≤3000)(hm:m.length≤3000):∀e∈fC p,∀k,e.n≤k→(E L1.prog k).ca e.f (MV.Is (Mc o w0 w1 a0 a1 p0 p1 w b M p ky v0 v1 s t n m tl) e.as) (aV (Mc o w0 w1 a0 a1 p0 p1 w b M p ky v0 v1 s t n m tl) e.h)=some (e.r.I (Mc o w0 w1 a0 a1 p0 p1 w b M p ky v0 v1 s t n m tl),aV (Mc o w0 w1 a0 a1 p0 p1 w b M p ky v0 v1 s t n m tl) e.h'):=by
 simp only [bq,dm,or_false] at hp;rcases hp with rfl|rfl|rfl|rfl|rfl
 ·exact af (λk hk=>qz (by decide) (by lia) hs k hk) aa
 ·exact af (λk hk=>qz (by decide) (by lia) hs k hk)<|af (λk hk=>qz (by decide) (by lia) ht k hk) aa
 ·exact af (λk hk=>qz (by decide) (by lia) hs k hk)<|af (λk hk=>qz (by decide) (by lia) ht k hk) aa
 ·exact aa
 ·exact aa
theorem G1(hs:s∈kU):dz .In (uv s) (.lst [.str [124],.str [62]])=some (dI s):=by simp only [kU,bq,dm,or_false] at hs;rcases hs with rfl|rfl|rfl|rfl|rfl<;>rfl
theorem is_none(hs:s∈kU):dz .Is (uv s) .none=some s.isEmpty:=by simp only [kU,bq,dm,or_false] at hs;rcases hs with rfl|rfl|rfl|rfl|rfl<;>rfl
end
theorem A3(c:Nat):brk.contains c=aW c:=by rw [Bool.eq_iff_iff];simp [brk,aW]
theorem PY(c:Nat):dz .NotIn (bw c) (.str brk)=some (!aW c):=by rw [← A3];rfl
theorem U5(c:Nat):dz .In (bw c) (.str brk)=some (aW c):=by rw [← A3];rfl
theorem Me(v:List Nat)(h:Hp):dM (.str v) (some (.int (-2))) none h=some (.str (sy v)):=yK (fL rfl) rfl (wH v 1) h
noncomputable def Lk(l:List Int)(x:Nm)(v0 v1:List Nat):Loc:=(iz l x).set 9 (some (.lst [.str v0,.str v1]))
noncomputable def G3(l:List Int)(x:Nm)(p:Nat)(v0 v1 s t:List Nat):eN:=Mc (λi=>(iz l x).getD i none) (xo v0) (xo v1) x.a0 x.a1 x.p0 x.p1 x.w x.b (qI p x.b) p (keyOf p v0) v0 v1 s t (bG s x.p1 x.w (qI p x.b) (48+x.b) v0) (bG t x.p1 x.w (qI p x.b) (48+x.b) v1) (sy (cond (Nat.beq p 0) v0 v1))
structure CW(x:Nm)(p:Nat)(v0 v1:List Nat):Prop where
 pe:x.p=(p:Int)
 hp:p∈[0,1,2,3,4]
 a0:x.a0∈bQ
 a1:x.a1∈bQ
 pp:(x.p0||x.p1)=true
 b:x.b∈[2,4,3]
 c0:∀c∈v0,c∈bH
 c1:∀c∈v1,c∈bH
 l0:v0.length≤7
 l1:v1.length≤7
 w0:x.w=true→∀c∈v0,Nat.beq c 133=false
 w1:x.w=true→∀c∈v1,Nat.beq c 133=false
theorem uE{au fl key p0:Bool}{asked:MV}{v s:List Nat}(ha:asked∈bQ)(e:(aA au v).iO asked p0 fl key=s):s∈kU∧(s=[124]∨s=[62]→v≠[]):=by
 have h:=GP (au:=au) (fl:=fl) (key:=key) (p0:=p0) (v:=v) ha;rw [e] at h;clear e;rcases h with ⟨rfl,_⟩|rfl|rfl|⟨rfl,h⟩|⟨rfl,c,r,rfl,_⟩
 ·exact ⟨by decide,nofun⟩
 ·exact ⟨by decide,nofun⟩
 ·exact ⟨by decide,nofun⟩
 ·exact ⟨by decide,λ_=>h⟩
 ·exact ⟨by decide,λ_=>List.cons_ne_nil _ _⟩
theorem G4{b:Nat}(hb:b∈[2,4,3]):b≤4:=(by decide:∀b∈[2,4,3],b≤4) b hb
theorem yZ{b p:Nat}(hb:b∈[2,4,3]):qI p b≤8:=by
 unfold qI
 cases mW p
 ·exact ak (G4 hb) (by decide)
 ·exact Nat.add_le_add (G4 hb) (G4 hb)
theorem A5{b p:Nat}(hb:b∈[2,4,3]):qI p b≤100:=ak (yZ hb) (by decide)
theorem ln3{s v:List Nat}{p1 w:Bool}{M d:Nat}(hM:M≤100)(hc:∀c∈v,c∈bH)(hl:v.length≤7):(bG s p1 w M d v).length≤3000:=ak (mT hM hc) (ak (cO (Nat.mul_le_mul_left 200 hl) 112) (by decide))
theorem Mf{v:List Nat}(h:v.length≤7):(sy v).length≤1000:=by unfold sy;rw [List.length_drop];exact ak (Nat.sub_le _ _) (ak h (by decide))
theorem Ll{α:Type}{p:α→Prop}{a b:α}(c:Bool)(h:p a)(h':p b):p (cond c a b):=by
 cases c
 ·exact h'
 ·exact h
section
variable {l:List Int}{x:Nm}{p:Nat}{v0 v1 s t:List Nat}
theorem U6(h:Hp)(hb:x.b∈[2,4,3]):dM (.str [32,32,32,32,32,32,32,32]) none (some ((X (cond (mW p) 26 25)).I (G3 l x p v0 v1 s t))) h=some (.str (eT (qI p x.b))):=by
 have e:(X (cond (mW p) 26 25)).I (G3 l x p v0 v1 s t)=.int (qI p x.b:Nat):=by
  unfold qI
  cases mW p
  ·rfl
  ·exact congrArg MV.int ((Int.mul_comm _ _).trans (Int.two_mul _))
 rw [e];exact yK rfl (fL (bK (ak (yZ hb) (by decide)))) ((t6 _ _).trans (List.take_replicate.trans (congrArg (List.replicate · 32) (Nat.min_eq_left (yZ hb))))) h
theorem Zq(h:Hp):dM ((X (cond (Nat.beq p 0) 0 1)).I (G3 l x p v0 v1 s t)) (some (.int (-2))) none h=some (.str (sy (cond (Nat.beq p 0) v0 v1))):=by
 cases Nat.beq p 0
 ·exact Me v1 h
 ·exact Me v0 h
theorem U7(h:keyOf p v0=true):v0≠[]∧sj v0=true:=by
 unfold keyOf at h;rw [Bool.and_eq_true,Bool.and_eq_true,Bool.not_eq_true'] at h;refine ⟨λe=>?_,h.2.2⟩
 rw [e] at h;exact Bool.noConfusion h.2.1
theorem Zr(h0:v0.length≤7){k:Nat}(hk:20≤k):(E L1.prog k).ev cK (aG (G3 l x p v0 v1 s t) (pad (Zl p))) []=some (.lst (v0.map λc=>.bool (!aW c)),[]):=by obtain ⟨j,rfl⟩:=Nat.exists_eq_add_of_le' hk;exact i6 (ak h0 (by decide)) (e:=.sub (.aP 9) (.b7 (.int 0))) (elt:=.cmp (.aP 1) [.NotIn] [.az (.str brk)]) (s:=v0) (k:=j+19) rfl λc _=>congrArg (λo=>(Option.bind o λb=>some (b,([]:Hp))).bind (λb=>some (MV.bool b.1,b.2))) (PY c)
theorem Zs(h1:(sy (cond (Nat.beq p 0) v0 v1)).length≤1000){k:Nat}(hk:20≤k):(E L1.prog k).ev cT (aG (G3 l x p v0 v1 s t) (pad (Zo p (Hy p&&(!v0.isEmpty&&v0.all λc=> !aW c)) (X 50)))) [.list (xo v0),.list (xo v1)]=some (.lst ((sy (cond (Nat.beq p 0) v0 v1)).map λc=>.bool (aW c)),[.list (xo v0),.list (xo v1)]):=by obtain ⟨j,rfl⟩:=Nat.exists_eq_add_of_le' hk;exact i6 h1 (e:=.aP 19) (elt:=.cmp (.aP 1) [.In] [.az (.str brk)]) (s:=sy (cond (Nat.beq p 0) v0 v1)) (k:=j+19) rfl λc _=>congrArg (λo=>(Option.bind o λb=>some (b,[nK.list (xo v0),nK.list (xo v1)])).bind (λb=>some (MV.bool b.1,b.2))) (U5 c)
variable (H:CW x p v0 v1)
include H
theorem CW.n0:(bG s x.p1 x.w (qI p x.b) (48+x.b) v0).length≤3000:=ln3 (A5 H.b) H.c0 H.l0
theorem CW.n1:(bG t x.p1 x.w (qI p x.b) (48+x.b) v1).length≤3000:=ln3 (A5 H.b) H.c1 H.l1
omit H in
theorem U8{k:Nat}{w0:List MV}{b ky:Bool}{v:List Nat}{a:MV}(hk:75≤k)(ha:a∈bQ)(hc:∀c∈v,c∈bH)(hl:v.length≤7)(e:yV a (mW p) ky x.p0 x.w v=uv s):(E L1.prog k).ca 67 [.str v,.bool (mW p),.bool ky,a,.bool x.p0,.bool x.w] (VF b w0)=some (uv s,hC b w0 (xo v)):=by rw [← e];exact PC (b:=b) (w0:=w0) (w:=x.w) (fl:=mW p) (ky:=ky) (fr:=x.p0) (n:=⟨v,.bool (mW p),.bool ky,a,.bool x.p0,.bool x.w⟩) rfl rfl rfl rfl ha hc (ak hl (by decide)) k hk
theorem Zt(hs:s∈kU∧(s=[124]∨s=[62]→v0≠[]))(ht:t∈kU∧(t=[124]∨t=[62]→v1≠[]))(es:yV x.a0 (mW p) (keyOf p v0) x.p0 x.w v0=uv s)(et:yV x.a1 (mW p) false x.p0 x.w v1=uv t):
  Holds L1.prog (G3 l x p v0 v1 s t) (FM p (!v0.isEmpty) (v0.all λc=> !aW c) (dI (cond (Nat.beq p 0) s t)) ((sy (cond (Nat.beq p 0) v0 v1)).all aW) s.isEmpty) where
 ny:=aa
 cmp:=af sd<|af (by
  cases Nat.beq p 0
  ·exact G1 ht.1
  ·exact G1 hs.1)<|af (is_none hs.1) aa
 bin:=af (λh=>congrArg (Option.or · _) (jT (bK (ak (G4 H.b) (by decide))) rfl rfl))<|af (λh=>cj rfl (bP (m:=6050) (n:=4) (uD H.n0 H.n1) (bf _) (by decide)) h)<|U3 H.hp H.n0 H.n1
 sub:=af (λh=>lN ((by decide:∀b∈[2,4,3],([48,49,50,51,52]:List Nat)[b]? =some (48+b)) _ H.b) (ak (G4 H.b) (by decide)) h) aa
 qM:=af (λh=>U6 h H.b)<|af (λh=>Zq h) aa
 bi:=af (λh=>fM h)<|af (λh=>fM h) aa
 join:=aa
 room:=aa
 aug:=aa
 starts:=aa
 st:=aa
 ev:=af (λ_ hk=>Zr H.l0 hk)<|af (λ_ hk=>Zs (Ll (p:=λv=>(sy v).length≤1000) _ (Mf H.l0) (Mf H.l1)) hk) aa
 call:=af (λ_ hk=>U8 (b:=false) (w0:=[]) hk H.a0 H.c0 H.l0 es)<|af (λ_ hk=>U8 (b:=true) (w0:=xo v0) hk H.a1 H.c1 H.l1 et)<|af (λk hk=>GG (M:=qI p x.b) (A5 H.b) H.c0 (ak H.l0 (by decide)) hs.1 hs.2 k hk)<|af (λk hk=>GG (M:=qI p x.b) (A5 H.b) H.c1 (ak H.l1 (by decide)) ht.1 ht.2 k hk)<|U4 H.hp hs.1 ht.1 H.n0 H.n1
theorem Zu(hs:(aA x.w v0).iO x.a0 x.p0 (mW p) (keyOf p v0)=s)(ht:(aA x.w v1).iO x.a1 x.p0 (mW p) false=t):
  ∀k,150≤k→(E L1.prog k).ex (bL 9 13) (Lk l x v0 v1) []=some (.next,aG (G3 l x p v0 v1 s t) (pad (QF p (keyOf p v0) s.isEmpty (jW p v0 v1 s t))),[.list (xo v0),.list (xo v1)]):=λk hk=>
 have e:Lk l x v0 v1=aG (G3 l x p v0 v1 s t) (pad (s9 p)):=by unfold Lk iz;rw [H.pe];rfl
 e▸fq (Zt H (uE H.a0 hs) (uE H.a1 ht) ((AR H.a0 H.c0 H.w0 U7).symm.trans (congrArg uv hs)) ((AR H.a1 H.c1 H.w1 (key:=false) nofun).symm.trans (congrArg uv ht))) (aj (aj (aj (aj (aj (ao kMn H.hp) (!v0.isEmpty)) (v0.all λc=> !aW c)) (dI (cond (Nat.beq p 0) s t))) ((sy (cond (Nat.beq p 0) v0 v1)).all aW)) s.isEmpty) hk
end
theorem sA{s v:List Nat}(h:s∈kU):CU (c6 s v)=cond (dI s) [] [10]:=by simp only [kU,bq,dm,or_false] at h;rcases h with rfl|rfl|rfl|rfl|rfl<;>first|rfl|(cases v<;>rfl)
theorem A6{v:List Nat}(h:v≠[]):plus v=(sy v).all aW:=by
 obtain ⟨r,c,rfl⟩:∃r c,v=r++[c]:=⟨v.dropLast,v.getLast h,(List.dropLast_concat_getLast h).symm⟩;rcases List.eq_nil_or_concat r with rfl|⟨q,d,rfl⟩
 ·show i8 (!aW c) true _=(aW c&&true)
  cases aW c<;>rfl
 ·have e1:((q++[d])++[c]).getLastD 0=c:=by simp
  have e2:((q++[d])++[c]).length=q.length+2:=by simp
  have e3:((q++[d])++[c]).getD (((q++[d])++[c]).length - 2) 0=d:=by rw [e2];simp
  have e4:sy ((q++[d])++[c])=[d,c]:=by unfold sy;rw [e2];simp
  unfold plus;rw [List.concat_eq_append] at *;rw [e1,e3,e4,e2,decide_eq_false (by lia)]
  show i8 (!aW c) false (aW d)=(aW d&&(aW c&&true))
  cases aW c<;>cases aW d<;>rfl
theorem G6{s v:List Nat}{rt:Bool}(h:s∈kU)(hb:s=[124]∨s=[62]→v≠[]):mV (cJ s v rt)=cond (cond s.isEmpty rt (dI s&&(sy v).all aW)) [46,46,46,10] []:=by
 simp only [kU,bq,dm,or_false] at h;rcases h with rfl|rfl|rfl|rfl|rfl
 ·rfl
 ·rfl
 ·rfl
 ·rw [← A6 (hb (.inl rfl))];rfl
 ·rw [← A6 (hb (.inr rfl))];rfl
theorem A7(au:Bool)(v:List Nat):(aA au v).emp=v.isEmpty:=by cases v<;>rfl
theorem A8(au:Bool)(v:List Nat):(aA au v).mul= !sj v:=by
 cases v with
 |nil=>rfl
 |cons c r=>exact PD
theorem PZ:(bQ.all λa=>bD λp0=>bD λfl=>bD λsk=>bD λemp=>bD λmul=>bD λgu=>bD λie=>bD λgH=>bD λgf=>imp (fl||sk) (!dI (Gm a p0 fl sk emp mul gu ie gH gf))&&imp fl (imp (decide (Gm a p0 fl sk emp mul gu ie gH gf=[])) gu))=true:=by kernel_rfl
theorem QG{au fl key p0:Bool}{asked:MV}{v:List Nat}(ha:asked∈bQ)(hf:(fl||key)=true)(hv:key=true→v≠[]):c6 ((aA au v).iO asked p0 fl key) v=0:=by
 have h:=aj (aj (aj (aj (aj (aj (aj (aj (aj (ao PZ ha) p0) fl) key) (aA au v).emp) (aA au v).mul) (aA au v).gu) (aA au v).ie) (aA au v).gH) (aA au v).gf;have h:(imp (fl||key) (!dI ((aA au v).iO asked p0 fl key))&&imp fl (imp (decide ((aA au v).iO asked p0 fl key=[])) (aA au v).gu))=true:=h;generalize (aA au v).iO asked p0 fl key=s at h⊢;obtain ⟨h1,h2⟩:=bl.mp h;have h1:=ez h1 hf;rw [Bool.not_eq_true'] at h1;unfold c6;rw [h1]
 cases v with
 |cons c r=>rw [show (c::r).isEmpty=false from rfl,Bool.and_false];rfl
 |nil=>
  cases key with
  |true=>exact absurd rfl (hv rfl)
  |false=>
   cases fl with
   |false=>cases hf
   |true=>
    cases s with
    |cons _ _=>rfl
    |nil=>exact absurd (ez (ez h2 rfl) rfl) (by show ¬ (aA au []).gu=true;cases au<;>decide)
noncomputable def tOf(p:Nat)(ky:Bool)(n s m t:List Nat)(em kp:Bool):List Nat:=GZ p ky n s m t++cond (lW p em kp) [46,46,46,10] []
noncomputable def lY(l:List Int)(x:Nm)(p d:Nat)(v0 v1 s t:List Nat):Sc:=⟨xo v0,xo v1,v0,v1,d,x.w,x.p0,x.p1,x.b,x.a0,x.a1,.lst (Lj p (qO (.bool x.p0) (.bool x.p1) (.str v0) x.a0) (qO (.bool x.p0) (.bool x.p1) (.str v1) x.a1)),λi=>(aG (G3 l x p v0 v1 s t) (pad (QF p (keyOf p v0) s.isEmpty (jW p v0 v1 s t)))).getD i none⟩
noncomputable def tX(x:Nm)(p:Nat)(v0 v1 s t:List Nat):List Nat:=tOf p (keyOf p v0) (bG s x.p1 x.w (qI p x.b) (48+x.b) v0) s (bG t x.p1 x.w (qI p x.b) (48+x.b) v1) t s.isEmpty (jW p v0 v1 s t)
theorem sC{s v:List Nat}{p1 w:Bool}{M d:Nat}(h:c6 s v=0):(bG s p1 w M d v).isEmpty=false:=by
 cases s with
 |nil=>
  cases v with
  |nil=>cases h
  |cons _ _=>rfl
 |cons q r=>
  show (cond p1 [] [33,32]++AN q w M d v).isEmpty=false
  cases p1 with
  |false=>rfl
  |true=>
   show (AN q w M d v).isEmpty=false
   unfold AN
   cases Nat.beq q 39 with
   |true=>rfl
   |false=>cases Nat.beq q 34<;>rfl
section
variable {l:List Int}{x:Nm}{p:Nat}{v0 v1 s t:List Nat}(H:CW x p v0 v1)(hs:(aA x.w v0).iO x.a0 x.p0 (mW p) (keyOf p v0)=s)(ht:(aA x.w v1).iO x.a1 x.p0 (mW p) false=t)
include H hs ht
theorem qJ(d:Nat):(lY l x p d v0 v1 s t).Ok:=⟨H.b,H.c0,H.c1,H.l0,H.l1,H.a0,H.a1,H.pp⟩
theorem G7:s∈kU∧(s=[124]∨s=[62]→v0≠[]):=uE H.a0 hs
theorem G8:t∈kU∧(t=[124]∨t=[62]→v1≠[]):=uE H.a1 ht
theorem qK:(tX x p v0 v1 s t).length≤1000000:=by
 have hM:qI p x.b≤8:=by
  have hb:x.b=2∨x.b=4∨x.b=3:=by simpa using H.b
  unfold qI;cases mW p
  ·show x.b≤8;lia
  ·show x.b+x.b≤8;lia
 have h0:=H.l0;have h1:=H.l1;have hn0:(bG s x.p1 x.w (qI p x.b) (48+x.b) v0).length≤3000:=ak (mT (by lia) H.c0) (by lia)
 have zv:(bG t x.p1 x.w (qI p x.b) (48+x.b) v1).length≤3000:=ak (mT (by lia) H.c1) (by lia)
 exact bP (m:=6050) (n:=4) (uD hn0 zv) (A1 (bf _) (by decide)) (by decide)
end
theorem oB{p:Nat}{v:List Nat}(h:keyOf p v=true):Hy p=true∧v≠[]∧sj v=true:=by unfold keyOf at h;rw [Bool.and_eq_true,Bool.and_eq_true,Bool.not_eq_true'] at h;exact ⟨h.1,λe=>by rw [e] at h;exact absurd h.2.1 (by decide),h.2.2⟩
theorem G9{p:Nat}{v:List Nat}{au:Bool}(hp:Hy p=true)(h:keyOf p v=false):((aA au v).emp,(aA au v).mul)∈UK:=by
 rw [A7,A8];unfold keyOf at h;rw [hp,Bool.true_and] at h
 cases v with
 |nil=>exact cy ..
 |cons c r=>have h:sj (c::r)=false:=h;rw [h];exact bR _ (cy ..)
theorem A9{p:Nat}{v:List Nat}{au:Bool}(h:keyOf p v=true):(aA au v).emp=false∧(aA au v).mul=false:=by
 obtain ⟨_,h1,h2⟩:=oB h;rw [A7,A8,h2]
 cases v with
 |nil=>exact absurd rfl h1
 |cons c r=>exact ⟨rfl,rfl⟩
section
variable {l:List Int}{x:Nm}{p:Nat}{v0 v1 s t:List Nat}(H:CW x p v0 v1)(hs:(aA x.w v0).iO x.a0 x.p0 (mW p) (keyOf p v0)=s)(ht:(aA x.w v1).iO x.a1 x.p0 (mW p) false=t)
include H hs ht
def sD(l:List Int)(x:Nm)(p d:Nat)(v0 v1 s t:List Nat):Prop:=Runs (lY l x p d v0 v1 s t) (Lj p (qO (.bool x.p0) (.bool x.p1) (.str v0) x.a0) (qO (.bool x.p0) (.bool x.p1) (.str v1) x.a1)) (tX x p v0 v1 s t)
theorem go0(hp:p=0):sD l x p 1 v0 v1 s t:=by
 subst hp;obtain ⟨s1,s2⟩:=G7 H hs ht;refine PL (lY l x 0 1 v0 v1 s t) (qJ H hs ht 1) hs ?_ (qK H hs ht);rw [sA s1];show iy [45,45,45] _ s++cond ((dI s&&(sy v0).all aW)||s.isEmpty) _ _=([45,45,45]++(cond (bG s x.p1 x.w x.b (48+x.b) v0).isEmpty [] [32]++bG s x.p1 x.w x.b (48+x.b) v0))++(cond (dI s) [] [10]++mV (cJ s v0 true))
 rw [G6 s1 s2];unfold iy;simp only [bJ];rw [show ((dI s&&(sy v0).all aW)||s.isEmpty)=cond s.isEmpty true (dI s&&(sy v0).all aW) by cases s.isEmpty<;>simp]
 rfl
theorem P0(hp:Nat.beq p 0=false):cond (lW p s.isEmpty (jW p v0 v1 s t)) [46,46,46,10] []=mV (cJ t v1 false):=by
 obtain ⟨t1,t2⟩:=G8 H hs ht;rw [G6 t1 t2];unfold lW jW;rw [hp];show cond ((dI t&&(sy v1).all aW)||false) _ _=_
 rw [Bool.or_false]
 cases t with
 |nil=>rfl
 |cons q r=>rfl
theorem go1(hp:p=1):sD l x p 1 v0 v1 s t:=by
 subst hp;obtain ⟨s1,s2⟩:=G7 H hs ht;obtain ⟨t1,t2⟩:=G8 H hs ht;refine PN (lY l x 1 1 v0 v1 s t) (qJ H hs ht 1) rfl hs ht ?_ (qK H hs ht);rw [sA t1];show ((D4++iy [45] _ s)++iy [45] _ t)++cond (lW 1 s.isEmpty (jW 1 v0 v1 s t)) _ _=(([45,45,45,10,45]++(cond (bG s x.p1 x.w x.b (48+x.b) v0).isEmpty [] [32]++bG s x.p1 x.w x.b (48+x.b) v0))++(CU (c6 s v0)++[45])++(cond (bG t x.p1 x.w x.b (48+x.b) v1).isEmpty [] [32]++bG t x.p1 x.w x.b (48+x.b) v1))++(cond (dI t) [] [10]++mV (cJ t v1 false))
 rw [P0 H hs ht rfl,sA s1];unfold iy;simp only [bJ];rfl
theorem go2(hp:p=2):sD l x p 1 v0 v1 s t:=by
 subst hp;obtain ⟨s1,s2⟩:=G7 H hs ht;obtain ⟨t1,t2⟩:=G8 H hs ht;have hd:=P0 H hs ht rfl;have hlen:=qK H hs ht
 cases hk:keyOf 2 v0 with
 |true=>
  have zJ:=hs;rw [hk] at zJ;refine PO (lY l x 2 1 v0 v1 s t) (qJ H hs ht 1) rfl zJ ht (A9 hk) (by rw [← zJ];exact QG H.a0 rfl λ_=>(oB hk).2.1) ?_ hlen
  rw [sA t1];show GZ 2 (keyOf 2 v0) _ s _ t++cond (lW 2 s.isEmpty (jW 2 v0 v1 s t)) _ _=(([45,45,45,10]++(cond (bG s x.p1 x.w x.b (48+x.b) v0).isEmpty [] []++bG s x.p1 x.w x.b (48+x.b) v0))++[58]++(cond (bG t x.p1 x.w x.b (48+x.b) v1).isEmpty [] [32]++bG t x.p1 x.w x.b (48+x.b) v1))++(cond (dI t) [] [10]++mV (cJ t v1 false))
  rw [hd,hk,show (cond (bG s x.p1 x.w x.b (48+x.b) v0).isEmpty [] []:List Nat)=[] by cases (bG s x.p1 x.w x.b (48+x.b) v0).isEmpty<;>rfl]
  show ((D4++(_++[58]))++iy [] _ t)++_=_
  unfold iy;simp only [bJ];rfl
 |false=>
  have zJ:=hs;rw [hk] at zJ;refine Lg (lY l x 2 1 v0 v1 s t) (qJ H hs ht 1) rfl zJ ht (G9 rfl hk) ?_ hlen;rw [sA t1];show GZ 2 (keyOf 2 v0) _ s _ t++cond (lW 2 s.isEmpty (jW 2 v0 v1 s t)) _ _=(([45,45,45,10,63]++(cond (bG s x.p1 x.w x.b (48+x.b) v0).isEmpty [] [32]++bG s x.p1 x.w x.b (48+x.b) v0))++(CU (c6 s v0)++[58])++(cond (bG t x.p1 x.w x.b (48+x.b) v1).isEmpty [] [32]++bG t x.p1 x.w x.b (48+x.b) v1))++(cond (dI t) [] [10]++mV (cJ t v1 false))
  rw [hd,hk,sA s1];show ((D4++(iy [63] _ s++[58]))++iy [] _ t)++_=_
  unfold iy;simp only [bJ];rfl
theorem U9(hf:mW p=true)(hp:Nat.beq p 0=false):cond (lW p s.isEmpty (jW p v0 v1 s t)) [46,46,46,10] ([]:List Nat)=[]:=by
 rw [P0 H hs ht hp];have hk:c6 t v1=0:=by rw [← ht];exact QG H.a1 (by rw [hf];rfl) (λh=>by cases h)
 unfold cJ;unfold c6 at hk
 cases t with
 |nil=>rfl
 |cons q r=>
  have hk:cond (dI (q::r)) 1 0=0:=hk;show mV (cond (dI (q::r)) (plus v1) false)=[]
  cases hb:dI (q::r) with
  |false=>rfl
  |true=>rw [hb] at hk;cases hk
theorem go3(hp:p=3):sD l x p 1 v0 v1 s t:=by
 subst hp;have yY:c6 s v0=0:=by rw [← hs];exact QG H.a0 rfl λh=>(oB h).2.1
 have vm:c6 t v1=0:=by rw [← ht];exact QG H.a1 rfl (λh=>by cases h)
 refine PS (lY l x 3 1 v0 v1 s t) (qJ H hs ht 1) rfl hs ht yY vm ?_ (qK H hs ht);show (((([45,45,45,32,91]++bG s x.p1 x.w (x.b+x.b) (48+x.b) v0)++[44,32])++bG t x.p1 x.w (x.b+x.b) (48+x.b) v1)++[93,10])++cond (lW 3 s.isEmpty (jW 3 v0 v1 s t)) _ _=(([45,45,45,32,91]++(cond (bG s x.p1 x.w (x.b+x.b) (48+x.b) v0).isEmpty [] []++bG s x.p1 x.w (x.b+x.b) (48+x.b) v0))++[44]++(cond (bG t x.p1 x.w (x.b+x.b) (48+x.b) v1).isEmpty [] [32]++bG t x.p1 x.w (x.b+x.b) (48+x.b) v1))++[93,10]
 rw [U9 H hs ht rfl rfl,sC yY,sC vm];simp only [bJ];rfl
theorem go4(hp:p=4):∃d,sD l x p d v0 v1 s t:=by
 subst hp;have yY:c6 s v0=0:=by rw [← hs];exact QG H.a0 rfl λh=>(oB h).2.1
 have vm:c6 t v1=0:=by rw [← ht];exact QG H.a1 rfl (λh=>by cases h)
 have hd:=U9 H hs ht rfl rfl;have hlen:=qK H hs ht
 cases hk:keyOf 4 v0 with
 |true=>
  have zJ:=hs;rw [hk] at zJ;refine ⟨1,PT (lY l x 4 1 v0 v1 s t) (qJ H hs ht 1) rfl zJ ht (A9 hk) yY vm ?_ hlen⟩;show GZ 4 (keyOf 4 v0) _ s _ t++cond (lW 4 s.isEmpty (jW 4 v0 v1 s t)) _ _=(([45,45,45,32,123]++(cond (bG s x.p1 x.w (x.b+x.b) (48+x.b) v0).isEmpty [] []++bG s x.p1 x.w (x.b+x.b) (48+x.b) v0))++[58]++(cond (bG t x.p1 x.w (x.b+x.b) (48+x.b) v1).isEmpty [] [32]++bG t x.p1 x.w (x.b+x.b) (48+x.b) v1))++[125,10]
  rw [hd,hk,sC yY,sC vm];show ((([45,45,45,32,123]++(_++[58,32]))++_)++[125,10])++[]=_
  simp only [bJ];rfl
 |false=>
  have zJ:=hs;rw [hk] at zJ;refine ⟨2,Lh (lY l x 4 2 v0 v1 s t) (qJ H hs ht 2) rfl zJ ht (G9 rfl hk) yY vm ?_ hlen⟩;show GZ 4 (keyOf 4 v0) _ s _ t++cond (lW 4 s.isEmpty (jW 4 v0 v1 s t)) _ _=(([45,45,45,32,123,63]++(cond (bG s x.p1 x.w (x.b+x.b) (48+x.b) v0).isEmpty [] [32]++bG s x.p1 x.w (x.b+x.b) (48+x.b) v0))++[32,58]++(cond (bG t x.p1 x.w (x.b+x.b) (48+x.b) v1).isEmpty [] [32]++bG t x.p1 x.w (x.b+x.b) (48+x.b) v1))++[125,10]
  rw [hd,hk,sC yY,sC vm];show ((([45,45,45,32,123]++(([63,32]++_)++[32,58,32]))++_)++[125,10])++[]=_
  simp only [bJ];rfl
theorem go7:∃d,sD l x p d v0 v1 s t:=by
 have hp:=H.hp;simp only [bq,dm,or_false] at hp;rcases hp with h|h|h|h|h
 ·exact ⟨1,go0 H hs ht h⟩
 ·exact ⟨1,go1 H hs ht h⟩
 ·exact ⟨1,go2 H hs ht h⟩
 ·exact ⟨1,go3 H hs ht h⟩
 ·exact go4 H hs ht h
end
theorem CX{ρ:eN}:Holds L1.prog ρ {}:=⟨aa,aa,aa,aa,aa,aa,aa,aa,aa,aa,aa,aa,aa⟩
theorem lZ(l:List Int):(qH l).length≤7∧(qX l).length≤7:=by
 refine ⟨?_,List.length_take_le ..⟩;unfold qH
 cases q:decide (4< l.length)
 ·exact ak (Nat.not_lt.mp (of_decide_eq_false q)) (by decide)
 ·exact List.length_take_le ..
section
variable {l:List Int}{x:Nm}{p:Nat}{v0 v1 s t:List Nat}(H:CW x p v0 v1)
include H
theorem Zv(d:Nat):∀k,200≤k→(E L1.prog k).ex (PJ 22 1) (aG (G3 l x p v0 v1 s t) (pad (QF p (keyOf p v0) s.isEmpty (jW p v0 v1 s t)))) [.list (xo v0),.list (xo v1)]=some (.next,(lY l x p d v0 v1 s t).aP (Lj p (qO (.bool x.p0) (.bool x.p1) (.str v0) x.a0) (qO (.bool x.p0) (.bool x.p1) (.str v1) x.a1)) (tX x p v0 v1 s t),(lY l x p d v0 v1 s t).hp):=λk hk=>by
 obtain ⟨P,a0,a1,p0,p1,w,tb,b⟩:=x;have Ze:(b:Int)∈[(2:Int),4,3]:=by
  have hb:b=2∨b=4∨b=3:=by simpa using H.b
  rcases hb with rfl|rfl|rfl<;>simp
 have h:=fq (ρ:=(lY l ⟨P,a0,a1,p0,p1,w,tb,b⟩ p d v0 v1 s t).R [] [] 0 0 0 0 false false (tX ⟨P,a0,a1,p0,p1,w,tb,b⟩ p v0 v1 s t)) CX (ao YY (a:=(b:Int)) Ze) hk;have e:aG (G3 l ⟨P,a0,a1,p0,p1,w,tb,b⟩ p v0 v1 s t) (pad (QF p (keyOf p v0) s.isEmpty (jW p v0 v1 s t)))=aG ((lY l ⟨P,a0,a1,p0,p1,w,tb,b⟩ p d v0 v1 s t).R [] [] 0 0 0 0 false false (tX ⟨P,a0,a1,p0,p1,w,tb,b⟩ p v0 v1 s t)) ((((((List.range 25).map SL.o).set 5 (.v (X 37))).set 7 (.v (.int b))).set 22 (.v (X 39))).set 17 (.v (X 31))):=by
  have hT:tX ⟨P,a0,a1,p0,p1,w,tb,b⟩ p v0 v1 s t=cond (lW p s.isEmpty (jW p v0 v1 s t)) (GZ p (keyOf p v0) (bG s p1 w (qI p b) (48+b) v0) s (bG t p1 w (qI p b) (48+b) v1) t++[46,46,46,10]) (GZ p (keyOf p v0) (bG s p1 w (qI p b) (48+b) v0) s (bG t p1 w (qI p b) (48+b) v1) t):=by
   show GZ _ _ _ _ _ _++_=_
   cases lW p s.isEmpty (jW p v0 v1 s t)
   ·exact cH _
   ·rfl
  have hp:=H.hp;rw [hT];unfold lY QF
  cases lW p s.isEmpty (jW p v0 v1 s t)<;>(simp only [bq,dm,or_false] at hp;rcases hp with rfl|rfl|rfl|rfl|rfl<;>rfl)
 rw [e];exact h
theorem P1(h0:v0=val x.w x.tb (qH l))(h1:v1=val x.w x.tb (qX l))(hx:x=nm l)(ht:x.tb.length=12)(hl:l.length≤63):∃n h',n≤480∧(E L1.prog n).ca 73 [.lst (l.map .int)] []=some (.bool true,h'):=by
 obtain ⟨s,hs⟩:∃s,(aA x.w v0).iO x.a0 x.p0 (mW p) (keyOf p v0)=s:=⟨_,rfl⟩;obtain ⟨t,ht'⟩:∃t,(aA x.w v1).iO x.a1 x.p0 (mW p) false=t:=⟨_,rfl⟩;obtain ⟨d,l',h',hr⟩:=go7 (l:=l) H hs ht';have wM:L1.Fw.body=bL 0 8++(bL 8 1++(bL 9 13++(PJ 22 1++PJ 23 2))):=by kernel_rfl
 have hB:=Zk (l:=l) (x:=x) ht (ak (lZ l).1 (by decide)) (ak (lZ l).2 (by decide))
 have eB:UX l x=Lk l x v0 v1:=by rw [h0,h1];rfl
 rw [eB] at hB;have hA:=Zh hl;rw [← hx] at hA;refine ⟨425,h',by decide,GF (fe:=L1.Fw) (l2:=l') (fl:=.ret (.bool true)) rfl (n:=424) (λk hk=>?_) 425 (bf _)⟩
 rw [wM];exact jt (N:=424) hA (jt (N:=416) hB (jt (N:=415) (Zu (l:=l) H hs ht') (jt (N:=401) (Zv (l:=l) (s:=s) (t:=t) H d) hr (by decide) (bf _)) (by decide) (cM (by kernel_rfl))) (by decide) (cM (by kernel_rfl))) (by decide) (cM (by kernel_rfl)) k hk
end
theorem in5{x:Int}(h:0≤x∧x< 5):∃n:Nat,x=n∧n∈[0,1,2,3,4]:=by
 obtain ⟨n,rfl⟩:=Int.eq_ofNat_of_zero_le h.1;have:n=0∨n=1∨n=2∨n=3∨n=4:=by lia
 exact ⟨n,rfl,by simpa using this⟩
theorem Hg{α:Type}{xs:List α}{d:α}{n:Int}(h:0≤n∧n< xs.length):i3 xs d n∈xs:=by
 obtain ⟨k,rfl⟩:=Int.eq_ofNat_of_zero_le h.1;have hk:=Int.ofNat_lt.mp h.2;show xs.getD k d∈xs
 rw [List.getD_eq_getElem?_getD,List.getElem?_eq_getElem hk];exact List.getElem_mem hk
theorem xe{n:Int}(h:0≤n∧n< 5):i3 bQ .none n∈bQ:=Hg h
theorem Va{n:Int}(h:0≤n∧n< 3):i3 Ma [] n∈Ma:=Hg h
theorem Hh:(Ma.all λt=>decide (t.length=12)&&t.all λc=>bH.contains c)=true:=by decide
theorem Hi{w:Bool}{t:List Nat}(ht:t∈Ma)(r:List Int):(∀c∈val w t r,c∈bH)∧(w=true→∀c∈val w t r,Nat.beq c 133=false):=by
 have h:=ao Hh ht;rw [Bool.and_eq_true] at h;have hlen:t.length=12:=bN h.1;constructor
 ·intro c hc
  obtain ⟨PM,Ip⟩:=List.mem_filter.mp hc;obtain ⟨n,_,rfl⟩:=List.mem_map.mp PM;have hn:(n % 12).toNat< t.length:=by
   have h0:0≤n % 12:=Int.emod_nonneg _ (by decide)
   have h1:n % 12< 12:=Int.emod_lt_of_pos _ (by decide)
   rw [hlen];lia
  have hm:Mb t n∈t:=by unfold Mb;rw [List.getD_eq_getElem?_getD,List.getElem?_eq_getElem hn];exact List.getElem_mem hn
  exact List.contains_iff_mem.mp (ao h.2 hm)
 ·intro hw c hc
  have hk:=(List.mem_filter.mp hc).2;unfold keep at hk;rw [hw,Bool.not_eq_true'] at hk;exact hk
theorem Ba(w:Bool)(t:List Nat)(r:List Int)(h:r.length≤7):(val w t r).length≤7:=ak (List.length_filter_le ..) (by rw [cu];exact h)
theorem Hj(l:List Int)(hl:l.length≤63):∃n h',n≤480∧(E L1.prog n).ca 73 [.lst (l.map .int)] []=some (.bool true,h'):=by
 have h5:=md5 (num l 1);have h5':=md5 (num l 1 / 5);have h3:=QE (num l 2);have h4:=QE (num l 3);have h6:=QE (num l 3 / 3);obtain ⟨p,hp,hp5⟩:=in5 (md5 (num l 0));have Zw:(nm l).tb∈Ma:=Va h4;have hlen:(nm l).tb.length=12:=by have h:=ao Hh Zw;rw [Bool.and_eq_true] at h;exact bN h.1
 obtain ⟨c0,w0⟩:=Hi (w:=(nm l).w) Zw (qH l);obtain ⟨c1,w1⟩:=Hi (w:=(nm l).w) Zw (qX l);refine P1 (p:=p) (x:=nm l) ⟨hp,hp5,xe h5,xe h5',?_,?_,c0,c1,Ba _ _ _ (lZ l).1,Ba _ _ _ (lZ l).2,w0,w1⟩ rfl rfl rfl hlen hl
 ·show (i3 [true,true,false] false (num l 2 % 3)||i3 [true,false,true] false (num l 2 % 3))=true
  rcases in3 h3 with e|e|e<;>rw [e]<;>rfl
 ·show i3 [2,4,3] 0 (num l 3 / 3 % 3)∈[2,4,3]
  exact Hg h6
end
section
theorem aab:PySem.Challenge.rw_im0052_01.Holds:=MB (walk1 Hj)
end
end Mine
theorem PySem.Challenge.cw_im0052_01_holds : PySem.Challenge.rw_im0052_01.Holds :=
  Mine.aab
