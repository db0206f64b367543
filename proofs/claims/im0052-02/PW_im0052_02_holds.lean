import PyProof.Rows.All
import Wide.All
import OpenK.AllK
import Wide.FinOn
import PySem.Syntax
import PyProof.TableCode
import Lean
import PySem.Challenge.RW_im0052_02
set_option Elab.async false
set_option genSizeOf false
set_option genInjectivity false
set_option maxRecDepth 100000
set_option linter.all false
set_option backward.match.sparseCases false
set_option tactic.hygienic false
namespace Mine
noncomputable abbrev ah:=@Nat.le_trans
noncomputable abbrev aL.{u,v}:=@Option.bind_eq_some_iff.{u,v}
noncomputable abbrev aZ:=@Bool.and_eq_true_iff
noncomputable abbrev aM.{u}:=@List.length_append.{u}
noncomputable abbrev cU.{u}:=@List.append_assoc.{u}
noncomputable abbrev b7.{u}:=@List.mem_cons_self.{u}
noncomputable abbrev dw.{u,v}:=@Option.map_eq_some_iff.{u,v}
noncomputable abbrev bI:=@Nat.le_add_right
noncomputable abbrev bJ.{u}:=@Option.some.inj.{u}
noncomputable abbrev bf:=@Nat.le_refl
noncomputable abbrev bP.{u}:=@List.mem_cons_of_mem.{u}
noncomputable abbrev bQ:=@Nat.eq_of_beq_eq_true
noncomputable abbrev bR:=@Bool.false_ne_true
noncomputable abbrev c8:=@Nat.le_of_ble_eq_true
noncomputable abbrev fE:=@Nat.add_le_add_right
noncomputable abbrev bO.{u}:=@List.mem_cons.{u}
noncomputable abbrev cL.{u,v}:=@List.length_map.{u,v}
noncomputable abbrev cM.{u}:=@List.append_nil.{u}
noncomputable abbrev bx:=@Nat.add_le_add_left
noncomputable abbrev ez.{u}:=@List.mem_singleton.{u}
noncomputable abbrev fF.{u}:=@List.not_mem_nil.{u}
noncomputable abbrev aY.{u}:=@Option.some_ne_none.{u}
noncomputable abbrev bz:=@of_decide_eq_true
section
open PySem PySem.W
structure Bd where
 os:List Obj
 n:Nat
 t:Nat
 main:List DictEntry
 mod:Value
 lines:List Value
 tys:List (Str×Addr×List Value)
 subs:List DictEntry
 ups:List (Addr×Addr)
noncomputable def nC(x:String):Str:=Str.ofString x
noncomputable def jz(T:String)(d:Data):Obj:={cls:=.type T,data:=d}
noncomputable def qZ(l:List Value):Obj:=jz "tuple" (.seq l.toArray)
noncomputable def FP(l:List Value):Obj:={cls:=.none,data:=.fields l.toArray}
noncomputable def ent(P:Params)(k:Str)(t:Nat)(v:Value):DictEntry:={hash:=PyData.keyHash P k,key:=.str k t,val:=v}
noncomputable def toks:List Str→Nat→List Value
 |[],_=>[]
 |x::r,t=>.str x t::toks r (t+1)
noncomputable def push(b:Bd)(o:Obj):Bd:={b with os:=o::b.os,n:=b.n+1}
noncomputable def claim:Str:=nC "/claim/cut.py"
noncomputable def eB(n:Nat):Value:=.int n 0
noncomputable def locals(sc:Scope):List Str:=(sc.names.filter λp=>p.2==.local).map (·.1)
noncomputable def FQ(sc:Scope):Bool:=sc.names.any λp=>p.2==.cell
noncomputable def isConst:Expr→Value
 |.Constant .none _ _=>.none
 |.Constant (.bool b) _ _=>.bool b
 |_=>.none
noncomputable def Od(qual:Str)(name:Str)(ps:Arguments)(body:List Stmt)(sc:Scope)(line:Nat)(b:Bd):Bd×Addr×Addr:=
 let b0:=if ps.defaults.isEmpty then b else push b (qZ (ps.defaults.map isConst))
 let dv:Value:=if ps.defaults.isEmpty then .none else .ref b.n
 let a:=b0.n
 let t:=b.t
 let cell:=FQ sc
 let vs:=locals sc
 let nv:=if cell then 0 else vs.length
 let f0:FuncData:={name,qualname:=qual,params:=ps,body:=.stmts body,scope:=sc,globals:=0,closure:=[],defaults:=.none,kwdefaults:=.none}
 let k:=if cell then a+2 else a+4
 let code:Obj:=jz "code" (.fields (#[.str name t,.str qual (t+1),.str claim (t+2),eB line,eB ps.args.length,eB 0,eB 0,eB 3,.ref a,.bool true,eB 181,.ref (a+1),.none,(if cell then .none else .ref (a+2)),(if cell then .none else .ref (a+3)),.ref k,eB (t+3+nv),eB line,.str claim (t+4+nv)]:Array Value))
 let os:=if cell then [qZ [],FP [],{cls:=.none,data:=.func f0},code] else [qZ [],FP [],qZ (toks vs (t+3)),qZ [],{cls:=.none,data:=.func f0},code]
 let fn:Obj:=jz "function" (.func {f0 with globals:=mainNs,defaults:=dv,pyModule:=b.mod,code:=.ref (k+1)})
 let b1:=(os++[fn]).foldl push b0
 ({b1 with t:=t+5+nv},k+1,k+2)
noncomputable def strVal:Expr→Option Str
 |.Constant (.str s) _ _=>some s
 |_=>none
noncomputable def Oe(P:Params):Expr→Bd→Bd×Value
 |.Constant (.str s) _ _,b=>({b with t:=b.t+1},.str s b.t)
 |.Dict ks vs _,b=>
  let ps:=ks.zip vs
  let es:=(ps.zipIdx).map λ(p,i)=>(match p.1.bind strVal,strVal p.2 with
   |some x,some y=>{hash:=PyData.keyHash P x,key:=.str x (b.t+2 * i),val:=.str y (b.t+2 * i+1)}
   |_,_=>{hash:=0,key:=.none,val:=.none}:DictEntry)
  ({push b (jz "dict" (.dict es.toArray es.length)) with t:=b.t+3 * ps.length},.ref b.n)
 |.List es _,b=>
  if es.all λe=>(strVal e).isSome then
   ({push b (jz "list" (.seq (toks (es.filterMap strVal) b.t).toArray)) with t:=b.t+es.length},.ref b.n)
  else
   let (b',vs):=es.foldl (λ(q:Bd×List Value) e=>match e with
    |.List l _=>({push q.1 (jz "list" (.seq (toks (l.filterMap strVal) q.1.t).toArray)) with t:=q.1.t+l.length},.ref q.1.n::q.2)
    |_=>q) (b,[])
   (push b' (jz "list" (.seq vs.reverse.toArray)),.ref b'.n)
 |_,b=>(b,.none)
structure Cb where
 b:Bd
 ns:List DictEntry
 lines:List Value
noncomputable def FT(P:Params)(Of:Str)(c:Cb):Stmt→Cb
 |.FunctionDef name ps body _ _ _ sc _ _ pos=>
  let (b,code,fn):=Od (Of++nC "."++name) name ps body sc pos.line c.b
  {b:={b with t:=b.t+1},ns:=ent P name b.t (.ref fn)::c.ns,lines:=.ref code::eB 4::eB pos.line::c.lines}
 |.Assign [.Name x _] e _=>
  let (b,v):=Oe P e c.b
  {c with b:={b with t:=b.t+1},ns:=ent P x b.t v::c.ns}
 |_=>c
noncomputable def bind(P:Params)(b:Bd)(x:Str)(v:Value):Bd:={b with t:=b.t+1,main:=ent P x b.t v::b.main}
noncomputable def objNew:Value:=.builtin "object.__new__"
noncomputable def KA:Value:=.builtin "Exception.__new__"
noncomputable def baseOf(b:Bd):List Expr→List Value×List Value
 |[.Name x _]=>match b.tys.lookup x with
  |some (a,mro)=>([.ref a],mro)
  |none=>if x==nC "Exception" then ([.type "Exception"],[.type "Exception",.type "BaseException",.type "object"]) else ([.type "object"],[.type "object"])
 |_=>([],[.type "object"])
noncomputable def FU(P:Params)(b:Bd):Stmt→Bd
 |.FunctionDef name ps body _ _ _ sc _ _ pos=>
  let (b1,code,fn):=Od name name ps body sc pos.line b
  bind P {b1 with lines:=.ref code::eB 0::eB pos.line::b1.lines} name (.ref fn)
 |.Assign [.Name x _] e _=>
  let (b1,v):=Oe P e b
  if x==nC "__name__" then {b1 with mod:=v,t:=b1.t+1}
  else bind P {b1 with t:=b1.t} x v
 |.ClassDef name bases _ body _ _ _ _ _ st pos=>
  let (bs,FW):=baseOf b bases
  let isExc:=FW.contains (.type "Exception")
  let ri:=FW.length==1
  let nP:=isExc&&FW.length==3
  let t:=b.t
  let a:=b.n
  let file:=claim
  let b1:=push (push b (qZ bs)) (jz "builtin_function_or_method" (.fields #[.builtin "type.__prepare__",.type "type"]))
  let line:=pos.line
  let c0:Cb:={b:={b1 with n:=a+7,t:=t+12},ns:=[ent P (nC "__firstlineno__") (t+11) (.int line (t+10)),ent P (nC "__qualname__") (t+9) (.str name (t+8)),ent P (nC "__module__") (t+7) b.mod],lines:=[]}
  let c0:={c0 with b:={c0.b with os:=[]}}
  let c:=body.foldl (FT P name) c0
  let tt:=c.b.t
  let ns:=(ent P (nC "__static_attributes__") (tt+st.length) (.ref c.b.n)::c.ns).reverse
  let code:Obj:=jz "code" (.fields #[.str name (t+2),.str name (t+3),.str file (t+4),eB line,eB 0,eB 0,eB 0,eB 0,.ref (a+3),.bool false,eB 181,.ref (a+4),.none,.none,.none,.none,eB (t+5),eB line,.str file (t+6)])
  let frame:Obj:={cls:=.type "frame",slots:=#[some (.ref (a+5)),some (.ref mainNs),some (.ref (a+2)),none,some b.mod,none,some (.ref 0)]}
  let head:=[frame,code,FP c.lines.reverse,qZ [],jz "dict" (.dict ns.toArray ns.length)]
  let XO:=c.b.os++head++b1.os
  let b2:Bd:=push {c.b with os:=XO,t:=tt+st.length+1} (qZ (toks st tt))
  let C:=b2.n+1
  let t2:=b2.t
  let XQ:=ns.filter λe=> !(e.key.isStr (nC "__qualname__"))
  let own:=match ri,nP with
   |true,_=>[ent P (nC "__dict__") (t2+1) (.ref (C+1)),ent P (nC "__weakref__") (t2+3) (.ref (C+2)),ent P (nC "__doc__") (t2+4) .none]
   |_,true=>[ent P (nC "__weakref__") (t2+1) (.ref (C+1)),ent P (nC "__doc__") (t2+2) .none]
   |_,_=>[ent P (nC "__doc__") t2 .none]
  let t3:=match ri,nP with|true,_=>t2+5|_,true=>t2+5|_,_=>t2+1
  let S9:List Obj:=match ri,nP with
   |true,_=>[jz "getset_descriptor" (.fields #[.str (nC "__dict__") t2,.ref C,.builtin "function.__dict__",.builtin "function.__dict__#set"]),jz "getset_descriptor" (.fields #[.str (nC "__weakref__") (t2+2),.ref C,.builtin "ExceptionGroup.__weakref__",.none])]
   |_,true=>[jz "getset_descriptor" (.fields #[.str (nC "__weakref__") t2,.ref C,.builtin "ExceptionGroup.__weakref__",.none])]
   |_,_=>[]
  let mro:=.ref C::FW
  let ty:Obj:={cls:=.type "type",data:=.cls {name,bases:=(if bs.isEmpty then [.type "object"] else bs),mro,ns:=C - 1,qualname:=name},slots:=#[(if bs.isEmpty then none else some (.ref a)),none,some (.str name t),some (.str name (t+8)),some (if isExc then KA else objNew),some (.bool true)]}
  let b3:=([jz "dict" (.dict (XQ++own).toArray (1+own.length)),ty]++S9++[jz "super" (.fields #[.ref C,.ref C,.ref C])]).foldl push b2
  let b4:=push b3 (jz "builtin_function_or_method" (.fields #[.builtin "object.__init_subclass__",.ref C]))
  let b5:Bd:={b4 with t:=t3+1,tys:=(name,C,mro)::b.tys,lines:=.ref (a+5)::eB 0::eB line::b.lines,ups:=(match bs with|[.ref a0]=>(a0,C)::b.ups|_=>b.ups),subs:=if nP then [ent P (nC "type.__subclasses__.Exception.0") (t3 - 2) (eB C),ent P (nC "type.__subclasses__.Exception.n") (t3 - 1) (eB 1)] else b.subs}
  bind P b5 name (.ref C)
 |_=>b
noncomputable def KC:Bd:=⟨[],15,187,[],.str (nC "__main__") 164,[],[],[],[]⟩
noncomputable def tw(us:List (Addr×Addr)):Nat→List Obj→List Obj
 |_,[]=>[]
 |i,o::r=>(match o with
  |⟨c,d,.cls x,s⟩=>⟨c,d,.cls {x with subclasses:=us.filterMap λp=>if p.1==i then some (.ref p.2) else none},s⟩
  |o=>o)::tw us (i+1) r
noncomputable def topB(P:Params)(l:List Stmt):Bd:=l.foldl (FU P) KC
noncomputable abbrev pw:Program:=PySem.Challenge.pw_im0052_02
noncomputable def k6:Env:={scope:=pw.main.scope,locals:=mainNs,globals:=mainNs,cells:=[],code:=.ref 13,frame:=some 14}
noncomputable def bd(P:Params)(k:Nat):Bd:=topB P (pw.main.body.take k)
noncomputable def xH(o:Obj)(f:DictEntry→DictEntry)(es:List DictEntry):Obj:=match o with
 |⟨c,d,.dict l n,s⟩=>⟨c,d,.dict (l.toList.map f++es).toArray (n+es.length),s⟩
 |o=>o
noncomputable def Og(P:Params)(b:Bd):Obj:=xH (boot_o_3 P) (λe=>if e.key.isStr (nC "__name__") then {e with val:=b.mod} else e) b.main.reverse
noncomputable def Oh(P:Params)(b:Bd):Obj:=xH (boot_o_2 P) id b.subs
noncomputable def FY(P:Params)(b:Bd):List Obj:=
 [boot_o_0 P,boot_o_1 P,Oh P b,Og P b,boot_o_4 P,boot_o_5 P,boot_o_6 P,boot_o_7 P,boot_o_8 P,boot_o_9 P,boot_o_10 P,qZ [],FP b.lines.reverse,
  jz "code" (.fields #[.str (nC "<module>") 182,.str (nC "<module>") 183,.str claim 184,eB 1,eB 0,eB 0,eB 0,eB 0,.ref 11,.bool false,eB 181,.ref 12,.none,.none,.none,.none,eB 185,eB 1,.str claim 186]),
  {cls:=.type "frame",slots:=#[some (.ref 13),some (.ref 3),some (.ref 3),none,some (.str (nC "__main__") 164),none,some (.ref 0)]}]
noncomputable def xJ(P:Params)(b:Bd):List Obj:=FY P b++tw b.ups.reverse 15 b.os.reverse
noncomputable def JC{α:Type}:List α→List α
 |a::_::r=>a::JC r
 |l=>l
noncomputable def Oi{α:Type}:List α→List α
 |_::b::r=>b::Oi r
 |_=>[]
noncomputable def bt:Nat→List Obj→BT
 |0,_=>.nil
 |_,[]=>.nil
 |n+1,o::r=>.node o (bt n (JC r)) (bt n (Oi r))
noncomputable def sT(w:World)(os:OsState)(k n t:Nat):SharedT:=⟨bt 12 (xJ w.params (bd w.params k)),n,{},#[],{},t,os⟩
noncomputable def dg:Code:=.body (behindTheImports pw) k6
noncomputable def Bf:List Frame:=[topFrame ⟨0,0,0,0⟩]
noncomputable def stmts(i j:Nat):List Stmt:=(pw.main.body.drop i).take (j - i)
noncomputable abbrev gU:Option Value:=some (.ref 6)
theorem iV{w:World}{n:Nat}{s:SharedT}{th:Thread}{r:Option (Flow×SharedT×Code×Pos)}(h:PySem.W.Fast.tw10110043849684766642 PySem.W.Fast.tw14364793385576792824 pw w 11 gU 1 n s th=r):segRunT treeTable pw w 11 gU 1 n s th=r:=by rw [PySem.W.Fast.te10110043849684766642,PySem.W.Fast.te14364793385576792824];exact h
theorem FZ(w:World)(os:OsState):segRunT treeTable pw w 11 gU 1 754 (sT w os 0 15 187) (piecesOf (stmts 0 6) k6 dg ⟨0,0,0,0⟩ Bf)=some (.next,sT w os 6 84 285,dg,⟨16,0,21,32⟩):=iV (by kernel_rfl)
theorem F0(w:World)(os:OsState):segRunT treeTable pw w 11 gU 1 734 (sT w os 6 84 285) (piecesOf (stmts 6 9) k6 dg ⟨16,0,21,32⟩ Bf)=some (.next,sT w os 9 136 365,dg,⟨33,0,38,32⟩):=iV (by kernel_rfl)
theorem BF(w:World)(os:OsState):segRunT treeTable pw w 11 gU 1 718 (sT w os 9 136 365) (piecesOf (stmts 9 12) k6 dg ⟨33,0,38,32⟩ Bf)=some (.next,sT w os 12 188 443,dg,⟨49,0,54,32⟩):=iV (by kernel_rfl)
theorem zG(w:World)(os:OsState):segRunT treeTable pw w 11 gU 1 741 (sT w os 12 188 443) (piecesOf (stmts 12 15) k6 dg ⟨49,0,54,32⟩ Bf)=some (.next,sT w os 15 232 512,dg,⟨67,0,68,8⟩):=iV (by kernel_rfl)
theorem zH(w:World)(os:OsState):segRunT treeTable pw w 11 gU 1 705 (sT w os 15 232 512) (piecesOf (stmts 15 19) k6 dg ⟨67,0,68,8⟩ Bf)=some (.next,sT w os 19 268 562,dg,⟨75,0,75,8⟩):=iV (by kernel_rfl)
theorem zJ(w:World)(os:OsState):segRunT treeTable pw w 11 gU 1 450 (sT w os 19 268 562) (piecesOf (stmts 19 21) k6 dg ⟨75,0,75,8⟩ Bf)=some (.next,sT w os 21 301 621,dg,⟨78,0,88,38⟩):=iV (by kernel_rfl)
theorem nD(w:World)(os:OsState):segRunT treeTable pw (w.withFollow "special-get-raises" false) 11 gU 1 2474 (sT (w.withFollow "special-get-raises" false) os 21 301 621) (piecesOf (stmts 21 22) k6 dg ⟨78,0,88,38⟩ Bf)=some (.next,sT (w.withFollow "special-get-raises" false) os 22 741 1272,dg,⟨89,0,962,20⟩):=iV (by kernel_rfl)
theorem n7(w:World)(os:OsState):segRunT treeTable pw (w.withFollow "special-get-raises" true) 11 gU 1 2474 (sT (w.withFollow "special-get-raises" true) os 21 301 621) (piecesOf (stmts 21 22) k6 dg ⟨78,0,88,38⟩ Bf)=some (.next,sT (w.withFollow "special-get-raises" true) os 22 741 1272,dg,⟨89,0,962,20⟩):=iV (by kernel_rfl)
theorem zK(w:World)(os:OsState):segRunT treeTable pw w 11 gU 1 2474 (sT w os 21 301 621) (piecesOf (stmts 21 22) k6 dg ⟨78,0,88,38⟩ Bf)=some (.next,sT w os 22 741 1272,dg,⟨89,0,962,20⟩):=byRow2 "special-get-raises" (P:=λw=>segRunT treeTable pw w 11 gU 1 2474 (sT w os 21 301 621) (piecesOf (stmts 21 22) k6 dg ⟨78,0,88,38⟩ Bf)=some (.next,sT w os 22 741 1272,dg,⟨89,0,962,20⟩)) (λw=>nD w os) (λw=>n7 w os) w
theorem zL(w:World)(os:OsState):segRunT treeTable pw w 11 gU 1 606 (sT w os 22 741 1272) (piecesOf (stmts 22 35) k6 dg ⟨89,0,962,20⟩ Bf)=some (.next,sT w os 35 835 1419,dg,⟨1068,0,1090,74⟩):=iV (by kernel_rfl)
end
section
open PySem PySem.W PyProof.Rows
noncomputable def S0(w:World)(os:OsState):Shared:=⟨boot_heap w.params,#[],boot_drawn,boot_toks,os⟩
noncomputable def Sa(w:World)(os:OsState):Shared:=⟨⟨(xJ w.params (bd w.params 0)).toArray,{}⟩,#[],{},187,os⟩
noncomputable def H1(P:Params):Heap:=⟨(xJ P (bd P 35)).toArray,{}⟩
theorem Tc(w:World)(os:OsState):topGo treeTable pw w 11 gU 12 (S0 w os) (topStub pw)=some (Sa w os,⟨denote treeTable dg,dg,⟨0,0,0,0⟩,Bf⟩):=by rw [PySem.W.Fast.te15667345088766844465,PySem.W.Fast.te11892475500146522536,PySem.W.Fast.te14364793385576792824];kernel_rfl
theorem F4{w:World}{n:Nat}{s:Shared}{th:Thread}{r:Option (Flow×Shared×Code×Pos)}(h:PySem.W.Fast.tw14374325043358763698 PySem.W.Fast.tw14364793385576792824 pw w 11 gU 1 n s th=r):segRun treeTable pw w 11 gU 1 n s th=r:=by rw [PySem.W.Fast.te14374325043358763698,PySem.W.Fast.te14364793385576792824];exact h
theorem KD(w:World)(os:OsState):segRun treeTable pw w 11 gU 1 1 (Sa w os) (blockOf (behindTheImports pw) k6 dg ⟨0,0,0,0⟩ Bf)=some (.next,(sT w os 0 15 187).abs,dg,⟨0,0,0,0⟩):=F4 (by kernel_rfl)
theorem KG{w:World}{n:Nat}{s:Shared}{th:Thread}{r:Option Shared}(h:PySem.W.Fast.tw14082659384304107361 PySem.W.Fast.tw14364793385576792824 pw w 11 gU n s th=r):topRun treeTable pw w 11 gU n s th=r:=by rw [PySem.W.Fast.te14082659384304107361,PySem.W.Fast.te14364793385576792824];exact h
theorem Td(w:World)(os:OsState):topRun treeTable pw w 11 gU 2 (sT w os 35 835 1419).abs (restOf [] k6 dg ⟨1068,0,1090,74⟩ Bf)=some ⟨H1 w.params,#[],{},1419,os⟩:=KG (by kernel_rfl)
theorem Oj:behindTheImports pw=stmts 0 6++(stmts 6 9++(stmts 9 12++(stmts 12 15++(stmts 15 19++(stmts 19 21++(stmts 21 22++(stmts 22 35++[]))))))):=by kernel_rfl
theorem Te(w:World)(os:OsState):topRun treeTable pw w 11 gU (12+(1+(754+(734+(718+(741+(705+(450+(2474+(606+2)))))))))) (S0 w os) (topStub pw)=some ⟨H1 w.params,#[],{},1419,os⟩:=by
 refine go_top (Tc w os) (piece_block (KD w os) ?_);rw [Oj];exact piece_app (segRun_of (FZ w os)) (piece_app (segRun_of (F0 w os)) (piece_app (segRun_of (BF w os)) (piece_app (segRun_of (zG w os)) (piece_app (segRun_of (zH w os))
  (piece_app (segRun_of (zJ w os)) (piece_app (segRun_of (zK w os)) (piece_app (segRun_of (zL w os)) (Td w os))))))))
theorem Ol(w:World):((boot_heap w.params).isNs mainGlobals&&(#[]:Array GenState).size==0,(boot_heap w.params).objs.size,(boot_heap w.params).nsMap mainGlobals "__annotations__")=(true,11,gU):=by rw [PySem.W.Fast.te8920871248978507458];kernel_rfl
theorem Om:∀w:World,(fencedOpening treeTable pw w 20000).map (λs=>(s.heap,s.gens,s.drawn,s.toks))=some (boot_heap w.params,#[],boot_drawn,boot_toks):=boot_open (by kernel_rfl) (by decide) (λs=>by kernel_rfl)
noncomputable def q1:Program:=view pw [34]
noncomputable def lO:List Str:=["YAMLError","Event","NodeEvent","CollectionStartEvent","CollectionEndEvent","StreamStartEvent","StreamEndEvent","DocumentStartEvent","DocumentEndEvent","AliasEvent","ScalarEvent","SequenceStartEvent","SequenceEndEvent","MappingStartEvent","MappingEndEvent","EmitterError","ScalarAnalysis","Emitter","Rows","_law_WORDS","_law_SHARP","_law_CODES","_law_next","_law_value","_law_filled","_law_sharp","_law_text","_law_flow","_law_block","_wall"].map Str.ofString
noncomputable abbrev vB:RowW:=PySem.Challenge.rw_im0052_02.row.toRowW
noncomputable def Tg(s:Shared):Bool:=recOk (RowW.records vB) s
noncomputable def Oo(w:World):List Obj:=xJ w.params (bd w.params 35)
theorem KH(w:World)(os:OsState):(staticsOk (importedModules pw.main.body) (boot_heap w.params) (H1 w.params)&&namesBound pw (H1 w.params)&&gensDone ⟨H1 w.params,#[],{},1419,os⟩&&laidKept (boot_heap w.params) (H1 w.params))=true:=by kernel_rfl
theorem KI(w:World)(os:OsState):openSeen q1 lO (importedModules pw.main.body) Tg true ⟨H1 w.params,#[],{},1419,os⟩=openGood q1 lO:=by rw [PySem.W.Fast.te4187177175401517315];kernel_rfl
theorem Oq:LeftO pw q1 lO Tg (λs=>s.heap.objs.toList) Oo 20000:=LeftO.of_pieces (M:=12+(1+(754+(734+(718+(741+(705+(450+(2474+(606+2)))))))))) Om Ol Te (by decide) λw=>funext λos=>by rw [KH,KI];rfl
end
section
open PySem PySem.W PyProof.Rows
set_option backward.match.sparseCases true
theorem aO{a b:Bool}(h:(a&&b)=true):a=true∧b=true:=aZ.mp h
theorem Ot{a b:Bool}(ha:a=true)(hb:b=true):(a&&b)=true:=aZ.mpr ⟨ha,hb⟩
noncomputable abbrev KJ(l:OpenLaw):Bool:=sreFenced l.row.prog.main&&((moduleNames l.row.prog.main.body).isEmpty||lookedIntoSs (moduleNames l.row.prog.main.body) l.row.prog.main.body)
noncomputable abbrev KL(l:OpenLaw):Bool:=namesResolve l.row.prog
noncomputable abbrev KO(l:OpenLaw):Bool:=l.row.prog.boundNames.all (λn=> !worldNames.contains n)
noncomputable abbrev KS(l:OpenLaw):Bool:=noRoadLSs {strict:= !(importedModules l.row.prog.main.body).all cThrough.contains,foot:=none,bare:=(["vars","dir","locals"]:List Str).filter (readsOut l.row.prog l.row.prog.main.body)} l.row.prog.main.body
noncomputable abbrev KU(l:OpenLaw):Bool:=namesMeet l.row.prog l.row.prog.main.body λ_ n=>attrL n
noncomputable abbrev KV(l:OpenLaw):Bool:=
 l.row.loose.isEmpty&&l.row.makers.isEmpty&&
 l.row.toRowW.solid&&l.row.pre.litsOk&&l.row.post.litsOk&&
 l.row.within.all (λi=>decide (i< l.row.args.length))&&l.row.same.all (λi=>decide (i< l.row.args.length))
noncomputable abbrev KW(l:OpenLaw):Bool:=l.row.prog.boundNames.contains l.row.name&& !startupNames.contains l.row.name
noncomputable abbrev KX(l:OpenLaw):Bool:=
 decide (l.foot≤(behindTheImports l.prog).length)&&l.footing.all footLine&&noClassBlock l.prog l.footing&&
 l.most.all (λn=>decide (63≤n))&&l.bound.all (λn=>decide (2 ^ 63≤n))&&
 noRoadLSs {strict:=true,foot:=some l.bound',writes:=l.writes,may:=l.may} l.footing
noncomputable abbrev KY(l:OpenLaw):Bool:=defStands l.about l.above&&l.namesIt
noncomputable abbrev KZ(l:OpenLaw):Bool:=(["type","isinstance","issubclass","getattr","hasattr"]:List Str).all (λn=>l.about !=[n])&&l.bound'.all (λn=> !builtinNamed n||l.about==[n]|| !l.reads n)&&(!l.writes||(l.prog.main.body.flatMap importedNames).all λn=> !l.reads n)&&(l.prog.main.body.flatMap importedNames).all (λn=> !l.reads n||(drawsOf n l.prog.main.body).all λmn=>mn.2 !=("attrgetter":Str)&&mn.2 !=("methodcaller":Str))
noncomputable abbrev K0(l:OpenLaw):Bool:=
 namesMeet l.prog l.footing (λsc n=>(!(["type","isinstance","issubclass","getattr","hasattr"]:List Str).contains n||sc.names.lookup n==some .globalImplicit)&&
  (l.may !=some n||sc.kind==.module||sc.names.lookup n==some .globalImplicit))
noncomputable abbrev K3(l:OpenLaw):Bool:=
 l.own.contains l.name&&l.own.eraseDups.length==l.own.length&&l.own.all (λn=> !builtinNamed n)&&
 namesMeet l.prog l.above (λ_ n=> !l.own.contains n)
noncomputable abbrev K4(l:OpenLaw):Bool:=namesMeet l.prog l.footing λsc n=>sc.kind==.module||sc.names.lookup n !=some .globalExplicit
theorem BG(l:OpenLaw)(ha:KJ l=true)(hb:KL l=true)(hc:KO l=true)(hd:KS l=true)(he:KU l=true)(hf:KV l=true)(hg:KW l=true)(hh:KX l=true)(hi:KY l=true)(hj:KZ l=true)(hk:K0 l=true)(hm:K3 l=true)(hn:K4 l=true):OpenLaw.wellSaid l=true:=by
 unfold OpenLaw.wellSaid OpenRow.wellSaid OpenRow.partSaid looksOpen
 repeat' with_reducible refine Ot ?_ ?_
 all_goals first|with_reducible exact ha|with_reducible exact hb|with_reducible exact hc|with_reducible exact hd|with_reducible exact he|with_reducible exact hf|with_reducible exact hg|with_reducible exact hh|with_reducible exact hi|with_reducible exact hj|with_reducible exact hk|with_reducible exact hm|with_reducible exact hn|with_reducible exact (aO ha).2|with_reducible exact (aO ha).1|with_reducible exact (aO hf).2|with_reducible exact (aO (aO hf).1).2|with_reducible exact (aO (aO (aO hf).1).1).2|with_reducible exact (aO (aO (aO (aO hf).1).1).1).2|with_reducible exact (aO (aO (aO (aO (aO hf).1).1).1).1).2|with_reducible exact (aO (aO (aO (aO (aO (aO hf).1).1).1).1).1).2|with_reducible exact (aO (aO (aO (aO (aO (aO hf).1).1).1).1).1).1|with_reducible exact (aO hg).2|with_reducible exact (aO hg).1|with_reducible exact (aO hh).2|with_reducible exact (aO (aO hh).1).2|with_reducible exact (aO (aO (aO hh).1).1).2|with_reducible exact (aO (aO (aO (aO hh).1).1).1).2|with_reducible exact (aO (aO (aO (aO (aO hh).1).1).1).1).2|with_reducible exact (aO (aO (aO (aO (aO hh).1).1).1).1).1|with_reducible exact (aO hi).2|with_reducible exact (aO hi).1|with_reducible exact (aO hj).2|with_reducible exact (aO (aO hj).1).2|with_reducible exact (aO (aO (aO hj).1).1).2|with_reducible exact (aO (aO (aO hj).1).1).1|with_reducible exact (aO hm).2|with_reducible exact (aO (aO hm).1).2|with_reducible exact (aO (aO (aO hm).1).1).2|with_reducible exact (aO (aO (aO hm).1).1).1|rfl
theorem F5:KJ PySem.Challenge.rw_im0052_02=true:=by
 unfold KJ;simp only [PySem.W.Fast.te10501279942588096481,PySem.W.Fast.te10792542408131684335,PySem.W.Fast.te11788848310118352699,PySem.W.Fast.te12749700546528644094,PySem.W.Fast.te12862048085361865435,PySem.W.Fast.te12879404354523853263,PySem.W.Fast.te13343964577679436407,PySem.W.Fast.te13582783067957832011,PySem.W.Fast.te14412699480532031325,PySem.W.Fast.te16286561074155671207,PySem.W.Fast.te17095254045102204799,PySem.W.Fast.te17119622794617984870,PySem.W.Fast.te17691160309236699985,PySem.W.Fast.te17868728402115742887,PySem.W.Fast.te18344453789297297638,PySem.W.Fast.te2357444279172408678,PySem.W.Fast.te3471404346716756564,PySem.W.Fast.te4274047373036748609,PySem.W.Fast.te4579403493507170074,PySem.W.Fast.te482687673346738481,PySem.W.Fast.te4857012375875476094,PySem.W.Fast.te5318747976498570220,PySem.W.Fast.te5923862056798008813,PySem.W.Fast.te6984425678791042302,PySem.W.Fast.te7723801398212525404,PySem.W.Fast.te797321630700447069,PySem.W.Fast.te8179353310426384613,PySem.W.Fast.te8326940854005059898,PySem.W.Fast.te8377067652309620493,PySem.W.Fast.te9558739934217749035,PySem.W.Fast.te9572597257264208301,PySem.W.Fast.te9706382859710513879,PySem.W.Fast.te9807087744658564304,PySem.W.R.allR_eq,PySem.W.R.filterR_eq,PySem.W.R.mapR_eq,PySem.W.R.anyR_eq,PySem.W.Fast.sDec_eq,PySem.W.Fast.named_eq,PySem.W.S.strDecS_eq]
 kernel_rfl
theorem F6:KL PySem.Challenge.rw_im0052_02=true:=by
 unfold KL;simp only [PySem.W.Fast.te10501279942588096481,PySem.W.Fast.te10792542408131684335,PySem.W.Fast.te11788848310118352699,PySem.W.Fast.te12749700546528644094,PySem.W.Fast.te12862048085361865435,PySem.W.Fast.te12879404354523853263,PySem.W.Fast.te13343964577679436407,PySem.W.Fast.te13582783067957832011,PySem.W.Fast.te14412699480532031325,PySem.W.Fast.te16286561074155671207,PySem.W.Fast.te17095254045102204799,PySem.W.Fast.te17119622794617984870,PySem.W.Fast.te17691160309236699985,PySem.W.Fast.te17868728402115742887,PySem.W.Fast.te18344453789297297638,PySem.W.Fast.te2357444279172408678,PySem.W.Fast.te3471404346716756564,PySem.W.Fast.te4274047373036748609,PySem.W.Fast.te4579403493507170074,PySem.W.Fast.te482687673346738481,PySem.W.Fast.te4857012375875476094,PySem.W.Fast.te5318747976498570220,PySem.W.Fast.te5923862056798008813,PySem.W.Fast.te6984425678791042302,PySem.W.Fast.te7723801398212525404,PySem.W.Fast.te797321630700447069,PySem.W.Fast.te8179353310426384613,PySem.W.Fast.te8326940854005059898,PySem.W.Fast.te8377067652309620493,PySem.W.Fast.te9558739934217749035,PySem.W.Fast.te9572597257264208301,PySem.W.Fast.te9706382859710513879,PySem.W.Fast.te9807087744658564304,PySem.W.R.allR_eq,PySem.W.R.filterR_eq,PySem.W.R.mapR_eq,PySem.W.R.anyR_eq,PySem.W.Fast.sDec_eq,PySem.W.Fast.named_eq,PySem.W.S.strDecS_eq]
 kernel_rfl
theorem F7:KO PySem.Challenge.rw_im0052_02=true:=by
 unfold KO;simp only [PySem.W.Fast.te10501279942588096481,PySem.W.Fast.te10792542408131684335,PySem.W.Fast.te11788848310118352699,PySem.W.Fast.te12749700546528644094,PySem.W.Fast.te12862048085361865435,PySem.W.Fast.te12879404354523853263,PySem.W.Fast.te13343964577679436407,PySem.W.Fast.te13582783067957832011,PySem.W.Fast.te14412699480532031325,PySem.W.Fast.te16286561074155671207,PySem.W.Fast.te17095254045102204799,PySem.W.Fast.te17119622794617984870,PySem.W.Fast.te17691160309236699985,PySem.W.Fast.te17868728402115742887,PySem.W.Fast.te18344453789297297638,PySem.W.Fast.te2357444279172408678,PySem.W.Fast.te3471404346716756564,PySem.W.Fast.te4274047373036748609,PySem.W.Fast.te4579403493507170074,PySem.W.Fast.te482687673346738481,PySem.W.Fast.te4857012375875476094,PySem.W.Fast.te5318747976498570220,PySem.W.Fast.te5923862056798008813,PySem.W.Fast.te6984425678791042302,PySem.W.Fast.te7723801398212525404,PySem.W.Fast.te797321630700447069,PySem.W.Fast.te8179353310426384613,PySem.W.Fast.te8326940854005059898,PySem.W.Fast.te8377067652309620493,PySem.W.Fast.te9558739934217749035,PySem.W.Fast.te9572597257264208301,PySem.W.Fast.te9706382859710513879,PySem.W.Fast.te9807087744658564304,PySem.W.R.allR_eq,PySem.W.R.filterR_eq,PySem.W.R.mapR_eq,PySem.W.R.anyR_eq,PySem.W.Fast.sDec_eq,PySem.W.Fast.named_eq,PySem.W.S.strDecS_eq]
 kernel_rfl
theorem F8:KS PySem.Challenge.rw_im0052_02=true:=by
 unfold KS;simp only [PySem.W.Fast.te10501279942588096481,PySem.W.Fast.te10792542408131684335,PySem.W.Fast.te11788848310118352699,PySem.W.Fast.te12749700546528644094,PySem.W.Fast.te12862048085361865435,PySem.W.Fast.te12879404354523853263,PySem.W.Fast.te13343964577679436407,PySem.W.Fast.te13582783067957832011,PySem.W.Fast.te14412699480532031325,PySem.W.Fast.te16286561074155671207,PySem.W.Fast.te17095254045102204799,PySem.W.Fast.te17119622794617984870,PySem.W.Fast.te17691160309236699985,PySem.W.Fast.te17868728402115742887,PySem.W.Fast.te18344453789297297638,PySem.W.Fast.te2357444279172408678,PySem.W.Fast.te3471404346716756564,PySem.W.Fast.te4274047373036748609,PySem.W.Fast.te4579403493507170074,PySem.W.Fast.te482687673346738481,PySem.W.Fast.te4857012375875476094,PySem.W.Fast.te5318747976498570220,PySem.W.Fast.te5923862056798008813,PySem.W.Fast.te6984425678791042302,PySem.W.Fast.te7723801398212525404,PySem.W.Fast.te797321630700447069,PySem.W.Fast.te8179353310426384613,PySem.W.Fast.te8326940854005059898,PySem.W.Fast.te8377067652309620493,PySem.W.Fast.te9558739934217749035,PySem.W.Fast.te9572597257264208301,PySem.W.Fast.te9706382859710513879,PySem.W.Fast.te9807087744658564304,PySem.W.R.allR_eq,PySem.W.R.filterR_eq,PySem.W.R.mapR_eq,PySem.W.R.anyR_eq,PySem.W.Fast.sDec_eq,PySem.W.Fast.named_eq,PySem.W.S.strDecS_eq]
 kernel_rfl
theorem F9:KU PySem.Challenge.rw_im0052_02=true:=by
 unfold KU;simp only [PySem.W.Fast.te10501279942588096481,PySem.W.Fast.te10792542408131684335,PySem.W.Fast.te11788848310118352699,PySem.W.Fast.te12749700546528644094,PySem.W.Fast.te12862048085361865435,PySem.W.Fast.te12879404354523853263,PySem.W.Fast.te13343964577679436407,PySem.W.Fast.te13582783067957832011,PySem.W.Fast.te14412699480532031325,PySem.W.Fast.te16286561074155671207,PySem.W.Fast.te17095254045102204799,PySem.W.Fast.te17119622794617984870,PySem.W.Fast.te17691160309236699985,PySem.W.Fast.te17868728402115742887,PySem.W.Fast.te18344453789297297638,PySem.W.Fast.te2357444279172408678,PySem.W.Fast.te3471404346716756564,PySem.W.Fast.te4274047373036748609,PySem.W.Fast.te4579403493507170074,PySem.W.Fast.te482687673346738481,PySem.W.Fast.te4857012375875476094,PySem.W.Fast.te5318747976498570220,PySem.W.Fast.te5923862056798008813,PySem.W.Fast.te6984425678791042302,PySem.W.Fast.te7723801398212525404,PySem.W.Fast.te797321630700447069,PySem.W.Fast.te8179353310426384613,PySem.W.Fast.te8326940854005059898,PySem.W.Fast.te8377067652309620493,PySem.W.Fast.te9558739934217749035,PySem.W.Fast.te9572597257264208301,PySem.W.Fast.te9706382859710513879,PySem.W.Fast.te9807087744658564304,PySem.W.R.allR_eq,PySem.W.R.filterR_eq,PySem.W.R.mapR_eq,PySem.W.R.anyR_eq,PySem.W.Fast.sDec_eq,PySem.W.Fast.named_eq,PySem.W.S.strDecS_eq]
 kernel_rfl
theorem Ga:KV PySem.Challenge.rw_im0052_02=true:=by
 unfold KV;simp only [PySem.W.Fast.te10501279942588096481,PySem.W.Fast.te10792542408131684335,PySem.W.Fast.te11788848310118352699,PySem.W.Fast.te12749700546528644094,PySem.W.Fast.te12862048085361865435,PySem.W.Fast.te12879404354523853263,PySem.W.Fast.te13343964577679436407,PySem.W.Fast.te13582783067957832011,PySem.W.Fast.te14412699480532031325,PySem.W.Fast.te16286561074155671207,PySem.W.Fast.te17095254045102204799,PySem.W.Fast.te17119622794617984870,PySem.W.Fast.te17691160309236699985,PySem.W.Fast.te17868728402115742887,PySem.W.Fast.te18344453789297297638,PySem.W.Fast.te2357444279172408678,PySem.W.Fast.te3471404346716756564,PySem.W.Fast.te4274047373036748609,PySem.W.Fast.te4579403493507170074,PySem.W.Fast.te482687673346738481,PySem.W.Fast.te4857012375875476094,PySem.W.Fast.te5318747976498570220,PySem.W.Fast.te5923862056798008813,PySem.W.Fast.te6984425678791042302,PySem.W.Fast.te7723801398212525404,PySem.W.Fast.te797321630700447069,PySem.W.Fast.te8179353310426384613,PySem.W.Fast.te8326940854005059898,PySem.W.Fast.te8377067652309620493,PySem.W.Fast.te9558739934217749035,PySem.W.Fast.te9572597257264208301,PySem.W.Fast.te9706382859710513879,PySem.W.Fast.te9807087744658564304,PySem.W.R.allR_eq,PySem.W.R.filterR_eq,PySem.W.R.mapR_eq,PySem.W.R.anyR_eq,PySem.W.Fast.sDec_eq,PySem.W.Fast.named_eq,PySem.W.S.strDecS_eq]
 kernel_rfl
theorem Gb:KW PySem.Challenge.rw_im0052_02=true:=by
 unfold KW;simp only [PySem.W.Fast.te10501279942588096481,PySem.W.Fast.te10792542408131684335,PySem.W.Fast.te11788848310118352699,PySem.W.Fast.te12749700546528644094,PySem.W.Fast.te12862048085361865435,PySem.W.Fast.te12879404354523853263,PySem.W.Fast.te13343964577679436407,PySem.W.Fast.te13582783067957832011,PySem.W.Fast.te14412699480532031325,PySem.W.Fast.te16286561074155671207,PySem.W.Fast.te17095254045102204799,PySem.W.Fast.te17119622794617984870,PySem.W.Fast.te17691160309236699985,PySem.W.Fast.te17868728402115742887,PySem.W.Fast.te18344453789297297638,PySem.W.Fast.te2357444279172408678,PySem.W.Fast.te3471404346716756564,PySem.W.Fast.te4274047373036748609,PySem.W.Fast.te4579403493507170074,PySem.W.Fast.te482687673346738481,PySem.W.Fast.te4857012375875476094,PySem.W.Fast.te5318747976498570220,PySem.W.Fast.te5923862056798008813,PySem.W.Fast.te6984425678791042302,PySem.W.Fast.te7723801398212525404,PySem.W.Fast.te797321630700447069,PySem.W.Fast.te8179353310426384613,PySem.W.Fast.te8326940854005059898,PySem.W.Fast.te8377067652309620493,PySem.W.Fast.te9558739934217749035,PySem.W.Fast.te9572597257264208301,PySem.W.Fast.te9706382859710513879,PySem.W.Fast.te9807087744658564304,PySem.W.R.allR_eq,PySem.W.R.filterR_eq,PySem.W.R.mapR_eq,PySem.W.R.anyR_eq,PySem.W.Fast.sDec_eq,PySem.W.Fast.named_eq,PySem.W.S.strDecS_eq]
 kernel_rfl
theorem Ge:KX PySem.Challenge.rw_im0052_02=true:=by
 unfold KX;simp only [PySem.W.Fast.te10501279942588096481,PySem.W.Fast.te10792542408131684335,PySem.W.Fast.te11788848310118352699,PySem.W.Fast.te12749700546528644094,PySem.W.Fast.te12862048085361865435,PySem.W.Fast.te12879404354523853263,PySem.W.Fast.te13343964577679436407,PySem.W.Fast.te13582783067957832011,PySem.W.Fast.te14412699480532031325,PySem.W.Fast.te16286561074155671207,PySem.W.Fast.te17095254045102204799,PySem.W.Fast.te17119622794617984870,PySem.W.Fast.te17691160309236699985,PySem.W.Fast.te17868728402115742887,PySem.W.Fast.te18344453789297297638,PySem.W.Fast.te2357444279172408678,PySem.W.Fast.te3471404346716756564,PySem.W.Fast.te4274047373036748609,PySem.W.Fast.te4579403493507170074,PySem.W.Fast.te482687673346738481,PySem.W.Fast.te4857012375875476094,PySem.W.Fast.te5318747976498570220,PySem.W.Fast.te5923862056798008813,PySem.W.Fast.te6984425678791042302,PySem.W.Fast.te7723801398212525404,PySem.W.Fast.te797321630700447069,PySem.W.Fast.te8179353310426384613,PySem.W.Fast.te8326940854005059898,PySem.W.Fast.te8377067652309620493,PySem.W.Fast.te9558739934217749035,PySem.W.Fast.te9572597257264208301,PySem.W.Fast.te9706382859710513879,PySem.W.Fast.te9807087744658564304,PySem.W.R.allR_eq,PySem.W.R.filterR_eq,PySem.W.R.mapR_eq,PySem.W.R.anyR_eq,PySem.W.Fast.sDec_eq,PySem.W.Fast.named_eq,PySem.W.S.strDecS_eq]
 kernel_rfl
theorem Gf:KY PySem.Challenge.rw_im0052_02=true:=by
 unfold KY;simp only [PySem.W.Fast.te10501279942588096481,PySem.W.Fast.te10792542408131684335,PySem.W.Fast.te11788848310118352699,PySem.W.Fast.te12749700546528644094,PySem.W.Fast.te12862048085361865435,PySem.W.Fast.te12879404354523853263,PySem.W.Fast.te13343964577679436407,PySem.W.Fast.te13582783067957832011,PySem.W.Fast.te14412699480532031325,PySem.W.Fast.te16286561074155671207,PySem.W.Fast.te17095254045102204799,PySem.W.Fast.te17119622794617984870,PySem.W.Fast.te17691160309236699985,PySem.W.Fast.te17868728402115742887,PySem.W.Fast.te18344453789297297638,PySem.W.Fast.te2357444279172408678,PySem.W.Fast.te3471404346716756564,PySem.W.Fast.te4274047373036748609,PySem.W.Fast.te4579403493507170074,PySem.W.Fast.te482687673346738481,PySem.W.Fast.te4857012375875476094,PySem.W.Fast.te5318747976498570220,PySem.W.Fast.te5923862056798008813,PySem.W.Fast.te6984425678791042302,PySem.W.Fast.te7723801398212525404,PySem.W.Fast.te797321630700447069,PySem.W.Fast.te8179353310426384613,PySem.W.Fast.te8326940854005059898,PySem.W.Fast.te8377067652309620493,PySem.W.Fast.te9558739934217749035,PySem.W.Fast.te9572597257264208301,PySem.W.Fast.te9706382859710513879,PySem.W.Fast.te9807087744658564304,PySem.W.R.allR_eq,PySem.W.R.filterR_eq,PySem.W.R.mapR_eq,PySem.W.R.anyR_eq,PySem.W.Fast.sDec_eq,PySem.W.Fast.named_eq,PySem.W.S.strDecS_eq]
 kernel_rfl
theorem Gg:KZ PySem.Challenge.rw_im0052_02=true:=by
 unfold KZ;simp only [PySem.W.Fast.te10501279942588096481,PySem.W.Fast.te10792542408131684335,PySem.W.Fast.te11788848310118352699,PySem.W.Fast.te12749700546528644094,PySem.W.Fast.te12862048085361865435,PySem.W.Fast.te12879404354523853263,PySem.W.Fast.te13343964577679436407,PySem.W.Fast.te13582783067957832011,PySem.W.Fast.te14412699480532031325,PySem.W.Fast.te16286561074155671207,PySem.W.Fast.te17095254045102204799,PySem.W.Fast.te17119622794617984870,PySem.W.Fast.te17691160309236699985,PySem.W.Fast.te17868728402115742887,PySem.W.Fast.te18344453789297297638,PySem.W.Fast.te2357444279172408678,PySem.W.Fast.te3471404346716756564,PySem.W.Fast.te4274047373036748609,PySem.W.Fast.te4579403493507170074,PySem.W.Fast.te482687673346738481,PySem.W.Fast.te4857012375875476094,PySem.W.Fast.te5318747976498570220,PySem.W.Fast.te5923862056798008813,PySem.W.Fast.te6984425678791042302,PySem.W.Fast.te7723801398212525404,PySem.W.Fast.te797321630700447069,PySem.W.Fast.te8179353310426384613,PySem.W.Fast.te8326940854005059898,PySem.W.Fast.te8377067652309620493,PySem.W.Fast.te9558739934217749035,PySem.W.Fast.te9572597257264208301,PySem.W.Fast.te9706382859710513879,PySem.W.Fast.te9807087744658564304,PySem.W.R.allR_eq,PySem.W.R.filterR_eq,PySem.W.R.mapR_eq,PySem.W.R.anyR_eq,PySem.W.Fast.sDec_eq,PySem.W.Fast.named_eq,PySem.W.S.strDecS_eq]
 kernel_rfl
theorem Gh:K0 PySem.Challenge.rw_im0052_02=true:=by
 unfold K0;simp only [PySem.W.Fast.te10501279942588096481,PySem.W.Fast.te10792542408131684335,PySem.W.Fast.te11788848310118352699,PySem.W.Fast.te12749700546528644094,PySem.W.Fast.te12862048085361865435,PySem.W.Fast.te12879404354523853263,PySem.W.Fast.te13343964577679436407,PySem.W.Fast.te13582783067957832011,PySem.W.Fast.te14412699480532031325,PySem.W.Fast.te16286561074155671207,PySem.W.Fast.te17095254045102204799,PySem.W.Fast.te17119622794617984870,PySem.W.Fast.te17691160309236699985,PySem.W.Fast.te17868728402115742887,PySem.W.Fast.te18344453789297297638,PySem.W.Fast.te2357444279172408678,PySem.W.Fast.te3471404346716756564,PySem.W.Fast.te4274047373036748609,PySem.W.Fast.te4579403493507170074,PySem.W.Fast.te482687673346738481,PySem.W.Fast.te4857012375875476094,PySem.W.Fast.te5318747976498570220,PySem.W.Fast.te5923862056798008813,PySem.W.Fast.te6984425678791042302,PySem.W.Fast.te7723801398212525404,PySem.W.Fast.te797321630700447069,PySem.W.Fast.te8179353310426384613,PySem.W.Fast.te8326940854005059898,PySem.W.Fast.te8377067652309620493,PySem.W.Fast.te9558739934217749035,PySem.W.Fast.te9572597257264208301,PySem.W.Fast.te9706382859710513879,PySem.W.Fast.te9807087744658564304,PySem.W.R.allR_eq,PySem.W.R.filterR_eq,PySem.W.R.mapR_eq,PySem.W.R.anyR_eq,PySem.W.Fast.sDec_eq,PySem.W.Fast.named_eq,PySem.W.S.strDecS_eq]
 kernel_rfl
theorem Gi:K3 PySem.Challenge.rw_im0052_02=true:=by
 unfold K3;simp only [PySem.W.Fast.te10501279942588096481,PySem.W.Fast.te10792542408131684335,PySem.W.Fast.te11788848310118352699,PySem.W.Fast.te12749700546528644094,PySem.W.Fast.te12862048085361865435,PySem.W.Fast.te12879404354523853263,PySem.W.Fast.te13343964577679436407,PySem.W.Fast.te13582783067957832011,PySem.W.Fast.te14412699480532031325,PySem.W.Fast.te16286561074155671207,PySem.W.Fast.te17095254045102204799,PySem.W.Fast.te17119622794617984870,PySem.W.Fast.te17691160309236699985,PySem.W.Fast.te17868728402115742887,PySem.W.Fast.te18344453789297297638,PySem.W.Fast.te2357444279172408678,PySem.W.Fast.te3471404346716756564,PySem.W.Fast.te4274047373036748609,PySem.W.Fast.te4579403493507170074,PySem.W.Fast.te482687673346738481,PySem.W.Fast.te4857012375875476094,PySem.W.Fast.te5318747976498570220,PySem.W.Fast.te5923862056798008813,PySem.W.Fast.te6984425678791042302,PySem.W.Fast.te7723801398212525404,PySem.W.Fast.te797321630700447069,PySem.W.Fast.te8179353310426384613,PySem.W.Fast.te8326940854005059898,PySem.W.Fast.te8377067652309620493,PySem.W.Fast.te9558739934217749035,PySem.W.Fast.te9572597257264208301,PySem.W.Fast.te9706382859710513879,PySem.W.Fast.te9807087744658564304,PySem.W.R.allR_eq,PySem.W.R.filterR_eq,PySem.W.R.mapR_eq,PySem.W.R.anyR_eq,PySem.W.Fast.sDec_eq,PySem.W.Fast.named_eq,PySem.W.S.strDecS_eq]
 kernel_rfl
theorem Gj:K4 PySem.Challenge.rw_im0052_02=true:=by
 unfold K4;simp only [PySem.W.Fast.te10501279942588096481,PySem.W.Fast.te10792542408131684335,PySem.W.Fast.te11788848310118352699,PySem.W.Fast.te12749700546528644094,PySem.W.Fast.te12862048085361865435,PySem.W.Fast.te12879404354523853263,PySem.W.Fast.te13343964577679436407,PySem.W.Fast.te13582783067957832011,PySem.W.Fast.te14412699480532031325,PySem.W.Fast.te16286561074155671207,PySem.W.Fast.te17095254045102204799,PySem.W.Fast.te17119622794617984870,PySem.W.Fast.te17691160309236699985,PySem.W.Fast.te17868728402115742887,PySem.W.Fast.te18344453789297297638,PySem.W.Fast.te2357444279172408678,PySem.W.Fast.te3471404346716756564,PySem.W.Fast.te4274047373036748609,PySem.W.Fast.te4579403493507170074,PySem.W.Fast.te482687673346738481,PySem.W.Fast.te4857012375875476094,PySem.W.Fast.te5318747976498570220,PySem.W.Fast.te5923862056798008813,PySem.W.Fast.te6984425678791042302,PySem.W.Fast.te7723801398212525404,PySem.W.Fast.te797321630700447069,PySem.W.Fast.te8179353310426384613,PySem.W.Fast.te8326940854005059898,PySem.W.Fast.te8377067652309620493,PySem.W.Fast.te9558739934217749035,PySem.W.Fast.te9572597257264208301,PySem.W.Fast.te9706382859710513879,PySem.W.Fast.te9807087744658564304,PySem.W.R.allR_eq,PySem.W.R.filterR_eq,PySem.W.R.mapR_eq,PySem.W.R.anyR_eq,PySem.W.Fast.sDec_eq,PySem.W.Fast.named_eq,PySem.W.S.strDecS_eq]
 kernel_rfl
theorem Ou:OpenLaw.wellSaid PySem.Challenge.rw_im0052_02=true:=BG _ F5 F6 F7 F8 F9 Ga Gb Ge Gf Gg Gh Gi Gj
end
section
open PySem PySem.W PyProof.Rows
noncomputable def dk:Option (DefRec×List (Str×Expr)):=defOf q1 vB.name
theorem rj:dk.isSome=true:=by kernel_rfl
noncomputable def d1:DefRec:=(dk.get rj).1
noncomputable def Gk:List (Str×Expr):=(dk.get rj).2
theorem Ov:dk=some (d1,Gk):=(Option.some_get rj).symm
theorem K5:pw.theDef vB.name=some (d1.params,d1.body,d1.scope):=by kernel_rfl
theorem Ow:kwWritten? d1.params.kwonlyargs d1.params.kw_defaults=some Gk:=by kernel_rfl
theorem XR:(chainsOk q1&&opensWell pw&&(frees vB&&([]:List Nat).isEmpty))=true:=by kernel_rfl
theorem Gl{h:Heap}{l:List Obj}(e:h.objs.toList=l):∀b o,l[b]? =some o→o.isFreed=false→h.get? b=some o:=λb o hb hf=>by
 subst e;have zM:h.objs[b]? =some o:=by rw [← Array.getElem?_toList];exact hb
 unfold Heap.get?;rw [zM];obtain ⟨c,d,data,sl⟩:=o
 cases data<;>first|rfl|cases hf
abbrev Sg(w:World)(h:Heap):Prop:=∀b o,(Oo w)[b]? =some o→o.isFreed=false→h.get? b=some o
theorem hd2(walk:WalkO q1 lO (λ_ _=>True) Sg vB d1 Gk λf vs=>PySem.call f vs):PySem.Challenge.rw_im0052_02.Holds:=by
 refine holds_law Ou λTh=>?_
 refine holds_open (q:=q1) (loose:=lO) (Xt:=Tg) (XP:=λ_ _=>True) (Yf:=λs=>s.heap.objs.toList) (Ya:=Oo) (YP:=Sg) (N:=20000) Oq (λw s e=>Gl e) (λw h h' a k b o e f=>k b o (a b o e f)) (λ_ _=>trivial) (λ_ _ _ _ _=>trivial) Ov K5 Ow
  (λs e=>recFacts_of e) (by rfl) Th XR ⟨rfl,rfl,rfl,rfl,rfl,by decide+kernel⟩ ?_ walk
 w_witness2
end
section
open PySem
inductive BI where
 |len|isinstance|ord|str
 deriving DecidableEq
inductive MV where
 |none
 |bool (b:Bool)
 |int (i:Int)
 |str (s:List Nat)
 |tup (l:List MV)
 |lst (l:List MV)
 |jk (ks vs:List MV)
 |d8 (c:Nat) (vs:List MV)
 |obj (i:Nat)
 |fn (i:Nat)
 |cls (i:Nat)
 |bm (o:Nat) (f:Nat)
 |bi (b:BI)
inductive iW where
 |inst (c:Nat) (attrs:List (Nat×MV))
 |list (l:List MV)
noncomputable abbrev Loc:=List (Option MV)
noncomputable abbrev Hp:=List iW
mutual
inductive ai where
 |bE (v:MV)
 |aH (i:Nat)
 |av (v:MV)
 |aJ (e:ai) (a:Nat)
 |bin (op:Operator) (a b:ai)
 |bS (l:List ai)
 |fJ (l:List ai)
 |cg (e:ai)
 |neg (e:ai)
 |cmp (a:ai) (ops:List CmpOp) (l:List ai)
 |aG (c a b:ai)
 |sub (a i:ai)
 |slice (a:ai) (lo hi:Option ai)
 |list (m:Bool) (l:List ai)
 |tuple (l:List ai)
 |dict (ks vs:List MV)
 |call (f:ai) (args:List ai) (kn:List Nat) (kv:List ai)
 |ay (o:ai) (name:Nat) (args:List ai) (kn:List Nat) (kv:List ai)
 |comp (m:Bool) (elt:ai) (nv:Nat) (tgt:List Nat) (tup:Bool) (it:dm) (ifs:List ai)
inductive dm where
 |val (e:ai)
 |range (args:List ai)
end
inductive dI where
 |aH (i:Nat)
 |aJ (o:ai) (a:Nat)
 |sub (o i:ai)
inductive aA where
 |assign (ts:List dI) (e:ai)
 |aug (t:dI) (op:Operator) (e:ai)
 |aG (c:ai) (a b:List aA)
 |cN (c:ai) (b:List aA)
 |dW (t:dI) (it:dm) (b:List aA)
 |ret (e:Option ai)
 |expr (e:ai)
 |pass
 |fail
inductive Fl where
 |next
 |ret (v:MV)
structure cC where
 params:List Nat
 defs:List MV
 nE:Nat
 body:List aA
structure fZ where
 isRec:Bool
 init:Nat
 fields:List (Nat×Nat)
 meths:List (Nat×Nat)
 gI:List (Nat×MV)
 rm:List Nat
structure Prog where
 fns:List cC
 dM:List fZ
 j9:Nat
 g7:Nat
 iX:Nat
 BH:Nat
 zO:Nat
 mH:Nat
noncomputable def intOf:MV→Option Int
 |.int i=>some i
 |_=>none
noncomputable def boolOf:MV→Option Bool
 |.bool b=>some b
 |_=>none
noncomputable def strOf:MV→Option (List Nat)
 |.str s=>some s
 |_=>none
noncomputable def tB:MV→Option (List MV)
 |.tup l=>some l
 |_=>none
noncomputable def iA:MV→Option (List MV)
 |.lst l=>some l
 |_=>none
noncomputable def objOf:MV→Option Nat
 |.obj o=>some o
 |_=>none
noncomputable def tC:MV→Option (List MV×List MV)
 |.jk ks vs=>some (ks,vs)
 |_=>none
noncomputable def xK:MV→Option (Nat×List MV)
 |.d8 c vs=>some (c,vs)
 |_=>none
noncomputable def vC:MV→Option (Nat×Nat)
 |.bm o f=>some (o,f)
 |_=>none
noncomputable def xM:MV→Option Nat
 |.cls i=>some i
 |_=>none
noncomputable def xN:MV→Option Nat
 |.str [c]=>some c
 |_=>none
noncomputable def n8:iW→Option (Nat×List (Nat×MV))
 |.inst c a=>some (c,a)
 |.list _=>none
noncomputable def dJ:iW→Option (List MV)
 |.list l=>some l
 |.inst _ _=>none
noncomputable def jA:List MV→Option MV
 |[]=>none
 |a::r=>if r.isEmpty then some a else none
theorem no{α:Type}{a:α}{C:Prop}(e:(none:Option α)=some a):C:=(aY _ e.symm).elim
theorem aC{α:Type}{a b:α}(e:some a=some b):a=b:=bJ e
theorem bD{v:MV}{x:Int}(e:intOf v=some x):v=.int x:=by cases v<;>first|exact no e|exact congrArg _ (aC e)
theorem vD{v:MV}{x:Bool}(e:boolOf v=some x):v=.bool x:=by cases v<;>first|exact no e|exact congrArg _ (aC e)
theorem bG{v:MV}{x:List Nat}(e:strOf v=some x):v=.str x:=by cases v<;>first|exact no e|exact congrArg _ (aC e)
theorem eL{v:MV}{x:List MV}(e:tB v=some x):v=.tup x:=by cases v<;>first|exact no e|exact congrArg _ (aC e)
theorem cH{v:MV}{x:List MV}(e:iA v=some x):v=.lst x:=by cases v<;>first|exact no e|exact congrArg _ (aC e)
theorem cJ{v:MV}{x:Nat}(e:objOf v=some x):v=.obj x:=by cases v<;>first|exact no e|exact congrArg _ (aC e)
theorem iH{v:MV}{x:List MV×List MV}(e:tC v=some x):v=.jk x.1 x.2:=by cases v<;>first|exact no e|exact congrArg (λz:List MV×List MV=>MV.jk z.1 z.2) (aC e)
theorem jU{v:MV}{x:Nat×List MV}(e:xK v=some x):v=.d8 x.1 x.2:=by cases v<;>first|exact no e|exact congrArg (λz:Nat×List MV=>MV.d8 z.1 z.2) (aC e)
theorem n9{v:MV}{x:Nat×Nat}(e:vC v=some x):v=.bm x.1 x.2:=by cases v<;>first|exact no e|exact congrArg (λz:Nat×Nat=>MV.bm z.1 z.2) (aC e)
noncomputable def Ox:List MV→Option (MV×MV)
 |[]=>none
 |a::r=>(jA r).map λb=>(a,b)
theorem cO{l:List MV}{a:MV}(e:jA l=some a):l=[a]:=by
 cases l with
 |nil=>exact no e
 |cons x r=>cases r with
  |nil=>exact congrArg (λz=>[z]) (aC e)
  |cons _ _=>exact no e
theorem or_some{α:Type}{a b:Option α}{r:α}(e:a.or b=some r):a=some r∨(a=none∧b=some r):=by
 cases a with
 |none=>exact .inr ⟨rfl,e⟩
 |some _=>exact .inl e
theorem tD{l:List MV}{a:MV×MV}(e:Ox l=some a):l=[a.1,a.2]:=by
 cases l with
 |nil=>exact no e
 |cons x r=>obtain ⟨b,e1,rfl⟩:=dw.mp e;rw [cO e1]
theorem lP{v:MV}{x:Nat}(e:xM v=some x):v=.cls x:=by cases v<;>first|exact no e|exact congrArg _ (aC e)
set_option tactic.hygienic true in
theorem jV{v:MV}{c:Nat}(e:xN v=some c):v=.str [c]:=by
 cases v<;>first|exact no e|skip
 rename_i s
 match s,e with
 |[c],e=>exact congrArg (λc=>MV.str [c]) (aC e)
theorem map_some{α β:Type}{x:Option α}{f:α→β}{r:β}(e:x.map f=some r){C:Prop}(k:∀a,x=some a→f a=r→C):C:=match x,e,k with
 |none,e,_=>no e
 |some a,e,k=>k a rfl (aC e)
theorem aW{α:Type}{c:Prop}[Decidable c]{o:Option α}{b:α}(e:(if c then o else none)=some b):c∧o=some b:=by
 by_cases q:c
 ·rw [if_pos q] at e;exact ⟨q,e⟩
 ·rw [if_neg q] at e;exact (aY _ e.symm).elim
noncomputable def az:Nat:=1000000
noncomputable def aK(i:Int):Bool:=decide (-1000000000≤i)&&decide (i≤1000000000)
noncomputable def qg(s:List Nat):Option MV:=if s.length≤az then some (.str s) else none
noncomputable def aR:List (Nat×MV)→Nat→Option MV
 |[],_=>none
 |(k,v)::r,a=>if k==a then some v else aR r a
noncomputable def gJ:List (Nat×MV)→Nat→MV→List (Nat×MV)
 |[],a,v=>[(a,v)]
 |(k,x)::r,a,v=>if k==a then (k,v)::r else (k,x)::gJ r a v
noncomputable def fU:List (Nat×Nat)→Nat→Option Nat
 |[],_=>none
 |(k,v)::r,a=>if k==a then some v else fU r a
noncomputable def truthy:MV→Hp→Option Bool
 |.none,_=>some false
 |.bool b,_=>some b
 |.int i,_=>some (!decide (i=0))
 |.str s,_=>some (!s.isEmpty)
 |.obj i,h=>((h[i]?).bind dJ).map λl=> !l.isEmpty
 |_,_=>none
noncomputable def iI(a b:MV):Option Bool:=match a with
 |.str x=>(match b with
  |.str y=>some (decide (x=y))
  |.none=>some false
  |_=>none)
 |.int x=>(match b with
  |.int y=>some (decide (x=y))
  |.none=>some false
  |_=>none)
 |.none=>(match b with
  |.none=>some true
  |.str _=>some false
  |.int _=>some false
  |_=>none)
 |_=>none
noncomputable def oh:List Nat→List Nat→Bool
 |[],_=>true
 |_::_,[]=>false
 |a::r,b::q=>if a< b then true else if a=b then oh r q else false
noncomputable def strLt(a b:List Nat):Bool:= !oh b a
noncomputable def dh(x:MV):List MV→Option Bool
 |[]=>some false
 |y::r=>match iI y x,dh x r with
  |some b,some c=>some (b||c)
  |_,_=>none
noncomputable def k7(x:List Nat):List MV→List MV→Option (Option MV)
 |[],_=>some none
 |.str y::ks,v::vs=>if y=x then some (some v) else k7 x ks vs
 |_,_=>none
noncomputable def k8(x:Int):List MV→List MV→Option (Option MV)
 |[],_=>some none
 |.int y::ks,v::vs=>if y=x then some (some v) else k8 x ks vs
 |_,_=>none
noncomputable def gc(k:MV)(ks vs:List MV):Option (Option MV):=match k with
 |.str x=>k7 x ks vs
 |.int i=>k8 i ks vs
 |_=>none
noncomputable def strKeys:List MV→Bool
 |[]=>true
 |.str _::r=>strKeys r
 |_=>false
noncomputable def intKeys:List MV→Bool
 |[]=>true
 |.int _::r=>intKeys r
 |_=>false
noncomputable def iJ:List (Nat×Nat)→List MV→Nat→Option MV
 |(k,_)::r,v::vs,a=>if k==a then some v else iJ r vs a
 |_,_,_=>none
noncomputable def isNone:MV→Bool
 |.none=>true
 |_=>false
noncomputable def mJ(f:Int→Int→Bool)(g:Option (List Nat→List Nat→Bool))(a b:MV):Option Bool:=match a with
 |.int x=>(match b with
  |.int y=>some (f x y)
  |_=>none)
 |.str x=>(match b with
  |.str y=>g.map λg=>g x y
  |_=>none)
 |_=>none
noncomputable def cV(op:CmpOp)(a b:MV):Option Bool:=match op with
 |.Eq=>iI a b
 |.NotEq=>(iI a b).map (!·)
 |.Lt=>mJ (λx y=>decide (x< y)) (some strLt) a b
 |.LtE=>mJ (λx y=>decide (x≤y)) (some oh) a b
 |.Gt=>mJ (λx y=>decide (y< x)) none a b
 |.GtE=>mJ (λx y=>decide (y≤x)) none a b
 |.Is=>match b with
  |.none=>some (isNone a)
  |_=>none
 |.IsNot=>match b with
  |.none=>some (!isNone a)
  |_=>none
 |.In=>vE a b
 |.NotIn=>(vE a b).map (!·)
where
 vE (a b:MV):Option Bool:=((strOf b).bind λs=>(xN a).map λc=>s.contains c).or (((iA b).bind (dh a)).or (((tB b).bind (dh a)).or ((tC b).bind λd=>(gc a d.1 d.2).map (·.isSome))))
noncomputable def K6(f:List Nat)(x:Int):Option (List Nat):=
 if x=233∧f=[92,120,37,48,50,88] then some [92,120,69,57]
 else if x=8364∧f=[92,117,37,48,52,88] then some [92,117,50,48,65,67]
 else if x=128512∧f=[92,85,37,48,56,88] then some [92,85,48,48,48,49,70,54,48,48]
 else none
noncomputable def listOf(v:MV)(h:Hp):Option (List MV):=(iA v).or ((objOf v).bind λo=>(h[o]?).bind dJ)
noncomputable def arith(f:Int→Int→Int)(a b:MV):Option MV:=(intOf a).bind λx=>(intOf b).bind λy=>if (aK x&&aK y)=true then some (.int (f x y)) else none
noncomputable def Gm(f:Int→Int→Int)(a b:MV):Option MV:=(intOf a).bind λx=>(intOf b).bind λy=>if (decide (0< y)&&aK y)=true then some (.int (f x y)) else none
noncomputable def BJ(a b:MV):Option MV:=(strOf a).bind λx=>(strOf b).bind λy=>qg (x++y)
noncomputable def Gn(a b:MV)(h:Hp):Option MV:=(listOf a h).bind λx=>(listOf b h).bind λy=>if x.length+y.length≤az then some (.lst (x++y)) else none
noncomputable def K7(a b:MV):Option MV:=(strOf a).bind λx=>(intOf b).bind λy=>if (decide (x.length * y.toNat≤az)&&aK y)=true then some (.str (List.replicate y.toNat x).flatten) else none
noncomputable def Oz(a b:MV):Option MV:=(strOf a).bind λf=>(intOf b).bind λx=>(K6 f x).map .str
noncomputable def binOp(op:Operator)(a b:MV)(h:Hp):Option MV:=match op with
 |.Add=>(arith (λx y=>x+y) a b).or ((BJ a b).or (Gn a b h))
 |.Sub=>arith (λx y=>x - y) a b
 |.Mult=>(arith (λx y=>x * y) a b).or (K7 a b)
 |.Mod=>(Gm (λx y=>x % y) a b).or (Oz a b)
 |.FloorDiv=>Gm (λx y=>x / y) a b
 |_=>none
noncomputable def idx(len:Nat):Int→Option Nat
 |.ofNat n=>if n< len then some n else none
 |.negSucc k=>if k< len then some (len - (k+1)) else none
noncomputable def tE(i:MV)(n:Nat):Option Nat:=(intOf i).bind λk=>if aK k=true then idx n k else none
noncomputable def K8(a i:MV):Option MV:=(strOf a).bind λs=>(tE i s.length).bind λj=>(s[j]?).map λc=>.str [c]
noncomputable def K9(a i:MV):Option MV:=(tC a).bind λd=>(gc i d.1 d.2).bind id
noncomputable def La(a i:MV):Option MV:=(tB a).bind λl=>(tE i l.length).bind λj=>l[j]?
noncomputable def Gp(a i:MV)(h:Hp):Option MV:=(listOf a h).bind λl=>(tE i l.length).bind λj=>l[j]?
noncomputable def fG(a i:MV)(h:Hp):Option MV:=(K8 a i).or ((K9 a i).or ((La a i).or (Gp a i h)))
noncomputable def clip(n:Nat):Int→Nat
 |.ofNat a=>min a n
 |.negSucc k=>n - (k+1)
noncomputable def eX{α:Type}(l:List α)(lo hi:Option Int):List α:=(l.drop (lo.elim 0 (clip l.length))).take (hi.elim l.length (clip l.length) - lo.elim 0 (clip l.length))
noncomputable def jB:Option MV→Option (Option Int)
 |none=>some none
 |some v=>(intOf v).bind λi=>if aK i=true then some (some i) else none
noncomputable def BK(a:MV)(lo hi:Option Int)(h:Hp):Option MV:=((strOf a).map λs=>MV.str (eX s lo hi)).or ((listOf a h).map λl=>.lst (eX l lo hi))
noncomputable def g8(a:MV)(lo hi:Option MV)(h:Hp):Option MV:=(jB lo).bind λlo=>(jB hi).bind λhi=>BK a lo hi h
noncomputable def aT:List MV→Option (List Nat)
 |[]=>some []
 |.str s::r=>(aT r).map (s++·)
 |_::_=>none
noncomputable def jC(sup:List Nat):List MV→Option Bool
 |[]=>some false
 |.cls i::r=>(jC sup r).map (sup.contains i||·)
 |_::_=>none
noncomputable def Gq(sup:List Nat)(c:MV):Option Bool:=((xM c).map λi=>sup.contains i).or ((tB c).bind (jC sup))
noncomputable def rq(P:Prog)(v:MV)(c:MV):Option Bool:=(xK v).bind λr=>(P.dM[r.1]?).bind λce=>Gq ce.rm c
noncomputable def lenOf(a:MV)(h:Hp):Option Nat:=((strOf a).map List.length).or ((listOf a h).map List.length)
noncomputable def tF:MV→Option Nat
 |.int i=>if 0≤i∧i< 10 then some i.toNat else none
 |_=>none
noncomputable def iB(P:Prog)(b:BI)(args:List MV)(h:Hp):Option MV:=match b with
 |.len=>(jA args).bind λa=>(lenOf a h).map λ(n:Nat)=>MV.int (n:Int)
 |.isinstance=>(Ox args).bind λa=>(rq P a.1 a.2).map .bool
 |.ord=>(jA args).bind λa=>(xN a).map λ(n:Nat)=>MV.int (n:Int)
 |.str=>(jA args).bind λa=>(tF a).map λ(n:Nat)=>MV.str [48+n]
noncomputable def stepK(ps:List Nat)(s:List (Nat×MV))(a:Nat×MV):Option (List (Nat×MV)):=if ps.contains a.1&&(aR s a.1).isNone then some (s++[a]) else none
noncomputable def jD(s:List (Nat×MV))(a:Nat×MV):List (Nat×MV):=if (aR s a.1).isNone then s++[a] else s
noncomputable def dz(f:cC)(pos:List MV)(kn:List Nat)(kv:List MV):Option (List MV):=
 if decide (pos.length≤f.params.length)&&decide (f.defs.length≤f.params.length) then
  ((kn.zip kv).foldlM (stepK f.params) (f.params.zip pos)).bind λs=>
   if ((f.params.take (f.params.length - f.defs.length)).all λp=>(aR s p).isSome)=true then
    f.params.mapM (aR (((f.params.drop (f.params.length - f.defs.length)).zip f.defs).foldl jD s))
   else none
 else none
structure Ev where
 ev:ai→Loc→Hp→Option (MV×Hp)
 ex:List aA→Loc→Hp→Option (Fl×Loc×Hp)
 ca:Nat→List MV→Hp→Option (MV×Hp)
noncomputable def aE(ih:Ev):List ai→Loc→Hp→Option (List MV×Hp)
 |[],_,h=>some ([],h)
 |e::r,l,h=>do
  let (v,h) ← ih.ev e l h
  let (vs,h) ← aE ih r l h
  some (v::vs,h)
noncomputable def qt(ih:Ev):Option ai→Loc→Hp→Option (Option MV×Hp)
 |none,_,h=>some (none,h)
 |some e,l,h=>do
  let (v,h) ← ih.ev e l h
  some (some v,h)
noncomputable def tG(ih:Ev):List ai→Loc→Hp→Option (MV×Hp)
 |[],_,_=>none
 |[e],l,h=>ih.ev e l h
 |e::r,l,h=>do
  let (v,h) ← ih.ev e l h
  let b ← truthy v h
  if b then tG ih r l h else some (v,h)
noncomputable def BL(ih:Ev):List ai→Loc→Hp→Option (MV×Hp)
 |[],_,_=>none
 |[e],l,h=>ih.ev e l h
 |e::r,l,h=>do
  let (v,h) ← ih.ev e l h
  let b ← truthy v h
  if b then some (v,h) else BL ih r l h
noncomputable def tH(ih:Ev):MV→List CmpOp→List ai→Loc→Hp→Option (Bool×Hp)
 |a,[op],[e],l,h=>do
  let (v,h) ← ih.ev e l h
  let b ← cV op a v
  some (b,h)
 |a,op::ops,e::es,l,h=>do
  let (v,h) ← ih.ev e l h
  let b ← cV op a v
  if b then tH ih v ops es l h else some (false,h)
 |_,_,_,_,_=>none
noncomputable def test(ih:Ev)(e:ai)(l:Loc)(h:Hp):Option (Bool×Hp):=do
 let (v,h) ← ih.ev e l h
 let b ← truthy v h
 some (b,h)
noncomputable def tests(ih:Ev):List ai→Loc→Hp→Option (Bool×Hp)
 |[],_,h=>some (true,h)
 |e::r,l,h=>do
  let (b,h) ← test ih e l h
  if b then tests ih r l h else some (false,h)
noncomputable def gV(l:Loc)(i:Nat)(v:MV):Loc:=l.set i (some v)
noncomputable def gu(l:Loc)(tgt:List Nat)(tup:Bool)(v:MV):Option Loc:=match tup with
 |false=>match tgt with
  |[i]=>some (gV l i v)
  |_=>none
 |true=>none
noncomputable def iC(m:Bool)(vs:List MV)(h:Hp):MV×Hp:=match m with
 |false=>(.lst vs,h)
 |true=>(.obj h.length,h++[.list vs])
inductive It where
 |items (l:List MV)
 |oi (o:Nat)
noncomputable def cY(a b:Int):List MV:=(List.range (b - a).toNat).map λ(i:Nat)=>MV.int (a+(i:Int))
noncomputable def tK(v:MV)(h:Hp):Option It:=((strOf v).map λs=>It.items (s.map λc=>.str [c])).or (((iA v).map It.items).or ((objOf v).bind λo=>((h[o]?).bind dJ).map λ_=>It.oi o))
noncomputable def vF:List MV→Option (MV×MV)
 |[a,b]=>some (a,b)
 |_=>none
noncomputable def Ti(vs:List MV):Option It:=(vF vs).bind λv=>(intOf v.1).bind λa=>(intOf v.2).bind λb=>if (aK a&&aK b)=true then some (.items (cY a b)) else none
noncomputable def zP(vs:List MV):Option It:=Option.or (Ti vs)<|(jA vs).bind λv=>(intOf v).bind λn=>if aK n=true then some (.items (cY 0 n)) else none
noncomputable def dB(ih:Ev)(it:dm)(l:Loc)(h:Hp):Option (It×Hp):=match it with
 |.val e=>(ih.ev e l h).bind λv=>(tK v.1 v.2).map λi=>(i,v.2)
 |.range args=>(aE ih args l h).bind λvs=>(zP vs.1).map λi=>(i,vs.2)
noncomputable def eY(xs:List MV):Nat→Hp→Option (Option MV):=λk _=>some xs[k]?
noncomputable def kg(o:Nat):Nat→Hp→Option (Option MV):=λk h=>((h[o]?).bind dJ).map λl=>l[k]?
noncomputable def zQ:It→Nat→Hp→Option (Option MV)
 |.items xs=>eY xs
 |.oi o=>kg o
noncomputable def Lb(i:It)(h:Hp):Nat:=match i with
 |.items xs=>xs.length+1
 |.oi o=>(((h[o]?).bind dJ).map List.length).getD 0+1
section
variable (ih:Ev)(elt:ai)(tgt:List Nat)(tup:Bool)(ifs:List ai)(at_:Nat→Hp→Option (Option MV))
noncomputable def dc:Nat→Nat→Loc→Hp→Option (List MV×Hp)
 |0,_,_,_=>none
 |n+1,k,l,h=>(at_ k h).bind λo=>match o with
  |none=>some ([],h)
  |some x=>(gu l tgt tup x).bind λl=>(tests ih ifs l h).bind λb=>if b.1=true then (ih.ev elt l b.2).bind λv=>(dc n (k+1) l v.2).bind λvs=>some (v.1::vs.1,vs.2) else dc n (k+1) l b.2
end
noncomputable def keysOk:List MV→Bool
 |[]=>true
 |k::r=>(match dh k r with|some false=>true|_=>false)&&keysOk r
noncomputable def lQ(P:Prog)(ih:Ev)(f:MV)(pos:List MV)(kn:List Nat)(kv:List MV)(h:Hp):Option (MV×Hp):=match f with
 |.fn i=>do
  let fe ← P.fns[i]?
  let bs ← dz fe pos kn kv
  ih.ca i bs h
 |.cls i=>do
  let ce ← P.dM[i]?
  let fe ← P.fns[ce.init]?
  if ce.isRec then do
   let bs ← dz fe (.none::pos) kn kv
   let vs ← ce.fields.mapM λp=>bs[p.2]?
   some (.d8 i vs,h)
  else do
   let self:=MV.obj h.length
   let bs ← dz fe (self::pos) kn kv
   let (v,h) ← ih.ca ce.init bs (h++[.inst i []])
   match v with
   |.none=>some (self,h)
   |_=>none
 |.bi b=>if kn.isEmpty then (iB P b pos h).map λv=>(v,h) else none
 |_=>none
inductive kY where
 |fn (f:Nat) (first:MV)
 |join (s:List Nat)
 |starts (s:List Nat)
 |append (o:Nat)
 |pop (o:Nat)
 |copy (ks vs:List MV)
 |get (ks vs:List MV)
noncomputable def ie(P:Prog)(o a:Nat)(h:Hp):Option kY:=((h[o]?).bind n8).bind λx=>match aR x.2 a with
 |some m=>(vC m).map λb=>kY.fn b.2 (.obj b.1)
 |none=>(P.dM[x.1]?).bind λce=>(fU ce.meths a).map λf=>.fn f (.obj o)
noncomputable def Gr(P:Prog)(o a:Nat)(h:Hp):Option kY:=((h[o]?).bind dJ).bind λ_=>if (a==P.iX)=true then some (.append o) else if (a==P.BH)=true then some (.pop o) else none
noncomputable def bK(P:Prog)(v:MV)(a:Nat)(h:Hp):Option kY:=match v with
 |.obj o=>(ie P o a h).or (Gr P o a h)
 |.str s=>if (a==P.j9)=true then some (.join s) else if (a==P.g7)=true then some (.starts s) else none
 |.jk ks vs=>if (a==P.mH)=true then some (.copy ks vs) else if (a==P.zO)=true then some (.get ks vs) else none
 |_=>none
noncomputable def Tj(v:MV):Bool:=match intOf v with
 |some i=>decide (i=0)
 |none=>false
theorem xO{v:MV}(e:Tj v=true):v=.int 0:=by cases v<;>first|exact (bR e).elim|exact congrArg _ (bz e)
noncomputable def OA(n:Nat):List MV→Option Nat
 |[]=>some (n - 1)
 |z::r=>if (Tj z&&r.isEmpty)=true then some 0 else none
noncomputable def oj(c:kY)(pos:List MV)(h:Hp):Option (MV×Hp):=match c with
 |.fn _ _=>none
 |.join s=>if s.isEmpty=true then (jA pos).bind λx=>(listOf x h).bind λl=>(aT l).bind λs=>(qg s).map λv=>(v,h) else none
 |.starts s=>(jA pos).bind λt=>(strOf t).map λt=>(.bool (t.isPrefixOf s),h)
 |.append o=>(jA pos).bind λx=>((h[o]?).bind dJ).bind λl=>if l.length< az then some (.none,h.set o (.list (l++[x]))) else none
 |.pop o=>((h[o]?).bind dJ).bind λl=>(OA l.length pos).bind λj=>(l[j]?).map λv=>(v,h.set o (.list (l.eraseIdx j)))
 |.copy ks vs=>if (pos.isEmpty&&(strKeys ks&&keysOk ks&&decide (ks.length≤100)))=true then some (.jk ks vs,h) else none
 |.get ks vs=>(vF pos).bind λkd=>(gc kd.1 ks vs).map λo=>(o.getD kd.2,h)
noncomputable def Tn:kY→Option (Nat×MV)
 |.fn f self=>some (f,self)
 |_=>none
noncomputable def d9(P:Prog)(ih:Ev)(c:kY)(pos:List MV)(kn:List Nat)(kv:List MV)(h:Hp):Option (MV×Hp):=match Tn c with
 |some c=>(P.fns[c.1]?).bind λfe=>(dz fe (c.2::pos) kn kv).bind λbs=>ih.ca c.1 bs h
 |none=>if kn.isEmpty=true then oj c pos h else none
noncomputable def getAttr(P:Prog)(v:MV)(a:Nat)(h:Hp):Option MV:=match v with
 |.obj o=>((h[o]?).bind n8).bind λx=>(aR x.2 a).or ((P.dM[x.1]?).bind λce=>((fU ce.meths a).map λf=>MV.bm o f).or (aR ce.gI a))
 |.d8 c vs=>(P.dM[c]?).bind λce=>iJ ce.fields vs a
 |_=>none
noncomputable def fK(P:Prog)(ih:Ev):ai→Loc→Hp→Option (MV×Hp)
 |.bE v,_,h=>some (v,h)
 |.av v,_,h=>some (v,h)
 |.aH i,l,h=>match l[i]? with
  |some (some v)=>some (v,h)
  |_=>none
 |.aJ e a,l,h=>do
  let (v,h) ← ih.ev e l h
  let r ← getAttr P v a h
  some (r,h)
 |.bin op a b,l,h=>do
  let (x,h) ← ih.ev a l h
  let (y,h) ← ih.ev b l h
  let r ← binOp op x y h
  some (r,h)
 |.bS es,l,h=>tG ih es l h
 |.fJ es,l,h=>BL ih es l h
 |.cg e,l,h=>do
  let (b,h) ← test ih e l h
  some (.bool (!b),h)
 |.neg e,l,h=>do
  let (v,h) ← ih.ev e l h
  match v with
  |.int i=>if aK i then some (.int (-i),h) else none
  |_=>none
 |.cmp a ops es,l,h=>do
  let (v,h) ← ih.ev a l h
  let (b,h) ← tH ih v ops es l h
  some (.bool b,h)
 |.aG c a b,l,h=>do
  let (t,h) ← test ih c l h
  if t then ih.ev a l h else ih.ev b l h
 |.sub a i,l,h=>do
  let (x,h) ← ih.ev a l h
  let (y,h) ← ih.ev i l h
  let r ← fG x y h
  some (r,h)
 |.slice a lo hi,l,h=>do
  let (x,h) ← ih.ev a l h
  let (lo,h) ← qt ih lo l h
  let (hi,h) ← qt ih hi l h
  let r ← g8 x lo hi h
  some (r,h)
 |.list m es,l,h=>do
  let (vs,h) ← aE ih es l h
  if vs.length≤az then some (iC m vs h) else none
 |.tuple es,l,h=>do
  let (vs,h) ← aE ih es l h
  if vs.length≤az then some (.tup vs,h) else none
 |.dict ks vs,_,h=>if (strKeys ks||intKeys ks)&&keysOk ks&&ks.length==vs.length&&decide (ks.length≤15)&& !ks.isEmpty then some (.jk ks vs,h) else none
 |.call f args kn kv,l,h=>do
  let (fv,h) ← ih.ev f l h
  let (as,h) ← aE ih args l h
  let (ks,h) ← aE ih kv l h
  lQ P ih fv as kn ks h
 |.ay o a args kn kv,l,h=>do
  let (ov,h) ← ih.ev o l h
  let c ← bK P ov a h
  let (as,h) ← aE ih args l h
  let (ks,h) ← aE ih kv l h
  d9 P ih c as kn ks h
 |.comp m elt nv tgt tup it ifs,l,h=>(dB ih it l h).bind λi=>(dc ih elt tgt tup ifs (zQ i.1) (Lb i.1 i.2) 0 (List.replicate nv Option.none++l) i.2).bind λvs=>if vs.1.length≤az then some (iC m vs.1 vs.2) else none
noncomputable def tL(P:Prog)(c a:Nat):Bool:=match P.dM[c]? with
 |some ce=>(fU ce.meths a).isNone&&(aR ce.gI a).isNone
 |none=>false
noncomputable def jW(P:Prog)(ov:MV)(a:Nat)(v:MV)(h:Hp):Option Hp:=(objOf ov).bind λk=>((h[k]?).bind n8).bind λx=>if (tL P x.1 a&&decide (x.2.length< 300))=true then some (h.set k (.inst x.1 (gJ x.2 a v))) else none
noncomputable def jX(ov iv v:MV)(h:Hp):Option Hp:=(objOf ov).bind λk=>(intOf iv).bind λj=>((h[k]?).bind dJ).bind λxs=>if aK j=true then (idx xs.length j).map λj=>h.set k (.list (xs.set j v)) else none
noncomputable def store(P:Prog)(ih:Ev):dI→MV→Loc→Hp→Option (Loc×Hp)
 |.aH i,v,l,h=>some (gV l i v,h)
 |.aJ o a,v,l,h=>do
  let (ov,h) ← ih.ev o l h
  let h ← jW P ov a v h
  some (l,h)
 |.sub o i,v,l,h=>do
  let (ov,h) ← ih.ev o l h
  let (iv,h) ← ih.ev i l h
  let h ← jX ov iv v h
  some (l,h)
noncomputable def storeAll(P:Prog)(ih:Ev):List dI→MV→Loc→Hp→Option (Loc×Hp)
 |[],_,l,h=>some (l,h)
 |t::r,v,l,h=>do
  let (l,h) ← store P ih t v l h
  storeAll P ih r v l h
noncomputable def eZ(ih:Ev)(c:ai)(b:List aA):Nat→Loc→Hp→Option (Fl×Loc×Hp)
 |0,_,_=>none
 |k+1,l,h=>do
  let (t,h) ← test ih c l h
  if t then do
   let (f,l,h) ← ih.ex b l h
   match f with
   |.next=>eZ ih c b k l h
   |.ret v=>some (.ret v,l,h)
  else some (.next,l,h)
noncomputable def fc:Nat:=100000
noncomputable def bT(ih:Ev)(t:dI)(b:List aA):List MV→Loc→Hp→Option (Fl×Loc×Hp)
 |[],l,h=>some (.next,l,h)
 |x::r,l,h=>do
  let l ← (match t with
   |.aH i=>gu l [i] false x
   |_=>none)
  let (f,l,h) ← ih.ex b l h
  match f with
  |.next=>bT ih t b r l h
  |.ret v=>some (.ret v,l,h)
noncomputable def eF(op:Operator)(a b:MV)(_:Hp):Option MV:=match op with
 |.Add=>(arith (λx y=>x+y) a b).or (BJ a b)
 |.Sub=>arith (λx y=>x - y) a b
 |_=>none
noncomputable def bU(P:Prog)(ih:Ev):aA→Loc→Hp→Option (Fl×Loc×Hp)
 |.pass,l,h=>some (.next,l,h)
 |.fail,_,_=>none
 |.expr e,l,h=>do
  let (_,h) ← ih.ev e l h
  some (.next,l,h)
 |.ret none,l,h=>some (.ret .none,l,h)
 |.ret (some e),l,h=>do
  let (v,h) ← ih.ev e l h
  some (.ret v,l,h)
 |.assign ts e,l,h=>do
  let (v,h) ← ih.ev e l h
  let (l,h) ← storeAll P ih ts v l h
  some (.next,l,h)
 |.aug t op e,l,h=>match t with
  |.aH i=>match l[i]? with
   |some (some old)=>do
    let (v,h) ← ih.ev e l h
    let r ← eF op old v h
    some (.next,gV l i r,h)
   |_=>none
  |.aJ o a=>do
   let (ov,h) ← ih.ev o l h
   let old ← getAttr P ov a h
   let (v,h) ← ih.ev e l h
   let r ← eF op old v h
   let h ← jW P ov a r h
   some (.next,l,h)
  |.sub o i=>do
   let (ov,h) ← ih.ev o l h
   let (iv,h) ← ih.ev i l h
   let old ← fG ov iv h
   let (v,h) ← ih.ev e l h
   let r ← eF op old v h
   let h ← jX ov iv r h
   some (.next,l,h)
 |.aG c a b,l,h=>do
  let (t,h) ← test ih c l h
  if t then ih.ex a l h else ih.ex b l h
 |.cN c b,l,h=>eZ ih c b fc l h
 |.dW t it b,l,h=>do
  let (i,h) ← dB ih it l h
  match i with
  |.items xs=>bT ih t b xs l h
  |.oi _=>none
noncomputable def BN(P:Prog)(ih:Ev):List aA→Loc→Hp→Option (Fl×Loc×Hp)
 |[],l,h=>some (.next,l,h)
 |s::r,l,h=>do
  let (f,l,h) ← bU P ih s l h
  match f with
  |.next=>ih.ex r l h
  |.ret v=>some (.ret v,l,h)
noncomputable def rt(P:Prog)(ih:Ev)(i:Nat)(bs:List MV)(h:Hp):Option (MV×Hp):=do
 let fe ← P.fns[i]?
 let (f,_,h) ← ih.ex fe.body (bs.map some++List.replicate (fe.nE - bs.length) Option.none) h
 match f with
 |.next=>some (.none,h)
 |.ret v=>some (v,h)
noncomputable def step(P:Prog)(ih:Ev):Ev:=⟨fK P ih,BN P ih,rt P ih⟩
noncomputable def bot:Ev:=⟨λ_ _ _=>none,λ_ _ _=>none,λ_ _ _=>none⟩
noncomputable def E(P:Prog):Nat→Ev
 |0=>bot
 |n+1=>step P (E P n)
structure CI where
 kinds:List (Str×NameKind)
 slots:List Str
 av:List (Str×MV)
 nm:List Str
 ff:List (Nat×Nat)
noncomputable def fM:Option NameKind→Bool
 |some .local=>true
 |some .cell=>true
 |_=>false
noncomputable def nameId(ci:CI)(x:Str):Option Nat:=ci.nm.idxOf? x
noncomputable def jE(ci:CI)(x:Str):Option Nat:=if fM (ci.kinds.lookup x) then ci.slots.idxOf? x else none
noncomputable def BO(ci:CI)(x:Str):Option Nat:=if ci.kinds.lookup x==some .local then ci.slots.idxOf? x else none
noncomputable def isDebug(x:Str):Bool:=x==Str.ofString "__debug__"
noncomputable def tM(ci:CI)(x:Str):Option ai:=
 if isDebug x then none else
 if fM (ci.kinds.lookup x) then (ci.slots.idxOf? x).map .aH
 else if ci.kinds.lookup x==some .globalImplicit then (ci.av.lookup x).map .av
 else none
noncomputable def xP(ci:CI)(p:Pos):Bool:=ci.ff.contains (p.line,p.col)
noncomputable def iY:Expr→Option Str
 |.Name x _=>some x
 |_=>none
noncomputable def dD(ci:CI):Expr→Option (List Nat×Bool)
 |.Name x _=>(BO ci x).map λi=>([i],false)
 |_=>none
noncomputable def oq(outer:List (Str×NameKind))(names:List (Str×NameKind)):List (Str×NameKind):=names.map λ(n,k)=>if k==.free&&outer.lookup n==some .cell then (n,.cell) else (n,k)
noncomputable def eg(ci:CI)(sc:Scope):CI:={ci with kinds:=oq ci.kinds sc.names,slots:=(sc.names.filter (·.2==.local)).map (·.1)++ci.slots}
noncomputable def Gs(x:Str):Bool:=x==Str.ofString "super"
noncomputable def fN:Expr→Bool
 |.Call (.Name x _) [] [] _=>Gs x
 |_=>false
noncomputable def ou(ci:CI)(k:Keyword):Option Nat:=k.arg.bind (nameId ci)
noncomputable def gv(sc:Scope):Bool:=sc.kind==.function&& !sc.isGenerator&& !sc.isCoroutine&&sc.names.all (λp=>p.2 !=.cell)&&decide (sc.names.map (·.1)).Nodup
noncomputable def freeOk(ci:CI)(sc:Scope):Bool:=sc.names.all λp=>p.2 !=.free||(ci.kinds.lookup p.1==some .cell&&ci.slots.contains p.1)
noncomputable def eG(ci:CI)(n:String)(x:Str):Bool:=x==Str.ofString n&&ci.kinds.lookup x==some .globalImplicit&&(ci.av.lookup x).isNone
noncomputable def iD:Expr→Option MV
 |.Constant c _ _=>match c with
  |.int i=>if aK i then some (.int i) else none
  |.str s=>if s.cps.size≤az then some (.str s.cps.toList) else none
  |_=>none
 |_=>none
noncomputable def ig:Expr→Option (Option Expr×Option Expr×Option Expr)
 |.Slice a b c _=>some (a,b,c)
 |_=>none
noncomputable def lR:Expr→Option (Expr×Str×Pos)
 |.Attribute o a p=>some (o,a,p)
 |_=>none
noncomputable def ru(gs:List Comprehension):Option (Expr×Expr×List Expr):=match gs with
 |[]=>none
 |g::r=>if r.isEmpty&&g.is_async==0 then some (g.target,g.iter,g.ifs) else none
noncomputable def qu:Const→Option ai
 |.none=>some (.bE .none)
 |.bool b=>some (.bE (.bool b))
 |.int i=>if aK i then some (.bE (.int i)) else none
 |.str s=>if s.cps.size≤az then some (.bE (.str s.cps.toList)) else none
 |_=>none
noncomputable def To(m:ai):UnaryOp→Option ai
 |.Not=>some (.cg m)
 |.USub=>some (.neg m)
 |_=>none
noncomputable def Gu(ms:List ai):BoolOp→ai
 |.And=>.bS ms
 |.Or=>.fJ ms
noncomputable def ry:Expr→Option (Str×List Expr)
 |.Call f args dX _=>if dX.isEmpty then (iY f).map λx=>(x,args) else none
 |_=>none
mutual
noncomputable def aB:Nat→CI→Expr→Option ai
 |0,_,_=>none
 |n+1,ci,e=>match e with
  |.Constant c _ _=>qu c
  |.Name x _=>tM ci x
  |.Attribute o a _=>if fN o then none else do
   let m ← aB n ci o
   let i ← nameId ci a
   some (.aJ m i)
  |.BinOp l op r _=>do
   let a ← aB n ci l
   let b ← aB n ci r
   some (.bin op a b)
  |.BoolOp op es _=>do
   let ms ← es.mapM (aB n ci)
   some (Gu ms op)
  |.UnaryOp op x _=>do
   let m ← aB n ci x
   To m op
  |.Compare l ops es _=>if ops.length==es.length then do
   let m ← aB n ci l
   let ms ← es.mapM (aB n ci)
   some (.cmp m ops ms)
   else none
  |.IfExp c a b _=>do
   let c ← aB n ci c
   let a ← aB n ci a
   let b ← aB n ci b
   some (.aG c a b)
  |.Subscript a i _=>match ig i with
   |some (lo,hi,st)=>if st.isNone then do
    let a ← aB n ci a
    let lo ← fT n ci lo
    let hi ← fT n ci hi
    some (.slice a lo hi)
    else none
   |none=>do
    let a ← aB n ci a
    let i ← aB n ci i
    some (.sub a i)
  |.List es pos=>do
   let ms ← es.mapM (aB n ci)
   some (.list (xP ci pos) ms)
  |.Tuple es _ _=>do
   let ms ← es.mapM (aB n ci)
   some (.tuple ms)
  |.Dict ks vs _=>do
   let ks ← ks.mapM λk=>k.bind iD
   let vs ← vs.mapM iD
   some (.dict ks vs)
  |.Call f args dX pos=>match lR f with
   |some (o,a,apos)=>if fN o|| !(apos.endLine==pos.line)|| !(args.length+dX.length< 25) then none else do
    let m ← aB n ci o
    let i ← nameId ci a
    let ms ← args.mapM (aB n ci)
    let kn ← dX.mapM (ou ci)
    let kv ← dX.mapM λk=>aB n ci k.value
    some (.ay m i ms kn kv)
   |none=>if args.length+2 * dX.length< 25 then do
    let m ← aB n ci f
    let ms ← args.mapM (aB n ci)
    let kn ← dX.mapM (ou ci)
    let kv ← dX.mapM λk=>aB n ci k.value
    some (.call m ms kn kv)
    else none
  |.ListComp elt gs sc pos=>match ru gs with
   |some (t,it,ifs)=>if gv sc&&freeOk ci sc then do
    let i ← iZ n ci it
    let Tp:=eg ci sc
    let (is,tup) ← dD Tp t
    let m ← aB n Tp elt
    let ms ← ifs.mapM (aB n Tp)
    some (.comp (xP ci pos) m (sc.names.filter (·.2==.local)).length is tup i ms)
    else none
   |none=>none
  |_=>none
noncomputable def fT:Nat→CI→Option Expr→Option (Option ai)
 |_,_,none=>some none
 |0,_,some _=>none
 |n+1,ci,some e=>do
  let m ← aB n ci e
  some (some m)
noncomputable def iZ:Nat→CI→Expr→Option dm
 |0,_,_=>none
 |n+1,ci,e=>match ry e with
  |none=>(aB n ci e).map .val
  |some q=>if eG ci "range" q.1 then (q.2.mapM (aB n ci)).map .range
   else (aB n ci e).map .val
end
noncomputable def ow(n:Nat)(ci:CI):Expr→Option dI
 |.Name x _=>(jE ci x).map .aH
 |.Attribute o a _=>if fN o then none else do
  let m ← aB n ci o
  let i ← nameId ci a
  some (.aJ m i)
 |.Subscript o i _=>if (ig i).isSome then none else do
  let m ← aB n ci o
  let j ← aB n ci i
  some (.sub m j)
 |_=>none
noncomputable def BP(ci:CI)(n:Nat)(ts:List Expr):Option (List dI):=ts.mapM (ow n ci)
noncomputable def BQ:Expr→Bool
 |.Tuple ..=>true
 |.List ..=>true
 |_=>false
noncomputable def kF:Expr→Bool
 |.ListComp ..=>true
 |_=>false
noncomputable def BR(ss:List Stmt→List aA)(n:Nat)(ci:CI):Stmt→Option aA
 |.Expr e _=>if kF e then none else (aB n ci e).map .expr
 |.Pass _=>some .pass
 |.Return eo _=>(fT (n+1) ci eo).map .ret
 |.Assign ts e _=>if ts.any BQ then none else do
  let ms ← BP ci n ts
  let m ← aB n ci e
  some (.assign ms m)
 |.AugAssign t op e _=>do
  let mt ← ow n ci t
  let m ← aB n ci e
  some (.aug mt op m)
 |.If c a b _=>(aB n ci c).map λm=>.aG m (ss a) (ss b)
 |.While c b e _=>if e.isEmpty then (aB n ci c).map λm=>.cN m (ss b) else none
 |.For t it b e _=>if e.isEmpty then do
  let x ← iY t
  let j ← jE ci x
  let i ← iZ n ci it
  some (.dW (.aH j) i (ss b))
  else none
 |_=>none
mutual
noncomputable def JD:Nat→CI→Stmt→aA
 |0,_,_=>.fail
 |n+1,ci,s=>(BR (eO n ci) n ci s).getD .fail
noncomputable def eO:Nat→CI→List Stmt→List aA
 |0,_,_=>[.fail]
 |_+1,_,[]=>[]
 |n+1,ci,s::r=>JD n ci s::eO n ci r
end
noncomputable def slotsOf(sc:Scope):List Str:=(sc.names.filter λp=>p.2==.local||p.2==.cell).map (·.1)
noncomputable def BS(av:List (Str×MV))(nm:List Str)(ff:List (Nat×Nat))(sc:Scope):CI:=⟨sc.names,slotsOf sc,av,nm,ff⟩
noncomputable def OB:Expr→Option MV
 |.Constant c _ _=>match c with
  |.none=>some .none
  |.bool b=>some (.bool b)
  |_=>none
 |_=>none
noncomputable def vG(av:List (Str×MV))(nm:List Str)(ff:List (Nat×Nat))(ps:Arguments)(body:List Stmt)(sc:Scope):Option cC:=do
 let pn:=ps.args.map (·.arg)
 let ids ← pn.mapM λx=>nm.idxOf? x
 let ds ← ps.defaults.mapM OB
 if ps.posonlyargs.isEmpty&&ps.vararg.isNone&&ps.kwonlyargs.isEmpty&&ps.kwarg.isNone&&sc.kind==.function&& !sc.isGenerator&& !sc.isCoroutine
  &&(slotsOf sc).take pn.length==pn&&decide (sc.names.map (·.1)).Nodup then
  some ⟨ids,ds,(slotsOf sc).length,eO 60 (BS av nm ff sc) body⟩
 else none
end
section
open PySem PySem.W PySem.Calls PyProof.Rows
structure bZ where
 prog:Program
 w:World
 pm:Prog
 nm:List Str
 av:List (Str×MV)
 ff:List (Nat×Nat)
 fa:List Addr
 ca:List Addr
noncomputable def bZ.fld(D:bZ)(c:Nat):List Str:=match D.pm.dM[c]? with
 |some ce=>ce.fields.map λp=>(D.nm[p.1]?).getD Str.empty
 |none=>[]
noncomputable abbrev PR:=Addr×Option Addr
noncomputable def gw(p:PR):List Addr:=p.1::p.2.toList
noncomputable def bM(ρ:List PR):List Addr:=ρ.flatMap gw
noncomputable abbrev Fz:=Addr→Obj→Prop
noncomputable def BI.val:BI→Value
 |.len=>.builtin "len"
 |.isinstance=>.builtin "isinstance"
 |.ord=>.builtin "ord"
 |.str=>.type "str"
noncomputable def toStr(s:List Nat):Str:=⟨s.toArray⟩
def tN(w:World)(k:MV)(e:DictEntry):Prop:=match k with
 |.str s=>∃t,e.key=.str (toStr s) t∧e.hash=hashStr w (toStr s)
 |.int i=>∃t,e.key=.int i t∧e.hash=hashInt i
 |_=>False
def We(o:Obj)(m:Str→Option Value):Prop:=∃es ep,o.data=.dict es ep∧StrKeys es∧∀x,nsFind es x=m x
mutual
noncomputable def VR(D:bZ)(G:Fz)(ρ:List PR):MV→Value→Prop
 |.none,v=>v=.none
 |.bool b,v=>v=.bool b
 |.int i,v=>∃t,v=.int i t
 |.str s,v=>s.length≤az∧∃t,v=.str (toStr s) t
 |.tup l,v=>l.length≤az∧∃a o vs n,v=.ref a∧G a o∧o.cls=.type "tuple"∧o.data=.seq vs.toArray n∧cB D G ρ l vs
 |.lst l,v=>l.length≤az∧∃a o vs n,v=.ref a∧G a o∧o.cls=.type "list"∧o.data=.seq vs.toArray n∧cB D G ρ l vs
 |.jk ks vs,v=>∃(a:Addr) (o:Obj) (es:List DictEntry) (n:Nat),v=.ref a∧a≠sysModules∧(strKeys ks=true∨intKeys ks=true)∧G a o∧o.ExactDict∧o.data=.dict es.toArray n∧ks.length=es.length∧(∀(j:Nat) (k:MV) (e:DictEntry),ks[j]? =some k→es[j]? =some e→tN D.w k e)∧cB D G ρ vs (es.map (·.val))
 |.d8 c vs,v=>∃(x C dx:Addr) (o:Obj) (m:Str→Option Value) (ws:List Value),v=.ref x∧(∃ce,D.pm.dM[c]? =some ce∧ce.isRec=true)∧D.ca[c]? =some C∧G x (instObj C dx)∧G dx o∧We o m∧cB D G ρ vs ws∧(∀(j:Nat) (y:Str),(D.fld c)[j]? =some y→m y=ws[j]?)
 |.obj i,v=>∃p,ρ[i]? =some p∧v=.ref p.1
 |.fn i,v=>∃a,D.fa[i]? =some a∧v=.ref a
 |.cls i,v=>∃a,D.ca[i]? =some a∧v=.ref a
 |.bm o f,v=>∃q fa p,v=.ref q∧D.fa[f]? =some fa∧ρ[o]? =some p∧G q (methodObj (.ref fa) (.ref p.1))
 |.bi b,v=>v=b.val
noncomputable def cB(D:bZ)(G:Fz)(ρ:List PR):List MV→List Value→Prop
 |[],vs=>vs=[]
 |m::r,vs=>∃v ws,vs=v::ws∧VR D G ρ m v∧cB D G ρ r ws
end
def jq(G G':Fz):Prop:=∀a o,G a o→G' a o
theorem jq.refl(G:Fz):jq G G:=λ_ _ h=>h
theorem jq.trans{G G' OC:Fz}(a:jq G G')(b:jq G' OC):jq G OC:=λx o h=>b x o (a x o h)
def tg(ρ cA:List PR):Prop:=∀(i:Nat) (p:PR),ρ[i]? =some p→cA[i]? =some p
theorem tg.refl(ρ:List PR):tg ρ ρ:=λ_ _ h=>h
theorem tg.trans{a b c:List PR}(x:tg a b)(y:tg b c):tg a c:=λi p h=>y i p (x i p h)
theorem tg.append(ρ l:List PR):tg ρ (ρ++l):=λi p h=>by
 have:i< ρ.length:=by
  cases q:decide (i< ρ.length) with
  |true=>exact bz q
  |false=>rw [List.getElem?_eq_none (by have:=of_decide_eq_false q;lia)] at h;cases h
 rw [List.getElem?_append_left this];exact h
mutual
theorem VR.mono{D:bZ}{G G':Fz}{ρ cA:List PR}(hG:jq G G')(lS:tg ρ cA):∀(m:MV) (v:Value),VR D G ρ m v→VR D G' cA m v
 |.none,_,h=>h
 |.bool _,_,h=>h
 |.int _,_,h=>h
 |.str _,_,h=>h
 |.tup l,_,h=>⟨h.1,h.2.imp λ_=>Exists.imp λ_=>Exists.imp λ_=>Exists.imp λ_ q=>⟨q.1,hG _ _ q.2.1,q.2.2.1,q.2.2.2.1,cB.mono hG lS l _ q.2.2.2.2⟩⟩
 |.lst l,_,h=>⟨h.1,h.2.imp λ_=>Exists.imp λ_=>Exists.imp λ_=>Exists.imp λ_ q=>⟨q.1,hG _ _ q.2.1,q.2.2.1,q.2.2.2.1,cB.mono hG lS l _ q.2.2.2.2⟩⟩
 |.jk _ vs,_,h=>Exists.imp (λ_=>Exists.imp λ_=>Exists.imp λ_=>Exists.imp λ_ q=>⟨q.1,q.2.1,q.2.2.1,hG _ _ q.2.2.2.1,q.2.2.2.2.1,q.2.2.2.2.2.1,q.2.2.2.2.2.2.1,q.2.2.2.2.2.2.2.1,cB.mono hG lS vs _ q.2.2.2.2.2.2.2.2⟩) h
 |.d8 _ vs,_,h=>Exists.imp (λ_=>Exists.imp λ_=>Exists.imp λ_=>Exists.imp λ_=>Exists.imp λ_=>Exists.imp λ_ q=>⟨q.1,q.2.1,q.2.2.1,hG _ _ q.2.2.2.1,hG _ _ q.2.2.2.2.1,q.2.2.2.2.2.1,cB.mono hG lS vs _ q.2.2.2.2.2.2.1,q.2.2.2.2.2.2.2⟩) h
 |.obj _,_,h=>Exists.imp (λ_ q=>⟨lS _ _ q.1,q.2⟩) h
 |.fn _,_,h=>h
 |.cls _,_,h=>h
 |.bm _ _,_,h=>Exists.imp (λ_=>Exists.imp λ_=>Exists.imp λ_ q=>⟨q.1,q.2.1,lS _ _ q.2.2.1,hG _ _ q.2.2.2⟩) h
 |.bi _,_,h=>h
theorem cB.mono{D:bZ}{G G':Fz}{ρ cA:List PR}(hG:jq G G')(lS:tg ρ cA):∀(m:List MV) (v:List Value),cB D G ρ m v→cB D G' cA m v
 |[],_,h=>h
 |m::r,_,h=>Exists.imp (λ_=>Exists.imp λ_ q=>⟨q.1,VR.mono hG lS m _ q.2.1,cB.mono hG lS r _ q.2.2⟩) h
end
section
variable {D:bZ}{G:Fz}{ρ:List PR}
theorem cB.nil:cB D G ρ [] []:=by rfl
theorem cB.cons{m:MV}{v:Value}{ms:List MV}{vs:List Value}(h:VR D G ρ m v)(r:cB D G ρ ms vs):cB D G ρ (m::ms) (v::vs):=by exact ⟨v,vs,rfl,h,r⟩
theorem cB.cons_inv{m:MV}{ms:List MV}{vs:List Value}(h:cB D G ρ (m::ms) vs):∃v ws,vs=v::ws∧VR D G ρ m v∧cB D G ρ ms ws:=by exact h
theorem cB.nil_inv{vs:List Value}(h:cB D G ρ [] vs):vs=[]:=by exact h
theorem cB.length:∀{ms:List MV} {vs:List Value},cB D G ρ ms vs→ms.length=vs.length
 |[],_,h=>by rw [h.nil_inv];rfl
 |_::_,_,h=>by obtain ⟨v,ws,rfl,_,r⟩:=h.cons_inv;rw [List.length_cons,List.length_cons,r.length]
theorem cB.get:∀{ms:List MV} {vs:List Value},cB D G ρ ms vs→∀{i:Nat} {m:MV},ms[i]? =some m→∃v,vs[i]? =some v∧VR D G ρ m v
 |[],_,_,i,m,e=>by simp at e
 |_::_,_,h,i,m,e=>by
  obtain ⟨v,ws,rfl,a,r⟩:=h.cons_inv
  cases i with
  |zero=>simp at e;subst e;exact ⟨v,rfl,a⟩
  |succ i=>simp at e⊢;exact r.get e
theorem cB.append:∀{a:List MV} {x:List Value} {b:List MV} {y:List Value},cB D G ρ a x→cB D G ρ b y→cB D G ρ (a++b) (x++y)
 |[],_,_,_,h,r=>by rw [h.nil_inv];exact r
 |_::_,_,_,_,h,r=>by obtain ⟨v,ws,rfl,a,q⟩:=h.cons_inv;exact .cons a (q.append r)
theorem cB.take:∀{ms:List MV} {vs:List Value} (n:Nat),cB D G ρ ms vs→cB D G ρ (ms.take n) (vs.take n)
 |_,_,0,_=>by simp;exact .nil
 |[],_,n+1,h=>by rw [h.nil_inv];simp;exact .nil
 |_::_,_,n+1,h=>by obtain ⟨v,ws,rfl,a,q⟩:=h.cons_inv;simp;exact .cons a (q.take n)
theorem cB.drop:∀{ms:List MV} {vs:List Value} (n:Nat),cB D G ρ ms vs→cB D G ρ (ms.drop n) (vs.drop n)
 |_,_,0,h=>by simpa using h
 |[],_,n+1,h=>by rw [h.nil_inv];simp;exact .nil
 |_::_,_,n+1,h=>by obtain ⟨v,ws,rfl,a,q⟩:=h.cons_inv;simp;exact q.drop n
theorem cB.set:∀{ms:List MV} {vs:List Value} (n:Nat) {m:MV} {v:Value},cB D G ρ ms vs→VR D G ρ m v→cB D G ρ (ms.set n m) (vs.set n v)
 |[],_,n,_,_,h,_=>by rw [h.nil_inv];simp;exact .nil
 |_::_,_,0,_,_,h,r=>by obtain ⟨v,ws,rfl,a,q⟩:=h.cons_inv;simp;exact .cons r q
 |_::_,_,n+1,_,_,h,r=>by obtain ⟨v,ws,rfl,a,q⟩:=h.cons_inv;simp;exact .cons a (q.set n r)
theorem cB.eraseIdx:∀{ms:List MV} {vs:List Value} (n:Nat),cB D G ρ ms vs→cB D G ρ (ms.eraseIdx n) (vs.eraseIdx n)
 |[],_,n,h=>by rw [h.nil_inv];simp;exact .nil
 |_::_,_,0,h=>by obtain ⟨v,ws,rfl,a,q⟩:=h.cons_inv;simpa using q
 |_::_,_,n+1,h=>by obtain ⟨v,ws,rfl,a,q⟩:=h.cons_inv;simp;exact .cons a (q.eraseIdx n)
end
structure rz{α β:Type}(P:α→β→Prop)(a:Option α)(b:Option β):Prop where
 n:a.isNone=b.isNone
 s:∀m,a=some m→∃v,b=some v∧P m v
theorem rz.imp{α β:Type}{P P':α→β→Prop}{a:Option α}{b:Option β}(h:rz P a b)(f:∀m v,P m v→P' m v):rz P' a b:=⟨h.n,λm e=>(h.s m e).imp λv q=>⟨q.1,f _ _ q.2⟩⟩
theorem rz.no{α β:Type}{P:α→β→Prop}{a:Option α}{b:Option β}(h:rz P a b)(e:a=none):b=none:=Option.isNone_iff_eq_none.mp (h.n.symm.trans (e▸rfl))
def xQ(D:bZ)(G:Fz)(ρ:List PR)(attrs:List (Nat×MV))(m:Str→Option Value):Prop:=∀(a:Nat) (x:Str),D.nm[a]? =some x→rz (VR D G ρ) (aR attrs a) (m x)
def xR(h:Heap)(a:Addr)(m:Str→Option Value)(N:Nat):Prop:=∃o es ep,h.get? a=some o∧o.data=.dict es ep∧StrKeys es∧(∀name,nsFind es name=m name)∧es.size≤N
theorem xR.ns{h:Heap}{a:Addr}{m:Str→Option Value}{N:Nat}(x:xR h a m N):h.Ns a m:=let ⟨o,es,ep,h1,h2,h3,h4,_⟩:=x;⟨o,es,ep,h1,h2,h3,h4⟩
theorem xR.at{h h':Heap}{a:Addr}{m:Str→Option Value}{N:Nat}(x:xR h a m N)(e:∀o,h.get? a=some o→h'.get? a=some o):xR h' a m N:=let ⟨o,es,ep,h1,h2⟩:=x;⟨o,es,ep,e _ h1,h2⟩
structure OD(D:bZ)(G:Fz)(ρ:List PR)(h:Heap)(p:PR)(c:Nat)(attrs:List (Nat×MV))(C dx:Addr)(m:Str→Option Value):Prop where
 hC:D.ca[c]? =some C
 hd:p.2=some dx
 ob:h.get? p.1=some (instObj C dx)
 ns:xR h dx m attrs.length
 at_:xQ D G ρ attrs m
 own:∀a,(aR attrs a).isSome=true→tL D.pm c a=true
 rc:∃ce,D.pm.dM[c]? =some ce∧ce.isRec=false
noncomputable def OR(D:bZ)(G:Fz)(ρ:List PR)(h:Heap)(p:PR):iW→Prop
 |.list l=>p.2=none∧l.length≤az∧∃vs,h.PlainList p.1 vs.toArray∧cB D G ρ l vs
 |.inst c attrs=>∃C dx m,OD D G ρ h p c attrs C dx m
theorem mK(p:PR):p.1∈gw p:=b7 ..
theorem JE{p:PR}{d:Addr}(h:p.2=some d):d∈gw p:=by unfold gw;rw [h];exact bP _ (b7 ..)
theorem OR.mono{D:bZ}{G G':Fz}{ρ cA:List PR}(hG:jq G G')(lS:tg ρ cA){h h':Heap}{p:PR}{o:iW}(x:OR D G ρ h p o)(hk:∀b∈gw p,∀ob,h.get? b=some ob→h'.get? b=some ob):OR D G' cA h' p o:=by
 cases o with
 |list l=>exact ⟨x.1,x.2.1,x.2.2.imp λvs q=>⟨q.1.at λo e=>hk _ (mK p) o e,cB.mono hG lS _ _ q.2⟩⟩
 |inst c attrs=>obtain ⟨C,dx,m,q⟩:=x;exact ⟨C,dx,m,q.hC,q.hd,hk _ (mK p) _ q.ob,q.ns.at λo e=>hk _ (JE q.hd) o e,λa x e=>(q.at_ a x e).imp λ_ _=>VR.mono hG lS _ _,q.own,q.rc⟩
noncomputable def jr(env:Env):List Addr:=env.locals::env.cells.map (·.2)
structure LR(D:bZ)(G:Fz)(ρ:List PR)(ci:CI)(env:Env)(l:Loc)(h:Heap):Prop where
 len:l.length=ci.slots.length
 aH:∃m,h.Ns env.locals m∧∀(i:Nat) (x:Str) (mv:MV),ci.slots.idxOf? x=some i→ci.kinds.lookup x=some .local→l[i]? =some (some mv)→∃v,m x=some v∧VR D G ρ mv v
 cell:∀(i:Nat) (x:Str),ci.slots.idxOf? x=some i→ci.kinds.lookup x=some .cell→∃c w,env.cells.lookup x=some c∧h.IsCell c w∧∀mv,l[i]? =some (some mv)→∃v,w=some v∧VR D G ρ mv v
structure iK(ci:CI)(env:Env):Prop where
 kinds:env.scope.names=ci.kinds
 fn:env.scope.kind=.function
 av:env.globals=mainGlobals
 bi:env.builtins=builtinsNs
 nodup:(jr env).Nodup
structure Rep(D:bZ)(h₀:Heap)(G:Fz)(ρ:List PR)(h:Hp)(s:Shared):Prop where
 base:∀b o,h₀.get? b=some o→G b o
 keep:∀b o,G b o→s.heap.get? b=some o
 sep:∀b o,G b o→b∉bM ρ
 nodup:(bM ρ).Nodup
 len:ρ.length=h.length
 objs:∀(i:Nat) (p:PR) (o:iW),ρ[i]? =some p→h[i]? =some o→OR D G ρ s.heap p o
structure gK(W:List Addr)(s s':Shared):Prop where
 gens:s'.gens=s.gens
 drawn:s'.drawn=s.drawn
 os:s'.os=s.os
 keep:∀b o,b∉W→s.heap.get? b=some o→s'.heap.get? b=some o
theorem gK.refl(W:List Addr)(s:Shared):gK W s s:=⟨rfl,rfl,rfl,λ_ _ _ h=>h⟩
theorem gK.heap{W:List Addr}{s:Shared}{h:Heap}{t:Nat}(k:∀b o,b∉W→s.heap.get? b=some o→h.get? b=some o):gK W s {s with heap:=h,toks:=t}:=⟨rfl,rfl,rfl,k⟩
theorem gK.toks{W:List Addr}{s:Shared}{t:Nat}:gK W s {s with toks:=t}:=⟨rfl,rfl,rfl,λ_ _ _ h=>h⟩
theorem fV{ρ:List PR}{i:Nat}{p:PR}(h:ρ[i]? =some p){b:Addr}(hb:b∈gw p):b∈bM ρ:=List.mem_flatMap.mpr ⟨p,List.mem_of_getElem? h,hb⟩
theorem eU(ρ l:List PR):bM (ρ++l)=bM ρ++bM l:=by simp [bM]
structure fh(G G':Fz)(ρ cA:List PR)(s s':Shared):Prop where
 g:jq G G'
 r:tg ρ cA
 gn:∀b o,G' b o→G b o∨s.heap.get? b=none
 rn:∀b∈bM cA,b∈bM ρ∨s.heap.get? b=none
 rs:∀b∈bM ρ,b∈bM cA
 lv:∀b,s'.heap.get? b=none→s.heap.get? b=none
theorem fh.refl(G:Fz)(ρ:List PR)(s:Shared):fh G G ρ ρ s s:=⟨.refl _,.refl _,λ_ _ h=>.inl h,λ_ h=>.inl h,λ_ h=>h,λ_ h=>h⟩
theorem fh.same{G:Fz}{ρ:List PR}{s s':Shared}(h:∀b,s'.heap.get? b=none→s.heap.get? b=none):fh G G ρ ρ s s':=⟨.refl _,.refl _,λ_ _ h=>.inl h,λ_ h=>.inl h,λ_ h=>h,h⟩
theorem fh.trans{G G' OC:Fz}{ρ cA OE:List PR}{s s' Gv:Shared}(x:fh G G' ρ cA s s')(y:fh G' OC cA OE s' Gv):fh G OC ρ OE s Gv where
 g:=x.g.trans y.g
 r:=x.r.trans y.r
 gn:=λb o h=>(y.gn b o h).elim (λq=>x.gn b o q) λq=>.inr (x.lv b q)
 rn:=λb h=>(y.rn b h).elim (λq=>x.rn b q) λq=>.inr (x.lv b q)
 rs:=λb h=>y.rs b (x.rs b h)
 lv:=λb q=>x.lv b (y.lv b q)
theorem gK.seq{G G':Fz}{ρ cA:List PR}{s s' Gv:Shared}{W:List Addr}(x:gK (bM ρ++W) s s')(g:fh G G' ρ cA s s')(y:gK (bM cA++W) s' Gv):gK (bM ρ++W) s Gv:=
 ⟨y.gens.trans x.gens,y.drawn.trans x.drawn,y.os.trans x.os,λb o n e=>y.keep b o (λq=>by
  rcases List.mem_append.mp q with q|q
  ·rcases g.rn b q with q|q
   ·exact n (List.mem_append_left _ q)
   ·rw [q] at e;cases e
  ·exact n (List.mem_append_right _ q)) (x.keep b o n e)⟩
theorem gK.OF{G G':Fz}{ρ cA:List PR}{s s' Gv:Shared}(x:gK (bM ρ) s s')(g:fh G G' ρ cA s s')(y:gK (bM cA) s' Gv):gK (bM ρ) s Gv:=by
 have x':gK (bM ρ++[]) s s':=by simpa using x
 have y':gK (bM cA++[]) s' Gv:=by simpa using y
 simpa using x'.seq g y'
theorem gK.weaken{W W':List Addr}{s s':Shared}(x:gK W s s')(h:∀b∈W,b∈W'):gK W' s s':=⟨x.gens,x.drawn,x.os,λb o n e=>x.keep b o (λq=>n (h b q)) e⟩
theorem gK.nQ{W:List Addr}{ρ:List PR}{s s':Shared}(x:gK (bM ρ) s s'):gK (bM ρ++W) s s':=x.weaken λ_ h=>List.mem_append_left _ h
structure SR(D:bZ)(h₀:Heap)(ci:CI)(env:Env)(G:Fz)(ρ:List PR)(l:Loc)(h:Hp)(s:Shared):Prop where
 rep:Rep D h₀ G ρ h s
 lr:LR D G ρ ci env l s.heap
 sg:∀b o,G b o→b∉jr env
 sr:∀b∈bM ρ,b∉jr env
 lt:∀b∈jr env,∃o,s.heap.get? b=some o
set_option tactic.hygienic true in
theorem mem_lookup{α:Type}{x:Str}{c:α}:∀{l:List (Str×α)},l.lookup x=some c→(x,c)∈l
 |[],h=>by cases h
 |(y,d)::r,h=>by
  rw [List.lookup_cons] at h;split at h
  ·rename_i q;cases h;rw [beq_iff_eq.mp q];exact .head _
  ·exact .tail _ (mem_lookup h)
theorem jF{env:Env}{x:Str}{c:Addr}(h:env.cells.lookup x=some c):c∈jr env:=bP _ (List.mem_map_of_mem (mem_lookup h))
theorem LR.keep{D:bZ}{G G':Fz}{ρ cA:List PR}{ci:CI}{env:Env}{l:Loc}{h h':Heap}(x:LR D G ρ ci env l h)(hG:jq G G')(lS:tg ρ cA)(hk:∀b∈jr env,∀o,h.get? b=some o→h'.get? b=some o):LR D G' cA ci env l h' where
 len:=x.len
 aH:=by
  obtain ⟨m,hn,hm⟩:=x.aH;refine ⟨m,hn.at' λo e=>hk _ (b7 ..) o e,λi y mv a b c=>?_⟩
  obtain ⟨v,e,r⟩:=hm i y mv a b c;exact ⟨v,e,VR.mono hG lS _ _ r⟩
 cell:=λi y a b=>by
  obtain ⟨c,w,e1,⟨o,e2,e3⟩,r⟩:=x.cell i y a b;refine ⟨c,w,e1,⟨o,hk _ (jF e1) o e2,e3⟩,λmv q=>?_⟩
  obtain ⟨v,e,r⟩:=r mv q;exact ⟨v,e,VR.mono hG lS _ _ r⟩
theorem SR.after{D:bZ}{h₀:Heap}{ci:CI}{env:Env}{G G':Fz}{ρ cA:List PR}{l:Loc}{h h':Hp}{s s':Shared}(x:SR D h₀ ci env G ρ l h s)(g:fh G G' ρ cA s s')(r:Rep D h₀ G' cA h' s')(st:gK (bM ρ) s s'):SR D h₀ ci env G' cA l h' s' where
 rep:=r
 lr:=x.lr.keep g.g g.r λb hb o e=>st.keep b o (λq=>x.sr b q hb) e
 sg:=λb o hg hb=>(g.gn b o hg).elim (λq=>x.sg b o q hb) λq=>by obtain ⟨o',e⟩:=x.lt b hb;rw [q] at e;cases e
 sr:=λb hg hb=>(g.rn b hg).elim (λq=>x.sr b q hb) λq=>by obtain ⟨o',e⟩:=x.lt b hb;rw [q] at e;cases e
 lt:=λb hb=>by obtain ⟨o',e⟩:=x.lt b hb;exact ⟨o',st.keep b o' (λq=>x.sr b q hb) e⟩
section
variable {D:bZ}{h₀:Heap}{G:Fz}{ρ:List PR}{h:Hp}{s:Shared}
theorem Rep.live(R:Rep D h₀ G ρ h s){b:Addr}(hb:b∈bM ρ):∃o,s.heap.get? b=some o:=by
 obtain ⟨p,hp,hb⟩:=List.mem_flatMap.mp hb;obtain ⟨i,hi⟩:=List.mem_iff_getElem?.mp hp;have XS:i< ρ.length:=by
  by_cases q:i< ρ.length
  ·exact q
  ·rw [List.getElem?_eq_none (Nat.le_of_not_lt q)] at hi;cases hi
 have hh:∃o,h[i]? =some o:=⟨_,List.getElem?_eq_getElem (by rw [← R.len];exact XS)⟩
 obtain ⟨o,ho⟩:=hh;have q:=R.objs i p o hi ho
 cases o with
 |list l=>obtain ⟨e,_,vs,⟨n,hx⟩,_⟩:=q;rw [gw,e] at hb;simp at hb;subst hb;exact ⟨_,hx⟩
 |inst c attrs=>
  obtain ⟨C,dx,m,_,e,hx,hn,_⟩:=q;rw [gw,e] at hb;simp at hb;rcases hb with rfl|rfl
  ·exact ⟨_,hx⟩
  ·obtain ⟨o,es,ep,h1,_⟩:=hn;exact ⟨o,h1⟩
theorem Rep.lt(R:Rep D h₀ G ρ h s){b:Addr}(hb:b∈bM ρ):b< s.heap.objs.size:=let ⟨_,e⟩:=R.live hb;Heap.lt_size e
theorem Rep.lv(R:Rep D h₀ G ρ h s){vH:Shared}(k:∀b o,b∉bM ρ→vH.heap.get? b=some o→s.heap.get? b=some o):∀b,s.heap.get? b=none→vH.heap.get? b=none:=λb q=>by
 cases e:vH.heap.get? b with
 |none=>rfl
 |some o=>
  by_cases z:b∈bM ρ
  ·obtain ⟨o',e'⟩:=R.live z;rw [q] at e';cases e'
  ·have:=k b o z e;rw [q] at this;cases this
theorem cW{h:Heap}{a:Addr}(ha:h.objs.size≤a):h.get? a=none:=by
 cases e:h.get? a with
 |none=>rfl
 |some o=>exact absurd (Heap.lt_size e) (Nat.not_lt.mpr ha)
theorem ir{h h':Heap}(k:∀b o,h.get? b=some o→h'.get? b=some o):∀b,h'.get? b=none→h.get? b=none:=λb q=>by
 cases e:h.get? b with
 |none=>rfl
 |some o=>have:=k b o e;rw [q] at this;cases this
theorem Rep.toks(R:Rep D h₀ G ρ h s){t:Nat}:Rep D h₀ G ρ h {s with toks:=t}:=⟨R.base,R.keep,R.sep,R.nodup,R.len,R.objs⟩
theorem Rep.keeps(R:Rep D h₀ G ρ h s){s':Shared}(k:∀b o,s.heap.get? b=some o→s'.heap.get? b=some o):Rep D h₀ G ρ h s':=⟨R.base,λb o g=>k b o (R.keep b o g),R.sep,R.nodup,R.len,λi p o a b=>(R.objs i p o a b).mono (.refl _) (.refl _) λb _ ob e=>k b ob e⟩
noncomputable def Fz.add(G:Fz)(a:Addr)(o:Obj):Fz:=λb ob=>G b ob∨(b=a∧ob=o)
theorem Fz.i0(G:Fz)(a:Addr)(o:Obj):jq G (G.add a o):=λ_ _ h=>.inl h
theorem Rep.freeze(R:Rep D h₀ G ρ h s){a:Addr}{o:Obj}(e:s.heap.get? a=some o)(ha:a∉bM ρ):Rep D h₀ (G.add a o) ρ h s where
 base:=λb ob q=>.inl (R.base b ob q)
 keep:=λb ob q=>q.elim (R.keep b ob) λq=>by rw [q.1,q.2];exact e
 sep:=λb ob q=>q.elim (R.sep b ob) λq=>by rw [q.1];exact ha
 nodup:=R.nodup
 len:=R.len
 objs:=λi p o a b=>(R.objs i p o a b).mono (Fz.i0 _ _ _) (.refl _) λ_ _ _ e=>e
theorem Rep.push(R:Rep D h₀ G ρ h s)(o:Obj):Rep D h₀ G ρ h {s with heap:=s.heap.push o}:=R.keeps λ_ _ e=>Heap.get?_push_of_some o e
theorem Rep.iu(R:Rep D h₀ G ρ h s){a:Addr}(ha:s.heap.objs.size≤a):a∉bM ρ:=λq=>absurd (R.lt q) (Nat.not_lt.mpr ha)
theorem Rep.vI(R:Rep D h₀ G ρ h s)(o:Obj)(ho:o.isFreed=false):Rep D h₀ (G.add s.heap.objs.size o) ρ h {s with heap:=s.heap.push o}:=(R.push o).freeze (Heap.get?_push_size _ ho) (R.iu (bf _))
theorem fh.add(G:Fz)(ρ:List PR)(s s':Shared)(a:Addr)(o:Obj)(ha:s.heap.objs.size≤a)(hs:∀b,s'.heap.get? b=none→s.heap.get? b=none):fh G (G.add a o) ρ ρ s s' where
 g:=Fz.i0 _ _ _
 r:=.refl _
 gn:=λb ob q=>q.elim .inl λq=>.inr (by rw [q.1];exact cW ha)
 rn:=λ_ h=>.inl h
 rs:=λ_ h=>h
 lv:=hs
theorem gK.push(W:List Addr)(s:Shared)(o:Obj):gK W s {s with heap:=s.heap.push o}:=⟨rfl,rfl,rfl,λ_ _ _ e=>Heap.get?_push_of_some o e⟩
theorem dF(s:Shared)(o:Obj):∀b,(s.heap.push o).get? b=none→s.heap.get? b=none:=ir λ_ _ e=>Heap.get?_push_of_some o e
theorem Rep.setAt(R:Rep D h₀ G ρ h s){i:Nat}{p:PR}{o':iW}{s':Shared}(hp:ρ[i]? =some p)(k:∀b o,b∉gw p→s.heap.get? b=some o→s'.heap.get? b=some o)(ho:OR D G ρ s'.heap p o'):Rep D h₀ G ρ (h.set i o') s' where
 base:=R.base
 keep:=λb o g=>k b o (λq=>R.sep b o g (fV hp q)) (R.keep b o g)
 sep:=R.sep
 nodup:=R.nodup
 len:=by rw [List.length_set];exact R.len
 objs:=λj p' o hj rA=>by
  by_cases e:i=j
  ·subst e
   rw [hp] at hj;cases hj
   have:i< h.length:=by
    by_cases q:i< h.length
    ·exact q
    ·rw [List.getElem?_eq_none (by rw [List.length_set];exact Nat.le_of_not_lt q)] at rA;cases rA
   rw [List.getElem?_set_self this] at rA;cases rA
   exact ho
  ·rw [List.getElem?_set_ne e] at rA
   refine (R.objs j p' o hj rA).mono (.refl _) (.refl _) λb hb ob eb=>k b ob (λq=>?_) eb
   exact apart R.nodup hp hj e q hb
where
 apart:∀{ρ:List PR} {i j:Nat} {p p':PR},(bM ρ).Nodup→ρ[i]? =some p→ρ[j]? =some p'→i≠j→∀{b:Addr},b∈gw p→b∈gw p'→False
  |[],i,j,p,p',_,e,_,_,b,_,_=>by simp at e
  |q::r,i,j,p,p',nd,e,e',ne,b,hb,zM=>by
   have Lc:(gw q++bM r).Nodup:=nd;rw [List.nodup_append] at Lc
   cases i with
   |zero=>
    cases j with
    |zero=>exact ne rfl
    |succ j=>simp at e e';subst e;exact Lc.2.2 b hb b (fV e' zM) rfl
   |succ i=>
    cases j with
    |zero=>simp at e e';subst e';exact Lc.2.2 b zM b (fV e hb) rfl
    |succ j=>simp at e e';exact apart Lc.2.1 e e' (λq=>ne (by rw [q])) hb zM
theorem Rep.new(R:Rep D h₀ G ρ h s){p:PR}{o:iW}{s':Shared}(k:∀b ob,s.heap.get? b=some ob→s'.heap.get? b=some ob)(hn:∀b∈gw p,b∉bM ρ∧∀ob,¬ G b ob)(hd:(gw p).Nodup)(ho:OR D G (ρ++[p]) s'.heap p o):Rep D h₀ G (ρ++[p]) (h++[o]) s' where
 base:=R.base
 keep:=λb ob g=>k b ob (R.keep b ob g)
 sep:=λb ob g q=>by
  rw [eU] at q;rcases List.mem_append.mp q with q|q
  ·exact R.sep b ob g q
  ·exact (hn b (by simpa [bM] using q)).2 ob g
 nodup:=by
  rw [eU,List.nodup_append];refine ⟨R.nodup,by simpa [bM] using hd,λa ha b hb e=>?_⟩
  subst e;exact (hn a (by simpa [bM] using hb)).1 ha
 len:=by rw [aM,aM,R.len];rfl
 objs:=λj p' o' hj rA=>by
  by_cases e:j< ρ.length
  ·rw [List.getElem?_append_left e] at hj
   rw [List.getElem?_append_left (by rw [← R.len];exact e)] at rA
   exact (R.objs j p' o' hj rA).mono (.refl _) (.append _ _) λb _ ob eb=>k b ob eb
  ·have e:ρ.length≤j:=Nat.le_of_not_lt e
   rw [List.getElem?_append_right e] at hj;rw [List.getElem?_append_right (by rw [← R.len];exact e)] at rA
   have:j - ρ.length=0:=by
    by_cases q:j - ρ.length=0
    ·exact q
    ·rw [List.getElem?_eq_none (by simp;lia)] at hj;cases hj
   rw [this] at hj;rw [← R.len,this] at rA;simp at hj rA;subst hj rA;exact ho
theorem fh.new(G:Fz)(ρ:List PR)(p:PR)(s s':Shared)(hn:∀b∈gw p,s.heap.get? b=none)(hs:∀b,s'.heap.get? b=none→s.heap.get? b=none):fh G G ρ (ρ++[p]) s s' where
 g:=.refl _
 r:=.append _ _
 gn:=λ_ _ h=>.inl h
 rn:=λb q=>by
  rw [eU] at q;rcases List.mem_append.mp q with q|q
  ·exact .inl q
  ·exact .inr (hn b (by simpa [bM] using q))
 rs:=λb q=>by rw [eU];exact List.mem_append_left _ q
 lv:=hs
theorem Rep.Sh(R:Rep D h₀ G ρ h s)(b:Addr)(o:Obj)(g:G b o):b< s.heap.objs.size:=Heap.lt_size (R.keep b o g)
theorem gy(R:Rep D h₀ G ρ h s){o:Nat}{va:Value}(hv:VR D G ρ (.obj o) va){xs:List MV}(e:(h[o]?).bind dJ=some xs):∃p vs,ρ[o]? =some p∧va=.ref p.1∧p.2=none∧xs.length≤az∧s.heap.PlainList p.1 vs.toArray∧cB D G ρ xs vs:=by
 obtain ⟨ob,ho,e⟩:=aL.mp e;obtain ⟨p,hp,rfl⟩:=id hv
 cases ob with
 |inst c attrs=>exact (aY _ e.symm).elim
 |list l=>
  obtain ⟨hd,hl,vs,jG,hr⟩:=R.objs _ _ _ hp ho;cases e
  exact ⟨p,vs,hp,rfl,hd,hl,jG,hr⟩
end
end
section
open PySem PySem.W PySem.Calls PyProof.Rows PySem.SeqAt
theorem rB{α:Type}[DecidableEq α](a b:α):(a==b)=decide (a=b):=rfl
section
variable {D:bZ}{h₀:Heap}{G:Fz}{ρ:List PR}{h:Hp}{s:Shared}{A:Around}{E:Value→Shared→Prop}
abbrev bY(D:bZ)(h₀:Heap)(G:Fz)(ρ:List PR)(s:Shared)(r:MV)(h':Hp)(Q:Value→Shared→Prop):Prop:=∀(v:Value) (s':Shared) (G':Fz) (cA:List PR),fh G G' ρ cA s s'→Rep D h₀ G' cA h' s'→gK (bM ρ) s s'→VR D G' cA r v→Q v s'
theorem bY.val{r:MV}{Q:Value→Shared→Prop}(k:bY D h₀ G ρ s r h Q)(R:Rep D h₀ G ρ h s){v:Value}(hv:VR D G ρ r v)(t:Nat):Q v {s with toks:=t}:=k v _ G ρ (.same (λ_ h=>h)) R.toks .toks hv
theorem bY.gz{r:MV}{Q:Value→Shared→Prop}(k:bY D h₀ G ρ s r h Q)(R:Rep D h₀ G ρ h s){v:Value}(hv:VR D G ρ r v):Q v s:=k v s G ρ (.refl _ _ _) R (.refl _ _) hv
abbrev zR(D:bZ)(h₀:Heap)(G:Fz)(ρ:List PR)(s:Shared)(b:Bool)(h':Hp)(Q:Bool→Shared→Prop):Prop:=∀(s':Shared) (G':Fz) (cA:List PR),fh G G' ρ cA s s'→Rep D h₀ G' cA h' s'→gK (bM ρ) s s'→Q b s'
theorem zR.val{b:Bool}{Q:Bool→Shared→Prop}(k:zR D h₀ G ρ s b h Q)(R:Rep D h₀ G ρ h s)(t:Nat):Q b {s with toks:=t}:=k _ G ρ (.same (λ_ h=>h)) R.toks .toks
theorem zR.gz{b:Bool}{Q:Bool→Shared→Prop}(k:zR D h₀ G ρ s b h Q)(R:Rep D h₀ G ρ h s):Q b s:=k _ G ρ (.refl _ _ _) R (.refl _ _)
theorem bY.upd{r:MV}{h':Hp}{Q:Value→Shared→Prop}(k:bY D h₀ G ρ s r h' Q){s':Shared}(R:Rep D h₀ G ρ h' s')(st:gK (bM ρ) s s'){v:Value}(hv:VR D G ρ r v):Q v s':=k v s' G ρ (.same (R.lv st.keep)) R st hv
theorem bY.then{OG:Fz}{JF:List PR}{cZ:Shared}{r:MV}{h':Hp}{Q:Value→Shared→Prop}(k:bY D h₀ G ρ s r h' Q)(g:fh G OG ρ JF s cZ)(st:gK (bM ρ) s cZ):bY D h₀ OG JF cZ r h' Q:=λv s' G' cA g' R' Br hv=>k v s' G' cA (g.trans g') R' (st.OF g Br) hv
theorem VR.bool{b:Bool}:VR D G ρ (.bool b) (.bool b):=by rfl
theorem VR.none:VR D G ρ .none .none:=by rfl
theorem VR.int{i:Int}{t:Tok}:VR D G ρ (.int i) (.int i t):=⟨t,rfl⟩
theorem VR.str{x:List Nat}{t:Tok}(hx:x.length≤az):VR D G ρ (.str x) (.str (toStr x) t):=⟨hx,t,rfl⟩
theorem aU(x:List Nat):(toStr x).length=x.length:=by simp [toStr,Str.length]
theorem fO(x:List Nat):(toStr x).cps.toList=x:=rfl
theorem cI:az≤sizeLine:=by rw [sizeLine_eq];decide
theorem tO(x:Str):toStr x.cps.toList=x:=by simp [toStr]
theorem jY{x y:List Nat}(e:toStr x=toStr y):x=y:=by
 have:=congrArg (λz:Str=>z.cps.toList) e
 simpa [toStr] using this
theorem k9{l:List MV}{vs:List Value}(hr:cB D G ρ l vs):vs.toArray.size=l.length:=by simp [hr.length]
theorem Gw{l:List MV}{vs:List Value}(hr:cB D G ρ l vs):vs.toArray.isEmpty=l.isEmpty:=by rw [Array.isEmpty,k9 hr];cases l<;>rfl
theorem Gx{l:List MV}{vs:List Value}(hr:cB D G ρ l vs)(hl:l.length≤az):vs.toArray.size≤1000000:=by rw [k9 hr];exact hl
theorem oz{m:MV}{v:Value}{b:Bool}{Q:Bool→Shared→Prop}(R:Rep D h₀ G ρ h s)(hv:VR D G ρ m v)(e:Mine.truthy m h=some b)(k:zR D h₀ G ρ s b h Q):
  wpAny (model D.prog D.w) A (PySem.truthy v) Q E s:=by
 cases m with
 |none=>cases (show v=.none from hv);cases e;exact truthy_none (k.gz R)
 |bool c=>cases (show v=.bool c from hv);cases e;exact wpAny_truthy_bool (k.gz R)
 |int i=>
  obtain ⟨t,rfl⟩:=id hv;cases e
  exact PyProof.Rows.truthy_int ((show (i !=0)= !decide (i=0) by rw [bne,rB])▸k.gz R)
 |str x=>
  obtain ⟨hx,t,rfl⟩:=id hv;cases e
  refine PySem.P.truthy_str (by rw [aU];unfold az at hx;lia) ?_
  rw [aU];exact (show ((x.length:Int) !=0)= !x.isEmpty by cases x<;>rfl)▸k.val R _
 |obj i=>obtain ⟨l,e1,rfl⟩:=dw.mp e;obtain ⟨p,vs,_,rfl,_,hl,jG,hr⟩:=gy R hv e1;exact wpAny_truthy_list jG.isList (by have:=Gx hr hl;lia) (Gw hr▸k.val R _)
 |_=>exact (aY _ e.symm).elim
noncomputable def eV(x:MV)(v:Value):Bool:=match v,x with
 |.str a _,.str b=>a==toStr b
 |.int a _,.int b=>a==b
 |.none,.none=>true
 |_,_=>false
inductive qj:Value→Value→Bool→Prop
 |nn:qj .none .none true
 |ns (y:Str) (u:Tok):qj .none (.str y u) false
 |sn (x:Str) (t:Tok):qj (.str x t) .none false
 |ni (i:Int) (t:Tok):qj .none (.int i t) false
 |iN (i:Int) (t:Tok):qj (.int i t) .none false
 |ii (i:Int) (t:Tok) (j:Int) (u:Tok):qj (.int i t) (.int j u) (i==j)
 |ss (x:Str) (t:Tok) (y:Str) (u:Tok):qj (.str x t) (.str y u) (x==y)
theorem i6{v:Value}(h:VR D G ρ .none v):v=.none:=by exact h
theorem di{i:Int}{v:Value}(h:VR D G ρ (.int i) v):∃t,v=.int i t:=by exact h
theorem dQ{x:List Nat}{v:Value}(h:VR D G ρ (.str x) v):∃t,v=.str (toStr x) t:=by exact h.2
theorem zS(x y:List Nat):(toStr x==toStr y)=decide (x=y):=by rw [rB];exact decide_eq_decide.mpr ⟨jY,congrArg _⟩
theorem rC{a x:MV}{va vx:Value}{b:Bool}(ha:VR D G ρ a va)(hx:VR D G ρ x vx)(e:iI a x=some b):qj va vx b∧eV x va=b:=by
 cases a with
 |none=>
  rw [i6 ha]
  cases x with
  |none=>rw [i6 hx];exact aC e▸⟨.nn,rfl⟩
  |str y=>obtain ⟨u,rfl⟩:=dQ hx;exact aC e▸⟨.ns _ _,rfl⟩
  |int i=>obtain ⟨u,rfl⟩:=di hx;exact aC e▸⟨.ni _ _,rfl⟩
  |_=>exact no e
 |int i=>
  obtain ⟨u,rfl⟩:=di ha
  cases x with
  |none=>rw [i6 hx];exact aC e▸⟨.iN _ _,rfl⟩
  |int j=>obtain ⟨t,rfl⟩:=di hx;exact aC e▸rB i j▸⟨.ii _ _ _ _,rfl⟩
  |_=>exact no e
 |str y=>
  obtain ⟨u,rfl⟩:=dQ ha
  cases x with
  |none=>rw [i6 hx];exact aC e▸⟨.sn _ _,rfl⟩
  |str z=>obtain ⟨t,rfl⟩:=dQ hx;exact aC e▸zS y z▸⟨.ss _ _ _ _,rfl⟩
  |_=>exact no e
 |_=>exact no e
theorem BU{a x:MV}{va vx:Value}{b:Bool}(A:Around)(s:Shared)(ha:VR D G ρ a va)(hx:VR D G ρ x vx)(e:iI a x=some b):EqAt A s va vx b∧eV x va=b:=by
 obtain ⟨h,h'⟩:=rC ha hx e;refine ⟨?_,h'⟩;clear e ha hx h'
 cases h with
 |nn=>exact .same _
 |ns=>exact .none_str _ _
 |sn=>exact .str_none _ _
 |ni=>exact .none_int _ _
 |iN=>exact .int_none _ _
 |ii=>exact .int_int _ _ _ _
 |ss=>exact .str_str _ _ _ _
theorem vJ{x y:MV}{r:List MV}{b:Bool}(e:dh x (y::r)=some b):∃b1 c1,iI y x=some b1∧dh x r=some c1∧(b1||c1)=b:=by
 have e:(match iI y x,dh x r with|some b,some c=>some (b||c)|_,_=>none)=some b:=e
 cases e1:iI y x with
 |none=>rw [e1] at e;exact no e
 |some b1=>cases e2:dh x r with
  |none=>rw [e1,e2] at e;exact no e
  |some c1=>rw [e1,e2] at e;exact ⟨b1,c1,rfl,rfl,aC e⟩
theorem oA{x:MV}{vx:Value}(A:Around)(s:Shared)(hx:VR D G ρ x vx){l:List MV}:∀{vs:List Value} {b:Bool},cB D G ρ l vs→dh x l=some b→(∀y∈vs,EqAt A s y vx (eV x y))∧vs.any (eV x)=b:=by
 induction l with
 |nil=>exact λhr e=>hr.nil_inv▸⟨λ_ h=>(fF h).elim,aC e⟩
 |cons y r ih=>intro vs b hr e;obtain ⟨v,ws,rfl,hv,hw⟩:=hr.cons_inv;obtain ⟨b1,c1,e1,e2,e3⟩:=vJ e;have q:=BU A s hv hx e1;have k:=ih hw e2;exact ⟨λz hz=>(bO.mp hz).elim (λe=>e▸q.2.symm▸q.1) (k.1 z),by rw [List.any_cons,q.2,k.2,e3]⟩
theorem OH{prog:Program}{w:World}{va vx:Value}{b:Bool}{Q:Value→Shared→Prop}(h:qj va vx b)(k:Q (.bool b) s):wpAny (model prog w) A (compareOp .Eq va vx) Q E s:=by
 cases h with
 |nn=>exact EqNone.eq_none_none k
 |ni=>exact EqNone.eq_none_int k
 |iN=>exact EqNone.eq_int_none k
 |ns=>exact EqNone.eq_none_str k
 |sn=>exact EqNone.eq_str_none k
 |ii=>exact PyProof.Rows.eq_int k
 |ss=>exact PyProof.Rows.eq_str k
theorem OI{prog:Program}{w:World}{va vx:Value}{b:Bool}{Q:Value→Shared→Prop}(h:qj va vx b)(k:Q (.bool (!b)) s):wpAny (model prog w) A (compareOp .NotEq va vx) Q E s:=by
 cases h with
 |nn=>exact EqNone.ne_none_none k
 |ni=>exact EqNone.ne_none_int k
 |iN=>exact EqNone.ne_int_none k
 |ns=>exact EqNone.ne_none_str k
 |sn=>exact EqNone.ne_str_none k
 |ii=>exact PyProof.Rows.ne_int k
 |ss=>exact PyProof.Rows.ne_str k
theorem Ld{a x:MV}{va vx:Value}{b:Bool}{Q:Value→Shared→Prop}(R:Rep D h₀ G ρ h s)(ha:VR D G ρ a va)(hx:VR D G ρ x vx)(e:iI a x=some b)(k:bY D h₀ G ρ s (.bool b) h Q):wpAny (model D.prog D.w) A (compareOp .Eq va vx) Q E s:=OH (rC ha hx e).1 (k.gz R .bool)
theorem Lg{a x:MV}{va vx:Value}{b:Bool}{Q:Value→Shared→Prop}(R:Rep D h₀ G ρ h s)(ha:VR D G ρ a va)(hx:VR D G ρ x vx)(e:iI a x=some b)(k:bY D h₀ G ρ s (.bool (!b)) h Q):wpAny (model D.prog D.w) A (compareOp .NotEq va vx) Q E s:=OI (rC ha hx e).1 (k.gz R .bool)
end
section
variable {D:bZ}{h₀:Heap}{G:Fz}{ρ:List PR}{h:Hp}{s:Shared}{A:Around}{E:Value→Shared→Prop}
theorem i7{y:MV}{ks:List MV}(e:strKeys (y::ks)=true):(∃x,y=.str x)∧strKeys ks=true:=by
 cases y with
 |str x=>exact ⟨⟨x,rfl⟩,e⟩
 |_=>exact Bool.noConfusion e
theorem i8{y:MV}{ks:List MV}(e:intKeys (y::ks)=true):(∃x,y=.int x)∧intKeys ks=true:=by
 cases y with
 |int x=>exact ⟨⟨x,rfl⟩,e⟩
 |_=>exact Bool.noConfusion e
theorem jH{ks:List MV}(e:strKeys ks=true){k:MV}(h:k∈ks):∃x,k=.str x:=by
 induction ks with
 |nil=>exact (fF h).elim
 |cons y ks ih=>exact (bO.mp h).elim (λq=>q▸(i7 e).1) (ih (i7 e).2)
theorem mL{ks:List MV}(e:intKeys ks=true){k:MV}(h:k∈ks):∃x,k=.int x:=by
 induction ks with
 |nil=>exact (fF h).elim
 |cons y ks ih=>exact (bO.mp h).elim (λq=>q▸(i8 e).1) (ih (i8 e).2)
theorem oB{K:Type}(P:K→Value→Bool)(es:List DictEntry)(k:K):findBy P es.toArray k=(es.find? λe=>P k e.key).map (·.val):=by unfold findBy;rw [List.find?_toArray]
inductive oE(D:bZ)(G:Fz)(ρ:List PR):List MV→List MV→List DictEntry→Prop
 |nil:oE D G ρ [] [] []
 |cons {k v ks vs e es}:tN D.w k e→VR D G ρ v e.val→oE D G ρ ks vs es→oE D G ρ (k::ks) (v::vs) (e::es)
theorem xS{ks:List MV}:∀{vs:List MV} {es:List DictEntry},ks.length=es.length→(∀(j:Nat) (k:MV) (e:DictEntry),ks[j]? =some k→es[j]? =some e→tN D.w k e)→cB D G ρ vs (es.map (·.val))→oE D G ρ ks vs es:=by
 induction ks with
 |nil=>
  intro vs es hl hk hv;obtain rfl:=List.eq_nil_of_length_eq_zero hl.symm
  cases vs with
  |nil=>exact .nil
  |cons v vs=>exact absurd hv.length (Nat.succ_ne_zero _)
 |cons k ks ih=>
  intro vs es hl hk hv
  cases es with
  |nil=>exact absurd hl (Nat.succ_ne_zero _)
  |cons e es=>cases vs with
   |nil=>exact absurd hv.length.symm (Nat.succ_ne_zero _)
   |cons v vs=>
    obtain ⟨v',ws,e1,a,b⟩:=hv.cons_inv;cases e1
    exact .cons (hk 0 k e rfl rfl) a (ih (Nat.succ.inj hl) (λj k e a b=>hk (j+1) k e a b) b)
theorem oE.all{P:DictEntry→Prop}{ks vs:List MV}{es:List DictEntry}(H:oE D G ρ ks vs es)(q:∀k∈ks,∀e,tN D.w k e→P e):∀e∈es,P e:=by
 induction H with
 |nil=>exact λe h=>(fF h).elim
 |cons k v _ ih=>exact λe h=>(bO.mp h).elim (λz=>z▸q _ (b7 ..) _ k) (ih (λk h=>q k (bP _ h)) e)
inductive NO(D:bZ)(G:Fz)(ρ:List PR):Option MV→Option Value→Prop
 |no:NO D G ρ none none
 |so {m v}:VR D G ρ m v→NO D G ρ (some m) (some v)
theorem NO.isSome{r:Option MV}{o:Option Value}(h:NO D G ρ r o):o.isSome=r.isSome:=by cases h<;>rfl
abbrev JG{κ:Type}[DecidableEq κ](K:KeyKind D.prog D.w κ)(k:MV)(y:κ):Prop:=∀e,tN D.w k e→K.is y e.key=true∧e.hash=K.hash y
theorem Lh(x:List Nat):JG (strKind D.prog D.w) (.str x) (toStr x):=λe h=>h.elim λt q=>⟨q.1▸strKind_is _ _ _ _,q.2⟩
theorem Li(i:Int):JG (intKind D.prog D.w) (.int i) i:=λe h=>h.elim λt q=>⟨q.1▸decide_eq_true rfl,q.2⟩
theorem oE.find{κ:Type}[DecidableEq κ](K:KeyKind D.prog D.w κ){x:κ}{get:List MV→List MV→Option (Option MV)}(g0:get [] []=some none)(g1:∀{k v ks vs r},get (k::ks) (v::vs)=some r→∃y,JG K k y∧((x=y∧r=some v)∨(x≠y∧get ks vs=some r)))
  {ks vs:List MV} {es:List DictEntry} (H:oE D G ρ ks vs es):∀{r:Option MV},get ks vs=some r→NO D G ρ r ((es.find? λe=>K.is x e.key).map (·.val)):=by
 induction H with
 |nil=>exact λe=>bJ (g0.symm.trans e)▸.no
 |cons k v _ ih=>
  intro r e;obtain ⟨y,ky,q⟩:=g1 e;have f:=K.is_eq_decide (ky _ k).1 x;rcases q with ⟨q,rfl⟩|⟨q,e⟩
  ·rw [List.find?_cons,f,decide_eq_true q];exact .so v
  ·rw [List.find?_cons,f,decide_eq_false q];exact ih e
theorem XT{x:List Nat}{k v:MV}{ks vs:List MV}{r:Option MV}(e:k7 x (k::ks) (v::vs)=some r):∃y,JG (strKind D.prog D.w) k y∧((toStr x=y∧r=some v)∨(toStr x≠y∧k7 x ks vs=some r)):=by
 cases k with
 |str y=>
  have e:(if y=x then some (some v) else k7 x ks vs)=some r:=e;refine ⟨toStr y,Lh y,?_⟩
  by_cases q:y=x
  ·rw [if_pos q] at e;exact .inl ⟨congrArg toStr q.symm,(bJ e).symm⟩
  ·rw [if_neg q] at e;exact .inr ⟨λz=>q (jY z).symm,e⟩
 |_=>exact (aY _ e.symm).elim
theorem XU{x:Int}{k v:MV}{ks vs:List MV}{r:Option MV}(e:k8 x (k::ks) (v::vs)=some r):∃y,JG (intKind D.prog D.w) k y∧((x=y∧r=some v)∨(x≠y∧k8 x ks vs=some r)):=by
 cases k with
 |int y=>
  have e:(if y=x then some (some v) else k8 x ks vs)=some r:=e;refine ⟨y,Li y,?_⟩
  by_cases q:y=x
  ·rw [if_pos q] at e;exact .inl ⟨q.symm,(bJ e).symm⟩
  ·rw [if_neg q] at e;exact .inr ⟨λz=>q z.symm,e⟩
 |_=>exact (aY _ e.symm).elim
inductive Look(D:bZ)(G:Fz)(ρ:List PR)(s:Shared)(vk:Value)(r:Option MV):Value→Prop
 |mk {κ:Type} [DecidableEq κ] (K:KeyKind D.prog D.w κ) (d:Addr) (x:κ) (f:κ→Option Value):(d==sysModules)=false→K.is x vk=true→s.heap.MapOf K d f→NO D G ρ r (f x)→Look D G ρ s vk r (.ref d)
theorem xT{κ:Type}[DecidableEq κ](K:KeyKind D.prog D.w κ){a:Addr}{o:Obj}{es:List DictEntry}{n:Nat}{ks vs:List MV}{r:Option MV}{x:κ}{vk:Value}{get:List MV→List MV→Option (Option MV)}(hs:a≠sysModules)(g:s.heap.get? a=some o)(hx:o.ExactDict)(JH:o.data=.dict es.toArray n)(H:oE D G ρ ks vs es)(hk:K.is x vk=true)(ka:∀k∈ks,∃y,JG K k y)
  (g0:get [] []=some none) (g1:∀{k v ks vs r},get (k::ks) (v::vs)=some r→∃y,JG K k y∧((x=y∧r=some v)∨(x≠y∧get ks vs=some r))) (e:get ks vs=some r):Look D G ρ s vk r (.ref a):=
 .mk K a x (λk=>findBy K.is es.toArray k) (beq_eq_false_iff_ne.mpr hs) hk ⟨o,es.toArray,n,g,hx,JH,λen OJ=>H.all (P:=λen=>∃k,K.is k en.key=true∧en.hash=K.hash k) (λk hk e kr=>(ka k hk).imp λy q=>q e kr) en (Array.mem_toList_iff.mpr OJ),λ_=>rfl⟩ ((oB K.is es x).symm▸H.find K g0 g1 e)
theorem lg{k:MV}{ks vs:List MV}{vd vk:Value}{r:Option MV}(R:Rep D h₀ G ρ h s)(hd:VR D G ρ (.jk ks vs) vd)(hk:VR D G ρ k vk)(e:gc k ks vs=some r):Look D G ρ s vk r vd:=by
 obtain ⟨a,o,es,n,rfl,hs,OL,g,hx,JH,hl,BV,hv⟩:=hd;have H:=xS hl BV hv
 cases k with
 |int i=>
  obtain ⟨t,rfl⟩:=di hk;have ik:intKeys ks=true:=OL.elim (λq=>by
   cases ks with
   |nil=>rfl
   |cons k ks=>obtain ⟨y,rfl⟩:=(i7 q).1;cases vs<;>exact (aY _ e.symm).elim) id
  exact xT (intKind D.prog D.w) hs (R.keep _ _ g) hx JH H (decide_eq_true rfl) (λk hk=>by obtain ⟨y,rfl⟩:=mL ik hk;exact ⟨y,Li y⟩) rfl XU e
 |str x=>
  obtain ⟨t,rfl⟩:=dQ hk;have ik:strKeys ks=true:=OL.elim id λq=>by
   cases ks with
   |nil=>rfl
   |cons k ks=>obtain ⟨y,rfl⟩:=(i8 q).1;cases vs<;>exact (aY _ e.symm).elim
  exact xT (strKind D.prog D.w) hs (R.keep _ _ g) hx JH H (strKind_is _ _ _ _) (λk hk=>by obtain ⟨y,rfl⟩:=jH ik hk;exact ⟨_,Lh y⟩) rfl XT e
 |_=>exact (aY _ e.symm).elim
theorem Lj{k:MV}{ks vs:List MV}{vd vk:Value}{r:Option MV}{Q:Value→Shared→Prop}(R:Rep D h₀ G ρ h s)(hd:VR D G ρ (.jk ks vs) vd)(hk:VR D G ρ k vk)(e:gc k ks vs=some r)(K:bY D h₀ G ρ s (.bool r.isSome) h Q):
  wpAny (model D.prog D.w) A (compareOp .In vk vd) Q E s:=by
 cases lg R hd hk e with
 |mk Kd d x f hs hx hm hr=>exact wpAny_in_of hx hs hm (hr.isSome▸K.val R .bool _)
theorem zT{k:MV}{ks vs:List MV}{vd vk:Value}{r:Option MV}{Q:Value→Shared→Prop}(R:Rep D h₀ G ρ h s)(hd:VR D G ρ (.jk ks vs) vd)(hk:VR D G ρ k vk)(e:gc k ks vs=some r)(K:bY D h₀ G ρ s (.bool (!r.isSome)) h Q):
  wpAny (model D.prog D.w) A (compareOp .NotIn vk vd) Q E s:=by
 cases lg R hd hk e with
 |mk Kd d x f hs hx hm hr=>exact wpAny_notIn_of hx hs hm (hr.isSome▸K.val R .bool _)
theorem BW{k:MV}{ks vs:List MV}{vd vk:Value}{r:MV}{Q:Value→Shared→Prop}(R:Rep D h₀ G ρ h s)(hd:VR D G ρ (.jk ks vs) vd)(hk:VR D G ρ k vk)(e:gc k ks vs=some (some r))(K:bY D h₀ G ρ s r h Q):
  ∃d,vd=.ref d∧s.TypeIs (.ref d) "dict"∧wpAny (model D.prog D.w) A (getItem vd vk) Q E s:=by
 cases lg R hd hk e with
 |mk Kd d x f hs hx hm hr=>
  generalize hf:f x=z at hr
  cases hr with
  |so hv=>exact ⟨d,rfl,hm.typeIs,wpAny_getItem_of hx hm hf (K.val R hv _)⟩
theorem oF:∀(x y:List Nat),oh x y= !decide (y< x)
 |[],y=>by have:¬ y< []:=List.not_lt_nil y;simp [oh,this]
 |a::r,[]=>by simp [oh]
 |a::r,b::q=>by
  unfold oh;rw [oF r q]
  by_cases h1:a< b
  ·have:¬ (b::q< a::r):=by
    rw [List.cons_lt_cons_iff];lia
   simp [h1,this]
  ·by_cases h2:a=b
   ·subst h2
    have:(a::q< a::r)↔q< r:=by rw [List.cons_lt_cons_iff];simp
    simp [this]
   ·have:(b::q< a::r):=by rw [List.cons_lt_cons_iff];lia
    simp [h1,h2,this]
theorem oG{c:Nat}{x:List Nat}:Txt.contains (toStr x) (toStr [c])=x.contains c:=by
 have:=StrLaws.found_one (toStr x) c;show (!(Builtin.Str.occurrences (toStr x) ⟨#[c]⟩ 0 (toStr x).length 1).isEmpty)=_
 rw [this];rw [List.contains_eq_mem,fO]
theorem oH{m:MV}{v:Value}(h:VR D G ρ m v):handedIn v=true∧(v==Value.none)=isNone m:=by
 cases m with
 |none=>obtain rfl:v=.none:=h;exact ⟨rfl,rfl⟩
 |bool b=>obtain rfl:v=.bool b:=h;exact ⟨rfl,rfl⟩
 |int i=>obtain ⟨t,rfl⟩:=h;exact ⟨rfl,rfl⟩
 |str s=>obtain ⟨_,t,rfl⟩:=h;exact ⟨rfl,rfl⟩
 |tup l=>obtain ⟨_,a,o,vs,n,rfl,_⟩:=h;exact ⟨rfl,rfl⟩
 |lst l=>obtain ⟨_,a,o,vs,n,rfl,_⟩:=h;exact ⟨rfl,rfl⟩
 |jk ks vs=>obtain ⟨a,o,es,n,rfl,_⟩:=h;exact ⟨rfl,rfl⟩
 |d8 c vs=>obtain ⟨x,C,dx,o,m,ws,rfl,_⟩:=h;exact ⟨rfl,rfl⟩
 |obj i=>obtain ⟨p,_,rfl⟩:=h;exact ⟨rfl,rfl⟩
 |fn i=>obtain ⟨a,_,rfl⟩:=h;exact ⟨rfl,rfl⟩
 |cls i=>obtain ⟨a,_,rfl⟩:=h;exact ⟨rfl,rfl⟩
 |bm o f=>obtain ⟨q,fa,p,rfl,_⟩:=h;exact ⟨rfl,rfl⟩
 |bi b=>obtain rfl:v=b.val:=h;exact ⟨by cases b<;>decide+kernel,by cases b<;>rfl⟩
theorem in_list{a:MV}{va vx:Value}{l:List MV}{b:Bool}(R:Rep D h₀ G ρ h s)(ha:VR D G ρ a va)(hx:VR D G ρ (.lst l) vx)(e:dh a l=some b)(A:Around):∃d vs,vx=.ref d∧s.heap.IsList d vs∧(∀y∈vs,EqAt A s y va (eV a y))∧vs.any (eV a)=b:=by obtain ⟨hl,d,o,vs,n,rfl,g,hc,hd,hr⟩:=hx;have q:=oA A s ha hr e;exact ⟨d,vs.toArray,rfl,⟨o,R.keep _ _ g,hc,n,hd⟩,λy hy=>q.1 y (Array.mem_toList_iff.mpr hy),Array.any_toList.symm.trans q.2⟩
theorem Lk{a:MV}{va vx:Value}{l:List MV}{b:Bool}(R:Rep D h₀ G ρ h s)(ha:VR D G ρ a va)(hx:VR D G ρ (.tup l) vx)(e:dh a l=some b)(A:Around):∃d vs,vx=.ref d∧s.heap.IsTuple d vs∧(∀y∈vs,EqAt A s y va (eV a y))∧vs.any (eV a)=b:=by obtain ⟨hl,d,o,vs,n,rfl,g,hc,hd,hr⟩:=hx;have q:=oA A s ha hr e;exact ⟨d,vs.toArray,rfl,⟨o,R.keep _ _ g,hc,n,hd⟩,λy hy=>q.1 y (Array.mem_toList_iff.mpr hy),Array.any_toList.symm.trans q.2⟩
theorem BX{a x:MV}{va vx:Value}{b:Bool}{Q:Value→Shared→Prop}(R:Rep D h₀ G ρ h s)(ha:VR D G ρ a va)(hx:VR D G ρ x vx)(e:cV.vE a x=some b):
  (bY D h₀ G ρ s (.bool b) h Q→wpAny (model D.prog D.w) A (compareOp .In va vx) Q E s)∧(bY D h₀ G ρ s (.bool (!b)) h Q→wpAny (model D.prog D.w) A (compareOp .NotIn va vx) Q E s):=by
 rcases or_some e with e|⟨_,e⟩
 ·obtain ⟨z,e1,e⟩:=aL.mp e
  obtain ⟨c,e2,rfl⟩:=dw.mp e
  cases bG e1
  cases jV e2
  obtain ⟨t,rfl⟩:=dQ ha;obtain ⟨u,rfl⟩:=dQ hx;exact ⟨λk=>PySem.SB.contains (oG▸k.gz R .bool),λk=>PySem.SB.notContains (oG▸k.gz R .bool)⟩
 rcases or_some e with e|⟨_,e⟩
 ·obtain ⟨l,e1,e⟩:=aL.mp e
  cases cH e1
  obtain ⟨d,vs,rfl,hl,q1,q2⟩:=in_list R ha hx e A.in1;exact ⟨λk=>in_listAt (eV a) hl q1 (q2▸k.gz R .bool),λk=>notIn_listAt (eV a) hl q1 (q2▸k.gz R .bool)⟩
 rcases or_some e with e|⟨_,e⟩
 ·obtain ⟨l,e1,e⟩:=aL.mp e
  cases eL e1
  obtain ⟨d,vs,rfl,hl,q1,q2⟩:=Lk R ha hx e A.in1;exact ⟨λk=>in_tupleAt (eV a) hl q1 (q2▸k.gz R .bool),λk=>notIn_tupleAt (eV a) hl q1 (q2▸k.gz R .bool)⟩
 ·obtain ⟨d,e1,e⟩:=aL.mp e
  obtain ⟨r,e2,rfl⟩:=dw.mp e
  cases iH e1
  exact ⟨λk=>Lj R hx ha e2 k,λk=>zT R hx ha e2 k⟩
theorem nR{f:Int→Int→Bool}{g:Option (List Nat→List Nat→Bool)}{a x:MV}{va vx:Value}{b:Bool}{P:Value→Value→Prop}(ha:VR D G ρ a va)(hx:VR D G ρ x vx)(e:mJ f g a x=some b)
  (h1:∀i t j u,f i j=b→P (.int i t) (.int j u)) (h2:∀g' p q,g=some g'→∀t u,g' p q=b→P (.str (toStr p) t) (.str (toStr q) u)):P va vx:=by
 cases a with
 |int i=>
  cases x with
  |int j=>obtain ⟨t,rfl⟩:=di ha;obtain ⟨u,rfl⟩:=di hx;exact h1 _ _ _ _ (bJ e)
  |_=>exact (aY b e.symm).elim
 |str p=>
  cases x with
  |str q=>
   obtain ⟨t,rfl⟩:=dQ ha;obtain ⟨u,rfl⟩:=dQ hx;obtain ⟨g',e1,e2⟩:=dw.mp (show g.map (λg=>g p q)=some b from e)
   exact h2 g' p q e1 _ _ e2
  |_=>exact (aY b e.symm).elim
 |_=>exact (aY b e.symm).elim
theorem BY{f:Bool→Bool}{a x:MV}{b:Bool}(e:(match x with|.none=>some (f (isNone a))|_=>none)=some b):x=.none∧f (isNone a)=b:=by
 cases x with
 |none=>exact ⟨rfl,bJ e⟩
 |_=>exact (aY b e.symm).elim
theorem Gy{op:CmpOp}{a x:MV}{va vx:Value}{b:Bool}{Q:Value→Shared→Prop}(R:Rep D h₀ G ρ h s)(ha:VR D G ρ a va)(hx:VR D G ρ x vx)(e:cV op a x=some b)(k:bY D h₀ G ρ s (.bool b) h Q):
  wpAny (model D.prog D.w) A (compareOp op va vx) Q E s:=by
 cases op with
 |Eq=>exact Ld R ha hx e k
 |NotEq=>
  obtain ⟨c,e1,rfl⟩:=dw.mp (show (iI a x).map (!·)=some b from e)
  exact Lg R ha hx e1 k
 |Lt=>
  refine nR (P:=λva vx=>wpAny (model D.prog D.w) A (compareOp .Lt va vx) Q E s) ha hx e (λi t j u q=>PyProof.Rows.lt_int (q▸k.gz R .bool)) λg p q hg t u hb=>PyProof.Rows.lt_str ?_
  cases hg
  rw [fO,fO];have:strLt p q=decide (p< q):=by unfold strLt;rw [oF];simp
  rw [← this,hb];exact k.gz R .bool
 |LtE=>
  refine nR (P:=λva vx=>wpAny (model D.prog D.w) A (compareOp .LtE va vx) Q E s) ha hx e (λi t j u q=>PyProof.Rows.le_int (q▸k.gz R .bool)) λg p q hg t u hb=>PySem.P.le_str ?_
  cases hg
  rw [fO,fO, ← oF,hb];exact k.gz R .bool
 |Gt=>exact nR (P:=λva vx=>wpAny (model D.prog D.w) A (compareOp .Gt va vx) Q E s) ha hx e (λi t j u q=>PyProof.Rows.gt_int (q▸k.gz R .bool)) λg p q hg=>by cases hg
 |GtE=>exact nR (P:=λva vx=>wpAny (model D.prog D.w) A (compareOp .GtE va vx) Q E s) ha hx e (λi t j u q=>PyProof.Rows.ge_int (q▸k.gz R .bool)) λg p q hg=>by cases hg
 |Is=>obtain ⟨q,q'⟩:=BY (f:=id) e;subst q;subst q';rw [i6 hx];refine PyProof.Rows.is_none_gen ?_;have:(va==Value.none)=isNone a:=(oH ha).2;rw [this];exact k.gz R .bool
 |IsNot=>obtain ⟨q,q'⟩:=BY (f:=not) e;subst q;subst q';rw [i6 hx];refine PySem.isNot_none ?_;have:(va==Value.none)=isNone a:=(oH ha).2;rw [this];exact k.gz R .bool
 |In=>exact (BX R ha hx e).1 k
 |NotIn=>
  obtain ⟨c,e1,rfl⟩:=dw.mp (show (cV.vE a x).map (!·)=some b from e)
  exact (BX R ha hx e1).2 k
end
noncomputable def zU{α:Type}(S:Setting):Sem α→Nat→Option (α×Nat)
 |.pure a,T=>some (a,T)
 |.rule _ k,T=>zU S (k ()) T
 |.point _ k,T=>zU S (k ()) T
 |.fresh k,T=>zU S (k T) (T+1)
 |.ask k,T=>zU S (k S) T
 |_,_=>none
theorem vK{α:Type}{M:Model}{Γ:PySem.Ctx}{Q:α→Pos→Shared→Prop}{E:Value→Pos→Shared→Prop}{p:Pos}{a:α}{T:Nat}(t:Sem α):∀{s:Shared},zU ⟨M.prog,M.w.params⟩ t s.toks=some (a,T)→Q a p {s with toks:=T}→Sem.wp M Γ t Q E p s:=by
 induction t with
 |pure b=>intro s e q;cases e;exact q
 |rule _ k ih=>exact λe q=>ih () e q
 |point _ k ih=>exact λe q=>ih () e q
 |fresh k ih=>exact λ{s} e q=>ih s.toks (s:={s with toks:=s.toks+1}) e q
 |ask k ih=>exact λe q=>ih _ e q
 |_=>exact λe=>no e
section
variable {D:bZ}{s:Shared}{A:Around}{E:Value→Shared→Prop}
theorem rD{X T:Str}{n:Int}(hd:n.natAbs.log2< 1920)(e:∀(S:Setting) (t u k:Tok),zU S (Builtin.«str.__mod__» ⟨[.str X t,.int n u],[]⟩) k=some (.done (.ret (.str T k)),k+1)){t u:Tok}{Q:Value→Shared→Prop}(k:∀t' c,Q (.str T t') {s with toks:=c}):
  wpAny (model D.prog D.w) A (binaryOp .Mod (.str X t) (.int n u)) Q E s:=
 KPc.mod_lit rfl hd (λ_ _=>KPc.meets_of λ_ _ _ s _ _ k _ _ _=>vK _ (e _ t u s.toks) (k _ _)) k
theorem Ll{t u:Tok}{Q:Value→Shared→Prop}(k:∀t' c,Q (.str (Str.ofString "\\xE9") t') {s with toks:=c}):wpAny (model D.prog D.w) A (binaryOp .Mod (.str (Str.ofString "\\x%02X") t) (.int 233 u)) Q E s:=rD (by decide+kernel) (λ_ _ _ _=>by kernel_rfl) k
theorem BZ{t u:Tok}{Q:Value→Shared→Prop}(k:∀t' c,Q (.str (Str.ofString "\\u20AC") t') {s with toks:=c}):wpAny (model D.prog D.w) A (binaryOp .Mod (.str (Str.ofString "\\u%04X") t) (.int 8364 u)) Q E s:=rD (by decide+kernel) (λ_ _ _ _=>by kernel_rfl) k
theorem zW{t u:Tok}{Q:Value→Shared→Prop}(k:∀t' c,Q (.str (Str.ofString "\\U0001F600") t') {s with toks:=c}):wpAny (model D.prog D.w) A (binaryOp .Mod (.str (Str.ofString "\\U%08X") t) (.int 128512 u)) Q E s:=rD (by decide+kernel) (λ_ _ _ _=>by kernel_rfl) k
end
section
variable {D:bZ}{h₀:Heap}{G:Fz}{ρ:List PR}{h:Hp}{s:Shared}{A:Around}{E:Value→Shared→Prop}
theorem fP{m:MV}{v:Value}{l:List MV}(R:Rep D h₀ G ρ h s)(hv:VR D G ρ m v)(e:listOf m h=some l):∃a vs,v=.ref a∧s.heap.IsList a vs.toArray∧cB D G ρ l vs∧l.length≤az:=by
 rcases or_some e with e|⟨_,e⟩
 ·cases cH e
  obtain ⟨hl,a,o,vs,n,rfl,g,hc,hd,hr⟩:=hv;exact ⟨a,vs,rfl,⟨o,R.keep _ _ g,hc,n,hd⟩,hr,hl⟩
 ·obtain ⟨o,e1,e⟩:=aL.mp e
  cases cJ e1
  obtain ⟨p,vs,_,rfl,_,hl,jG,hr⟩:=gy R hv e;exact ⟨p.1,vs,rfl,jG.isList,hr,hl⟩
theorem iE{l:List MV}{vs:List Value}{Q:Value→Shared→Prop}(R:Rep D h₀ G ρ h s)(hr:cB D G ρ l vs)(hl:l.length≤az)(k:bY D h₀ G ρ s (.lst l) h Q):
  Q (.ref s.heap.objs.size) {s with heap:=s.heap.push {cls:=.type "list",data:=.seq vs.toArray}}:=
 k _ _ _ _ (.add G ρ s _ _ _ (bf _) (dF s _)) (R.vI _ rfl) (.push _ s _) (by exact ⟨hl,_,_,vs,0,rfl,.inr ⟨rfl,rfl⟩,rfl,rfl,cB.mono (Fz.i0 _ _ _) (.refl _) _ _ hr⟩)
theorem rE{a x:MV}{va vx:Value}{l1 l2:List MV}{Q:Value→Shared→Prop}(R:Rep D h₀ G ρ h s)(ha:VR D G ρ a va)(hx:VR D G ρ x vx)(e1:listOf a h=some l1)(e2:listOf x h=some l2)(hz:l1.length+l2.length≤az)
  (k:bY D h₀ G ρ s (.lst (l1++l2)) h Q):wpAny (model D.prog D.w) A (binaryOp .Add va vx) Q E s:=by
 obtain ⟨a1,vs,rfl,XW,Wf,_⟩:=fP R ha e1;obtain ⟨a2,ws,rfl,XX,Si,_⟩:=fP R hx e2;obtain ⟨⟨cls,dd,data,sl⟩,ho,hc,n,hd⟩:=id XW;obtain ⟨⟨XY,XZ,data2,X0⟩,Wg,Wh,n2,hd2⟩:=id XX;simp only at hc hd Wh hd2;subst hc hd Wh hd2;have e:vs.toArray++ws.toArray=(vs++ws).toArray:=by simp
 have xU:vs.toArray.size+ws.toArray.size≤sizeLine:=by have:=cI;simp only [List.size_toArray, ← Wf.length, ← Si.length];lia
 refine concat_meets ⟨_,ho,rfl⟩ ⟨_,Wg,rfl⟩ noFill_list_add seq_list_add PySem.F.slot_list_add PySem.F.entry_list_add (PySem.F.args_list_add_2 _ _) (list_addW a1 a2 vs.toArray ws.toArray n n2 dd XZ sl X0 xU) ⟨ho,Wg,?_⟩;rw [e];exact iE R (Wf.append Si) (by rw [aM];exact hz) k
theorem zX{x y:Int}(hy:aK y=true):Builtin.divisionGoesByPylong x y=false:=by
 have hb: -1000000000≤y∧y≤1000000000:=by unfold aK at hy;rw [Bool.and_eq_true] at hy;exact ⟨bz hy.1,bz hy.2⟩
 have h2:y.natAbs< 2 ^ 30:=by lia
 have h3:y.natAbs.log2< 30:=by
  by_cases q:y.natAbs=0
  ·rw [q];decide
  ·exact (Nat.log2_lt q).mpr h2
 unfold Builtin.divisionGoesByPylong;have:(decide ((if (y==0)=true then 0 else y.natAbs.log2 / 30+1) >300))=false:=by apply decide_eq_false;split<;>lia
 simp only [this,Bool.false_and]
theorem gA(x y:List Nat):toStr x++toStr y=toStr (x++y):=by
 show Str.mk (x.toArray++y.toArray)=Str.mk (x++y).toArray
 simp
theorem tP{x:List Nat}:∀(n:Nat) (a:List Nat),(List.replicate n x.toArray).foldl (·++·) a.toArray=(a++(List.replicate n x).flatten).toArray
 |0,a=>by simp
 |n+1,a=>by rw [List.replicate_succ,List.foldl_cons,show a.toArray++x.toArray=(a++x).toArray by simp,tP n (a++x),List.replicate_succ,List.flatten_cons,cU]
set_option tactic.hygienic true in
theorem Gz(x:List Nat)(n:Int):Txt.mul (toStr x) n=toStr (List.replicate n.toNat x).flatten:=by
 unfold Txt.mul;split
 ·rename_i q
  have:n.toNat=0:=by lia
  rw [this];rfl
 ·split
  ·rename_i q1 q2
   rcases Bool.or_eq_true_iff.mp q2 with q|q
   ·have:n=1:=by simpa using q
    subst this;show toStr x=toStr (x++[])
    rw [cM]
   ·have:x=[]:=by
     rw [aU] at q;exact List.length_eq_zero_iff.mp (by simpa using q)
    subst this;have:∀k:Nat,(List.replicate k ([]:List Nat)).flatten=[]:=by
     intro k;induction k with
     |zero=>rfl
     |succ k ih=>rw [List.replicate_succ,List.flatten_cons,ih];rfl
    rw [this]
  ·have:=tP (x:=x) n.toNat []
   rw [List.nil_append] at this;exact congrArg Str.mk this
theorem dY{i:Int}(h:aK i=true): -1000000000≤i∧i≤1000000000:=by unfold aK at h;rw [Bool.and_eq_true] at h;exact ⟨bz h.1,bz h.2⟩
theorem mO(x:List Nat):∀n:Nat,(List.replicate n x).flatten.length=x.length * n
 |0=>by simp
 |n+1=>by rw [List.replicate_succ,List.flatten_cons,aM,mO x n,Nat.mul_succ];lia
theorem OM{x:List Nat}{n:Int}(hx:x.length * n.toNat≤az)(hn:aK n=true):MulOk (toStr x) n:=by
 have hb:=dY hn;refine ⟨?_,λh1 h2=>?_,λh1 h2=>?_⟩
 ·rw [Bool.or_eq_false_iff];exact ⟨decide_eq_false (by lia),decide_eq_false (by lia)⟩
 ·rw [aU]
  have h3:(x.length:Int) * n≤1000000:=by
   have:((x.length * n.toNat:Nat):Int)=(x.length:Int) * n:=by rw [Int.natCast_mul,Int.toNat_of_nonneg (by lia)]
   rw [← this];exact Int.ofNat_le.mpr hx
  intro q;have h4:(2 ^ 63 - 1) / n< x.length:=q;have h5:=(Int.ediv_lt_iff_lt_mul (by lia:0< n)).mp h4
  lia
 ·rw [aU]
  unfold Builtin.Str.tooLong;have:=cI;exact decide_eq_false (by lia)
set_option tactic.hygienic true in
theorem GA{f r:List Nat}{x:Int}{t u:Tok}{Q:Value→Shared→Prop}(R:Rep D h₀ G ρ h s)(e:K6 f x=some r)(k:bY D h₀ G ρ s (.str r) h Q):
  wpAny (model D.prog D.w) A (binaryOp .Mod (.str (toStr f) t) (.int x u)) Q E s:=by
 unfold K6 at e;split at e
 ·rename_i q;obtain ⟨rfl,rfl⟩:=q
  cases e
  rw [show toStr [92,120,37,48,50,88]=Str.ofString "\\x%02X" from by decide+kernel]
  refine Ll λt' c=>?_
  rw [show Str.ofString "\\xE9"=toStr [92,120,69,57] from by decide+kernel]
  exact k.val R (.str (by decide)) _
 split at e
 ·rename_i q;obtain ⟨rfl,rfl⟩:=q
  cases e
  rw [show toStr [92,117,37,48,52,88]=Str.ofString "\\u%04X" from by decide+kernel]
  refine BZ λt' c=>?_
  rw [show Str.ofString "\\u20AC"=toStr [92,117,50,48,65,67] from by decide+kernel]
  exact k.val R (.str (by decide)) _
 split at e
 ·rename_i q;obtain ⟨rfl,rfl⟩:=q
  cases e
  rw [show toStr [92,85,37,48,56,88]=Str.ofString "\\U%08X" from by decide+kernel]
  refine zW λt' c=>?_
  rw [show Str.ofString "\\U0001F600"=toStr [92,85,48,48,48,49,70,54,48,48] from by decide+kernel]
  exact k.val R (.str (by decide)) _
 ·cases e
section
variable {a x r:MV}{va vx:Value}{f:Int→Int→Int}{Q:Value→Shared→Prop}
theorem iL(ha:VR D G ρ a va)(hx:VR D G ρ x vx)(e:arith f a x=some r):∃i j t u,va=.int i t∧vx=.int j u∧aK i=true∧aK j=true∧r=.int (f i j):=by
 obtain ⟨i,e1,e⟩:=aL.mp e;obtain ⟨j,e2,e⟩:=aL.mp e;obtain ⟨q,e9⟩:=aW e
 cases bD e1
 cases bD e2
 obtain ⟨t,rfl⟩:=di ha;obtain ⟨u,rfl⟩:=di hx;have q:=aZ.mp q;exact ⟨i,j,t,u,rfl,rfl,q.1,q.2,(aC e9).symm⟩
theorem tQ(ha:VR D G ρ a va)(hx:VR D G ρ x vx)(e:Gm f a x=some r):∃i j t u,va=.int i t∧vx=.int j u∧0< j∧aK j=true∧r=.int (f i j):=by
 obtain ⟨i,e1,e⟩:=aL.mp e;obtain ⟨j,e2,e⟩:=aL.mp e;obtain ⟨q,e9⟩:=aW e
 cases bD e1
 cases bD e2
 obtain ⟨t,rfl⟩:=di ha;obtain ⟨u,rfl⟩:=di hx;have q:=aZ.mp q;exact ⟨i,j,t,u,rfl,rfl,bz q.1,q.2,(aC e9).symm⟩
theorem tR(ha:VR D G ρ a va)(hx:VR D G ρ x vx)(e:BJ a x=some r):∃p q t u,va=.str (toStr p) t∧vx=.str (toStr q) u∧(p++q).length≤az∧r=.str (p++q):=by
 obtain ⟨p,e1,e⟩:=aL.mp e;obtain ⟨q,e2,e⟩:=aL.mp e;obtain ⟨hz,e9⟩:=aW e
 cases bG e1
 cases bG e2
 obtain ⟨t,rfl⟩:=dQ ha;obtain ⟨u,rfl⟩:=dQ hx;exact ⟨p,q,t,u,rfl,rfl,hz,(aC e9).symm⟩
theorem xV{p q:List Nat}(hz:(p++q).length≤az):(toStr p).length+(toStr q).length≤sizeLine:=by rw [aU,aU, ← aM];exact ah hz cI
theorem GB(R:Rep D h₀ G ρ h s)(ha:VR D G ρ a va)(hx:VR D G ρ x vx)(e:BJ a x=some r)(k:bY D h₀ G ρ s r h Q):wpAny (model D.prog D.w) A (binaryOp .Add va vx) Q E s:=by
 obtain ⟨p,q,t,u,rfl,rfl,hz,rfl⟩:=tR ha hx e;refine PyProof.Rows.add_str (λt' c=>?_) (xV hz)
 rw [gA];exact k.val R (.str hz) _
theorem GC(R:Rep D h₀ G ρ h s)(ha:VR D G ρ a va)(hx:VR D G ρ x vx)(e:K7 a x=some r)(k:bY D h₀ G ρ s r h Q):wpAny (model D.prog D.w) A (binaryOp .Mult va vx) Q E s:=by
 obtain ⟨p,e1,e⟩:=aL.mp e;obtain ⟨j,e2,e⟩:=aL.mp e;obtain ⟨hs,e9⟩:=aW e
 cases bG e1
 cases bD e2
 cases e9
 obtain ⟨t,rfl⟩:=dQ ha;obtain ⟨u,rfl⟩:=di hx;have hs:=aZ.mp hs;have hz:=bz hs.1;refine PySem.SB.mul (OM hz hs.2) λt' c=>?_
 rw [Gz];exact k.val R (.str (mO ..▸hz)) _
end
theorem GD{op:Operator}{a x r:MV}{va vx:Value}{Q:Value→Shared→Prop}(R:Rep D h₀ G ρ h s)(ha:VR D G ρ a va)(hx:VR D G ρ x vx)(e:binOp op a x h=some r)(k:bY D h₀ G ρ s r h Q):
  wpAny (model D.prog D.w) A (binaryOp op va vx) Q E s:=by
 cases op with
 |Add=>
  rcases or_some e with e|⟨_,e⟩
  ·obtain ⟨i,j,t,u,rfl,rfl,_,_,rfl⟩:=iL ha hx e
   exact PyProof.Rows.add_int (k.val R .int _)
  rcases or_some e with e|⟨_,e⟩
  ·exact GB R ha hx e k
  ·obtain ⟨l1,e1,e⟩:=aL.mp e
   obtain ⟨l2,e2,e⟩:=aL.mp e;obtain ⟨hz,e⟩:=aW e;cases e
   exact rE R ha hx e1 e2 hz k
 |Sub=>obtain ⟨i,j,t,u,rfl,rfl,_,_,rfl⟩:=iL ha hx e;exact PyProof.Rows.sub_int (k.val R .int _)
 |Mult=>
  rcases or_some e with e|⟨_,e⟩
  ·obtain ⟨i,j,t,u,rfl,rfl,h1,_,rfl⟩:=iL ha hx e
   have hb:=dY h1;exact PyProof.Rows.mul_int (k.val R .int _) (.of_left (intBits_le_64 (by lia) (by lia)))
  ·exact GC R ha hx e k
 |Mod=>
  rcases or_some e with e|⟨_,e⟩
  ·obtain ⟨i,j,t,u,rfl,rfl,h1,_,rfl⟩:=tQ ha hx e
   refine PyProof.Rows.mod_int' (Int.ne_of_gt h1) ?_;rw [Int.fmod_eq_emod_of_nonneg _ (Int.le_of_lt h1)];exact k.val R .int _
  ·obtain ⟨p,e1,e⟩:=aL.mp e
   obtain ⟨j,e2,e⟩:=aL.mp e;obtain ⟨y,e3,rfl⟩:=dw.mp e
   cases bG e1
   cases bD e2
   obtain ⟨t,rfl⟩:=dQ ha;obtain ⟨u,rfl⟩:=di hx;exact GA R e3 k
 |FloorDiv=>obtain ⟨i,j,t,u,rfl,rfl,h1,h2,rfl⟩:=tQ ha hx e;refine PyProof.Rows.floordiv_int (Int.ne_of_gt h1) ?_ (.inl (zX h2));rw [Int.fdiv_eq_ediv_of_nonneg _ (Int.le_of_lt h1)];exact k.val R .int _
 |_=>exact no e
end
section
variable {D:bZ}{h₀:Heap}{G:Fz}{ρ:List PR}{h:Hp}{s:Shared}{A:Around}{E:Value→Shared→Prop}
theorem GF(a n:Nat):min (a:Int) (n:Int)=(min a n:Nat):=by
 by_cases h:a≤n
 ·rw [Nat.min_eq_left h];exact Int.min_eq_left (Int.ofNat_le.mpr h)
 ·rw [Nat.min_eq_right (Nat.le_of_not_le h)];exact Int.min_eq_right (Int.ofNat_le.mpr (Nat.le_of_not_le h))
theorem B0(a:Nat):¬ Int.ofNat a< 0:=Int.not_lt.mpr (Int.natCast_nonneg a)
theorem xW(n:Nat)(i:Int):clipAt n i=clip n i:=by
 unfold clipAt
 cases i with
 |ofNat a=>
  rw [if_neg (B0 a)];show (max 0 (min (a:Int) n)).toNat=_
  rw [GF,Int.max_eq_right (Int.natCast_nonneg _)];rfl
 |negSucc k=>
  rw [if_pos (Int.negSucc_lt_zero k),Int.add_comm];show (max 0 (min ((n:Int) - (k+1:Nat)) n)).toNat=_
  rw [Int.min_eq_left (Int.sub_le_self _ (Int.natCast_nonneg (k+1))),Int.max_comm, ← Int.toNat_eq_max];exact Int.toNat_sub n (k+1)
theorem xX{n:Nat}{i:Int}:seqIndex? i n=idx n i:=by
 unfold seqIndex?
 cases i with
 |ofNat a=>
  rw [if_neg (B0 a)]
  by_cases h:a< n
  ·exact (if_pos (aZ.mpr ⟨decide_eq_true (Int.natCast_nonneg a),decide_eq_true (Int.ofNat_lt.mpr h)⟩)).trans (if_pos h).symm
  ·exact (if_neg λe=>h (Int.ofNat_lt.mp (bz (aZ.mp e).2))).trans (if_neg h).symm
 |negSucc k=>
  rw [if_pos (Int.negSucc_lt_zero k),Int.add_comm]
  by_cases h:k< n
  ·rw [show (n:Int)+Int.negSucc k=((n - (k+1):Nat):Int) from (Int.ofNat_sub h).symm]
   exact (if_pos (aZ.mpr ⟨decide_eq_true (Int.natCast_nonneg _),decide_eq_true (Int.ofNat_lt.mpr (Nat.sub_lt_self (Nat.succ_pos _) h))⟩)).trans (if_pos h).symm
  ·exact (if_neg λe=>h (Int.ofNat_le.mp (Int.sub_nonneg.mp (show 0≤(n:Int) - (k+1:Nat) from bz (aZ.mp e).1)))).trans (if_neg h).symm
theorem tS{n j:Nat}{i:Int}(e:idx n i=some j):j< n∧((0≤i∧i.toNat=j)∨(i< 0∧-(n:Int)≤i∧(i+n).toNat=j)):=by
 cases i with
 |ofNat a=>obtain ⟨h,e⟩:=aW e;exact ⟨aC e▸h,.inl ⟨Int.natCast_nonneg a,aC e⟩⟩
 |negSucc k=>obtain ⟨h,e⟩:=aW e;exact ⟨aC e▸Nat.sub_lt_self (Nat.succ_pos _) h,.inr ⟨Int.negSucc_lt_zero k,Int.neg_le_neg (Int.ofNat_le.mpr h),((congrArg Int.toNat (Int.add_comm _ _)).trans (Int.toNat_sub n (k+1))).trans (aC e)⟩⟩
theorem list_item{l:List MV}{vs:List Value}{a:Addr}{k:Int}{u:Tok}{r:MV}{j:Nat}{Q:Value→Shared→Prop}(R:Rep D h₀ G ρ h s)(hl:s.heap.IsList a vs.toArray)(hr:cB D G ρ l vs)(hk:aK k=true)(e1:idx l.length k=some j)(e2:l[j]? =some r)
  (K:bY D h₀ G ρ s r h Q):wpAny (model D.prog D.w) A (getItem (.ref a) (.int k u)) Q E s:=by
 obtain ⟨v,hv,NP⟩:=hr.get e2;have hb:=dY hk;have hs:vs.toArray.size=l.length:=by simp [hr.length]
 obtain ⟨hj,q|q⟩:=tS e1
 ·refine wpAny_getItem_list hl q.1 (by lia) (x:=v) ?_ (K.gz R NP)
  rw [q.2];simpa using hv
 ·refine wpAny_getItem_list_neg hl q.1 (by rw [hs];exact q.2.1) (by lia) (x:=v) ?_ (K.gz R NP)
  rw [hs,q.2.2];simpa using hv
theorem oJ{i:MV}{n j:Nat}{vi:Value}(hi:VR D G ρ i vi)(e:tE i n=some j):∃k u,vi=.int k u∧aK k=true∧idx n k=some j:=by
 obtain ⟨k,e1,e⟩:=aL.mp e
 cases bD e1
 obtain ⟨u,rfl⟩:=di hi;have e:=aW e;exact ⟨k,u,rfl,e.1,e.2⟩
theorem mP{a i r:MV}{va vi:Value}{Q:Value→Shared→Prop}(R:Rep D h₀ G ρ h s)(ha:VR D G ρ a va)(hi:VR D G ρ i vi)(e:fG a i h=some r)(K:bY D h₀ G ρ s r h Q):
  (∃T id,s.TypeIs va T∧typeLookup (.type T) "__getitem__"=pure (some (.builtin id)))∧wpAny (model D.prog D.w) A (getItem va vi) Q E s:=by
 rcases or_some e with e|⟨_,e⟩
 ·obtain ⟨x,e0,e⟩:=aL.mp e
  obtain ⟨j,e1,e⟩:=aL.mp e;obtain ⟨c,e2,rfl⟩:=dw.mp e
  cases bG e0
  obtain ⟨t,rfl⟩:=dQ ha;obtain ⟨k,u,rfl,hk,e1⟩:=oJ hi e1;have hb:=dY hk;refine ⟨⟨"str",_,rfl,PySem.F.slot_str_getitem.lookup⟩,PySem.P.getItem_str (c:=c) ?_ ?_ (K.val R (.str (x:=[c]) (c8 rfl)) _)⟩
  ·rw [Bool.or_eq_false_iff];exact ⟨decide_eq_false (by lia),decide_eq_false (by lia)⟩
  ·rw [aU,xX,e1]
   exact (List.getElem?_toArray ..).trans e2
 rcases or_some e with e|⟨_,e⟩
 ·obtain ⟨d,e1,e⟩:=aL.mp e
  obtain ⟨v,e2,e9⟩:=aL.mp e
  cases iH e1
  cases (show v=some r from e9)
  obtain ⟨d,rfl,hT,hq⟩:=BW (A:=A) (E:=E) R ha hi e2 K;exact ⟨⟨"dict",_,hT,slot_dict_getitem.lookup⟩,hq⟩
 rcases or_some e with e|⟨_,e⟩
 ·obtain ⟨l,e0,e⟩:=aL.mp e
  obtain ⟨j,e1,e2⟩:=aL.mp e
  cases eL e0
  obtain ⟨k,u,rfl,hk,e1⟩:=oJ hi e1;obtain ⟨hl,a,o,vs,n,rfl,g,hc,hd,hr⟩:=ha;have hb:=dY hk;obtain ⟨v,hv,NP⟩:=hr.get e2;exact ⟨⟨"tuple",_,⟨o,R.keep _ _ g,hc⟩,PySem.F.slot_tuple_getitem.lookup⟩,PyProof.Rows.getItem_tuple (⟨o,R.keep _ _ g,hc,n,hd⟩:IsTup s.heap a vs.toArray) (by lia) (by lia) (by rw [k9 hr,xX];exact e1) ((List.getElem?_toArray ..).trans hv) (K.gz R NP)⟩
 ·obtain ⟨l,e0,e⟩:=aL.mp e
  obtain ⟨j,e1,e2⟩:=aL.mp e;obtain ⟨ad,vs,rfl,hl,hr,_⟩:=fP R ha e0;obtain ⟨k,u,rfl,hk,e1⟩:=oJ hi e1;exact ⟨⟨"list",_,hl.typeIs,slot_list_getitem.lookup⟩,list_item R hl hr hk e1 e2 K⟩
noncomputable def lq:Expr→Bool
 |.Slice ..=>false
 |_=>true
theorem GG{value slice:Expr}{a i r:MV}{va vi:Value}{Q:Value→Shared→Prop}(hn:lq slice=true)(R:Rep D h₀ G ρ h s)(ha:VR D G ρ a va)(hi:VR D G ρ i vi)(e:fG a i h=some r)(K:bY D h₀ G ρ s r h Q):
  wpAny (model D.prog D.w) A (subscriptTail value slice va vi) Q E s:=by
 obtain ⟨⟨T,id,hT,hl⟩,hq⟩:=mP (A:=A) (E:=E) R ha hi e K;refine tail_any (ops:=[va,vi]) hT hl hq ?_
 cases slice<;>first|rfl|cases hn
theorem tT{α:Type}(l:List α)(lo hi:Option Int):(eX l lo hi).length≤l.length:=ah (List.length_take_le' ..) ((List.length_drop ..).symm▸Nat.sub_le ..)
theorem GH(n:Nat):clipAt n=clip n:=funext (xW n)
theorem side(n:Nat)(o:Option Int)(d:Nat):o.elim (d:Int) (λi=>max 0 (min (if i< 0 then i+n else i) n))=((o.elim d (clip n):Nat):Int):=by
 cases o with
 |none=>rfl
 |some i=>exact (clipAt_cast n i).symm.trans (congrArg _ (xW n i))
theorem B4(n:Nat)(lo hi:Option Int):Builtin.Str.strSliceIndices lo hi 1 n=(List.range (hi.elim n (clip n) - lo.elim 0 (clip n))).map (lo.elim 0 (clip n)+·):=by
 rw [← sliceRange_one, ← side, ← side]
 cases lo<;>cases hi<;>rfl
theorem Lm(x:List Nat)(lo hi:Option Int):(Builtin.Str.strSliceIndices lo hi 1 x.length).filterMap ((toStr x).cps[·]?)=eX x lo hi:=by rw [B4,pick_run];rfl
theorem GI(n:Nat)(o:Option Int):o.elim n (clip n)≤n:=match o with
 |none=>bf _
 |some (.ofNat _)=>Nat.min_le_right ..
 |some (.negSucc _)=>Nat.sub_le ..
theorem vL(x:List Nat)(lo hi:Option Int)(e:(Builtin.Str.strSliceIndices lo hi 1 x.length).length=x.length):eX x lo hi=x:=by rw [B4,cL,List.length_range] at e;refine ((List.take_sublist ..).trans (List.drop_sublist ..)).eq_of_length ?_;rw [List.length_take,List.length_drop,e];exact Nat.min_eq_left (ah (Nat.le_of_eq e.symm) (Nat.sub_le_sub_right (GI x.length hi) _))
theorem cB.cut{l:List MV}{vs:List Value}(lo hi:Option Int)(h:cB D G ρ l vs):cB D G ρ (eX l lo hi) (eX vs lo hi):=by unfold eX;rw [← h.length];exact (h.drop _).take _
theorem part_of{m:Option MV}{v:Value}{i:Option Int}(hv:match m with|none=>v=.none|some m=>VR D G ρ m v)(e:jB m=some i):IsPart v i∧∃p:Option (Int×Tok),v=partValue p∧p.map (·.1)=i:=by
 cases m with
 |none=>cases e;cases (show v=.none from hv);exact ⟨.none,none,rfl,rfl⟩
 |some m=>
  obtain ⟨k,e1,e⟩:=aL.mp e;obtain ⟨_,e9⟩:=aW e
  cases bD e1
  obtain ⟨t,rfl⟩:=di (show VR D G ρ (.int k) v from hv)
  cases e9
  exact ⟨.int _ _,some (_,t),rfl,rfl⟩
noncomputable abbrev jI(vl vu:Value):Obj:={cls:=.type "slice",data:=.fields #[vl,vu,.none]}
set_option tactic.hygienic true in
theorem zY{value:Expr}{lower upper:Option Expr}{p:Pos}{x:List Nat}{t:Tok}{l' u':Option (Int×Tok)}{Q:Value→Shared→Prop}(R:Rep D h₀ G ρ h s)(hx:x.length≤az)
  (K:bY D h₀ G ρ s (.str (eX x (l'.map (·.1)) (u'.map (·.1)))) h Q):wpAny (model D.prog D.w) A (subscriptTail value (.Slice lower upper none p) (.str (toStr x) t) (.ref s.heap.objs.size)) Q E {s with heap:=s.heap.push (jI (partValue l') (partValue u'))}:=by
 have R':Rep D h₀ G ρ h {s with heap:=s.heap.push (jI (partValue l') (partValue u'))}:=R.push _
 have K':=K.then (.same (dF s (jI (partValue l') (partValue u')))) (gK.push _ s _);refine tail_any (T:="str") (ops:=[.ref s.heap.objs.size,.str (toStr x) t]) rfl PySem.F.slot_str_getitem.lookup (wpAny_getItem_str_slice (l:=l') (u:=u') (st:=none) ⟨_,Heap.get?_push_size _ rfl,rfl,rfl⟩ rfl ?_) rfl;have hp:(slicePicked (toStr x) l' u' none).filterMap ((toStr x).cps[·]?)=eX x (l'.map (·.1)) (u'.map (·.1)):=by unfold slicePicked;rw [aU];exact Lm x _ _
 unfold sliceMade;rw [hp];split
 ·rename_i q
  refine K'.val R' (v:=.str (toStr x) t) ?_ _;rw [vL x (l'.map (·.1)) (u'.map (·.1)) (by rw [aU] at q;unfold slicePicked at q;rw [aU] at q;exact eq_of_beq q)]
  exact .str hx
 ·have hz:(eX x (l'.map (·.1)) (u'.map (·.1))).length≤az:=ah (tT _ _ _) hx
  exact ⟨ah hz cI,K'.val R' (v:=.str (toStr _) s.toks) (.str hz) _⟩
theorem zZ{value:Expr}{lower upper:Option Expr}{p:Pos}{a r:MV}{lo hi:Option MV}{va vl vu:Value}{Q:Value→Shared→Prop}(R:Rep D h₀ G ρ h s)(ha:VR D G ρ a va)
  (Wi:match lo with|none=>vl=.none|some m=>VR D G ρ m vl) (X3:match hi with|none=>vu=.none|some m=>VR D G ρ m vu) (e:g8 a lo hi h=some r) (K:bY D h₀ G ρ s r h Q):
  wpAny (model D.prog D.w) A (subscriptTail value (.Slice lower upper none p) va (.ref s.heap.objs.size)) Q E {s with heap:=s.heap.push (jI vl vu)}:=by
 obtain ⟨li,e1,e3⟩:=aL.mp e;obtain ⟨ui,e2,e4⟩:=aL.mp e3;clear e e3;obtain ⟨pl,l',rfl,rfl⟩:=part_of Wi e1;obtain ⟨pu,u',rfl,rfl⟩:=part_of X3 e2;rcases or_some e4 with e4|⟨_,e4⟩
 ·obtain ⟨x,e5,rfl⟩:=dw.mp e4
  cases bG e5
  obtain ⟨hx,t,rfl⟩:=id ha;exact zY R hx K
 ·obtain ⟨l,e0,rfl⟩:=dw.mp e4
  obtain ⟨ad,vs,rfl,hl,hr,hz⟩:=fP R ha e0;have Wj:=hl.push (jI (partValue l') (partValue u'));refine tail_any (T:="list") (ops:=[.ref s.heap.objs.size,.ref ad]) (Heap.IsList.typeIs (s:={s with heap:=s.heap.push _}) Wj) slot_list_getitem.lookup (wpAny_getItem_list_slice Wj (Heap.IsSliceOf.new ..) pl pu .none (by decide) ?_ (k9 hr▸ah hz cI)) rfl
  rw [slicePick_plain,List.size_toArray,GH];exact iE (R.push _) (hr.cut _ _) (ah (tT _ _ _) hz) (K.then (.same (dF s _)) (gK.push _ s _))
end
structure qk(n:Nat)(A:Around):Prop where
 depth:A.depth+n< recursionLimit
 units:A.units+20 * n+20< cLine
 handled:A.handled=none
theorem qk.mono{n m:Nat}{A:Around}(h:qk n A)(q:m≤n):qk m A:=⟨by have:=h.depth;lia,by have:=h.units;lia,h.handled⟩
theorem qk.pred{n:Nat}{A:Around}(h:qk (n+1) A):qk n A:=h.mono (Nat.le_succ n)
theorem qk.B5{n:Nat}{A:Around}(h:qk n A):A.depth< recursionLimit:=by have:=h.depth;lia
theorem qk.deep{n:Nat}{A:Around}(h:qk (n+1) A)(env:Env):qk n (A.deeper env):=⟨by have:=h.depth;show A.depth+1+n< _;lia,by have:=h.units;show A.units+3+_+_< _;lia,h.handled⟩
structure B6(D:bZ)(ci:CI):Prop where
 av:ci.av=D.av
 nm:ci.nm=D.nm
 ff:ci.ff=D.ff
structure tU(D:bZ)(K:Frag)(h₀:Heap)(C:Addr)(ce:fZ)(a:Nat)(x:Str):Prop where
 me:∀f,fU ce.meths a=some f→∃fa,D.fa[f]? =some fa∧findIn K (.ref C) x=some (some (.ref fa))∧isFn K (.ref fa)=true∧copiedNames.contains x=false
 ca:fU ce.meths a=none→∀mv,aR ce.gI a=some mv→∃v,findIn K (.ref C) x=some (some v)∧specialIn K v "__get__"=some none∧handedIn v=true∧copiedNames.contains x=false∧∀G ρ,(∀b o,h₀.get? b=some o→G b o)→VR D G ρ mv v
 no:fU ce.meths a=none→aR ce.gI a=none→findIn K (.ref C) x=some none
noncomputable def JI:Stmt→Option (List Expr×Expr×Pos)
 |.Assign ts v p=>some (ts,v,p)
 |_=>none
noncomputable def ON{α:Type}:List α→Option α
 |[]=>none
 |a::r=>if r.isEmpty then some a else none
noncomputable def nS(nm pn:List Str)(st:Stmt):Option (Nat×Nat):=(JI st).bind λq=>(ON q.1).bind λt=>(lR t).bind λo=>(iY o.1).bind λsf=>(iY q.2.1).bind λp=>if pn.head? ==some sf&& !(isDebug sf)&& !(isDebug p) then (nm.idxOf? o.2.1).bind λi=>(pn.idxOf? p).bind λj=>some (i,j) else none
structure B7(D:bZ)(ce:fZ)(fd:FuncData)(body:List Stmt):Prop where
 ss:body.mapM (nS D.nm (fd.params.args.map (·.arg)))=some ce.fields
 aH:∀y∈fd.params.args.map (·.arg),fd.scope.names.lookup y=some .local
 len:ce.fields.length< 900
 nd:(ce.fields.map (·.1)).Nodup
structure B8(D:bZ)(K:Frag)(h₀:Heap)(C:Addr)(ce:fZ):Prop where
 ga:findIn K (.ref C) "__getattribute__"=some (some (.builtin "object.__getattribute__"))
 Tq:findIn K (.ref C) "__getattr__"=some none
 hd:hasDictIn K C=true
 makes:makesIn K C=true
 X4:∃fi,findIn K (.ref C) "__init__"=some (some (.ref fi))∧D.fa[ce.init]? =some fi∧isFn K (.ref fi)=true
 sa:findIn K (.ref C) "__setattr__"=some (some (.builtin "object.__setattr__"))
 po:plainOver K C=true
 keep:keepIn K (.ref C)=true
 tk:ce.isRec=false→∀(a:Nat) (x:Str),D.nm[a]? =some x→takerIn K C x=some none
 names:ce.isRec=false→∀(a:Nat) (x:Str),D.nm[a]? =some x→tU D K h₀ C ce a x
 Tt:ce.isRec=true→plainGet K C "__class__"=true∧findIn K (.ref C) "__class__"=some (some (.builtin "object.__class__"))∧specialIn K (.builtin "object.__class__") "__get__"=some (some (.builtin "getset_descriptor.__get__"))∧takesIn K (.builtin "object.__class__")=some true∧mroIn K C (.type "object")=some true
 Wk:ce.isRec=true→∀(i:Nat) (A:Addr),D.ca[i]? =some A→kitOne K (.ref C) (.ref A)=some (ce.rm.contains i)
 OO:ce.isRec=true→∀(fi:Addr) (fd:FuncData) (oc:Value) (od:Option Addr) (z0:Array (Option Value)) (body:List Stmt),D.fa[ce.init]? =some fi→K.lookup fi=some ⟨oc,od,.func fd,z0⟩→fd.body=.stmts body→B7 D ce fd body
 X5:ce.isRec=true→∀p∈ce.fields,p.2≠0
 Ln:ce.isRec=true→∀p∈ce.fields,∃y,D.nm[p.1]? =some y∧findIn K (.ref C) y=some none∧takerIn K C y=some none
def z5(D:bZ)(K:Frag)(fe:cC)(fd:FuncData):Prop:=(fe.defs=[]∧fd.defaults=.none)∨(∃T o items n,fd.defaults=.ref T∧K.lookup T=some o∧o.data=.seq items n∧∀G ρ,cB D G ρ fe.defs items.toList)
structure Wl(D:bZ)(K:Frag)(fe:cC)(fd:FuncData)(body:List Stmt):Prop where
 hb:fd.body=.stmts body
 comp:vG D.av D.nm D.ff fd.params body fd.scope=some fe
 gl:fd.globals=mainGlobals
 cl:fd.closure=[]
 bi:fd.builtins=builtinsNs
 code:codeIn K fd.code fd.qualname=true
 Wm:z5 D K fe fd
structure Wn(D:bZ)(K:Frag)(a:Addr)(fe:cC):Prop where
 obj:∃oc od z0 fd body,K.lookup a=some ⟨oc,od,.func fd,z0⟩∧Wl D K fe fd body
structure cD(D:bZ)(K:Frag)(h₀:Heap)(mg mb:Str→Option Value):Prop where
 qv:K.In h₀
 g:h₀.Ns mainGlobals mg
 b:h₀.Ns builtinsNs mb
 nolimit:h₀.NoLimit
 OP:∃o,h₀.get? sysModules=some o
 av:∀(x:Str) (mv:MV),D.av.lookup x=some mv→∃v,(mg x=some v∨(mg x=none∧mb x=some v))∧∀G ρ,(∀b o,h₀.get? b=some o→G b o)→VR D G ρ mv v
 range:mg (Str.ofString "range")=none∧mb (Str.ofString "range")=some (.type "range")
 fns:∀(i:Nat) (fe:cC),D.pm.fns[i]? =some fe→∃a,D.fa[i]? =some a∧Wn D K a fe
 dM:∀(c:Nat) (ce:fZ),D.pm.dM[c]? =some ce→∃C,D.ca[c]? =some C∧B8 D K h₀ C ce
 GJ:D.nm.Nodup
 Tu:findIn K (.type "function") "__get__"=some (some (.builtin "function.__get__"))
 Tv:findIn K (.type "function") "__set__"=some none
 Tw:findIn K (.type "function") "__delete__"=some none
 j9:D.nm[D.pm.j9]? =some (Str.ofString "join")
 g7:D.nm[D.pm.g7]? =some (Str.ofString "startswith")
 iX:D.nm[D.pm.iX]? =some (Str.ofString "append")
 BH:D.nm[D.pm.BH]? =some (Str.ofString "pop")
 mH:D.nm[D.pm.mH]? =some (Str.ofString "copy")
 zO:D.nm[D.pm.zO]? =some (Str.ofString "get")
theorem qw{o:Obj}{es:Array DictEntry}{ep:Nat}{m:Str→Option Value}(hd:o.data=.dict es ep)(hk:StrKeys es)(hf:∀x,nsFind es x=m x)(x:Str):lookIn x o=some (m x):=by
 unfold lookIn;rw [hd];dsimp only;have q:=hf x;unfold nsFind findBy at q;rw [← Array.find?_toList] at q
 cases e:es.toList.find? (λe=>e.key.isStr x) with
 |some en=>rw [e] at q;rw [← q];rfl
 |none=>
  rw [e] at q;dsimp only;rw [if_neg]
  ·rw [← q];rfl
  ·rw [Bool.not_eq_true]
   refine List.any_eq_false.mpr λen OJ=>?_
   obtain ⟨y,t,ek⟩:=hk en (Array.mem_toList_iff.mp OJ);unfold DictEntry.refKey;rw [ek];simp
theorem vM{o:Obj}{m:Str→Option Value}(h:We o m)(x:Str):lookIn x o=some (m x):=by obtain ⟨es,ep,hd,hk,hf⟩:=h;exact qw hd hk hf x
theorem B9{h:Heap}{a:Addr}{m:Str→Option Value}(n:h.Ns a m):∃o,h.get? a=some o∧∀x,lookIn x o=some (m x):=by obtain ⟨o,es,ep,ho,hd,hk,hf⟩:=n;exact ⟨o,ho,qw hd hk hf⟩
theorem qx{D:bZ}{G:Fz}{ρ:List PR}{m:MV}{v:Value}(h:VR D G ρ m v):handedIn v=true:=(oH h).1
set_option tactic.hygienic true in
theorem Ca{fs:List (Nat×Nat)}:∀{vs:List MV} {a:Nat} {r:MV},iJ fs vs a=some r→∃(j:Nat) (p:Nat×Nat),fs[j]? =some p∧p.1=a∧vs[j]? =some r:=by
 induction fs with
 |nil=>intro vs a r e;unfold iJ at e;cases e
 |cons p fs ih=>
  intro vs a r e;obtain ⟨k,q⟩:=p
  cases vs with
  |nil=>unfold iJ at e;cases e
  |cons v vs=>
   unfold iJ at e;split at e
   ·rename_i hk
    cases e
    exact ⟨0,(k,q),rfl,by simpa using hk,rfl⟩
   ·obtain ⟨j,p,h1,h2,h3⟩:=ih e
    exact ⟨j+1,p,by simpa using h1,h2,by simpa using h3⟩
section
variable {D:bZ}{h₀:Heap}{G:Fz}{ρ:List PR}{h:Hp}{s:Shared}{A:Around}{E:Value→Shared→Prop}{K:Frag}{mg mb:Str→Option Value}
theorem Rep.qv(R:Rep D h₀ G ρ h s)(L:cD D K h₀ mg mb):K.In s.heap:=λa o e=>R.keep a o (R.base a o (L.qv a o e))
theorem vN(L:cD D K h₀ mg mb){fa:Addr}(hf:isFn K (.ref fa)=true):specialIn K (.ref fa) "__get__"=some (some (.builtin "function.__get__"))∧takesIn K (.ref fa)=some false:=by
 have ht:typeIn K (.ref fa)=some (.type "function"):=beq_iff_eq.mp hf;have e1:specialIn K (.ref fa) "__get__"=some (some (.builtin "function.__get__")):=by unfold specialIn;rw [ht,Option.bind_some,L.Tu]
 have e2:specialIn K (.ref fa) "__set__"=some none:=by unfold specialIn;rw [ht,Option.bind_some,L.Tv]
 have e3:specialIn K (.ref fa) "__delete__"=some none:=by unfold specialIn;rw [ht,Option.bind_some,L.Tw]
 refine ⟨e1,?_⟩;unfold takesIn;rw [e2,e3];rfl
theorem lT(L:cD D K h₀ mg mb){c:Nat}{ce:fZ}{C:Addr}(hc:D.pm.dM[c]? =some ce)(hC:D.ca[c]? =some C):B8 D K h₀ C ce:=by obtain ⟨C',e,q⟩:=L.dM c ce hc;rw [hC] at e;cases e;exact q
structure IV(D:bZ)(h₀:Heap)(K:Frag)(G:Fz)(ρ:List PR)(h:Heap)(c:Nat)(attrs:List (Nat×MV))(p:PR)(C dx:Addr)(m:Str→Option Value)(od:Obj)(ce:fZ):Prop where
 I:InstAt h p.1 (instObj C dx) C (some od)
 lk:∀y,lookIn y od=some (m y)
 r:OD D G ρ h p c attrs C dx m
 rF:D.pm.dM[c]? =some ce
 rc:ce.isRec=false
 q:B8 D K h₀ C ce
theorem rG(L:cD D K h₀ mg mb)(R:Rep D h₀ G ρ h s){o:Nat}{va:Value}(hv:VR D G ρ (.obj o) va){x:Nat×List (Nat×MV)}(e:(h[o]?).bind n8=some x):∃p C dx m od ce,ρ[o]? =some p∧va=.ref p.1∧IV D h₀ K G ρ s.heap x.1 x.2 p C dx m od ce:=by
 obtain ⟨ob,ho,e⟩:=aL.mp e;obtain ⟨p,hp,rfl⟩:=id hv
 cases ob with
 |list l=>exact (aY _ e.symm).elim
 |inst c attrs=>
  obtain ⟨C,dx,m,r⟩:=R.objs _ _ _ hp ho;obtain ⟨od,Tz,Wo⟩:=B9 r.ns.ns;obtain ⟨ce,rF,hr⟩:=r.rc;cases e
  exact ⟨p,C,dx,m,od,ce,hp,rfl,⟨r.ob,rfl,rfl,Tz⟩,Wo,r,rF,hr,lT L rF r.hC⟩
section
variable {c:Nat}{attrs:List (Nat×MV)}{p:PR}{C dx:Addr}{m:Str→Option Value}{od:Obj}{ce:fZ}
theorem IV.own{H:Heap}(V:IV D h₀ K G ρ H c attrs p C dx m od ce){a:Nat}{x:Str}(hx:D.nm[a]? =some x){mv:MV}(e:aR attrs a=some mv):findIn K (.ref C) x=some none:=by have ok:=V.r.own a (e▸rfl);unfold tL at ok;rw [V.rF] at ok;have ok:=aZ.mp ok;exact (V.q.names V.rc a x hx).no (Option.isNone_iff_eq_none.mp ok.1) (Option.isNone_iff_eq_none.mp ok.2)
theorem IV.cls{H:Heap}(V:IV D h₀ K G ρ H c attrs p C dx m od ce){β:Type}{f:fZ→Option β}{r:β}(e:(D.pm.dM[c]?).bind f=some r):f ce=some r:=by rw [V.rF] at e;exact e
variable {v r:MV}{a:Nat}{x:Str}{ex:Bool}{Q:Value→Shared→Prop}
theorem get_own(V:IV D h₀ K G ρ s.heap c attrs p C dx m od ce)(X:K.In s.heap)(R:Rep D h₀ G ρ h s)(hx:D.nm[a]? =some x)(e:aR attrs a=some r)(k:bY D h₀ G ρ s r h Q):wpAny (model D.prog D.w) A (PySem.getAttr (.ref p.1) x ex) Q E s:=by obtain ⟨w,hw,OQ⟩:=(V.r.at_ a x hx).s r e;exact get_value X V.I V.q.ga (findObj_own V.q.hd (V.own hx e) rfl ((V.lk x).trans (congrArg some hw))) (qx OQ) (k.val R OQ _)
theorem Cd(L:cD D K h₀ mg mb)(V:IV D h₀ K G ρ s.heap c attrs p C dx m od ce)(X:K.In s.heap)(R:Rep D h₀ G ρ h s)(hx:D.nm[a]? =some x)(hn:aR attrs a=none){o f:Nat}(hp:ρ[o]? =some p)(e:fU ce.meths a=some f)(k:bY D h₀ G ρ s (.bm o f) h Q):
  wpAny (model D.prog D.w) A (PySem.getAttr (.ref p.1) x ex) Q E s:=by
 obtain ⟨fa,tV,Ce,NQ,Wq⟩:=(V.q.names V.rc a x hx).me f e;have sp:=vN L NQ;refine get_bind X V.I V.q.ga (findObj_fn V.q.hd Ce sp.1 sp.2 Wq ((V.lk x).trans (congrArg some ((V.r.at_ a x hx).no hn)))) V.q.Tq (wpAny_call (fn_get (s:={s with toks:=s.toks+1}) X (beq_iff_eq.mp NQ) (handed_on rfl ?_)))
 exact k _ _ (G.add s.heap.objs.size (methodObj (.ref fa) (.ref p.1))) ρ (.add _ _ _ _ _ _ (bf _) (dF s _)) ((R.toks (t:=s.toks+1)).vI _ rfl) ⟨rfl,rfl,rfl,λ_ _ _ z=>Heap.get?_push_of_some _ z⟩ (show ∃q fa p,_ from ⟨_,fa,p,rfl,tV,hp,.inr ⟨rfl,rfl⟩⟩)
theorem GK(V:IV D h₀ K G ρ s.heap c attrs p C dx m od ce)(X:K.In s.heap)(R:Rep D h₀ G ρ h s)(hx:D.nm[a]? =some x)(hn:aR attrs a=none)(e:fU ce.meths a=none)(e2:aR ce.gI a=some r)(k:bY D h₀ G ρ s r h Q):
  wpAny (model D.prog D.w) A (PySem.getAttr (.ref p.1) x ex) Q E s:=by
 obtain ⟨v,Cf,TA,Wr,X6,X7⟩:=(V.q.names V.rc a x hx).ca e r e2;exact get_value X V.I V.q.ga (findObj_cls V.q.hd Cf TA Wr X6 ((V.lk x).trans (congrArg some ((V.r.at_ a x hx).no hn)))) Wr (k.val R (X7 G ρ R.base) _)
theorem GL(L:cD D K h₀ mg mb)(R:Rep D h₀ G ρ h s)(hx:D.nm[a]? =some x){vs:List MV}{va:Value}(hv:VR D G ρ (.d8 c vs) va)(rF:D.pm.dM[c]? =some ce)(e:iJ ce.fields vs a=some r)(k:bY D h₀ G ρ s r h Q):wpAny (model D.prog D.w) A (PySem.getAttr va x ex) Q E s:=by
 obtain ⟨y,C,dx,o,m,ws,rfl,⟨X8,Lo,lU⟩,hC,g1,g2,hn,hr,hf⟩:=hv
 cases rF.symm.trans Lo
 have q:=lT L rF hC;obtain ⟨j,pf,e1,e2,e3⟩:=Ca e;obtain ⟨w,hw,OQ⟩:=hr.get e3;have Lp:(D.fld c)[j]? =some x:=by unfold bZ.fld;rw [rF];exact (List.getElem?_map.trans (congrArg (Option.map _) e1)).trans (congrArg some (show (D.nm[pf.1]?).getD Str.empty=x by rw [e2,hx];rfl))
 obtain ⟨y',h1,h2,_⟩:=q.Ln lU pf (List.mem_of_getElem? e1)
 cases (e2▸h1).symm.trans hx
 exact get_value (R.qv L) (⟨R.keep _ _ g1,rfl,rfl,R.keep _ _ g2⟩:InstAt s.heap y (instObj C dx) C (some o)) q.ga (findObj_own q.hd h2 rfl ((vM hn _).trans (congrArg some ((hf j _ Lp).trans hw)))) (qx OQ) (k.val R OQ _)
theorem mQ(L:cD D K h₀ mg mb){va:Value}(R:Rep D h₀ G ρ h s)(hx:D.nm[a]? =some x)(hv:VR D G ρ v va)(e:Mine.getAttr D.pm v a h=some r)(k:bY D h₀ G ρ s r h Q):
  wpAny (model D.prog D.w) A (PySem.getAttr va x ex) Q E s:=by
 cases v with
 |obj o=>
  obtain ⟨y,e1,e⟩:=aL.mp e;obtain ⟨p,C,dx,m,od,ce,hp,rfl,V⟩:=rG L R hv e1;rcases or_some e with e|⟨e2,e⟩
  ·exact get_own V (R.qv L) R hx e k
  ·rcases or_some (V.cls e) with e|⟨e3,e⟩
   ·obtain ⟨f,e4,rfl⟩:=dw.mp e
    exact Cd L V (R.qv L) R hx e2 hp e4 k
   ·exact GK V (R.qv L) R hx e2 (Option.map_eq_none_iff.mp e3) e k
 |d8 c vs=>obtain ⟨ce,e1,e⟩:=aL.mp e;exact GL L R hx hv e1 e k
 |_=>exact (aY _ e.symm).elim
end
end
theorem kG:∀(l:List (Nat×MV)) (a b:Nat) (v:MV),aR (gJ l a v) b=if b=a then some v else aR l b
 |[],a,b,v=>by
  by_cases q:b=a
  ·subst q;simp [gJ,aR]
  ·have:¬ a=b:=λz=>q z.symm
   simp [gJ,aR,q,this]
 |(k,x)::r,a,b,v=>by
  have ih:=kG r a b v
  by_cases q:k=a
  ·subst q
   by_cases z:b=k
   ·subst z;simp [gJ,aR]
   ·have:¬ k=b:=λz'=>z z'.symm
    simp [gJ,aR,z,this]
  ·by_cases z:k=b
   ·subst z;simp [gJ,aR,q]
   ·by_cases y:b=a
    ·subst y;simp [gJ,aR,z,ih]
    ·simp [gJ,aR,q,z,y,ih]
theorem mR:∀(l:List (Nat×MV)) (a:Nat) (v:MV),(gJ l a v).length=if (aR l a).isSome then l.length else l.length+1
 |[],a,v=>by simp [gJ,aR]
 |(k,x)::r,a,v=>by
  have ih:=mR r a v
  by_cases q:k=a
  ·subst q;simp [gJ,aR]
  ·simp only [gJ,aR,beq_iff_eq,q,if_false,List.length_cons,ih]
   split<;>rfl
theorem lu{M:Model}{A:Around}{E:Value→Shared→Prop}{s:Shared}{a:Addr}{m:Str→Option Value}{N:Nat}{name:Str}{v:Value}{Q:Unit→Shared→Prop}(hn:xR s.heap a m N)
  (hQ:∀h',xR h' a (λx=>if x=name then some v else m x) (if (m name).isSome then N else N+1)→Heap.SameBut a s.heap h'→Q () {s with heap:=h',toks:=s.toks+1}):wpAny M A (nsSet a name v) Q E s:=by
 intro Γ p _;obtain ⟨o,es,ep,ho,hd,hk,hm,hz⟩:=hn;simp only [nsSet,strHash,Sem.wp_bind',Sem.wp_cmd_ask,Sem.wp_pure',Sem.wp_cmd_mkText];rw [Sem.wp_loadPart_of M Γ _ p {s with toks:=s.toks+1} (o:=o) _ ho]
 have GN:es.any (·.refKey)=false:=by rw [Array.any_eq_false'];intro e he;obtain ⟨n,t,h⟩:=hk e he;simp [DictEntry.refKey,h]
 simp only [hd,aRefKeyMayBeTheName_eq,aRefKeyMayBeTheNameByArray,GN,Bool.and_false,Bool.false_eq_true,if_false,Sem.wp_cmd_updatePart];refine ⟨by rw [ho];rfl,hQ _ ?_ (Heap.SameBut.update ..)⟩
 obtain ⟨c,d,dt,sl⟩:=o;subst hd;have Ws:(m name).isSome=(es.findIdx? (·.key.isStr name)).isSome:=by
  rw [← hm,nsFind,findBy_of_findIdx?]
  cases q:es.findIdx? (·.key.isStr name) with
  |none=>rfl
  |some i=>
   have:i< es.size:=by rw [Array.findIdx?_eq_some_iff_getElem] at q;exact q.1
   simp [this]
 cases hi:es.findIdx? (·.key.isStr name) with
 |some i=>
  refine ⟨_,_,ep,Heap.get?_update_self _ ho (by simp only [Obj.putName_eq,Obj.putNameByArray,hi];rfl),by simp only [Obj.putName_eq,Obj.putNameByArray,hi];rfl,hk.modify _ _,λx=>?_,?_⟩
  ·show _=if x=name then some v else m x
   rw [← hm];exact findBy_modify (λn v=>v.isStr n) Value.isStr_inj es name x v i hi
  ·rw [Array.size_modify,Ws,hi];exact hz
 |none=>
  refine ⟨_,_,ep+1,Heap.get?_update_self _ ho (by simp only [Obj.putName_eq,Obj.putNameByArray,hi];rfl),by simp only [Obj.putName_eq,Obj.putNameByArray,hi];rfl,hk.push _ _ _ _,λx=>?_,?_⟩
  ·show _=if x=name then some v else m x
   rw [← hm];exact findBy_push (λn v=>v.isStr n) es name x _ _ v (λy=>by
    show (name==y)=decide (y=name)
    by_cases h:y=name
    ·subst h;simp
    ·have:¬ name=y:=λe=>h e.symm
     rw [decide_eq_false h];exact beq_eq_false_iff_ne.mpr this) hi
  ·rw [Array.size_push,Ws,hi];exact Nat.succ_le_succ hz
theorem z6{α:Type}{l:List α}(h:l.Nodup){i j:Nat}{x:α}(hi:l[i]? =some x)(hj:l[j]? =some x):i=j:=(List.getElem?_inj (List.getElem?_eq_some_iff.mp hi).1 h).mp (hi.trans hj.symm)
section
variable {D:bZ}{h₀:Heap}{G:Fz}{ρ:List PR}{h:Hp}{s:Shared}{A:Around}{E:Value→Shared→Prop}{K:Frag}{mg mb:Str→Option Value}
abbrev vO(D:bZ)(h₀:Heap)(G:Fz)(ρ:List PR)(s:Shared)(h':Hp)(Q:Unit→Shared→Prop):Prop:=∀(s':Shared) (G':Fz) (cA:List PR),fh G G' ρ cA s s'→Rep D h₀ G' cA h' s'→gK (bM ρ) s s'→Q () s'
theorem vO.upd{h':Hp}{Q:Unit→Shared→Prop}(k:vO D h₀ G ρ s h' Q){s':Shared}(R:Rep D h₀ G ρ h' s')(st:gK (bM ρ) s s'):Q () s':=k s' G ρ (.same (R.lv st.keep)) R st
theorem xQ.set{attrs:List (Nat×MV)}{m:Str→Option Value}(nd:D.nm.Nodup)(H:xQ D G ρ attrs m){a:Nat}{x:Str}(hx:D.nm[a]? =some x){v:MV}{vv:Value}(hv:VR D G ρ v vv):xQ D G ρ (gJ attrs a v) (λy=>if y=x then some vv else m y):=λa' x' Lq=>by
 rw [kG];show rz _ (if a'=a then some v else aR attrs a') (if x'=x then some vv else m x')
 by_cases z:a'=a
 ·cases (z▸Lq).symm.trans hx
  rw [if_pos z,if_pos rfl];exact ⟨rfl,λ_ e=>⟨vv,rfl,bJ e▸hv⟩⟩
 ·rw [if_neg z,if_neg (c:=x'=x) λe=>z (z6 nd Lq (e▸hx))]
  exact H a' x' Lq
theorem Rep.Lr(R:Rep D h₀ G ρ h s){i:Nat}{p:PR}(hp:ρ[i]? =some p):(gw p).Nodup:=(List.pairwise_flatMap.mp R.nodup).1 p (List.mem_of_getElem? hp)
theorem mS(L:cD D K h₀ mg mb){o v:MV}{vo vv:Value}{a:Nat}{x:Str}{h':Hp}{Q:Unit→Shared→Prop}(R:Rep D h₀ G ρ h s)(hx:D.nm[a]? =some x)(ho:VR D G ρ o vo)(hv:VR D G ρ v vv)(e:jW D.pm o a v h=some h')(k:vO D h₀ G ρ s h' Q):
  wpAny (model D.prog D.w) A (PySem.setAttr vo x vv) Q E s:=by
 have X:=R.qv L;obtain ⟨i,e1,e⟩:=aL.mp e;obtain ⟨y,e2,e⟩:=aL.mp e;obtain ⟨ok,e⟩:=aW e;have ok:=aZ.mp ok;cases e
 cases cJ e1
 obtain ⟨p,C,dx,m,od,ce,hp,rfl,V⟩:=rG L R ho e2;obtain ⟨cd,TF,Bs⟩:=any_some V.q.hd;refine set_plain X V.I V.q.sa (osa_open (s:={s with toks:=s.toks+1}) X V.I V.q.po (V.q.tk V.rc a x hx) λb=>?_)
 refine wpAny_bind (wpAny_pure (wpAny_bind (wpAny_bind (wpAny_loadPart V.r.ob (wpAny_bind ((looks_clsIn (M:=model D.prog D.w) (h:=s.heap) X TF) _ _ _ _ (λ_ _ z=>z) ?_))))))
 rw [Bs];refine wpAny_pure (a:=some dx) (wpAny_bind (wpAny_pure (wpAny_bind (lu (s:={s with toks:=s.toks+1}) V.r.ns λh1 mT nT=>?_))))
 have hl:=mR y.2 a v;have NR:xR h1 dx (λy=>if y=x then some vv else m y) (gJ y.2 a v).length:=by have hh:(aR y.2 a).isSome=(m x).isSome:=Option.not_isNone _▸Option.not_isNone _▸congrArg not (V.r.at_ a x hx).n;rw [hl,hh];exact mT
 have hle:(gJ y.2 a v).length≤301:=by have:=bz ok.2;rw [hl];split<;>lia
 obtain ⟨o1,Wt,Yb,TG,OS,_,_,Sj⟩:=id NR;refine wpAny_bind (wpAny_lookBehind TG (by rw [OS];exact pastItsLine_dict (by rw [sizeLine_eq];lia)) (wpAny_pure ?_))
 have kp:∀b o,b∉gw p→s.heap.get? b=some o→h1.get? b=some o:=λb o nb eb=>(nT.2 b λz=>nb (z▸JE V.r.hd)).trans eb
 have Cg:p.1≠dx:=λz=>(List.nodup_cons.mp (R.Lr hp)).1 (z▸V.r.hd▸b7 ..)
 refine vO.upd k (R.setAt hp kp ⟨C,dx,_,V.r.hC,V.r.hd,(nT.2 _ Cg).trans V.r.ob,NR,V.r.at_.set L.GJ hx hv,λa' Sk=>?_,ce,V.rF,V.rc⟩) (gK.heap λb o nb eb=>kp b o (λz=>nb (fV hp z)) eb)
 rw [kG] at Sk
 by_cases z:a'=a
 ·exact z▸ok.1
 ·exact V.r.own a' (by rwa [if_neg z] at Sk)
theorem mU{o i v:MV}{vo vi vv:Value}{h':Hp}{Q:Unit→Shared→Prop}(R:Rep D h₀ G ρ h s)(ho:VR D G ρ o vo)(hi:VR D G ρ i vi)(hv:VR D G ρ v vv)(e:jX o i v h=some h')(k:vO D h₀ G ρ s h' Q):
  wpAny (model D.prog D.w) A (PySem.setItem vo vi vv) Q E s:=by
 obtain ⟨ix,e1,e⟩:=aL.mp e;obtain ⟨j,e2,e⟩:=aL.mp e;obtain ⟨xs,e3,e⟩:=aL.mp e;obtain ⟨OT,e⟩:=aW e;obtain ⟨jj,e4,rfl⟩:=dw.mp e
 cases cJ e1
 cases bD e2
 obtain ⟨p,vs,hp,rfl,hd,hl,⟨n,jG⟩,hr⟩:=gy R ho e3;obtain ⟨t,rfl⟩:=id hi;have hb:=dY OT;have xU:vs.toArray.size=xs.length:=List.size_toArray.trans hr.length.symm;have fin:Q () {s with heap:=s.heap.update p.1 (Obj.mapSeq (·.setIfInBounds jj vv))}:=by
  refine vO.upd k (R.setAt hp (λb o nb eb=>(Heap.get?_update_ne _ _ _ _ λz=>nb ((z:b=p.1)▸mK p)).trans eb) ⟨hd,ah (Nat.le_of_eq (List.length_set ..)) hl,vs.set jj vv,⟨n,?_⟩,hr.set jj hv⟩) (gK.mk rfl rfl rfl λb o nb eb=>(Heap.get?_update_ne _ _ _ _ λz=>nb (fV hp ((z:b=p.1)▸mK p))).trans eb)
  rw [Heap.get?_update_self _ jG (by simp [Obj.mapSeq,Obj.isFreed])]
  simp [Obj.mapSeq]
 obtain ⟨TH,q|q⟩:=tS e4
 ·refine ki_setAt jG q.1 (by lia) (by rw [xU];lia) ?_
  rw [q.2];exact fin
 ·refine ki_setBack jG q.1 (by rw [xU];exact q.2.1) (by lia) ?_
  rw [xU,q.2.2];exact fin
theorem vP{o:Nat}{x:MV}{vo vx:Value}{xs:List MV}{Q:Value→Shared→Prop}(R:Rep D h₀ G ρ h s)(ho:VR D G ρ (.obj o) vo)(hx:VR D G ρ x vx)(TJ:(h[o]?).bind dJ=some xs)(hz:xs.length< az)(k:bY D h₀ G ρ s .none (h.set o (.list (xs++[x]))) Q):
  wpAny (model D.prog D.w) A (call (.builtin "list.append") [vo,vx]) Q E s:=by
 obtain ⟨p,vs,hp,rfl,hd,hl,jG,hr⟩:=gy R ho TJ;refine wpAny_list_append_plain jG (λh1 OU nT=>?_) (by have:=cI;rw [List.size_toArray, ← hr.length];lia)
 refine bY.upd k (s':={s with heap:=h1}) (R.setAt hp (λb ob nb eb=>(nT.2 b λz=>nb ((z:b=p.1)▸mK p)).trans eb) ⟨hd,aM▸hz,vs++[vx],?_,hr.append (.cons hx .nil)⟩) (gK.mk rfl rfl rfl λb ob nb eb=>(nT.2 b λz=>nb (fV hp ((z:b=p.1)▸mK p))).trans eb) VR.none
 rwa [List.push_toArray] at OU
theorem GO{o:Nat}{vo:Value}{j:Nat}{r:MV}{xs:List MV}{Q:Value→Shared→Prop}(R:Rep D h₀ G ρ h s)(ho:VR D G ρ (.obj o) vo)(TJ:(h[o]?).bind dJ=some xs)(hj:xs[j]? =some r)(k:bY D h₀ G ρ s r (h.set o (.list (xs.eraseIdx j))) Q):
  (j=xs.length - 1→wpAny (model D.prog D.w) A (call (.builtin "list.pop") [vo]) Q E s)∧(j=0→∀t,wpAny (model D.prog D.w) A (call (.builtin "list.pop") [vo,.int 0 t]) Q E s):=by
 obtain ⟨p,vs,hp,rfl,hd,hl,⟨n,jG⟩,hr⟩:=gy R ho TJ;obtain ⟨v,hv,NP⟩:=hr.get hj;have xU:vs.toArray.size=xs.length:=List.size_toArray.trans hr.length.symm;have TH:j< vs.toArray.size:=xU▸(List.getElem?_eq_some_iff.mp hj).1;have hz:vs.toArray.size≤sizeLine:=by have:=cI;lia
 have fin:Q v {s with heap:=s.heap.update p.1 (Obj.mapSeq (·.eraseIdxIfInBounds j))}:=by
  refine bY.upd k (s':={s with heap:=s.heap.update p.1 (Obj.mapSeq (·.eraseIdxIfInBounds j))}) (R.setAt hp (λb o nb eb=>(Heap.get?_update_ne _ _ _ _ λz=>nb ((z:b=p.1)▸mK p)).trans eb) ⟨hd,ah (List.length_eraseIdx_le ..) hl,vs.eraseIdx j,⟨n+1,?_⟩,hr.eraseIdx j⟩) (gK.mk rfl rfl rfl λb o nb eb=>(Heap.get?_update_ne _ _ _ _ λz=>nb (fV hp ((z:b=p.1)▸mK p))).trans eb) NP
  have he:vs.toArray.eraseIdxIfInBounds j=(vs.eraseIdx j).toArray:=by rw [Array.eraseIdxIfInBounds,dif_pos TH];simp
  rw [Heap.get?_update_self _ jG (by simp [Obj.mapSeq,Obj.isFreed])]
  simp only [Obj.mapSeq,he];rw [if_neg λz=>by rw [← he,Array.eraseIdxIfInBounds,dif_pos TH,beq_iff_eq,Array.size_eraseIdx] at z;lia]
 have NS:vs.toArray[j]? =some v:=(List.getElem?_toArray ..).trans hv;constructor
 ·intro Sl
  refine call_meets PySem.F.slot_list_pop ⟨_,jG,rfl⟩ PySem.F.entry_list_pop (PySem.F.args_list_pop_1 _) (PySem.MeetsSeq.list_pop_last p.1 vs.toArray n v (by rw [xU, ← Sl];exact NS) hz) ⟨jG,?_⟩
  rw [xU, ← Sl];exact fin
 ·intro Sl t
  subst Sl;exact call_meets PySem.F.slot_list_pop ⟨_,jG,rfl⟩ PySem.F.entry_list_pop (PySem.F.args_list_pop_2 _ _) (PySem.MeetsSeq.list_pop_at p.1 vs.toArray n 0 t 0 v (by decide) (by rw [xU];unfold seqIndex?;simp only [show ¬ ((0:Int)< 0) from by lia,if_false];rw [if_pos (by simp;lia)];rfl) NS hz) ⟨jG,fin⟩
end
theorem mapM_cons{α β:Type}{f:α→Option β}{a:α}{l:List α}{r:List β}(e:(a::l).mapM f=some r):∃b q,f a=some b∧l.mapM f=some q∧r=b::q:=by
 rw [List.mapM_cons] at e;obtain ⟨b,e1,e⟩:=aL.mp e;obtain ⟨q,e2,e⟩:=aL.mp e;cases e
 exact ⟨b,q,e1,e2,rfl⟩
theorem mapM_nil{α β:Type}{f:α→Option β}{r:List β}(e:([]:List α).mapM f=some r):r=[]:=by rw [List.mapM_nil] at e;cases e;rfl
inductive bV{α β:Type}(P:α→β→Prop):List α→List β→Prop
 |nil:bV P [] []
 |cons {a b l r}:P a b→bV P l r→bV P (a::l) (b::r)
section
variable {α β γ δ:Type}{P:α→β→Prop}{l:List α}{r:List β}
theorem bV.len(h:bV P l r):l.length=r.length:=by
 induction h with
 |nil=>rfl
 |cons _ _ ih=>exact congrArg Nat.succ ih
theorem bV.take(h:bV P l r):∀n,bV P (l.take n) (r.take n):=by
 induction h with
 |nil=>exact λn=>by rw [List.take_nil,List.take_nil];exact .nil
 |cons q _ ih=>exact λn=>match n with
  |0=>.nil
  |n+1=>.cons q (ih n)
theorem bV.drop(h:bV P l r):∀n,bV P (l.drop n) (r.drop n):=by
 induction h with
 |nil=>exact λn=>by rw [List.drop_nil,List.drop_nil];exact .nil
 |cons q h ih=>exact λn=>match n with
  |0=>.cons q h
  |n+1=>ih n
theorem bV.snoc{a:α}{b:β}(h:bV P l r)(q:P a b):bV P (l++[a]) (r++[b]):=by
 induction h with
 |nil=>exact .cons q .nil
 |cons p _ ih=>exact .cons p ih
theorem bV.at(h:bV P l r):∀{i:Nat} {a:α},l[i]? =some a→∃b,r[i]? =some b∧P a b:=by
 induction h with
 |nil=>exact λe=>(aY _ e.symm).elim
 |cons q _ ih=>exact λ{i _}=>match i with
  |0=>λe=>⟨_,rfl,bJ e▸q⟩
  |_+1=>λe=>ih e
end
noncomputable abbrev tW(nm:List Str)(R:Nat→MV→Value→Prop):List (Nat×MV)→List (Str×Value)→Prop:=bV λa b=>nm[a.1]? =some b.1∧R a.1 a.2 b.2
theorem getElem?_inj{l:List Str}(nd:l.Nodup){i j:Nat}{x:Str}(a:l[i]? =some x)(b:l[j]? =some x):i=j:=(List.getElem?_inj (List.getElem?_eq_some_iff.mp a).1 nd).mp (a.trans b.symm)
section
variable {nm:List Str}{R:Nat→MV→Value→Prop}{s:List (Nat×MV)}{t:List (Str×Value)}
theorem tW.look(nd:nm.Nodup){p:Nat}{x:Str}(hp:nm[p]? =some x)(h:tW nm R s t):rz (R p) (aR s p) (t.lookup x):=by
 induction h with
 |nil=>exact ⟨rfl,λ_ e=>(aY _ e.symm).elim⟩
 |@cons a b l r q _ ih=>
  show rz (R p) (if a.1==p then some a.2 else aR l p) (match x==b.1 with|true=>some b.2|false=>r.lookup x)
  cases k:x==b.1 with
  |true=>
   cases getElem?_inj nd hp (beq_iff_eq.mp k▸q.1)
   rw [if_pos (beq_self_eq_true _)];exact ⟨rfl,λ_ e=>⟨_,rfl,bJ e▸q.2⟩⟩
  |false=>
   rw [if_neg λe=>bR (k.symm.trans (beq_iff_eq.mpr (bJ (hp.symm.trans ((congrArg (nm[·]?) (eq_of_beq e)).symm.trans q.1)))))]
   exact ih
theorem oK{α σ:Type}{f:α→σ→Sem (ForInStep σ)}{a:α}{l:List α}{st Br OV:σ}(e:f a st=pure (.yield Br))(e2:forIn l Br f=(pure OV:Sem σ)):forIn (a::l) st f=(pure OV:Sem σ):=by rw [List.forIn_cons,e];exact e2
noncomputable abbrev SV:=List (Str×Value)
noncomputable def kh(t:SV)(a:Str×Value):SV:=if (List.lookup a.1 t).isNone then t++[a] else t
theorem Ls{ps:List Nat}{pn:List Str}(h:bV (λp x=>nm[p]? =some x) ps pn)(p:Nat)(x:Str)(hp:nm[p]? =some x)(c:ps.contains p=true):pn.contains x=true:=by
 induction h with
 |nil=>exact c
 |@cons a b l r q _ ih=>
  have c:(p==a||l.contains p)=true:=c;show (x==b||r.contains x)=true
  rw [Bool.or_eq_true_iff] at c⊢;exact c.imp (λe=>beq_iff_eq.mpr (bJ (hp.symm.trans ((congrArg (nm[·]?) (eq_of_beq e)).trans q)))) ih
theorem OW(nd:nm.Nodup){ps:List Nat}{pn:List Str}(hc:∀p x,nm[p]? =some x→ps.contains p=true→pn.contains x=true)
  {kw:List (Nat×MV)} {dX:SV} (h:tW nm R kw dX):∀{s t s'},tW nm R s t→kw.foldlM (stepK ps) s=some s'→tW nm R s' (dX.foldl (λt b=>t++[b]) t)∧∀{f:Str×Value→SV×SV→Sem (ForInStep (SV×SV))},(∀a t,pn.contains a.1=true→List.lookup a.1 t=none→f a (t,[])=pure (.yield (t++[a],[])))→forIn dX (t,([]:SV)) f=(pure (dX.foldl (λt b=>t++[b]) t,[]):Sem (SV×SV)):=by
 induction h with
 |nil=>exact λhs e=>⟨bJ e▸hs,λ_=>rfl⟩
 |@cons a b l r q _ ih=>intro s t s' hs e;rw [List.foldlM_cons] at e;obtain ⟨s1,e1,e⟩:=aL.mp e;have i1:=aW e1;have c:=aZ.mp i1.1;have k:=ih (bJ i1.2▸hs.snoc q) e;exact ⟨k.1,λhf=>oK (hf b t (hc _ _ q.1 c.1) (Option.isNone_iff_eq_none.mp ((hs.look nd q.1).n.symm.trans c.2))) (k.2 hf)⟩
theorem vQ{α σ:Type}{g:σ→α→σ}{f:α→σ→Sem (ForInStep σ)}(hf:∀a t,f a t=pure (.yield (g t a)))(l:List α):∀{t},forIn l t f=(pure (l.foldl g t):Sem σ):=by
 induction l with
 |nil=>exact rfl
 |cons a l ih=>exact oK (hf a _) ih
theorem OX(nd:nm.Nodup){kw:List (Nat×MV)}{dX:SV}(h:tW nm R kw dX):∀{s t},tW nm R s t→tW nm R (kw.foldl jD s) (dX.foldl kh t):=by
 induction h with
 |nil=>exact id
 |@cons a b l r q _ ih=>
  intro s t hs;refine ih (?_:tW nm R (jD s a) (kh t b));unfold jD kh;rw [(hs.look nd q.1).n]
  cases (List.lookup b.1 t).isNone with
  |true=>exact hs.snoc q
  |false=>exact hs
theorem Ci(nd:nm.Nodup)(hs:tW nm R s t){ps:List Nat}{pn:List Str}(h:bV (λp x=>nm[p]? =some x) ps pn)(e:(ps.all λp=>(aR s p).isSome)=true):pn.filter (λn=>(List.lookup n t).isNone)=[]:=by
 induction h with
 |nil=>rfl
 |@cons p x l r q _ ih=>
  have e:=aZ.mp e;have k:(List.lookup x t).isNone=false:=by exact (hs.look nd q).n.symm.trans ((Option.not_isSome _).symm.trans (congrArg not e.1))
  rw [List.filter_cons,if_neg (by rw [k];exact bR)]
  exact ih e.2
noncomputable abbrev mV(t:SV)(pn:List Str):SV:=pn.filterMap λn=>(List.lookup n t).map (n,·)
theorem tX{n:Str}{r:List Str}(h:List.lookup n t=none):mV t (n::r)=mV t r:=List.filterMap_cons_none (by rw [h];rfl)
theorem oM{n:Str}{r:List Str}{v:Value}(h:List.lookup n t=some v):mV t (n::r)=(n,v)::mV t r:=List.filterMap_cons_some (by rw [h];rfl)
theorem tY{x:Str}{v:Value}(e:List.lookup x t=some v){pn:List Str}(h:x∈pn):List.lookup x (mV t pn)=some v:=by
 induction h with
 |head r=>rw [oM e];exact List.lookup_cons_self
 |tail n _ ih=>cases q:List.lookup n t with
  |none=>rw [tX q];exact ih
  |some w=>
   rw [oM q,List.lookup_cons]
   cases k:x==n with
   |true=>exact q.symm.trans (eq_of_beq k▸e)
   |false=>exact ih
theorem GP(t:SV)(pn:List Str):((mV t pn).map (·.1)).Sublist pn:=by
 induction pn with
 |nil=>exact .slnil
 |cons n r ih=>cases q:List.lookup n t with
  |none=>rw [tX q];exact ih.cons n
  |some v=>rw [oM q];exact ih.cons_cons n
structure Bound(nm:List Str)(R:Nat→MV→Value→Prop)(ids:List Nat)(pn:List Str)(vs:List Value)(bs:List MV)(T:SV):Prop where
 sub:(T.map (·.1)).Sublist pn
 len:bs.length=pn.length
 at_:∀(i:Nat) (m:MV),bs[i]? =some m→∃p x w,nm[p]? =some x∧pn[i]? =some x∧T.lookup x=some w∧R p m w
 hd:∀(x:Str) (v:Value),pn[0]? =some x→vs[0]? =some v→T.lookup x=some v
theorem xY{α β:Type}{f:α→Option β}{l:List α}:∀{r:List β},l.mapM f=some r→r.length=l.length∧∀{i:Nat} {b:β},r[i]? =some b→∃a,l[i]? =some a∧f a=some b:=by
 induction l with
 |nil=>exact λe=>mapM_nil e▸⟨rfl,λe=>(aY _ e.symm).elim⟩
 |cons a l ih=>
  intro r e;obtain ⟨b,q,e1,e2,rfl⟩:=mapM_cons e;have k:=ih e2;exact ⟨congrArg Nat.succ k.1,λ{i _}=>match i with
   |0=>λe=>⟨a,rfl,e1.trans e⟩
   |_+1=>λe=>k.2 e⟩
theorem qy{g:SV→Str×Value→SV}(hg:∀t a,∃r,g t a=t++r)(l:SV):∀t,∃r,l.foldl g t=t++r:=by
 induction l with
 |nil=>exact λt=>⟨[],(cM t).symm⟩
 |cons a l ih=>exact λt=>match hg t a,ih (g t a) with
  |⟨r,e⟩,⟨q,f⟩=>⟨r++q,f.trans (by rw [e,cU])⟩
theorem z7(t:SV)(a:Str×Value):∃r,kh t a=t++r:=by
 unfold kh;split
 ·exact ⟨_,rfl⟩
 ·exact ⟨[],(cM t).symm⟩
theorem z8(nd:nm.Nodup)(hs:tW nm R s t){ps:List Nat}{pn:List Str}(h:bV (λp x=>nm[p]? =some x) ps pn){vs:List Value}(ht:∃r,t=pn.zip vs++r){bs:List MV}(e:ps.mapM (aR s)=some bs):Bound nm R ps pn vs bs (mV t pn):=by
 have k:=xY e;refine ⟨GP t pn,k.1.trans h.len,λi m e=>?_,λx v e1 e2=>tY ?_ (List.mem_of_getElem? e1)⟩
 ·obtain ⟨p,e1,e2⟩:=k.2 e
  obtain ⟨x,e3,e4⟩:=h.at e1;obtain ⟨w,e5,e6⟩:=(hs.look nd e4).s m e2;exact ⟨p,x,w,e4,e3,tY e5 (List.mem_of_getElem? e3),e6⟩
 ·obtain ⟨r,rfl⟩:=ht
  cases pn with
  |nil=>exact (aY _ e1.symm).elim
  |cons y l=>cases vs with
   |nil=>exact (aY _ e2.symm).elim
   |cons w q=>exact bJ e1▸e2▸List.lookup_cons_self
end
def xZ(h:Heap)(fd:FuncData)(ds:List Value):Prop:=(fd.defaults=.none∧ds=[])∨∃T o n,fd.defaults=.ref T∧h.get? T=some o∧o.data=.seq ds.toArray n
theorem xZ.run{s:Shared}{fd:FuncData}{ds:List Value}(h:xZ s.heap fd ds){M:Model}{A:Around}{E:Value→Shared→Prop}:∃r:Option (Array Value),(r.getD #[]).toList=ds∧∀(Q:Option (Array Value)→Shared→Prop),Q r s→wpAny M A (seqItems? fd.defaults) Q E s:=by
 rcases h with ⟨e,rfl⟩|⟨T,o,n,e,ho,hd⟩
 ·exact ⟨none,rfl,λQ q=>e▸wpAny_pure q⟩
 ·exact ⟨some ds.toArray,rfl,λQ q=>e▸wpAny_seqItems ho hd q⟩
theorem z9{a:List Arg}{b:List Arg}{c:Option Arg}{d:List Arg}{e:List (Option Expr)}{f:Option Arg}{g:List Expr}(h1:a=[])(h2:c=none)(h3:d=[])(h4:f=none):Arguments.mk a b c d e f g=⟨[],b,none,[],e,none,g⟩:=by rw [h1,h2,h3,h4]
theorem Cj{ps:Arguments}(h1:ps.posonlyargs=[])(h2:ps.vararg=none)(h3:ps.kwonlyargs=[])(h4:ps.kwarg=none):ps=⟨[],ps.args,none,[],ps.kw_defaults,none,ps.defaults⟩:=by cases ps;exact z9 h1 h2 h3 h4
theorem TL{α β:Type}{M:Model}{A:Around}{E:Value→Shared→Prop}{s:Shared}{Q:β→Shared→Prop}{x:Sem α}{a:α}{g:α→Sem β}(e:x=pure a)(k:wpAny M A (g a) Q E s):wpAny M A (x >>=g) Q E s:=e▸wpAny_bind (wpAny_pure k)
theorem vR{β:Type}{M:Model}{A:Around}{E:Value→Shared→Prop}{s:Shared}{Q:β→Shared→Prop}{c:Prop}[Decidable c]{x y:Sem β}(h:¬c)(k:wpAny M A y Q E s):wpAny M A (if c then x else y) Q E s:=by rw [if_neg h];exact k
theorem Aa{nm:List Str}{R:Nat→MV→Value→Prop}(nd:nm.Nodup){ids:List Nat}{Lu:List MV}{as:List Arg}{kd:List (Option Expr)}{df:List Expr}{pos bs:List MV}{kw s0:List (Nat×MV)}{vs ds:List Value}{dX:SV}{fd:FuncData}(hp:fd.params=⟨[],as,none,[],kd,none,df⟩)
  (hn:bV (λp x=>nm[p]? =some x) ids (as.map (·.arg))) (lv:vs.length≤(as.map (·.arg)).length) (ld:ds.length≤(as.map (·.arg)).length) (Yc:Lu.length=ds.length)
  (S0:tW nm R (ids.zip pos) ((as.map (·.arg)).zip vs)) (SK:tW nm R kw dX)
  (SD:tW nm R ((ids.drop (ids.length - Lu.length)).zip Lu) (((as.map (·.arg)).drop (ids.length - Lu.length)).zip ds))
  (e:kw.foldlM (stepK ids) (ids.zip pos)=some s0) (e1:((ids.take (ids.length - Lu.length)).all λp=>(aR s0 p).isSome)=true)
  (e2:ids.mapM (aR (((ids.drop (ids.length - Lu.length)).zip Lu).foldl jD s0))=some bs):
  ∃T:SV,(∀s:Shared,xZ s.heap fd ds→BindsTo s fd ⟨vs,dX⟩ T)∧Bound nm R ids (as.map (·.arg)) vs bs T:=by
 have K:=OW nd (Ls hn) SK S0 e;rw [Yc,hn.len] at SD e1 e2;refine ⟨_,λs hd M A E Q q=>?_,z8 nd (OX nd SD K.1) hn (match qy (λt a=>⟨[a],rfl⟩) dX ((as.map (·.arg)).zip vs),qy z7 (((as.map (·.arg)).drop ((as.map (·.arg)).length - ds.length)).zip ds) (dX.foldl (λt b=>t++[b]) ((as.map (·.arg)).zip vs)) with
  |⟨r,e⟩,⟨r',e'⟩=>⟨r++r',e'.trans (by rw [e,cU])⟩) e2⟩
 obtain ⟨r,hr,run⟩:=hd.run (M:=M) (A:=A) (E:=E);cases fd
 cases hp
 refine TL (K.2 λa t h1 h2=>?_) (wpAny_bind (run _ ?_))
 ·exact (if_pos (Bool.or_eq_true_iff.mpr (.inl h1))).trans (if_neg λz=>bR ((congrArg Option.isSome h2).symm.trans z))
 ·have hd:List.drop ((r.getD #[]).toList.length - (as.map (·.arg)).length) (r.getD #[]).toList=ds:=by rw [hr,Nat.sub_eq_zero_of_le ld];rfl
  refine vR (λz=>Nat.not_lt_of_le lv (bz (aZ.mp z).1)) (vR (λz=>?_) (TL (a:=(((as.map (·.arg)).drop ((as.map (·.arg)).length - ds.length)).zip ds).foldl kh (dX.foldl (λt b=>t++[b]) ((as.map (·.arg)).zip vs))) ((vQ (g:=kh) (λa t=>?_) _).trans (congrArg pure ?_)) (TL (a:=(_,[])) rfl (vR bR (wpAny_pure ?_)))))
  ·exact bR ((((congrArg (λD:List Value=>(!(List.filter (λn=>(List.lookup n (dX.foldl (λt b=>t++[b]) ((as.map (·.arg)).zip vs))).isNone) (List.take ((as.map (·.arg)).length - D.length) (as.map (·.arg)))).isEmpty)=true) hd).trans (congrArg (λl:List Str=>(!l.isEmpty)=true) (Ci nd K.1 (hn.take _) e1))).mp z))
  ·by_cases k:(List.lookup a.1 t).isNone=true
   ·exact (if_pos k).trans (congrArg (λt=>pure (ForInStep.yield t)) (if_pos k:kh t a=_).symm)
   ·exact (if_neg k).trans (congrArg (λt=>pure (ForInStep.yield t)) (if_neg k:kh t a=_).symm)
  ·exact congrArg (λD:List Value=>List.foldl kh (dX.foldl (λt b=>t++[b]) ((as.map (·.arg)).zip vs)) (((as.map (·.arg)).drop ((as.map (·.arg)).length - D.length)).zip D)) hd
  ·exact (congrArg (Q · s) (congrArg (mV _) (cM _))).mpr q
theorem x6{D:bZ}{G:Fz}{ρ:List PR}{R:Nat→MV→Value→Prop}(hR:∀p m v,VR D G ρ m v→R p m v){ps:List Nat}{pn:List Str}(h:bV (λp x=>D.nm[p]? =some x) ps pn):∀{ms:List MV} {vs:List Value},cB D G ρ ms vs→tW D.nm R (ps.zip ms) (pn.zip vs):=by
 induction h with
 |nil=>exact λ_=>.nil
 |cons q _ ih=>
  intro ms vs hv
  cases ms with
  |nil=>rw [hv.nil_inv];exact .nil
  |cons m ms=>obtain ⟨v,ws,rfl,a,b⟩:=hv.cons_inv;exact .cons ⟨q,hR _ _ _ a⟩ (ih b)
theorem bV.vS{α β:Type}{f:α→Option β}{P:β→α→Prop}(H:∀a b,f a=some b→P b a)(l:List α):∀{r:List β},l.mapM f=some r→bV P r l:=by
 induction l with
 |nil=>exact λe=>mapM_nil e▸.nil
 |cons a l ih=>intro r e;obtain ⟨b,q,e1,e2,rfl⟩:=mapM_cons e;exact .cons (H _ _ e1) (ih e2)
theorem bV.flip{α β:Type}{P:α→β→Prop}{l:List α}{r:List β}(h:bV P l r):bV (λb a=>P a b) r l:=by
 induction h with
 |nil=>exact .nil
 |cons q _ ih=>exact .cons q ih
set_option tactic.hygienic true in
theorem dG{x:Str}:∀{l:List Str} {i:Nat},l.idxOf? x=some i→l[i]? =some x
 |[],i,h=>by simp at h
 |a::l,i,h=>by
  rw [List.idxOf?_cons] at h;split at h
  ·rename_i e;cases h;rw [beq_iff_eq.mp e];rfl
  ·obtain ⟨j,e,rfl⟩:=dw.mp h
   rw [List.getElem?_cons_succ];exact dG e
theorem oN{α β:Type}{f:α→Option β}:∀{l:List α} {r:List β},l.mapM f=some r→r.length=l.length∧∀(j:Nat) (a:α),l[j]? =some a→∃b,f a=some b∧r[j]? =some b
 |[],r,h=>by rw [mapM_nil h];exact ⟨rfl,λj a e=>by simp at e⟩
 |x::l,r,h=>by
  obtain ⟨b,q,e1,e2,rfl⟩:=mapM_cons h;obtain ⟨hl,hg⟩:=oN e2;refine ⟨by simp [hl],λj a e=>?_⟩
  cases j with
  |zero=>simp at e;subst e;exact ⟨b,e1,rfl⟩
  |succ j=>simp at e⊢;exact hg j a e
structure x7(D:bZ)(ps:Arguments)(body:List Stmt)(sc:Scope)(fe:cC):Prop where
 pl:ps=⟨[],ps.args,none,[],ps.kw_defaults,none,ps.defaults⟩
 ids:bV (λp x=>D.nm[p]? =some x) fe.params (ps.args.map (·.arg))
 kind:sc.kind=.function
 gen:sc.isGenerator=false
 Yd:sc.isCoroutine=false
 take:(slotsOf sc).take (ps.args.map (·.arg)).length=ps.args.map (·.arg)
 nd:(sc.names.map (·.1)).Nodup
 nE:fe.nE=(slotsOf sc).length
 body:fe.body=eO 60 (BS D.av D.nm D.ff sc) body
theorem oO{D:bZ}{ps:Arguments}{body:List Stmt}{sc:Scope}{fe:cC}(e:vG D.av D.nm D.ff ps body sc=some fe):x7 D ps body sc fe:=by
 obtain ⟨ids,e1,e⟩:=aL.mp e;obtain ⟨ds,e2,e⟩:=aL.mp e;obtain ⟨h9,e⟩:=aW e;cases e
 have h9:=aZ.mp h9;have h8:=aZ.mp h9.1;have h7:=aZ.mp h8.1;have h6:=aZ.mp h7.1;have h5:=aZ.mp h6.1;have h4:=aZ.mp h5.1;have h3:=aZ.mp h4.1;have h2:=aZ.mp h3.1;exact ⟨Cj (List.isEmpty_iff.mp h2.1) (Option.isNone_iff_eq_none.mp h2.2) (List.isEmpty_iff.mp h3.2) (Option.isNone_iff_eq_none.mp h4.2),bV.vS (λ_ _=>dG) _ e1,eq_of_beq h5.2,(Bool.not_eq_true' _).mp h6.2,(Bool.not_eq_true' _).mp h7.2,eq_of_beq h8.2,bz h9.2,rfl,rfl⟩
section
variable {D:bZ}{ps:Arguments}{body:List Stmt}{sc:Scope}{fe:cC}
theorem x7.TM(C:x7 D ps body sc fe):(slotsOf sc).Nodup:=C.nd.sublist (List.Sublist.map _ List.filter_sublist)
theorem x7.TN(C:x7 D ps body sc fe):(ps.args.map (·.arg)).Nodup:=C.take▸C.TM.sublist (List.take_sublist _ _)
theorem x7.sub(C:x7 D ps body sc fe):(ps.args.map (·.arg)).Sublist (slotsOf sc):=by
 have k:=List.take_sublist (ps.args.map (·.arg)).length (slotsOf sc)
 rwa [C.take] at k
theorem x7.slot(C:x7 D ps body sc fe){i:Nat}(h:i< (ps.args.map (·.arg)).length):(slotsOf sc)[i]? =(ps.args.map (·.arg))[i]? :=by have k:=List.getElem?_take_of_lt (l:=slotsOf sc) h;rw [C.take] at k;exact k.symm
end
theorem z5.ds{D:bZ}{K:Frag}{fe:cC}{fd:FuncData}(h:z5 D K fe fd)(G:Fz)(ρ:List PR):∃ds,cB D G ρ fe.defs ds∧∀h:Heap,K.In h→xZ h fd ds:=by
 rcases h with ⟨a,b⟩|⟨T,o,items,n,a,b,c,d⟩
 ·exact ⟨[],a▸.nil,λ_ _=>.inl ⟨b,rfl⟩⟩
 ·exact ⟨items.toList,d G ρ,λh X=>.inr ⟨T,o,n,a,X _ _ b,c⟩⟩
theorem oQ{D:bZ}{K:Frag}{G:Fz}{ρ:List PR}(nd:D.nm.Nodup){R:Nat→MV→Value→Prop}(hR:∀p m v,VR D G ρ m v→R p m v){fe:cC}{fd:FuncData}{body:List Stmt}{pos kv bs:List MV}{kn:List Nat}{vs ws:List Value}{xs:List Str}
  (C:x7 D fd.params body fd.scope fe) (hd:z5 D K fe fd) (lp:pos.length=vs.length) (S0:tW D.nm R (fe.params.zip pos) ((fd.params.args.map (·.arg)).zip vs)) (h2:cB D G ρ kv ws) (ek:kn.mapM (λi=>D.nm[i]?)=some xs) (e:dz fe pos kn kv=some bs):
  ∃T,(∀s:Shared,K.In s.heap→BindsTo s fd ⟨vs,xs.zip ws⟩ T)∧Bound D.nm R fe.params (fd.params.args.map (·.arg)) vs bs T:=by
 obtain ⟨ds,d1,d2⟩:=hd.ds G ρ;obtain ⟨c,e⟩:=aW e;obtain ⟨s0,e1,e⟩:=aL.mp e;have i2:=aW e;have c:=aZ.mp c;obtain ⟨T,b1,b2⟩:=Aa nd C.pl C.ids (C.ids.len▸lp▸bz c.1) (C.ids.len▸d1.length▸bz c.2) d1.length S0 (x6 hR (bV.vS (P:=λp x=>D.nm[x]? =some p) (λ_ _ z=>z) _ ek).flip h2) (x6 hR (C.ids.drop _) d1) e1 i2.1 i2.2
 exact ⟨T,λs X=>b1 s (d2 _ X),b2⟩
theorem qz{α:Type}{x:Str}{l:List (Str×α)}(h:x∉l.map (·.1)):List.lookup x l=none:=by
 induction l with
 |nil=>rfl
 |cons a l ih=>rw [List.map_cons,bO,not_or] at h;rw [List.lookup_cons,beq_eq_false_iff_ne.mpr h.1];exact ih h.2
theorem tZ{k:Str→Option NameKind}{x:Str}(hk:k x=some .local){r:List (Str×Value)}:∀{m:Str→Option Value},(r.map (·.1)).Nodup→bindL k r m x=(List.lookup x r).or (m x):=by
 induction r with
 |nil=>exact λ_=>rfl
 |cons a r ih=>
  intro m nd;have nd:=List.nodup_cons.mp nd;refine (ih nd.2).trans ?_
  by_cases e:x=a.1
  ·subst e
   rw [List.lookup_cons_self,qz nd.1,if_pos hk,if_pos rfl];rfl
  ·rw [List.lookup_cons,beq_eq_false_iff_ne.mpr e]
   split
   ·exact congrArg _ (if_neg e)
   ·rfl
theorem Ck{k:Str→Option NameKind}{x:Str}(hk:k x≠some .local){r:List (Str×Value)}:∀{m:Str→Option Value},(r.map (·.1)).Nodup→bindC k r m x=(List.lookup x r).or (m x):=by
 induction r with
 |nil=>exact λ_=>rfl
 |cons a r ih=>
  intro m nd;have nd:=List.nodup_cons.mp nd;refine (ih nd.2).trans ?_
  by_cases e:x=a.1
  ·subst e
   rw [List.lookup_cons_self,qz nd.1,if_neg hk,if_pos rfl];rfl
  ·rw [List.lookup_cons,beq_eq_false_iff_ne.mpr e]
   split
   ·rfl
   ·exact congrArg _ (if_neg e)
theorem gM{α:Type}{x:Str}{k:α}:∀{l:List (Str×α)},(l.map (·.1)).Nodup→(x,k)∈l→l.lookup x=some k
 |[],_,h=>by cases h
 |(y,d)::r,nd,h=>by
  rw [List.lookup_cons];rcases bO.mp h with h'|h'
  ·cases h';simp
  ·have hx:x∈r.map (·.1):=List.mem_map_of_mem (f:=λ(p:Str×α)=>p.1) h'
   have:(x==y)=false:=by rw [beq_eq_false_iff_ne];intro e;rw [e] at hx;exact (List.nodup_cons.mp nd).1 hx
   rw [this];exact gM (List.nodup_cons.mp nd).2 h'
theorem rH{sc:Scope}(nd:(sc.names.map (·.1)).Nodup){x:Str}(h:x∈slotsOf sc):sc.names.lookup x=some .local∨sc.names.lookup x=some .cell:=by unfold slotsOf at h;obtain ⟨p,hp,rfl⟩:=List.mem_map.mp h;obtain ⟨hp,hk⟩:=List.mem_filter.mp hp;have q:=gM nd (k:=p.2) (x:=p.1) hp;rw [q];rw [Bool.or_eq_true,beq_iff_eq,beq_iff_eq] at hk;exact hk.imp (by rw [·]) (by rw [·])
noncomputable def Wu(D:bZ)(G:Fz)(ρ:List PR):Fl→Flow→Prop
 |.next,f=>f=.next
 |.ret v,f=>∃w,f=.ret w∧VR D G ρ v w
noncomputable def Ww:Fl→MV
 |.next=>.none
 |.ret v=>v
theorem t6{names:List (Str×NameKind)}:∀{n:Nat} {acc:List (Str×Addr)},(names.map (·.1)).Nodup→(acc.map (·.1)).Nodup→(∀x∈acc.map (·.1),x∉names.map (·.1))→((cellsFrom n names acc).map (·.1)).Nodup:=by
 induction names with
 |nil=>exact λ_ h _=>h
 |cons a r ih=>
  intro n acc nd h hd;have nd:=List.nodup_cons.mp nd;unfold cellsFrom;split
  ·exact ih nd.2 (List.nodup_cons.mpr ⟨λq=>hd _ q (b7 ..),h⟩) λx hx=>(bO.mp hx).elim (λe=>e▸nd.1) λhx q=>hd x hx (bP _ q)
  ·exact ih nd.2 h λx hx q=>hd x hx (bP _ q)
structure Ent(fd:FuncData)(T:SV)(s s1:Shared)(env:Env):Prop where
 aH:env.locals=s.heap.objs.size
 Wx:env.cells=cellsFrom (s.heap.objs.size+1) fd.scope.names []
 sc:env.scope=fd.scope
 gl:env.globals=mainGlobals
 bi:env.builtins=builtinsNs
 x:InCallC s env.locals (bindL env.kindOf T λ_=>none) env.cells (bindC env.kindOf T λ_=>none) s1
section
variable {D:bZ}{h₀:Heap}{G:Fz}{ρ:List PR}{h:Hp}{s s1:Shared}{K:Frag}{mg mb:Str→Option Value}{fe:cC}{fd:FuncData}{body:List Stmt}{T:SV}{env:Env}{bs:List MV}{vs:List Value}
theorem enter(L:cD D K h₀ mg mb){A:Around}(hA:A.depth< recursionLimit)(X:K.In s.heap)(base:∀b o,h₀.get? b=some o→s.heap.get? b=some o){fa:Addr}{oc:Value}{od:Option Addr}{z0:Array (Option Value)}(ho:K.lookup fa=some ⟨oc,od,.func fd,z0⟩)(F:Wl D K fe fd body)
  (C:x7 D fd.params body fd.scope fe) {args:Args} (hb:BindsTo s fd args T) (hT:(T.map (·.1)).Sublist (fd.params.args.map (·.arg))) {R:Result→Shared→Prop} (k:∀env s1,Ent fd T s s1 env→codeAny (model D.prog D.w) A (.func body env) R s1):codeAny (model D.prog D.w) A (.call (.ref fa) args) R s:=by
 refine codeAny_call_function hA (X _ _ ho) rfl C.Yd C.gen F.hb (codeRec_of X F.code) (hb _ _ _ _ ?_);rw [F.cl,F.gl,F.bi];refine wpAny_newFunctionEnv_cells C.kind (λy hy=>(rH C.nd ((hT.trans C.sub).subset (List.mem_map_of_mem hy))).imp id λe=>⟨e,cellsFrom_some _ _ _ (.inl e)⟩) λenv he s1 x=>?_
 exact ⟨L.nolimit.keeps λb o e=>x.toInCall.keep b o (base b o e),k env s1 ⟨he▸rfl,he▸rfl,he▸rfl,he▸rfl,he▸rfl,x⟩⟩
theorem Ent.new(x:Ent fd T s s1 env)(nd:(fd.scope.names.map (·.1)).Nodup)(b:Addr)(hb:b∈jr env):s.heap.objs.size≤b∧∃o,s1.heap.get? b=some o:=by
 rcases bO.mp hb with rfl|hb
 ·exact ⟨Nat.le_of_eq x.aH.symm,match x.x.toInCall.ns with|⟨o,_,_,h1,_⟩=>⟨o,h1⟩⟩
 ·obtain ⟨⟨y,c⟩,hy,rfl⟩:=List.mem_map.mp hb
  exact ⟨Nat.le_of_lt (x.aH▸x.x.above y c hy),match x.x.cell y c (gM (x.Wx▸t6 nd .nil λ_ z=>(fF z).elim) hy) with|⟨o,ho,_⟩=>⟨o,ho⟩⟩
theorem Ent.OY(x:Ent fd T s s1 env)(C:x7 D fd.params body fd.scope fe):iK (BS D.av D.nm D.ff fd.scope) env:=⟨x.sc▸rfl,x.sc▸C.kind,x.gl,x.bi,List.nodup_cons.mpr ⟨λq=>match List.mem_map.mp q with|⟨⟨y,c⟩,hy,e⟩=>Nat.lt_irrefl _ (e▸x.x.above y c hy),List.pairwise_map.mpr x.x.apart⟩⟩
theorem Ab{bs:List MV}{n i:Nat}{mv:MV}(e:(bs.map some++List.replicate n Option.none)[i]? =some (some mv)):bs[i]? =some mv:=by
 rw [List.getElem?_append] at e;split at e
 ·rw [List.getElem?_map] at e
  obtain ⟨m,em,e⟩:=dw.mp e;exact em.trans e
 ·rw [List.getElem?_replicate] at e
  split at e<;>cases e
theorem Ent.lr(x:Ent fd T s s1 env)(C:x7 D fd.params body fd.scope fe)(B:Bound D.nm (λ_ m v=>VR D G ρ m v) fe.params (fd.params.args.map (·.arg)) vs bs T):LR D G ρ (BS D.av D.nm D.ff fd.scope) env (bs.map some++List.replicate (fe.nE - bs.length) Option.none) s1.heap:=by
 have nd:(T.map (·.1)).Nodup:=C.TN.sublist B.sub;have ko:env.kindOf=λy=>fd.scope.names.lookup y:=x.sc▸rfl
 have at_:∀(i:Nat) (y:Str) (mv:MV),(slotsOf fd.scope).idxOf? y=some i→(bs.map some++List.replicate (fe.nE - bs.length) Option.none)[i]? =some (some mv)→∃w,List.lookup y T=some w∧VR D G ρ mv w:=λi y mv e1 e2=>by
  obtain ⟨p,z,w,_,e4,e5,e6⟩:=B.at_ i mv (Ab e2);have e:=(C.slot (List.getElem?_eq_some_iff.mp e4).1).trans e4
  cases (dG e1).symm.trans e
  exact ⟨w,e5,e6⟩
 refine ⟨?_,⟨_,x.x.toInCall.ns,λi y mv e1 ek e2=>?_⟩,λi y e1 ek=>?_⟩
 ·rw [aM,cL,List.length_replicate,C.nE,Nat.add_sub_cancel' (B.len▸C.sub.length_le)];rfl
 ·obtain ⟨w,hw,hr⟩:=at_ i y mv e1 e2
  exact ⟨w,(tZ ((congrFun ko y).trans ek) nd).trans (by rw [hw];rfl),hr⟩
 ·obtain ⟨c,hc⟩:=Option.isSome_iff_exists.mp (x.Wx▸cellsFrom_some _ _ _ (.inl ek):(env.cells.lookup y).isSome=true)
  refine ⟨c,_,hc,x.x.cell y c hc,λmv e2=>?_⟩
  obtain ⟨w,hw,hr⟩:=at_ i y mv e1 e2;exact ⟨w,(Ck (λz=>nomatch (ek.symm.trans ((congrFun ko y).symm.trans z):some NameKind.cell=some .local)) nd).trans (by rw [hw];rfl),hr⟩
end
theorem rI{D:bZ}{A:Around}{E:Value→Shared→Prop}{s:Shared}{K:Frag}{C x dx:Addr}{m:Str→Option Value}{N:Nat}{y:Str}{v:Value}{Q:Unit→Shared→Prop}
  (X:K.In s.heap) (Ye:findIn K (.ref C) "__setattr__"=some (some (.builtin "object.__setattr__"))) (Yg:plainOver K C=true) (Yh:hasDictIn K C=true) (Sm:takerIn K C y=some none)
  (JJ:s.heap.get? x=some (instObj C dx)) (Lv:xR s.heap dx m N) (hN:N< 1000)
  (hQ:∀h' N',N'≤N+1→xR h' dx (λz=>if z=y then some v else m z) N'→Heap.SameBut dx s.heap h'→∀t,Q () {s with heap:=h',toks:=t}):
  wpAny (model D.prog D.w) A (PySem.setAttr (.ref x) y v) Q E s:=by
 obtain ⟨od,Tz,Wo⟩:=B9 Lv.ns;have I:InstAt s.heap x (instObj C dx) C (some od):=⟨JJ,rfl,rfl,Tz⟩;refine set_plain X I Ye ?_;refine osa_open (s:={s with toks:=s.toks+1}) X I Yg Sm λb=>?_
 obtain ⟨cd,TF,Bs⟩:=any_some Yh;refine wpAny_bind (wpAny_pure (wpAny_bind (wpAny_bind (wpAny_loadPart JJ (wpAny_bind ((looks_clsIn (M:=model D.prog D.w) (h:=s.heap) X TF) _ _ _ _ (λ_ _ z=>z) ?_))))))
 rw [Bs];refine wpAny_pure (a:=some dx) (wpAny_bind (wpAny_pure (wpAny_bind ?_)));refine lu (s:={s with toks:=s.toks+1}) Lv λh1 mT nT=>?_
 obtain ⟨o1,Wt,Yb,TG,OS,hk1,hf1,Sj⟩:=id mT;have hz2:Wt.size≤N+1:=by refine ah Sj ?_;split<;>lia
 refine wpAny_bind (wpAny_lookBehind TG (by rw [OS];exact pastItsLine_dict (by rw [sizeLine_eq];lia)) ?_)
 refine wpAny_pure ?_;exact hQ h1 _ (by split<;>lia) mT nT _
theorem GQ{st:Stmt}{q:List Expr×Expr×Pos}(h:JI st=some q):st=.Assign q.1 q.2.1 q.2.2:=by
 cases st with
 |Assign a b c=>exact bJ h▸rfl
 |_=>exact (aY _ h.symm).elim
theorem Cm{α:Type}{l:List α}{a:α}(h:ON l=some a):l=[a]:=by
 cases l with
 |nil=>exact (aY _ h.symm).elim
 |cons b r=>cases r with
  |nil=>exact bJ h▸rfl
  |cons c r=>exact (aY _ h.symm).elim
theorem qA{e:Expr}{q:Expr×Str×Pos}(h:lR e=some q):e=.Attribute q.1 q.2.1 q.2.2:=by
 cases e with
 |Attribute a b c=>exact bJ h▸rfl
 |_=>exact (aY _ h.symm).elim
theorem iM{e:Expr}{x:Str}(h:iY e=some x):∃p,e=.Name x p:=by
 cases e with
 |Name y p=>exact ⟨p,bJ h▸rfl⟩
 |_=>exact (aY _ h.symm).elim
structure TP(nm pn:List Str)(st:Stmt)(q:Nat×Nat)(sf:Str)(p1:Pos)(a:Str)(p2:Pos)(p:Str)(p3 p4:Pos):Prop where
 e:st=.Assign [.Attribute (.Name sf p1) a p2] (.Name p p3) p4
 h0:pn[0]? =some sf
 d0:isDebug sf=false
 d:isDebug p=false
 ha:nm[q.1]? =some a
 hp:pn[q.2]? =some p
theorem t7{nm pn:List Str}{st:Stmt}{q:Nat×Nat}(e:nS nm pn st=some q):∃sf p1 a p2 p p3 p4,TP nm pn st q sf p1 a p2 p p3 p4:=by obtain ⟨u,e1,e⟩:=aL.mp e;obtain ⟨t,e2,e⟩:=aL.mp e;obtain ⟨o,e3,e⟩:=aL.mp e;obtain ⟨sf,e4,e⟩:=aL.mp e;obtain ⟨p,e5,e⟩:=aL.mp e;have f:=aW e;obtain ⟨i,e6,e⟩:=aL.mp f.2;obtain ⟨j,e7,e⟩:=aL.mp e;obtain ⟨p1,q1⟩:=iM e4;obtain ⟨p3,q3⟩:=iM e5;have h:=aZ.mp f.1;have h1:=aZ.mp h.1;exact ⟨sf,p1,o.2.1,o.2.2,p,p3,u.2.2,by rw [GQ e1,Cm e2,qA e3,q1,q3],List.head?_eq_getElem? ▸beq_iff_eq.mp h1.1,(Bool.not_eq_true' _).mp h1.2,(Bool.not_eq_true' _).mp h.2,bJ e▸dG e6,bJ e▸dG e7⟩
structure TQ(D:bZ)(K:Frag)(C x dx:Addr)(env:Env)(pn:List Str)(ml:Str→Option Value):Prop where
 sa:findIn K (.ref C) "__setattr__"=some (some (.builtin "object.__setattr__"))
 po:plainOver K C=true
 hd:hasDictIn K C=true
 fk:env.scope.kind=.function
 aH:∀y∈pn,env.kindOf y=some .local
 h0:∀y,pn[0]? =some y→ml y=some (.ref x)
 ne:dx≠env.locals
 ne':x≠dx
 hK:∀o,K.lookup dx≠some o
 nd:D.nm.Nodup
structure Yi(K:Frag)(C x dx:Addr)(L:Addr)(ml:Str→Option Value)(h:Heap)(m:Str→Option Value)(N:Nat):Prop where
 qv:K.In h
 hx:h.get? x=some (instObj C dx)
 ns:xR h dx m N
 lo:h.Ns L ml
noncomputable abbrev t8(pn:List Str)(ml:Str→Option Value)(j:Nat):Option Value:=(pn[j]?).bind ml
section
variable {D:bZ}{A:Around}{E:Value→Shared→Prop}{K:Frag}{C x dx:Addr}{env:Env}{pn:List Str}{ml:Str→Option Value}
structure TR(D:bZ)(fs:List (Nat×Nat))(pn:List Str)(ml m:Str→Option Value)(dx:Addr)(h h':Heap)(m':Str→Option Value):Prop where
 ns:∃N,xR h' dx m' N
 sb:Heap.SameBut dx h h'
 at_:∀p∈fs,∀y,D.nm[p.1]? =some y→m' y=t8 pn ml p.2
 no:∀y,(∀p∈fs,D.nm[p.1]? ≠some y)→m' y=m y
theorem GR(c:TQ D K C x dx env pn ml){stmts:List Stmt}{fs:List (Nat×Nat)}(ec:bV (λq st=>nS D.nm pn st=some q) fs stmts):∀{s:Shared} {m:Str→Option Value} {N:Nat} {Q:Flow→Shared→Prop},
   (∀p∈fs,∀y,D.nm[p.1]? =some y→takerIn K C y=some none)→(fs.map (·.1)).Nodup→(∀p∈fs,∃v,t8 pn ml p.2=some v)→N+fs.length< 1000→Yi K C x dx env.locals ml s.heap m N→
   (∀h' t m',TR D fs pn ml m dx s.heap h' m'→Q .next {s with heap:=h',toks:=t})→wpAny (model D.prog D.w) A (execs stmts env) Q E s:=by
 induction ec with
 |nil=>exact λ_ _ _ _ S k=>wpAny_pure (k _ _ _ ⟨⟨_,S.ns⟩,⟨rfl,λ_ _=>rfl⟩,λp hp=>(fF hp).elim,λ_ _=>rfl⟩)
 |@cons q st fs stmts e1 _ ih=>
  intro s m N Q Sm nd hv hN S k;obtain ⟨sf,p1,a,p2,p,p3,p4,r⟩:=t7 e1;obtain ⟨v,TS⟩:=hv q (b7 ..);have hl:ml p=some v:=by rw [t8,r.hp] at TS;exact TS
  have Lc:=List.nodup_cons.mp nd;rw [r.e];refine wpAny_execs_cons (plainObj_wpAny_Assign_Attribute (wpAny_Name (wpAny_loadName_local c.fk (c.aH p (List.mem_of_getElem? r.hp)) S.lo hl (wpAny_Name (wpAny_loadName_local c.fk (c.aH sf (List.mem_of_getElem? r.h0)) S.lo (c.h0 _ r.h0)
   (rI S.qv c.sa c.po c.hd (Sm q (b7 ..) a r.ha) S.hx S.ns (Nat.lt_of_le_of_lt (bI _ _) hN) λh1 N1 hN1 mT nT t1=>?_)) r.d0)) r.d) rfl)
  refine ih (λp hp=>Sm p (bP _ hp)) Lc.2 (λp hp=>hv p (bP _ hp)) (N:=N1) (by rw [List.length_cons] at hN;lia) ⟨λb o e=>(nT.2 b λz=>c.hK o (z▸e)).trans (S.qv b o e),(nT.2 x c.ne').trans S.hx,mT,S.lo.sameBut nT c.ne.symm⟩
   λh' t m' z=>k h' t m' ⟨z.ns,⟨z.sb.1.trans nT.1,λb nb=>(z.sb.2 b nb).trans (nT.2 b nb)⟩,λp hp y hy=>?_,λy hy=>?_⟩
  ·rcases bO.mp hp with rfl|hp
   ·cases r.ha.symm.trans hy
    exact (z.no a λr' hr er=>Lc.1 (List.mem_map.mpr ⟨r',hr,getElem?_inj c.nd er r.ha⟩)).trans ((if_pos rfl).trans TS.symm)
   ·exact z.at_ p hp y hy
  ·exact (z.no y λp hp=>hy p (bP _ hp)).trans (if_neg (c:=y=a) λe=>hy q (b7 ..) (e▸r.ha))
end
theorem qk.made{n:Nat}{A:Around}(h:qk (n+1) A)(C:Addr)(vs:List Value)(kw:List (Str×Value)):qk n (A.under (.builtin "type.__call__" ⟨.ref C::vs,kw⟩)):=by
 have hf:(Code.builtin "type.__call__" ⟨.ref C::vs,kw⟩).frames=0:=by kernel_rfl
 have hc:(Code.builtin "type.__call__" ⟨.ref C::vs,kw⟩).isCreation=true:=rfl;have hk:(Code.builtin "type.__call__" ⟨.ref C::vs,kw⟩).isCaller=false:=by kernel_rfl
 have hg:(Code.builtin "type.__call__" ⟨.ref C::vs,kw⟩).isGuard=false:=by
  show guardIds.contains "type.__call__"=false
  decide+kernel
 have hw:(Code.builtin "type.__call__" ⟨.ref C::vs,kw⟩).weight=1:=by simp [Code.weight,hf,hc,hg,hk]
 have hu:(Code.builtin "type.__call__" ⟨.ref C::vs,kw⟩).cUnits=1:=by simp [Code.cUnits,hf]
 refine ⟨?_,?_,h.handled⟩
 ·have:=h.depth
  show A.depth+(Code.builtin "type.__call__" ⟨.ref C::vs,kw⟩).weight+n< _
  rw [hw];lia
 ·have:=h.units
  show A.units+(Code.builtin "type.__call__" ⟨.ref C::vs,kw⟩).cUnits+_+_< _
  rw [hu];lia
theorem rJ{m:MV}{l:List MV}{r:List Nat}(e:aT (m::l)=some r):∃x z,m=.str x∧aT l=some z∧r=x++z:=by
 cases m with
 |str x=>exact map_some e λz e1 e2=>⟨x,z,rfl,e1,e2.symm⟩
 |_=>exact no e
theorem rK{D:bZ}{G:Fz}{ρ:List PR}{l:List MV}:∀{vs:List Value} {r:List Nat},cB D G ρ l vs→aT l=some r→∃ys,StrsAre vs ys∧(ys.map (·.length)).sum=r.length∧Str.join (toStr []) ys=toStr r:=by
 induction l with
 |nil=>exact λh e=>h.nil_inv▸aC e▸⟨[],.nil,rfl,rfl⟩
 |cons m l ih=>
  intro vs r h e;obtain ⟨v,ws,rfl,hv,hr⟩:=h.cons_inv;obtain ⟨x,z,rfl,e1,rfl⟩:=rJ e;obtain ⟨t,rfl⟩:=dQ hv;obtain ⟨ys,a,b,c⟩:=ih hr e1;refine ⟨toStr x::ys,.cons _ _ a,by rw [List.map_cons,List.sum_cons,b,aU,aM],?_⟩
  cases ys with
  |nil=>rw [jY c.symm,cM];rfl
  |cons y ys=>
   show toStr x++toStr []++Str.join (toStr []) (y::ys)=_
   rw [c,gA,gA,cM]
section
variable {D:bZ}{h₀:Heap}{G:Fz}{ρ:List PR}{h:Hp}{s:Shared}{A:Around}{E:Value→Shared→Prop}{K:Frag}{mg mb:Str→Option Value}
theorem Cn{x:MV}{v:Value}{t:Tok}{l:List MV}{r:List Nat}{Q:Value→Shared→Prop}(R:Rep D h₀ G ρ h s)(hx:VR D G ρ x v)(e1:listOf x h=some l)(e2:aT l=some r)(hr:r.length≤az)(k:bY D h₀ G ρ s (.str r) h Q):
  wpAny (model D.prog D.w) A (call (.builtin "str.join") [.str (toStr []) t,v]) Q E s:=by
 obtain ⟨a,vs,rfl,hl,Yj,hz⟩:=fP R hx e1;obtain ⟨ys,a1,a2,a3⟩:=rK Yj e2;refine join_list hl (by simpa using a1) ?_ λt' c=>?_
 ·rw [a2,aU];unfold az at hr;simp;lia
 ·have:Txt.join (toStr []) ys=toStr r:=by
   show Builtin.Str.glued (toStr []) ys=_
   rw [StrLaws.glued_eq_join,a3]
  rw [this];exact k.val R (VR.str hr) _
theorem GS{l:List MV}{vs:List Value}(hr:cB D G ρ l vs)(hl:l.length≤az):((vs.toArray.size:Nat):Int)< 2 ^ 63:=by
 rw [List.size_toArray, ← hr.length];unfold az at hl;have:(2:Int) ^ 63=9223372036854775808:=by decide
 lia
theorem vU{sup:List Nat}{m:MV}{l:List MV}{b:Bool}(e:jC sup (m::l)=some b):∃i c,m=.cls i∧jC sup l=some c∧b=(sup.contains i||c):=by
 cases m with
 |cls i=>exact map_some e λc e1 e2=>⟨i,c,rfl,e1,e2.symm⟩
 |_=>exact no e
theorem vV{C:Addr}{sup:List Nat}(hK:∀(i:Nat) (A:Addr),D.ca[i]? =some A→kitOne K (.ref C) (.ref A)=some (sup.contains i)){l:List MV}:∀{vs:List Value} {b:Bool},cB D G ρ l vs→jC sup l=some b→kitAny K (.ref C) vs=some b:=by
 induction l with
 |nil=>exact λh e=>h.nil_inv▸e
 |cons m l ih=>
  intro vs b h e;obtain ⟨v,ws,rfl,hv,hr⟩:=h.cons_inv;obtain ⟨i,c,rfl,e1,rfl⟩:=vU e;obtain ⟨A,hA,rfl⟩:=id hv;have k:=ih hr e1;unfold kitAny;rw [hK i A hA]
  cases sup.contains i with
  |true=>rfl
  |false=>simpa using k
set_option tactic.hygienic true in
theorem Ac{a:MV}{n:Nat}(e:tF a=some n):a=.int n∧n< 10:=by
 cases a with
 |int i=>
  unfold tF at e;dsimp only at e;split at e
  ·rename_i q
   have:=bJ e;exact ⟨by rw [← this];congr 1;lia,by lia⟩
  ·cases e
 |_=>exact (aY n e.symm).elim
theorem GU{a:MV}{v:Value}{n:Nat}{Q:Value→Shared→Prop}(R:Rep D h₀ G ρ h s)(hx:VR D G ρ a v)(e:lenOf a h=some n)(k:bY D h₀ G ρ s (.int n) h Q):
  wpAny (model D.prog D.w) A (call (BI.val .len) [v] []) Q E s:=by
 rcases or_some e with e|⟨_,e⟩
 ·obtain ⟨x,e1,rfl⟩:=dw.mp e
  cases bG e1
  obtain ⟨hl,t,rfl⟩:=id hx;refine P.len_str ?_ ?_
  ·rw [aU];unfold az at hl
   have:(2:Int) ^ 63=9223372036854775808:=by decide
   lia
  ·rw [aU];exact k.val R VR.int _
 ·obtain ⟨l,e1,rfl⟩:=dw.mp e
  obtain ⟨ad,vs,rfl,hl,hr,hz⟩:=fP R hx e1;refine call_len_list hl (GS hr hz) ?_;rw [k9 hr];exact k.val R VR.int _
theorem vW(L:cD D K h₀ mg mb){a c:MV}{va vc:Value}{b:Bool}{Q:Value→Shared→Prop}(R:Rep D h₀ G ρ h s)(ha:VR D G ρ a va)(hc:VR D G ρ c vc)(e:rq D.pm a c=some b)(k:bY D h₀ G ρ s (.bool b) h Q):
  wpAny (model D.prog D.w) A (call (BI.val .isinstance) [va,vc] []) Q E s:=by
 obtain ⟨y,e1,e⟩:=aL.mp e;obtain ⟨ce,e2,e9⟩:=aL.mp e
 cases jU e1
 obtain ⟨x,C,dx,o,m,ws,rfl,⟨X8,Lo,lU⟩,hC,g1,g2,_,_⟩:=ha
 cases e2.symm.trans Lo
 have q:=lT L e2 hC;obtain ⟨k1,k2,k3,k4,k5⟩:=q.Tt lU;have kx:=kitx_own (x:=x) (ox:=instObj C dx) (od:=o) k1 q.hd k2 k3 k4 k5;have I:InstAt s.heap x (instObj C dx) C (some o):=⟨R.keep _ _ g1,rfl,rfl,R.keep _ _ g2⟩;rcases or_some e9 with e|⟨_,e⟩
 ·obtain ⟨i,e3,rfl⟩:=dw.mp e
  cases lP e3
  obtain ⟨Ad,hA,rfl⟩:=id hc;exact kia_one kx (R.qv L) I (q.Wk lU i Ad hA) (by intro z;cases z) λtk=>k.val R VR.bool _
 ·obtain ⟨l,e3,e8⟩:=aL.mp e
  cases eL e3
  obtain ⟨hl,at_,⟨oc,od,dat,sl⟩,tvs,n,rfl,gt,OZ,TU,hr⟩:=hc;cases OZ
  cases TU
  exact kia_tup kx (R.qv L) I (R.keep _ _ gt) (vV (q.Wk lU) hr e8) (by intro z;cases z) λtk=>k.val R VR.bool _
theorem cB.one{x:MV}{vs:List Value}(h:cB D G ρ [x] vs):∃v,vs=[v]∧VR D G ρ x v:=by obtain ⟨v,ws,rfl,a,b⟩:=h.cons_inv;exact ⟨v,by rw [b.nil_inv],a⟩
theorem vX{args:List MV}{vs:List Value}(hv:cB D G ρ args vs){a:MV}(q:jA args=some a):∃v,vs=[v]∧VR D G ρ a v:=(cO q▸hv:cB D G ρ [a] vs).one
theorem vY(L:cD D K h₀ mg mb)(hh:A.handled=none){b:BI}{args:List MV}{vs:List Value}{r:MV}{Q:Value→Shared→Prop}(R:Rep D h₀ G ρ h s)(hv:cB D G ρ args vs)(e:iB D.pm b args h=some r)(k:bY D h₀ G ρ s r h Q):
  wpAny (model D.prog D.w) A (call b.val vs []) Q E s:=by
 cases b with
 |len=>obtain ⟨a,e1,e⟩:=aL.mp e;obtain ⟨n,e2,rfl⟩:=dw.mp e;obtain ⟨v,rfl,hx⟩:=vX hv e1;exact GU R hx e2 k
 |isinstance=>
  obtain ⟨a,e1,e⟩:=aL.mp e;obtain ⟨bb,e2,rfl⟩:=dw.mp e
  cases tD e1
  obtain ⟨va,ws,rfl,Ae,hn⟩:=hv.cons_inv;obtain ⟨vc,rfl,Yk⟩:=hn.one;exact vW L R Ae Yk e2 k
 |ord=>obtain ⟨a,e1,e⟩:=aL.mp e;obtain ⟨n,e2,rfl⟩:=dw.mp e;obtain ⟨v,rfl,hx⟩:=vX hv e1;have:a=.str [n]:=jV e2;subst this;obtain ⟨t,rfl⟩:=dQ hx;exact P.ord_of_char (k.val R VR.int _)
 |str=>
  obtain ⟨a,e1,e⟩:=aL.mp e;obtain ⟨n,e2,rfl⟩:=dw.mp e;obtain ⟨v,rfl,hx⟩:=vX hv e1;obtain ⟨rfl,hn⟩:=Ac e2;obtain ⟨t,rfl⟩:=di hx;have key:∀n:Nat,n< 10→(Str.ofString (toString (n:Int)))=toStr [48+n]∧(n:Int).natAbs.log2< 1920:=by decide+kernel
  obtain ⟨k1,k2⟩:=key n hn;refine P.str_of_int k2 ?_;exact (show _=toStr [48+n] from k1)▸k.val R (VR.str (by unfold az;simp)) _
end
noncomputable abbrev O0(h:Heap)(C:Addr):Heap:=(h.push emptyDict).push (instObj C h.objs.size)
noncomputable abbrev NT(s:Shared)(C:Addr):Shared:={s with heap:=O0 s.heap C}
theorem ly(h:Heap)(C:Addr)(b:Addr)(o:Obj)(e:h.get? b=some o):(O0 h C).get? b=some o:=Heap.get?_push_of_some _ (Heap.get?_push_of_some _ e)
theorem JK(h:Heap)(C:Addr):(O0 h C).get? (h.objs.size+1)=some (instObj C h.objs.size):=by
 have:=Heap.get?_push_size (h.push emptyDict) (o:=instObj C h.objs.size) rfl
 rwa [Heap.size_push] at this
theorem JL(h:Heap)(C:Addr):(O0 h C).get? h.objs.size=some emptyDict:=Heap.get?_push_of_some _ (Heap.get?_push_size _ rfl)
theorem t9{h:Heap}{d:Addr}(e:h.get? d=some emptyDict):xR h d (λ_=>none) 0:=⟨_,#[],0,e,rfl,λ_ he=>(Array.not_mem_empty _ he).elim,λ_=>rfl,bf _⟩
theorem Cp(h:Heap)(C:Addr):(O0 h C).objs.size=h.objs.size+2:=by rw [Heap.size_push,Heap.size_push]
section
variable {D:bZ}{h₀:Heap}{G:Fz}{ρ:List PR}{h:Hp}{s:Shared}{A:Around}{E:Value→Shared→Prop}{K:Frag}{mg mb:Str→Option Value}{n:Nat}{ce:fZ}{C:Addr}
theorem ua(q:B8 D K h₀ C ce)(X:K.In s.heap){fi:Addr}(Ce:D.fa[ce.init]? =some fi){vs:List Value}{kw:SV}{R:Result→Shared→Prop}(k:codeAny (model D.prog D.w) (A.under (.builtin "type.__call__" ⟨.ref C::vs,kw⟩)) (.call (.ref fi) ⟨.ref (s.heap.objs.size+1)::vs,kw⟩) (InitBack (s.heap.objs.size+1) R) (NT s C)):
  codeAny (model D.prog D.w) A (.call (.ref C) ⟨vs,kw⟩) R s:=by
 obtain ⟨fi',TV,TX,NQ⟩:=q.X4
 cases Ce.symm.trans TX
 exact make_core (makes_of X q.makes) (looks_findIn X TV) (λself=>bind_fn X self (beq_iff_eq.mp NQ)) (.inl rfl) k
theorem Cq{ps:List Nat}{pn:List Str}(hn:bV (λp x=>D.nm[p]? =some x) ps pn){pos:List MV}{vs:List Value}(hv:cB D G ρ pos vs)(m:MV)(v:Value):tW D.nm (λp m v=>D.nm[p]? ≠pn[0]? →VR D G ρ m v) (ps.zip (m::pos)) (pn.zip (v::vs)):=by
 cases hn with
 |nil=>exact .nil
 |@cons a b l l' q r=>exact .cons ⟨q,λz=>(z q).elim⟩ (x6 (R:=λp m v=>D.nm[p]? ≠(b::l')[0]? →VR D G ρ m v) (λ_ _ _ z _=>z) r hv)
theorem GV{bs:List MV}{f:Nat→Option Value}{fs:List (Nat×Nat)}:∀{vs:List MV},(∀p∈fs,∀m,bs[p.2]? =some m→∃w,f p.2=some w∧VR D G ρ m w)→fs.mapM (λp=>bs[p.2]?)=some vs→∃ws,cB D G ρ vs ws∧bV (λp w=>f p.2=some w) fs ws:=by
 induction fs with
 |nil=>exact λ_ e=>⟨[],mapM_nil e▸.nil,.nil⟩
 |cons p fs ih=>
  intro vs H e;obtain ⟨b,r,e1,e2,rfl⟩:=mapM_cons e;obtain ⟨ws,a,c⟩:=ih (λp hp=>H p (bP _ hp)) e2
  obtain ⟨w,hw,hr⟩:=H p (b7 ..) b e1;exact ⟨w::ws,.cons hr a,.cons hw c⟩
theorem bV.mem{α β:Type}{P:α→β→Prop}{l:List α}{r:List β}(h:bV P l r){a:α}(ha:a∈l):∃b,P a b:=by obtain ⟨i,hi⟩:=List.mem_iff_getElem?.mp ha;obtain ⟨b,_,q⟩:=h.at hi;exact ⟨b,q⟩
theorem GW(R:Rep D h₀ G ρ h s){i:Nat}{vals:List MV}{Q:Value→Shared→Prop}(k:bY D h₀ G ρ s (.d8 i vals) h Q){s2:Shared}{o':Obj}(hg:s2.gens=s.gens)(hd:s2.drawn=s.drawn)(hs:s2.os=s.os)(k4:∀b o,s.heap.get? b=some o→s2.heap.get? b=some o)
  (hx:s2.heap.get? (s.heap.objs.size+1)=some (instObj C s.heap.objs.size)) (ho:s2.heap.get? s.heap.objs.size=some o') (hv:∀G',jq G G'→G' (s.heap.objs.size+1) (instObj C s.heap.objs.size)→G' s.heap.objs.size o'→VR D G' ρ (.d8 i vals) (.ref (s.heap.objs.size+1))):Q (.ref (s.heap.objs.size+1)) s2:=
 have l:=(Fz.i0 G (s.heap.objs.size+1) (instObj C s.heap.objs.size)).trans (Fz.i0 _ s.heap.objs.size o')
 k _ s2 _ ρ ⟨l,.refl _,λb o z=>z.elim (λz=>Or.imp id (λz:b=s.heap.objs.size+1∧_=>z.1▸cW (Nat.le_succ _)) z) λz=>.inr (z.1▸cW (bf _)),λ_ z=>.inl z,λ_ z=>z,ir k4⟩
  (((R.keeps k4).freeze hx (R.iu (Nat.le_succ _))).freeze ho (R.iu (bf _))) ⟨hg,hd,hs,λb o _ e=>k4 b o e⟩ (hv _ l (.inl (.inr ⟨rfl,rfl⟩)) (.inr ⟨rfl,rfl⟩))
theorem Cr(L:cD D K h₀ mg mb)(hA:qk (n+1) A){i:Nat}{fe:cC}{pos kv bs vals:List MV}{kn:List Nat}{xs:List Str}{vs ws:List Value}{Q:Value→Shared→Prop}
  (rF:D.pm.dM[i]? =some ce) (Lw:D.pm.fns[ce.init]? =some fe) (lU:ce.isRec=true) (hC:D.ca[i]? =some C) (R:Rep D h₀ G ρ h s) (h1:cB D G ρ pos vs) (h2:cB D G ρ kv ws) (ek:kn.mapM (λi=>D.nm[i]?)=some xs)
  (eb:dz fe (.none::pos) kn kv=some bs) (ef:ce.fields.mapM (λp=>bs[p.2]?)=some vals) (k:bY D h₀ G ρ s (.d8 i vals) h Q):
  wpAny (model D.prog D.w) A (call (.ref C) vs (xs.zip ws)) Q E s:=by
 have q:=lT L rF hC;have X:=R.qv L;obtain ⟨fi,Ce,FL⟩:=L.fns _ _ Lw;obtain ⟨oc,od,z0,fd,body,ho,F⟩:=FL.obj;have r:=q.OO lU fi fd oc od z0 body Ce ho F.hb;have C':=oO F.comp;obtain ⟨T,hb,B⟩:=oQ (R:=λp m v=>D.nm[p]? ≠(fd.params.args.map (·.arg))[0]? →VR D G ρ m v) (pos:=.none::pos) (vs:=.ref (s.heap.objs.size+1)::vs) L.GJ (λ_ _ _ z _=>z) C' F.Wm (congrArg Nat.succ h1.length) (Cq C'.ids h1 .none (.ref (s.heap.objs.size+1))) h2 ek eb
 have X2:K.In (NT s C).heap:=λb o e=>ly _ _ b o (X b o e)
 have T0:∀y,(fd.params.args.map (·.arg))[0]? =some y→T.lookup y=some (.ref (s.heap.objs.size+1)):=λy e=>B.hd y _ e rfl
 obtain ⟨wf,Yl,Sn⟩:=GV (f:=t8 (fd.params.args.map (·.arg)) λy=>T.lookup y) (λp hp m e=>by obtain ⟨a,x,w,e1,e2,e3,e4⟩:=B.at_ p.2 m e;exact ⟨w,by rw [t8,e2];exact e3,e4 λz=>q.X5 lU p hp (getElem?_inj C'.TN e2 (z.symm.trans e1))⟩) ef
 refine wpAny_call (ua q X Ce (enter L (hA.made C vs (xs.zip ws)).B5 X2 (λb o e=>ly _ _ b o (R.keep b o (R.base b o e))) ho F C' (hb _ X2) B.sub λenv s1 x=>codeAny_func ?_))
 have kl:∀y∈fd.params.args.map (·.arg),env.kindOf y=some .local:=λy hy=>(congrArg (λsc:Scope=>sc.names.lookup y) x.sc).trans (r.aH y hy)
 have Wy:∀y∈fd.params.args.map (·.arg),bindL env.kindOf T (λ_=>none) y=T.lookup y:=λy hy=>(tZ (kl y hy) (C'.TN.sublist B.sub)).trans (Option.or_none)
 have Lp:∀j,t8 (fd.params.args.map (·.arg)) (bindL env.kindOf T λ_=>none) j=t8 (fd.params.args.map (·.arg)) (λy=>T.lookup y) j:=λj=>by
  unfold t8
  cases e:(fd.params.args.map (·.arg))[j]? with
  |none=>rfl
  |some y=>exact Wy y (List.mem_of_getElem? e)
 have kk:∀b o,s.heap.get? b=some o→s1.heap.get? b=some o:=λb o e=>x.x.toInCall.keep b o (ly _ _ b o e)
 have xU:=x.aH.trans (Cp _ _);have Wz:=x.x.toInCall.keep _ _ (JK s.heap C);refine GR (x:=s.heap.objs.size+1) ⟨q.sa,q.po,q.hd,x.sc▸C'.kind,kl,λy e=>(Wy y (List.mem_of_getElem? e)).trans (T0 y e),xU▸Nat.ne_of_lt (Nat.lt_add_of_pos_right (by decide)),Nat.ne_of_gt (Nat.lt_succ_self _),λo e=>Nat.lt_irrefl _ (Heap.lt_size (X _ _ e)),L.GJ⟩
  (bV.vS (λ_ _ z=>z) _ r.ss) (λp hp y hy=>?_) r.nd (λp hp=>(Sn.mem hp).imp λv e=>(Lp p.2).trans e) (by have:=r.len;lia) ⟨λb o e=>kk b o (X b o e),Wz,t9 (x.x.toInCall.keep _ _ (JL s.heap C)),x.x.toInCall.ns⟩ λh' t m' z=>⟨rfl,?_⟩
 ·obtain ⟨y',e1,e2,e3⟩:=q.Ln lU p hp
  cases hy.symm.trans e1;exact e3
 ·have k4:∀b o,s.heap.get? b=some o→h'.get? b=some o:=λb o e=>(z.sb.2 b (Nat.ne_of_lt (Heap.lt_size e))).trans (kk b o e)
  obtain ⟨N,o',Fq,O1,rA,Bs,Cs,Ym,_⟩:=z.ns;obtain ⟨hh1,tk,e,_⟩:=x.x.done;refine GW R k (by rw [e]) (by rw [e]) (by rw [e]) k4 ((z.sb.2 _ (Nat.ne_of_gt (Nat.lt_succ_self _))).trans Wz) rA λG' g gx gd=>?_
  refine ⟨_,C,_,o',m',wf,rfl,⟨ce,rF,lU⟩,hC,gx,gd,⟨Fq,O1,Bs,Cs,Ym⟩,cB.mono g (.refl _) _ _ Yl,λj y hy=>?_⟩
  unfold bZ.fld at hy;rw [rF] at hy;obtain ⟨p,hp,hy⟩:=dw.mp (List.getElem?_map▸hy);have pm:=List.mem_of_getElem? hp;obtain ⟨y',e1,_⟩:=q.Ln lU p pm;obtain ⟨w,e3,e4⟩:=Sn.at hp;rw [e1] at hy;cases hy
  exact (z.at_ p pm _ e1).trans ((Lp _).trans (e4.trans e3.symm))
end
section
variable {D:bZ}{h₀:Heap}{G:Fz}{ρ:List PR}{h:Hp}{s:Shared}{A:Around}{Ex:Value→Shared→Prop}{K:Frag}{mg mb:Str→Option Value}{n:Nat}
end
noncomputable def rL(D:bZ)(G:Fz)(ρ:List PR):kY→Value→List Value→Prop
 |.fn fi self,f,first=>∃fa sv,D.fa[fi]? =some fa∧VR D G ρ self sv∧((f=.ref fa∧first=[sv])∨(∃q,f=.ref q∧first=[]∧G q (methodObj (.ref fa) sv)))
 |.join x,f,first=>f=.builtin "str.join"∧∃t,first=[.str (toStr x) t]
 |.starts x,f,first=>f=.builtin "str.startswith"∧∃t,first=[.str (toStr x) t]
 |.append o,f,first=>f=.builtin "list.append"∧∃v,first=[v]∧VR D G ρ (.obj o) v
 |.pop o,f,first=>f=.builtin "list.pop"∧∃v,first=[v]∧VR D G ρ (.obj o) v
 |.copy ks vs,f,first=>f=.builtin "dict.copy"∧∃v,first=[v]∧VR D G ρ (.jk ks vs) v
 |.get ks vs,f,first=>f=.builtin "dict.get"∧∃v,first=[v]∧VR D G ρ (.jk ks vs) v
theorem rL.mono{D:bZ}{G G':Fz}{ρ cA:List PR}(hG:jq G G')(lS:tg ρ cA){c:kY}{f:Value}{first:List Value}(h:rL D G ρ c f first):rL D G' cA c f first:=by
 cases c with
 |fn fi self=>obtain ⟨fa,sv,a,b,c⟩:=h;exact ⟨fa,sv,a,VR.mono hG lS _ _ b,c.imp id λ⟨q,x,y,z⟩=>⟨q,x,y,hG _ _ z⟩⟩
 |join x=>exact h
 |starts x=>exact h
 |append o=>obtain ⟨a,v,b,c⟩:=h;exact ⟨a,v,b,VR.mono hG lS _ _ c⟩
 |pop o=>obtain ⟨a,v,b,c⟩:=h;exact ⟨a,v,b,VR.mono hG lS _ _ c⟩
 |copy ks vs=>obtain ⟨a,v,b,c⟩:=h;exact ⟨a,v,b,VR.mono hG lS _ _ c⟩
 |get ks vs=>obtain ⟨a,v,b,c⟩:=h;exact ⟨a,v,b,VR.mono hG lS _ _ c⟩
def uc(M:Model)(h:Heap)(f:Value):Prop:=∃k,(k=Keeper.frame∨k=Keeper.machine∨k=Keeper.boundFrame)∧Looks M h (keeperOf f) k
theorem dH{M:Model}{h:Heap}(id:String):uc M h (.builtin id):=⟨.machine,.inr (.inl rfl),Looks.of_pure rfl⟩
theorem Af{M:Model}{h:Heap}(id:String):uc M h (.type id):=⟨.machine,.inr (.inl rfl),Looks.of_pure rfl⟩
theorem x8{M:Model}{A:Around}{E:Value→Shared→Prop}{s:Shared}{a:Addr}{vs:Array Value}{n:Nat}{name:Str}{id:String}{pl:Sem Bool}{Q:Value×List Value→Shared→Prop}(jG:s.heap.get? a=some {cls:=.type "list",data:=.seq vs n})(slot:Slot "list" name id)
  (ty:typeOf (.builtin id)=pure (.type "method_descriptor")) (h:Q (.builtin id,[.ref a]) s):wpAny M A (getMethod (.ref a) name pl) Q E s:=
 getMethod_builtin ⟨_,jG,rfl⟩ F.plainAttrs_list slot ty (λb hb=>by cases hb;exact ⟨_,jG,rfl⟩) h
theorem x9{M:Model}{A:Around}{E:Value→Shared→Prop}{s:Shared}{a:Addr}{o:Obj}{name:Str}{id:String}{pl:Sem Bool}{Q:Value×List Value→Shared→Prop}(ho:s.heap.get? a=some o)(hx:o.ExactDict)(slot:Slot "dict" name id)
  (ty:typeOf (.builtin id)=pure (.type "method_descriptor")) (h:Q (.builtin id,[.ref a]) s):wpAny M A (getMethod (.ref a) name pl) Q E s:=
 getMethod_builtin ⟨_,ho,hx.1⟩ F.plainAttrs_dict slot ty (λb hb=>by cases hb;exact ⟨_,ho,hx.2.1⟩) h
section
variable {D:bZ}{h₀:Heap}{G:Fz}{ρ:List PR}{h:Hp}{s:Shared}{A:Around}{Ex:Value→Shared→Prop}{K:Frag}{mg mb:Str→Option Value}{n:Nat}
variable {v:MV}{a:Nat}{x:Str}{pl:Sem Bool}{Q:Value×List Value→Shared→Prop}
abbrev GX(D:bZ)(h₀:Heap)(G:Fz)(ρ:List PR)(s:Shared)(h:Hp)(c:kY)(Q:Value×List Value→Shared→Prop):Prop:=∀f first s' G' cA,fh G G' ρ cA s s'→Rep D h₀ G' cA h s'→gK (bM ρ) s s'→rL D G' cA c f first→Q (f,first) s'
theorem GX.now{c:kY}(k:GX D h₀ G ρ s h c Q)(R:Rep D h₀ G ρ h s){f:Value}{first:List Value}(r:rL D G ρ c f first):Q (f,first) s:=k f first s G ρ (.refl _ _ _) R (.refl _ _) r
theorem qB{i:Nat}{y:Str}(hx:D.nm[a]? =some x)(e1:(a==i)=true)(e2:D.nm[i]? =some y):x=y:=bJ (hx.symm.trans ((congrArg (D.nm[·]?) (eq_of_beq e1)).trans e2))
theorem Lx(L:cD D K h₀ mg mb){va:Value}{o:Nat}{c:kY}(R:Rep D h₀ G ρ h s)(hx:D.nm[a]? =some x)(hv:VR D G ρ (.obj o) va)(e:ie D.pm o a h=some c)(k:GX D h₀ G ρ s h c Q):wpAny (model D.prog D.w) A (getMethod va x pl) Q Ex s:=by
 obtain ⟨y,e1,e⟩:=aL.mp e;obtain ⟨p,C,dx,m,od,ce,hp,rfl,V⟩:=rG L R hv e1
 cases hl:aR y.2 a with
 |some mv=>
  rw [hl] at e;obtain ⟨b,e2,rfl⟩:=dw.mp e
  cases n9 e2
  refine method_usual (R.qv L) V.I V.q.ga V.q.Tq (V.own hx hl) rfl (get_own V (R.qv L) R hx hl λv s' G' cA g' R' Br NS=>?_)
  obtain ⟨qa,fa,p',rfl,tV,O2,hg⟩:=NS;exact k _ _ s' G' cA g' R' Br ⟨fa,.ref p'.1,tV,⟨p',O2,rfl⟩,.inr ⟨qa,rfl,rfl,hg⟩⟩
 |none=>rw [hl] at e;obtain ⟨f,hf,rfl⟩:=dw.mp (V.cls e);obtain ⟨fa,tV,Ce,NQ,Wq⟩:=(V.q.names V.rc a x hx).me f hf;refine method_fn (R.qv L) V.I V.q.ga V.q.Tq Ce (beq_iff_eq.mp NQ) ?_ (k.now R ⟨fa,.ref p.1,tV,hv,.inl ⟨rfl,rfl⟩⟩);unfold shadowIn;dsimp only;rw [V.lk,(V.r.at_ a x hx).no hl];rfl
theorem rM(L:cD D K h₀ mg mb){va:Value}{c:kY}(R:Rep D h₀ G ρ h s)(hx:D.nm[a]? =some x)(hv:VR D G ρ v va)(e:bK D.pm v a h=some c)(k:GX D h₀ G ρ s h c Q):wpAny (model D.prog D.w) A (getMethod va x pl) Q Ex s:=by
 cases v with
 |obj o=>
  rcases or_some e with e|⟨_,e⟩
  ·exact Lx L R hx hv e k
  ·obtain ⟨xs,e1,e⟩:=aL.mp e
   obtain ⟨p,vs,hp,rfl,_,_,⟨n,jG⟩,_⟩:=gy R hv e1
   by_cases q:(a==D.pm.iX)=true
   ·rw [if_pos q] at e
    cases e
    cases qB hx q L.iX
    have z:=k.now R ⟨rfl,_,rfl,hv⟩
    with_reducible exact x8 jG F.slot_list_append F.type_list_append z
   ·rw [if_neg q] at e
    obtain ⟨q,e⟩:=aW e;cases e
    cases qB hx q L.BH
    have z:=k.now R ⟨rfl,_,rfl,hv⟩
    with_reducible exact x8 jG F.slot_list_pop F.type_list_pop z
 |str y=>
  obtain ⟨hl,t,rfl⟩:=id hv;have e:(if (a==D.pm.j9)=true then some (kY.join y) else if (a==D.pm.g7)=true then some (.starts y) else none)=some c:=e
  by_cases q:(a==D.pm.j9)=true
  ·rw [if_pos q] at e
   cases e
   cases qB hx q L.j9
   have z:=k.now R (first:=[.str (toStr y) t]) ⟨rfl,_,rfl⟩
   with_reducible exact GM.join z
  ·rw [if_neg q] at e
   obtain ⟨q,e⟩:=aW e;cases e
   cases qB hx q L.g7
   have z:=k.now R (first:=[.str (toStr y) t]) ⟨rfl,_,rfl⟩
   with_reducible exact GM.startswith z
 |jk ks vs=>
  have e:(if (a==D.pm.mH)=true then some (kY.copy ks vs) else if (a==D.pm.zO)=true then some (.get ks vs) else none)=some c:=e
  by_cases q:(a==D.pm.mH)=true
  ·rw [if_pos q] at e
   cases e
   cases qB hx q L.mH
   have z:=k.now R (f:=.builtin "dict.copy") (first:=[va]) ⟨rfl,_,rfl,hv⟩
   obtain ⟨ad,o,es,n,rfl,hs,OL,g,TY,JH,hl,BV,Yn⟩:=hv
   with_reducible exact x9 (R.keep _ _ g) TY F.slot_dict_copy F.type_dict_copy z
  ·rw [if_neg q] at e
   obtain ⟨q,e⟩:=aW e;cases e
   cases qB hx q L.zO
   have z:=k.now R (f:=.builtin "dict.get") (first:=[va]) ⟨rfl,_,rfl,hv⟩
   obtain ⟨ad,o,es,n,rfl,hs,OL,g,TY,JH,hl,BV,Yn⟩:=hv
   with_reducible exact x9 (R.keep _ _ g) TY F.slot_dict_get F.type_dict_get z
 |_=>exact (aY _ e.symm).elim
end
noncomputable def vZ:MV→Str
 |.str x=>toStr x
 |_=>Str.empty
structure ud(D:bZ){κ:Type}[DecidableEq κ](K:KeyKind D.prog D.w κ)(dec:MV→κ)(ik:MV→Prop):Prop where
 TZ:∀{a b},ik a→ik b→iI a b=some (decide (dec a=dec b))
 key:∀{a},ik a→JG K a (dec a)
 T5:∀{a v G ρ},ik a→VR D G ρ a v→K.is (dec a) v=true
 bk:∀{a} {e:DictEntry},ik a→K.is (dec a) e.key=true→e.hash=K.hash (dec a)→tN D.w a e
theorem ql{α:Type}{l:List Str}{r:List α}(nd:l.Nodup):((l.zip r).map (·.1)).Nodup:=nd.sublist (by
 induction l generalizing r with
 |nil=>exact .slnil
 |cons a l ih=>cases r with
  |nil=>exact List.nil_sublist _
  |cons b r=>exact (ih (List.nodup_cons.mp nd).2).cons_cons a)
theorem O3(D:bZ):ud D (PySem.strKind D.prog D.w) vZ λm=>∃x,m=.str x where
 TZ:=by rintro _ _ ⟨x,rfl⟩ ⟨y,rfl⟩;exact congrArg some (decide_eq_decide.mpr ⟨congrArg toStr,jY⟩)
 key:=by rintro _ ⟨x,rfl⟩;exact Lh x
 T5:=by rintro _ v G ρ ⟨x,rfl⟩ hv;obtain ⟨t,rfl⟩:=dQ hv;exact strKind_is _ _ _ _
 bk:=by rintro _ e ⟨x,rfl⟩ h1 h2;exact (Value.isStrOf_shape h1).imp λt ht=>⟨ht,h2⟩
section
variable {D:bZ}{h₀:Heap}{G:Fz}{ρ:List PR}{h:Hp}{s:Shared}{A:Around}{Ex:Value→Shared→Prop}{K:Frag}{mg mb:Str→Option Value}{n:Nat}{κ:Type}[DecidableEq κ]{Kd:KeyKind D.prog D.w κ}{dec:MV→κ}{ik:MV→Prop}
theorem ud.O4(Z:ud D Kd dec ik){x:MV}{ks:List MV}(hx:ik x)(hk:∀m∈ks,ik m)(e:dh x ks=some false):dec x∉ks.map dec:=by
 induction ks with
 |nil=>exact fF
 |cons y ks ih=>
  have e:(match iI y x,dh x ks with
   |some b,some c=>some (b||c)
   |_,_=>none)=some false:=e
  rw [Z.TZ (hk y (b7 ..)) hx] at e
  cases q:dh x ks with
  |none=>rw [q] at e;exact (aY _ e.symm).elim
  |some c=>rw [q] at e;have e:=Bool.or_eq_false_iff.mp (bJ e);exact λm=>(bO.mp m).elim (λz=>of_decide_eq_false e.1 z.symm) (ih (λm h=>hk m (bP _ h)) (q.trans (congrArg some e.2)))
theorem ud.nodup(Z:ud D Kd dec ik){ks:List MV}(hk:∀m∈ks,ik m)(e:keysOk ks=true):(ks.map dec).Nodup:=by
 induction ks with
 |nil=>exact List.nodup_nil
 |cons k ks ih=>
  have e:=aZ.mp e;have Cs:=λm h=>hk m (bP _ h)
  refine List.nodup_cons.mpr ⟨?_,ih Cs e.2⟩
  cases q:dh k ks with
  |none=>rw [q] at e;exact (bR e.1).elim
  |some b=>cases b with
   |true=>rw [q] at e;exact (bR e.1).elim
   |false=>exact Z.O4 (hk k (b7 ..)) Cs q
theorem oE.pairs(Z:ud D Kd dec ik){ks vs:List MV}{es:List DictEntry}(H:oE D G ρ ks vs es)(hk:∀m∈ks,ik m):Pairs Kd es ((ks.map dec).zip (es.map (·.val))):=by
 induction H with
 |nil=>exact .nil
 |cons k v _ ih=>exact .cons (Z.key (hk _ (b7 ..)) _ k).1 rfl (ih λm h=>hk m (bP _ h))
set_option tactic.hygienic true in
theorem qC{ks:List MV}:∀{vals:List Value} {es:List DictEntry},ks.length=vals.length→Pairs Kd es ((ks.map dec).zip vals)→(∀e∈es,∃k,Kd.is k e.key=true∧e.hash=Kd.hash k)→
  ks.length=es.length∧es.map (·.val)=vals∧∀(j:Nat) (k:MV) (e:DictEntry),ks[j]? =some k→es[j]? =some e→Kd.is (dec k) e.key=true∧e.hash=Kd.hash (dec k):=by
 induction ks with
 |nil=>
  intro vals es hl hp _;obtain rfl:=List.eq_nil_of_length_eq_zero hl.symm;cases hp
  exact ⟨rfl,rfl,λj k e a=>(aY _ a.symm).elim⟩
 |cons k ks ih=>
  intro vals es hl hp hk
  cases vals with
  |nil=>exact absurd hl (Nat.succ_ne_zero _)
  |cons v vals=>cases hp with
   |cons h1 h2 h3=>
    rename_i e es;have q:=ih (Nat.succ.inj hl) h3 λe he=>hk e (bP _ he)
    have e0:Kd.is (dec k) e.key=true∧e.hash=Kd.hash (dec k):=(hk e (b7 ..)).elim λk' z=>⟨h1,z.2.trans (congrArg Kd.hash (Kd.inj _ _ _ h1 z.1:dec k=k').symm)⟩
    refine ⟨congrArg (·+1) q.1,?_,λj k' e' a b=>?_⟩
    ·rw [List.map_cons,q.2.1,h2]
    ·cases j with
     |zero=>exact bJ a▸bJ b▸e0
     |succ j=>exact q.2.2 j k' e' a b
theorem Ct(L:cD D K h₀ mg mb){ks vs:List MV}{vd:Value}{Q:Value→Shared→Prop}(R:Rep D h₀ G ρ h s)(hd:VR D G ρ (.jk ks vs) vd)(hs:strKeys ks=true)(ho:keysOk ks=true)(k:bY D h₀ G ρ s (.jk ks vs) h Q)(hz:ks.length≤100):
  wpAny (model D.prog D.w) A (call (.builtin "dict.copy") [vd]) Q Ex s:=by
 obtain ⟨a,o,es,n,rfl,OT,OL,g,hx,JH,hl,BV,hv⟩:=hd;have JJ:=R.keep _ _ g;have Bt:(a==sysModules)=false:=beq_eq_false_iff_ne.mpr OT;have H:=xS hl BV hv;have hm:=λm (h:m∈ks)=>jH hs h
 refine call_meetsIn F.slot_dict_copy ⟨_,JJ,hx.1⟩ F.entry_dict_copy (F.args_dict_copy_1 _) (meets_dict_copy (PySem.strKind D.prog D.w) a Bt) ⟨(ks.map vZ).zip (es.map (·.val)),⟨o,es.toArray,n,JJ,hx,JH,λen OJ=>H.all (P:=λen=>∃k,(PySem.strKind D.prog D.w).is k en.key=true∧en.hash=(PySem.strKind D.prog D.w).hash k) (λk hk e kr=>⟨_,(O3 D).key (hm k hk) e kr⟩) en (Array.mem_toList_iff.mpr OJ),H.pairs (O3 D) hm,ql ((O3 D).nodup hm ho)⟩,?_,λh' Cu _ hk=>?_⟩
 ·rw [List.length_zip,cL,cL,sizeLine_eq];lia
 ·obtain ⟨o',Fq,O1,rA,Lq,Bs,Cs,O2,_⟩:=Cu
  obtain ⟨q1,q2,q3⟩:=qC (dec:=vZ) (by rw [cL];exact hl) O2 λe he=>Cs e (Array.mem_toList_iff.mp he)
  have nn:s.heap.objs.size∉bM ρ:=R.iu (bf _);have R1:=(R.keeps (s':={s with heap:=h'}) hk).freeze (a:=s.heap.objs.size) (o:=o') rA nn
  refine k (.ref s.heap.objs.size) {s with heap:=h'} _ ρ (.add G ρ s _ _ _ (bf _) (ir hk)) R1 ⟨rfl,rfl,rfl,λb o _ e=>hk b o e⟩ ?_
  refine ⟨s.heap.objs.size,o',Fq.toList,O1,rfl,?_,.inl hs,.inr ⟨rfl,rfl⟩,Lq,by simpa using Bs,q1,λj k e a b=>(O3 D).bk (hm k (List.mem_of_getElem? a)) (q3 j k e a b).1 (q3 j k e a b).2,?_⟩
  ·obtain ⟨om,hm⟩:=L.OP
   have:=Heap.lt_size (R.keep _ _ (R.base _ _ hm));exact Nat.ne_of_gt this
  ·rw [q2];exact cB.mono (Fz.i0 _ _ _) (.refl _) _ _ hv
theorem GY{ks vs:List MV}{kk dflt v:MV}{vd vk T6:Value}{r:Option MV}{Q:Value→Shared→Prop}(R:Rep D h₀ G ρ h s)(hd:VR D G ρ (.jk ks vs) vd)(hk:VR D G ρ kk vk)(hf:VR D G ρ dflt T6)(e:gc kk ks vs=some r)(ev:v=r.getD dflt)(k:bY D h₀ G ρ s v h Q):
  wpAny (model D.prog D.w) A (call (.builtin "dict.get") [vd,vk,T6]) Q Ex s:=by
 cases lg R hd hk e with
 |mk K d x f Bt hx hm hr=>
  refine call_meetsIn F.slot_dict_get hm.typeIs F.entry_dict_get (F.args_dict_get_3 _ _ _) (meets_dict_get_default _ d hx Bt T6) ⟨f,hm,?_⟩;refine k.val R ?_ _;generalize f x=z at hr;subst ev
  cases hr with
  |no=>exact hf
  |so q=>exact q
theorem v5{x y:List Nat}{t u:Tok}{Q:Value→Shared→Prop}(R:Rep D h₀ G ρ h s)(k:bY D h₀ G ρ s (.bool (y.isPrefixOf x)) h Q):
  wpAny (model D.prog D.w) A (call (.builtin "str.startswith") [.str (toStr x) t,.str (toStr y) u]) Q Ex s:=by
 refine SC.startswith ?_;have:Txt.startswith (toStr x) (toStr y)=y.isPrefixOf x:=by
  unfold Txt.startswith;rw [StrLaws.subAt_eq,aU,aU,fO,fO,List.drop_zero];rw [Bool.eq_iff_iff,Bool.and_eq_true,beq_iff_eq,decide_eq_true_eq,List.isPrefixOf_iff_prefix];constructor
  ·rintro ⟨_,e⟩;rw [← e];exact List.take_prefix _ _
  ·intro p
   exact ⟨by have:=p.length_le;lia,(List.prefix_iff_eq_take.mp p).symm⟩
 rw [this];exact k.gz R VR.bool
end
section
variable {D:bZ}{h₀:Heap}{G:Fz}{ρ:List PR}{h:Hp}{s:Shared}{A:Around}{Ex:Value→Shared→Prop}{K:Frag}{mg mb:Str→Option Value}{n:Nat}
end
end
section
open PySem PySem.W PySem.Calls PyProof.Rows PySem.SeqAt
set_option backward.match.sparseCases true
theorem mW{D:bZ}{A:Around}{Ex:Value→Shared→Prop}{s:Shared}{env:Env}{e:Expr}{m:MV}{Q:Value→Shared→Prop}(ec:iD e=some m)(k:∀v t,(∀G ρ,VR D G ρ m v)→Q v {s with toks:=t}):wpAny (model D.prog D.w) A (eval e env) Q Ex s:=by
 cases e with
 |Constant c p q=>
  cases c with
  |int i=>obtain rfl:=aC (aW ec).2;exact wpAny_Constant_int (k _ _ λG ρ=>VR.int)
  |str x=>obtain rfl:=aC (aW ec).2;exact wpAny_Constant_str (k _ _ λG ρ=>tO (x:=x)▸VR.str (D:=D) (G:=G) (ρ:=ρ) (x:=x.cps.toList) (t:=s.toks) (aW ec).1)
  |_=>exact no ec
 |_=>exact no ec
theorem oR{D:bZ}{A:Around}{Ex:Value→Shared→Prop}{env:Env}{pos:Pos}:∀{keys:List (Option Expr)} {values:List Expr} {ks vs:List MV} {s:Shared} {Q:List (Value×Value)→Shared→Prop},keys.mapM (λk=>k.bind iD)=some ks→values.mapM iD=some vs→ks.length=vs.length→
  (∀as bs t,(∀G ρ,cB D G ρ ks as)→(∀G ρ,cB D G ρ vs bs)→Q (as.zip bs) {s with toks:=t})→wpAny (model D.prog D.w) A (evalPairs (pairTrees keys values env pos)) Q Ex s
 |[],[],ks,vs,s,Q,e1,e2,_,k=>by rw [mapM_nil e1,mapM_nil e2] at k;exact pairTrees_nil_walk (k [] [] s.toks (λ_ _=>.nil) λ_ _=>.nil)
 |[],_::_,ks,vs,s,Q,e1,e2,hl,k=>by obtain ⟨b,q,_,_,rfl⟩:=mapM_cons e2;rw [mapM_nil e1] at hl;simp at hl
 |_::_,[],ks,vs,s,Q,e1,e2,hl,k=>by obtain ⟨b,q,_,_,rfl⟩:=mapM_cons e1;rw [mapM_nil e2] at hl;simp at hl
 |ke::keys,ve::values,ks,vs,s,Q,e1,e2,hl,k=>by
  obtain ⟨m,q,e3,e4,rfl⟩:=mapM_cons e1;obtain ⟨m',q',e5,e6,rfl⟩:=mapM_cons e2;obtain ⟨kx,rfl,e3⟩:=aL.mp e3;refine pairTrees_cons_walk ?_;refine mW e3 λva t1 Ae=>mW e5 λvb t2 Yo=>?_
  refine oR e4 e6 (by simpa using hl) λas bs t ha hb=>?_
  exact k (va::as) (vb::bs) t (λG ρ=>.cons (Ae G ρ) (ha G ρ)) λG ρ=>.cons (Yo G ρ) (hb G ρ)
section
variable {D:bZ}{h₀:Heap}{G:Fz}{ρ:List PR}{h:Hp}{s:Shared}{A:Around}{Ex:Value→Shared→Prop}{K:Frag}{mg mb:Str→Option Value}{KT:Type}[DecidableEq KT]
theorem oS{knd:KeyKind D.prog D.w KT}{dec:MV→KT}:∀{ks:List MV} {as bs:List Value},(∀m∈ks,∀v,VR D G ρ m v→knd.is (dec m) v=true)→cB D G ρ ks as→ks.length=bs.length→Carries knd (as.zip bs) ((ks.map dec).zip bs)
 |[],as,bs,_,h,_=>by rw [h.nil_inv];trivial
 |m::ks,as,bs,hk,h,hl=>by
  obtain ⟨v,ws,rfl,hv,hr⟩:=h.cons_inv
  cases bs with
  |nil=>simp at hl
  |cons b bs=>exact ⟨hk m (b7 ..) v hv,rfl,oS (λm hm=>hk m (bP _ hm)) hr (by simpa using hl)⟩
theorem Ag(L:cD D K h₀ mg mb){knd:KeyKind D.prog D.w KT}{dec:MV→KT}{ks vs:List MV}{keys:List (Option Expr)}{values:List Expr}{pos:Pos}{env:Env}{Q:Value→Shared→Prop}(R:Rep D h₀ G ρ h s)
  (hk:∀m∈ks,∀v,VR D G ρ m v→knd.is (dec m) v=true) (hK:∀m∈ks,∀e:DictEntry,knd.is (dec m) e.key=true→e.hash=knd.hash (dec m)→tN D.w m e) (hn:(ks.map dec).Nodup) (Yp:strKeys ks=true∨intKeys ks=true)
  (e1:keys.mapM (λk=>k.bind iD)=some ks) (e2:values.mapM iD=some vs) (hl:ks.length=vs.length) (h15:ks.length≤15) (h0:ks≠[]) (k:bY D h₀ G ρ s (.jk ks vs) h Q):
  wpAny (model D.prog D.w) A (eval (.Dict keys values pos) env) Q Ex s:=by
 have v7:∀{keys:List (Option Expr)} {ks:List MV},keys.mapM (λk=>k.bind iD)=some ks→keys.all (·.isSome)=true:=by
  intro keys
  induction keys with
  |nil=>intro ks _;rfl
  |cons a keys ih=>intro ks e;obtain ⟨m,q,e3,e4,rfl⟩:=mapM_cons e;obtain ⟨kx,rfl,e3⟩:=aL.mp e3;rw [List.all_cons,ih e4];rfl
 have l1:=(oN e1).1;have l2:=(oN e2).1;refine wpAny_Dict_walk (knd:=knd) (v7 e1) (by lia) (λz=>h0 (by rw [z] at l1;exact List.length_eq_zero_iff.mp l1)) (by lia) ?_
 refine oR e1 e2 hl λas bs t ha hb=>?_
 have lb:ks.length=bs.length:=hl.trans (hb G ρ).length;have lz:((ks.map dec).zip bs).map (·.1)=ks.map dec:=by rw [List.map_fst_zip];simp [lb]
 refine ⟨(ks.map dec).zip bs,oS hk (ha G ρ) lb,⟨emptyDict,#[],0,Heap.get?_push_size _ rfl,⟨rfl,rfl,rfl⟩,rfl,λe he=>by simp at he,.nil,List.nodup_nil⟩,λh' hd hs=>?_⟩
 rw [merged_nil_of_nodup _ (by rw [lz];exact hn)] at hd
 obtain ⟨o',Fq,O1,rA,Lq,Bs,Cs,O2,_⟩:=hd;obtain ⟨q1,q2,q3⟩:=qC (dec:=dec) lb O2 λe he=>Cs e (Array.mem_toList_iff.mp he)
 have nn:s.heap.objs.size∉bM ρ:=R.iu (bf _);have kp:∀b o,s.heap.get? b=some o→h'.get? b=some o:=λb o e=>(hs.2 b (Nat.ne_of_lt (Heap.lt_size e))).trans (Heap.get?_push_of_some _ e)
 have R1:=(R.keeps (s':={s with heap:=h',toks:=t+(as.zip bs).length}) kp).freeze (a:=s.heap.objs.size) (o:=o') rA nn
 refine k (.ref s.heap.objs.size) _ _ ρ (.add G ρ s _ _ _ (bf _) (ir kp)) R1 ⟨rfl,rfl,rfl,λb o _ e=>kp b o e⟩ ?_
 refine ⟨s.heap.objs.size,o',Fq.toList,O1,rfl,?_,Yp,.inr ⟨rfl,rfl⟩,Lq,by simpa using Bs,q1,λj m e a b=>?_,?_⟩
 ·obtain ⟨om,hm⟩:=L.OP
  exact Nat.ne_of_gt (Heap.lt_size (R.keep _ _ (R.base _ _ hm)))
 ·obtain ⟨z1,z2⟩:=q3 j m e a b
  exact hK m (List.mem_of_getElem? a) e z1 z2
 ·rw [q2];exact hb _ _
noncomputable def Ly:MV→Int
 |.int i=>i
 |_=>0
theorem Yq(D:bZ):ud D (PySem.intKind D.prog D.w) Ly λm=>∃x,m=.int x where
 TZ:=by rintro _ _ ⟨x,rfl⟩ ⟨y,rfl⟩;rfl
 key:=by rintro _ ⟨x,rfl⟩;exact Li x
 T5:=by rintro _ v G ρ ⟨x,rfl⟩ hv;obtain ⟨t,rfl⟩:=di hv;exact decide_eq_true rfl
 bk:=by rintro _ e ⟨x,rfl⟩ h1 h2;exact (Value.isInt_shape h1).imp λt ht=>⟨ht,h2⟩
theorem Cw(L:cD D K h₀ mg mb){ks vs:List MV}{keys:List (Option Expr)}{values:List Expr}{pos:Pos}{env:Env}{Q:Value→Shared→Prop}(R:Rep D h₀ G ρ h s)
  (e1:keys.mapM (λk=>k.bind iD)=some ks) (e2:values.mapM iD=some vs) (hc:((strKeys ks||intKeys ks)&&keysOk ks&&ks.length==vs.length&&decide (ks.length≤15)&& !ks.isEmpty)=true) (k:bY D h₀ G ρ s (.jk ks vs) h Q):
  wpAny (model D.prog D.w) A (eval (.Dict keys values pos) env) Q Ex s:=by
 simp only [Bool.and_eq_true,Bool.or_eq_true,beq_iff_eq,decide_eq_true_eq,Bool.not_eq_true',List.isEmpty_eq_false_iff] at hc;obtain ⟨⟨⟨⟨c1,c2⟩,c3⟩,c4⟩,c5⟩:=hc;have go:∀{κ:Type} [DecidableEq κ] {Kd:KeyKind D.prog D.w κ} {dec:MV→κ} {ik:MV→Prop},ud D Kd dec ik→(∀m∈ks,ik m)→wpAny (model D.prog D.w) A (eval (.Dict keys values pos) env) Q Ex s:=λZ hm=>Ag L R (λm h v hv=>Z.T5 (hm m h) hv) (λm h e a b=>Z.bk (hm m h) a b) (Z.nodup hm c2) c1 e1 e2 c3 c4 c5 k
 exact c1.elim (λc=>go (O3 D) λm=>jH c) λc=>go (Yq D) λm=>mL c
end
end
section
open PySem PySem.W PySem.Calls PyProof.Rows PySem.SeqAt
def Al{α:Type}(o:Option α)(P:α→Prop):Prop:=∀a,o=some a→P a
section
variable {α β:Type}{o:Option α}{f:α→Option β}{P:α→Prop}{R:β→Prop}
theorem Al.some{a:α}(h:P a):Al (some a) P:=λ_ e=>bJ e▸h
theorem Al.none:Al none P:=λ_ e=>(aY _ e.symm).elim
theorem Al.bind(h:Al o P)(k:∀a,P a→Al (f a) R):Al (o.bind f) R:=λr e=>match aL.mp e with
 |⟨a,e1,e2⟩=>k a (h a e1) r e2
theorem Al.map{f:α→β}(h:Al o λa=>R (f a)):Al (o.map f) R:=λr e=>match dw.mp e with
 |⟨a,e1,e2⟩=>e2▸h a e1
theorem Al.ite{c:Prop}[Decidable c](h:c→Al o P):Al (if c then o else Option.none) P:=λr e=>if q:c then h q r (by rw [if_pos q] at e;exact e) else by rw [if_neg q] at e;cases e
theorem Al.rN{c:Prop}[Decidable c](h:¬ c→Al o P):Al (if c then Option.none else o) P:=λr e=>if q:c then by rw [if_pos q] at e;cases e else h q r (by rw [if_neg q] at e;exact e)
theorem Al.self:Al o λa=>o=Option.some a:=λ_ e=>e
end
theorem Al.mapM{α β:Type}{g:α→Option β}(l:List α):Al (l.mapM g) (bV (λa b=>g a=Option.some b) l):=by
 induction l with
 |nil=>exact λr e=>mapM_nil e▸.nil
 |cons a l ih=>exact λr e=>match mapM_cons e with|⟨b,q,e1,e2,e3⟩=>e3▸.cons e1 (ih q e2)
structure Wd where
 G:Fz
 ρ:List PR
 s:Shared
structure Ctx where
 D:bZ
 h₀:Heap
 A:Around
structure Fr where
 ci:CI
 env:Env
abbrev Ok(X:Ctx)(h:Hp)(W:Wd):Prop:=Rep X.D X.h₀ W.G W.ρ h W.s
abbrev V(X:Ctx)(W:Wd)(m:MV)(v:Value):Prop:=VR X.D W.G W.ρ m v
abbrev Vs(X:Ctx)(W:Wd)(m:List MV)(v:List Value):Prop:=cB X.D W.G W.ρ m v
abbrev dZ(X:Ctx)(f:Fr)(l:Loc)(h:Hp)(W:Wd):Prop:=SR X.D X.h₀ f.ci f.env W.G W.ρ l h W.s
structure Go(F:List Addr)(W W':Wd):Prop where
 g:fh W.G W'.G W.ρ W'.ρ W.s W'.s
 st:gK (bM W.ρ++F) W.s W'.s
theorem Go.refl{F:List Addr}(W:Wd):Go F W W:=⟨.refl _ _ _,.refl _ _⟩
theorem Go.trans{F:List Addr}{W W' WA:Wd}(x:Go F W W')(y:Go F W' WA):Go F W WA:=⟨x.g.trans y.g,x.st.seq x.g y.st⟩
theorem Go.aP{W W':Wd}(x:Go [] W W'):gK (bM W.ρ) W.s W'.s:=by have:=x.st;rwa [cM] at this
theorem Go.nQ{F:List Addr}{W W':Wd}(x:Go [] W W'):Go F W W':=⟨x.g,x.aP.nQ⟩
theorem Go.of{G':Fz}{cA:List PR}{s':Shared}{W:Wd}(g:fh W.G G' W.ρ cA W.s s')(st:gK (bM W.ρ) W.s s'):Go [] W ⟨G',cA,s'⟩:=⟨g,st.nQ⟩
theorem Go.v{X:Ctx}{F:List Addr}{W W':Wd}{m:MV}{v:Value}(x:Go F W W')(h:V X W m v):V X W' m v:=VR.mono x.g.g x.g.r _ _ h
theorem Go.vs{X:Ctx}{F:List Addr}{W W':Wd}{m:List MV}{v:List Value}(x:Go F W W')(h:Vs X W m v):Vs X W' m v:=cB.mono x.g.g x.g.r _ _ h
theorem Go.qm{X:Ctx}{f:Fr}{l:Loc}{h h':Hp}{W W':Wd}(S:dZ X f l h W)(x:Go [] W W')(r:Ok X h' W'):dZ X f l h' W':=S.after x.g r x.aP
noncomputable abbrev Wd.tk(W:Wd)(t:Nat):Wd:=⟨W.G,W.ρ,{W.s with toks:=t}⟩
theorem Go.tk{F:List Addr}{W:Wd}(t:Nat):Go F W (W.tk t):=⟨.same (λ_ h=>h),.toks⟩
abbrev bA{α:Type}(X:Ctx)(c:Sem α)(Q:α→Shared→Prop)(Ex:Value→Shared→Prop)(s:Shared):Prop:=wpAny (model X.D.prog X.D.w) X.A c Q Ex s
def aD(X:Ctx)(F:List Addr)(W:Wd){α β:Type}(c:Sem α)(o:Option β)(R:Wd→α→β→Prop):Prop:=∀b,o=some b→∀(Q:α→Shared→Prop) (Ex:Value→Shared→Prop),(∀W' a,Go F W W'→R W' a b→Q a W'.s)→bA X c Q Ex W.s
noncomputable def RV(X:Ctx):Wd→Value→MV×Hp→Prop:=λW v b=>Ok X b.2 W∧V X W b.1 v
noncomputable def T7(X:Ctx):Wd→Bool→Bool×Hp→Prop:=λW t b=>Ok X b.2 W∧t=b.1
noncomputable def Yr(X:Ctx){β:Type}(x:β×Hp):Wd→Bool→Bool→Prop:=λW t b=>Ok X x.2 W∧t=b
noncomputable def Ys(X:Ctx){β:Type}(x:β×Hp):Wd→Value→Bool→Prop:=λW t b=>Ok X x.2 W∧V X W (.bool b) t
noncomputable def RF(X:Ctx)(f:Fr)(l:Loc):Wd→Value→MV×Hp→Prop:=λW v b=>dZ X f l b.2 W∧V X W b.1 v
noncomputable def Lz(X:Ctx)(f:Fr)(l:Loc):Wd→Bool→Bool×Hp→Prop:=λW t b=>dZ X f l b.2 W∧t=b.1
noncomputable def WB(X:Ctx)(f:Fr)(l:Loc):Wd→List Value→List MV×Hp→Prop:=λW v b=>dZ X f l b.2 W∧Vs X W b.1 v
def O5(X:Ctx)(W:Wd)(m:Option MV)(v:Value):Prop:=match m with|none=>v=.none|some m=>V X W m v
noncomputable def Yt(X:Ctx)(f:Fr)(l:Loc):Wd→Value→Option MV×Hp→Prop:=λW v b=>dZ X f l b.2 W∧O5 X W b.1 v
section
variable {X:Ctx}{F:List Addr}{W:Wd}{f:Fr}{l:Loc}{h:Hp}{α β γ δ ε:Type}{c:Sem α}{o:Option β}{R:Wd→α→β→Prop}
theorem aD.no:aD X F W c (none:Option β) R:=λ_ e=>(aY _ e.symm).elim
theorem aD.ret{a:α}{b:β}(r:R W a b):aD X F W (pure a) (some b) R:=λ_ e _ _ K=>wpAny_pure (K W a (.refl _) (bJ e▸r))
theorem aD.to{c':Sem α}(r:∀Q Ex,bA X c Q Ex W.s→bA X c' Q Ex W.s)(s:aD X F W c o R):aD X F W c' o R:=λb e Q Ex K=>r Q Ex (s b e Q Ex K)
theorem aD.eq{c':Sem α}(r:c'=c)(s:aD X F W c o R):aD X F W c' o R:=r▸s
theorem aD.mono{R':Wd→α→β→Prop}(s:aD X F W c o R)(r:∀W' a b,Go F W W'→R W' a b→R' W' a b):aD X F W c o R':=λb e Q Ex K=>s b e Q Ex λW' a g q=>K W' a g (r W' a b g q)
theorem aD.nQ(s:aD X [] W c o R):aD X F W c o R:=λb e Q Ex K=>s b e Q Ex λW' a g q=>K W' a g.nQ q
theorem aD.T8{c':Sem γ}{k:α→Sem γ}{g:β→Option δ}{R':Wd→γ→δ→Prop}(rule:∀Q Ex,bA X c (λa s1=>bA X (k a) Q Ex s1) Ex W.s→bA X c' Q Ex W.s)(s:aD X F W c o R)
  (q:∀W' a b,Go F W W'→R W' a b→aD X F W' (k a) (g b) R'):aD X F W c' (o.bind g) R':=λr e Q Ex K=>match aL.mp e with
 |⟨b,e1,e2⟩=>rule Q Ex (s b e1 _ Ex λW' a g1 r1=>q W' a b g1 r1 r e2 Q Ex λW2 a2 g2 r2=>K W2 a2 (g1.trans g2) r2)
theorem pairs{β gW:Type}{P:β×gW→Prop}(h:∀a b,P (a,b))(x:β×gW):P x:=match x with|(a,b)=>h a b
theorem aD.rO{gW:Type}{c':Sem γ}{o:Option (β×gW)}{R:Wd→α→β×gW→Prop}{k:α→Sem γ}{g:β×gW→Option δ}{R':Wd→γ→δ→Prop}(rule:∀Q Ex,bA X c (λa s1=>bA X (k a) Q Ex s1) Ex W.s→bA X c' Q Ex W.s)(s:aD X F W c o R)
  (q:∀W' a v h',Go F W W'→R W' a (v,h')→aD X F W' (k a) (g (v,h')) R'):aD X F W c' (o.bind g) R':=s.T8 rule λW' a=>pairs (q W' a)
theorem aD.bind{gW:Type}{o:Option (β×gW)}{R:Wd→α→β×gW→Prop}{k:α→Sem γ}{g:β×gW→Option δ}{R':Wd→γ→δ→Prop}(s:aD X F W c o R)(q:∀W' a v h',Go F W W'→R W' a (v,h')→aD X F W' (k a) (g (v,h')) R'):aD X F W (c >>=k) (o.bind g) R':=s.rO (λ_ _=>wpAny_bind) q
theorem aD.O6{c':Sem γ}{j:α→γ}{g:β→Option δ}{R':Wd→γ→δ→Prop}(rule:∀Q Ex,bA X c (λa s1=>Q (j a) s1) Ex W.s→bA X c' Q Ex W.s)(s:aD X F W c o R)
  (q:∀W' a b,Go F W W'→R W' a b→Al (g b) (R' W' (j a))):aD X F W c' (o.bind g) R':=λr e Q Ex K=>match aL.mp e with
 |⟨b,e1,e2⟩=>rule Q Ex (s _ e1 _ Ex λW' a g1 r1=>K W' (j a) g1 (q W' a b g1 r1 r e2))
theorem aD.fin{gW:Type}{c':Sem γ}{o:Option (β×gW)}{R:Wd→α→β×gW→Prop}{j:α→γ}{g:β×gW→Option δ}{R':Wd→γ→δ→Prop}(rule:∀Q Ex,bA X c (λa s1=>Q (j a) s1) Ex W.s→bA X c' Q Ex W.s)(s:aD X F W c o R)
  (q:∀W' a v h',Go F W W'→R W' a (v,h')→Al (g (v,h')) (R' W' (j a))):aD X F W c' (o.bind g) R':=s.O6 rule λW' a=>pairs (q W' a)
theorem aD.then{gW:Type}{o:Option (β×gW)}{R:Wd→α→β×gW→Prop}{g:β×gW→Option δ}{R':Wd→α→δ→Prop}(s:aD X F W c o R)(q:∀W' a v h',Go F W W'→R W' a (v,h')→Al (g (v,h')) (R' W' a)):aD X F W c (o.bind g) R':=s.fin (λ_ _ h=>h) q
theorem aD.qD{gW ε ζ:Type}{c':Sem ε}{o:Option (β×gW)}{R:Wd→α→β×gW→Prop}{d:α→Sem γ}{k:α→γ→Sem ε}{o2:β×gW→Option δ}{g:β×gW→δ→Option ζ}{R2:β×gW→Wd→γ→δ→Prop}{R':Wd→ε→ζ→Prop}
  (rule:∀Q Ex,bA X c (λa s1=>bA X (d a) (λb s2=>bA X (k a b) Q Ex s2) Ex s1) Ex W.s→bA X c' Q Ex W.s) (s:aD X F W c o R) (s2:∀W' a v h',Go F W W'→R W' a (v,h')→aD X F W' (d a) (o2 (v,h')) (R2 (v,h')))
  (q:∀W' W2 a v h' a2 b2,Go F W W'→R W' a (v,h')→Go F W' W2→R2 (v,h') W2 a2 b2→aD X F W2 (k a a2) (g (v,h') b2) R'):aD X F W c' (o.bind λx=>(o2 x).bind (g x)) R':=λr e Q Ex K=>match aL.mp e with
 |⟨(_,_),e1,e2⟩=>match aL.mp e2 with
  |⟨_,e3,e4⟩=>rule Q Ex (s _ e1 _ Ex λW' a g1 r1=>s2 W' a _ _ g1 r1 _ e3 _ Ex λW2 a2 g2 r2=>q W' W2 a _ _ a2 _ g1 r1 g2 r2 r e4 Q Ex λW3 a3 g3 r3=>K W3 a3 ((g1.trans g2).trans g3) r3)
theorem aD.LA{gW LB ε ζ:Type}{c':Sem ε}{o:Option (β×gW)}{R:Wd→α→β×gW→Prop}{d:α→Sem γ}{k:α→γ→Sem ε}{o2:β×gW→Option (δ×LB)}{g:β×gW→δ×LB→Option ζ}{R2:Wd→γ→δ×LB→Prop}{R':Wd→ε→ζ→Prop}
  (rule:∀Q Ex,bA X c (λa s1=>bA X (d a) (λb s2=>bA X (k a b) Q Ex s2) Ex s1) Ex W.s→bA X c' Q Ex W.s) (s:aD X F W c o R) (s2:∀W' a v h',Go F W W'→R W' a (v,h')→aD X F W' (d a) (o2 (v,h')) R2)
  (q:∀W' W2 a v h' a2 v2 h2,Go F W W'→R W' a (v,h')→Go F W' W2→R2 W2 a2 (v2,h2)→aD X F W2 (k a a2) (g (v,h') (v2,h2)) R'):aD X F W c' (o.bind λx=>(o2 x).bind (g x)) R':=s.qD (R2:=λ_=>R2) rule s2 λW' W2 a v h' a2=>pairs (q W' W2 a v h' a2)
theorem aD.fin2{gW LB ε ζ:Type}{c':Sem ε}{o:Option (β×gW)}{R:Wd→α→β×gW→Prop}{d:α→Sem γ}{j:α→γ→ε}{o2:β×gW→Option (δ×LB)}{g:β×gW→δ×LB→Option ζ}{R2:Wd→γ→δ×LB→Prop}{R':Wd→ε→ζ→Prop}
  (rule:∀Q Ex,bA X c (λa s1=>bA X (d a) (λb s2=>Q (j a b) s2) Ex s1) Ex W.s→bA X c' Q Ex W.s) (s:aD X F W c o R) (s2:∀W' a v h',Go F W W'→R W' a (v,h')→aD X F W' (d a) (o2 (v,h')) R2)
  (q:∀W' W2 a v h' a2 v2 h2,Go F W W'→R W' a (v,h')→Go F W' W2→R2 W2 a2 (v2,h2)→Al (g (v,h') (v2,h2)) (R' W2 (j a a2))):aD X F W c' (o.bind λx=>(o2 x).bind (g x)) R':=λr e Q Ex K=>match aL.mp e with
 |⟨(_,_),e1,e2⟩=>match aL.mp e2 with
  |⟨(_,_),e3,e4⟩=>rule Q Ex (s _ e1 _ Ex λW' a g1 r1=>s2 W' a _ _ g1 r1 _ e3 _ Ex λW2 a2 g2 r2=>K W2 (j a a2) (g1.trans g2) (q W' W2 a _ _ a2 _ _ g1 r1 g2 r2 r e4))
theorem aD.assoc{o2:β→Option γ}{g:γ→Option δ}{c':Sem ε}{R':Wd→ε→δ→Prop}(s:aD X F W c' (o.bind λx=>(o2 x).bind g) R'):aD X F W c' ((o.bind o2).bind g) R':=by rwa [Option.bind_assoc]
theorem aD.pick{g:β→Option δ}{c':Sem γ}{R':Wd→γ→δ→Prop}(q:∀b,o=some b→aD X F W c' (g b) R'):aD X F W c' (o.bind g) R':=λr e=>match aL.mp e with
 |⟨b,e1,e2⟩=>q b e1 r e2
theorem aD.cond{t v:Bool}{c2:Sem α}{o2:Option β}(e:t=v)(h1:aD X F W c o R)(h2:aD X F W c2 o2 R):aD X F W (if t=true then c else c2) (if v=true then o else o2) R:=by
 subst e;cases t
 ·exact h2
 ·exact h1
theorem aD.JM{v:Bool}{c2:Sem α}{o2:Option β}(h1:aD X F W c o R)(h2:v=false→aD X F W c2 o2 R):aD X F W (if v=true then c else c2) (if v=true then o else o2) R:=by
 cases v
 ·exact h2 rfl
 ·exact h1
theorem aD.ite{p:Prop}[Decidable p](q:p→aD X F W c o R):aD X F W c (if p then o else none) R:=λb e=>if z:p then q z b (by rw [if_pos z] at e;exact e) else by rw [if_neg z] at e;cases e
theorem aD.frame{c:Sem Value}{o:Option (MV×Hp)}(S:dZ X f l h W)(s:aD X [] W c o (RV X)):aD X [] W c o (RF X f l):=s.mono λW' a b g r=>⟨g.qm S r.1,r.2⟩
theorem aD.Cy{c:Sem Bool}{o:Option (Bool×Hp)}(S:dZ X f l h W)(s:aD X [] W c o (T7 X)):aD X [] W c o (Lz X f l):=s.mono λW' a b g r=>⟨g.qm S r.1,r.2⟩
theorem aD.LC{c:Sem Value}{o:Option (MV×Hp)}(q:∀r h',o=some (r,h')→∀Q Ex,bY X.D X.h₀ W.G W.ρ W.s r h' Q→bA X c Q Ex W.s):aD X [] W c o (RV X):=λb e Q Ex K=>q b.1 b.2 e Q Ex λv s' G' cA g R st hv=>K ⟨G',cA,s'⟩ v (.of g st) ⟨R,hv⟩
theorem aD.LD{c:Sem Value}{o:Option MV}(q:∀r,o=some r→∀Q Ex,bY X.D X.h₀ W.G W.ρ W.s r h Q→bA X c Q Ex W.s):aD X [] W c (o.bind λr=>some (r,h)) (RV X):=λb e Q Ex K=>match aL.mp e with
 |⟨r,e1,e2⟩=>q r e1 Q Ex λv s' G' cA g R st hv=>K ⟨G',cA,s'⟩ v (.of g st) (bJ e2▸⟨R,hv⟩)
theorem aD.Yu{c:Sem Bool}{o:Option Bool}(q:∀r,o=some r→∀Q Ex,zR X.D X.h₀ W.G W.ρ W.s r h Q→bA X c Q Ex W.s):aD X [] W c (o.bind λr=>some (r,h)) (T7 X):=λb e Q Ex K=>match aL.mp e with
 |⟨r,e1,e2⟩=>q r e1 Q Ex λs' G' cA g R st=>K ⟨G',cA,s'⟩ r (.of g st) (bJ e2▸⟨R,rfl⟩)
theorem aD.T9{c:Sem Value}{v:Value}{m:MV}(S:dZ X f l h W)(rule:∀Q Ex,Q v W.s→bA X c Q Ex W.s)(hv:V X W m v):aD X [] W c (some (m,h)) (RF X f l):=λ_ e Q Ex K=>rule Q Ex (K W v (.refl _) (bJ e▸⟨S,hv⟩))
theorem aD.atT{c:Sem Value}{v:Value}{m:MV}{t:Nat}(S:dZ X f l h W)(rule:∀Q Ex,Q v {W.s with toks:=t}→bA X c Q Ex W.s)(hv:V X W m v):aD X [] W c (some (m,h)) (RF X f l):=λ_ e Q Ex K=>rule Q Ex (K (W.tk t) v (.tk t) (bJ e▸⟨(Go.tk t).qm S S.rep.toks,hv⟩))
end
structure gf(X:Ctx)(n:Nat)(f:Fr):Prop where
 ci:B6 X.D f.ci
 env:iK f.ci f.env
 A:qk n X.A
theorem gf.pred{X:Ctx}{n:Nat}{f:Fr}(h:gf X (n+1) f):gf X n f:=⟨h.ci,h.env,h.A.pred⟩
def iw(X:Ctx)(n:Nat)(f:Fr)(e:Expr)(m:ai):Prop:=∀l h W,dZ X f l h W→aD X [] W (eval e f.env) ((E X.D.pm n).ev m l h) (RF X f l)
def LF(X:Ctx)(n:Nat)(f:Fr)(e:Expr)(m:ai):Prop:=∀l h W,dZ X f l h W→aD X [] W (PySem.isTrue e f.env (eval e f.env)) (test (E X.D.pm n) m l h) (Lz X f l)
def j6(X:Ctx)(n:Nat):Prop:=∀k f e,gf X n f→Al (aB k f.ci e) (iw X n f e)
def ST(X:Ctx)(n:Nat):Prop:=∀k f e,gf X n f→Al (aB k f.ci e) (LF X n f e)
abbrev CE(k:Nat)(ci:CI)(e:Expr)(m:ai):Prop:=aB k ci e=some m
theorem jZ{k:Nat}{ci:CI}{e:Expr}{m:ai}(he:CE k ci e m)(rest:List Expr)(env:Env):starEach (e::rest) env=(false,eval e env)::starEach rest env:=by cases e<;>first|rfl|exact absurd (he.symm.trans (by cases k<;>rfl)) (aY _)
theorem Ah{k:Nat}{ci:CI}{op:CmpOp}{e:Expr}{m:ai}(he:CE k ci e m):behindInMarks op e=false:=by cases e<;>first|rfl|exact absurd (he.symm.trans (by cases k<;>rfl)) (aY _)
theorem Ai{k:Nat}{ci:CI}{e:Expr}{m:ai}(he:CE k ci e m):lq e=true:=by cases e<;>first|rfl|exact absurd (he.symm.trans (by cases k<;>rfl)) (aY _)
inductive Ch(k:Nat)(ci:CI):List CmpOp→List Expr→List ai→Prop
 |one {op e m}:CE k ci e m→Ch k ci [op] [e] [m]
 |more {op o ops e d es m m' ms}:CE k ci e m→Ch k ci (o::ops) (d::es) (m'::ms)→Ch k ci (op::o::ops) (e::d::es) (m::m'::ms)
theorem Ch.mk{k:Nat}{ci:CI}{es:List Expr}{ms:List ai}(r:bV (CE k ci) es ms):∀{e m},CE k ci e m→∀{op:CmpOp} {ops:List CmpOp},ops.length=es.length→Ch k ci (op::ops) (e::es) (m::ms):=by
 induction r with
 |nil=>intro e m c op ops hl;exact List.length_eq_zero_iff.mp hl▸.one c
 |cons d r ih=>
  intro e m c op ops hl
  cases ops with
  |nil=>exact (Nat.succ_ne_zero _ hl.symm).elim
  |cons o ops=>exact .more c (ih d (Nat.succ.inj hl))
theorem ue{k:Nat}{ci:CI}{ops:List CmpOp}{es:List Expr}{ms:List ai}(c:Ch k ci ops es ms):lastMarks ops es=false:=by
 induction c with
 |one c=>exact Ah c
 |more _ _ ih=>exact ih
inductive Se(k:Nat)(ci:CI):List Expr→List ai→Prop
 |one {e m}:CE k ci e m→Se k ci [e] [m]
 |more {e d es m m' ms}:CE k ci e m→Se k ci (d::es) (m'::ms)→Se k ci (e::d::es) (m::m'::ms)
theorem Se.mk{k:Nat}{ci:CI}{es:List Expr}{ms:List ai}(r:bV (CE k ci) es ms):∀{e m},CE k ci e m→Se k ci (e::es) (m::ms):=by
 induction r with
 |nil=>exact .one
 |cons d r ih=>exact λc=>.more c (ih d)
section
variable {X:Ctx}{K:Frag}{mg mb:Str→Option Value}{n k:Nat}{f:Fr}{l:Loc}{h:Hp}{W:Wd}
theorem nU{pos:Pos}(I:∀e,Al (aB k f.ci e) (iw X n f e)){es:List Expr}{ms:List ai}(c:bV (CE k f.ci) es ms):∀l h W,dZ X f l h W→aD X [] W (spliced (backTo pos (starEach es f.env))) (aE (E X.D.pm n) ms l h) (WB X f l):=by
 induction c with
 |nil=>exact λl h W S _ e Q Ex K=>wpAny_items_nil (K W [] (.refl _) (bJ e▸⟨S,.nil⟩))
 |cons c r ih=>exact λl h W S=>aD.fin2 (λ_ _ z=>wpAny_items_cons z (jZ c _ _)) (I _ _ c l h W S) (λW1 a v h1 _ r1=>ih l h1 W1 r1.1) λW1 W2 a v h1 b vs h2 _ r1 g r2=>Al.some ⟨r2.1,.cons (g.v r1.2) r2.2⟩
theorem uf(I:∀k e,Al (aB k f.ci e) (iw X n f e))(k:Nat):∀eo,Al (fT k f.ci eo) λmo=>∀l h W,dZ X f l h W→aD X [] W (evalPart eo f.env) (qt (E X.D.pm n) mo l h) (Yt X f l)
 |none=>λm e=>by
  obtain rfl:m=none:=by cases k<;>(unfold fT at e;cases e;rfl)
  exact λl h W S _ e Q Ex K=>wpAny_evalPart_none (K W .none (.refl _) (bJ e▸⟨S,rfl⟩))
 |some e=>match k with
  |0=>λm e=>by unfold fT at e;cases e
  |k+1=>Al.bind (I k e) λm im=>Al.some λl h W S=>aD.then (im l h W S) λW1 v m h1 g r=>Al.some r
theorem oU{v:Value}{m:MV}(R:Ok X h W)(hv:V X W m v):aD X [] W (PySem.truthy v) ((Mine.truthy m h).bind λb=>some (b,h)) (T7 X):=aD.Yu λr e Q Ex q=>oz R hv e q
theorem mX{v:Value}{m:MV}(R:Ok X h W)(hv:V X W m v):aD X [] W (PySem.truthy v) (Mine.truthy m h) (Yr X (m,h)):=λb e Q Ex K=>oz R hv e λs' G' cA g R st=>K ⟨G',cA,s'⟩ b (.of g st) ⟨R,rfl⟩
theorem nV{op:CmpOp}{va vx:Value}{a x:MV}(R:Ok X h W)(ha:V X W a va)(hx:V X W x vx):aD X [] W (compareOp op va vx) (cV op a x) (Ys X (x,h)):=λb e Q Ex K=>Gy R ha hx e λv s' G' cA g R st hv=>K ⟨G',cA,s'⟩ v (.of g st) ⟨R,hv⟩
theorem GZ{op:Operator}{va vx:Value}{a x:MV}(R:Ok X h W)(ha:V X W a va)(hx:V X W x vx):aD X [] W (binaryOp op va vx) ((binOp op a x h).bind λr=>some (r,h)) (RV X):=aD.LD λr e Q Ex q=>GD R ha hx e q
theorem ug(L:cD X.D K X.h₀ mg mb){v:MV}{va:Value}{a:Nat}{x:Str}{ex:Bool}(R:Ok X h W)(hx:X.D.nm[a]? =some x)(hv:V X W v va):aD X [] W (PySem.getAttr va x ex) ((Mine.getAttr X.D.pm v a h).bind λr=>some (r,h)) (RV X):=aD.LD λr e Q Ex q=>mQ L R hx hv e q
theorem iO(H:B6 X.D f.ci)(a:Str):Al (nameId f.ci a) λi=>X.D.nm[i]? =some a:=λi e=>by
 have e:=dG e
 rwa [H.nm] at e
theorem j0(H:iK f.ci f.env)(x:Str):f.env.kindOf x=f.ci.kinds.lookup x:=by unfold Env.kindOf;rw [H.kinds]
theorem lV{o:Option NameKind}(h:fM o=true):o=some .local∨o=some .cell:=by
 match o,h with
 |some .local,_=>exact .inl rfl
 |some .cell,_=>exact .inr rfl
theorem rP{o:Option NameKind}{k:NameKind}(h:(o==some k)=true):o=some k:=by
 cases o with
 |none=>cases h
 |some q=>cases q<;>cases k<;>first|rfl|cases h
theorem qE(H:iK f.ci f.env)(S:dZ X f l h W){x:Str}{i:Nat}{v:MV}{Q:Value→Shared→Prop}{Ex:Value→Shared→Prop}(hk:f.ci.kinds.lookup x=some .local∨f.ci.kinds.lookup x=some .cell)(hi:f.ci.slots.idxOf? x=some i)(hw:l[i]? =some (some v))(q:∀va,V X W v va→Q va W.s):
  bA X (loadName f.env x) Q Ex W.s:=by
 rcases hk with hk|hk
 ·obtain ⟨ml,hn,hm⟩:=S.lr.aH
  obtain ⟨va,Ae,hr⟩:=hm i x v hi hk hw;exact wpAny_loadName_local H.fn ((j0 H x).trans hk) hn Ae (q va hr)
 ·obtain ⟨c,w,OZ,Cz,hr⟩:=S.lr.cell i x hi hk
  obtain ⟨va,Ae,Si⟩:=hr v hw;exact wpAny_loadName_cell H.fn ((j0 H x).trans hk) OZ (Ae▸Cz) (q va Si)
theorem G1{i:Nat}{l:Loc}{h:Hp}{b:MV×Hp}(e:(match l[i]? with|some (some v)=>some (v,h)|_=>none)=some b):∃v,l[i]? =some (some v)∧b=(v,h):=by
 match q:l[i]?,e with
 |some (some v),e=>exact ⟨v,rfl,(bJ e).symm⟩
theorem O7(S:Ok X h W):∀b o,X.h₀.get? b=some o→W.s.heap.get? b=some o:=λb o e=>S.keep b o (S.base b o e)
theorem CA(L:cD X.D K X.h₀ mg mb)(H:gf X n f){x:Str}{p:Pos}:Al (tM f.ci x) (iw X (n+1) f (.Name x p)):=
 Al.rN λhd=>have hd:(x==("__debug__":Str))=false:=by rwa [Bool.not_eq_true] at hd
 λm ec=>if hs:fM (f.ci.kinds.lookup x)=true then by rw [if_pos hs] at ec;obtain ⟨i,hi,rfl⟩:=dw.mp ec;intro l h W S b e Q Ex K;obtain ⟨v,hw,rfl⟩:=G1 (i:=i) e;exact wpAny_Name (qE H.env S (lV hs) hi hw λva hv=>K W va (.refl _) ⟨S,hv⟩) hd
 else by
  rw [if_neg hs] at ec
  by_cases hk:(f.ci.kinds.lookup x==some .globalImplicit)=true
  ·rw [if_pos hk] at ec
   obtain ⟨mv,hg,rfl⟩:=dw.mp ec;rw [H.ci.av] at hg;obtain ⟨va,Ae,hr⟩:=L.av x mv hg;refine λl h W S=>aD.T9 S (λQ Ex q=>Name_function_global H.env.fn ((j0 H.env x).trans (rP hk)) ?_ hd) (hr _ _ S.rep.base)
   rcases Ae with Ae|⟨hn,Ae⟩
   ·exact loadGlobal_global (by rw [H.env.av];exact L.g.keeps (O7 S.rep)) Ae q
   ·exact loadGlobal_builtin (by rw [H.env.av];exact L.g.keeps (O7 S.rep)) hn (by rw [H.env.bi];exact L.b.keeps (O7 S.rep)) Ae q
  ·rw [if_neg hk] at ec;cases ec
theorem CB{α:Type}{t:Bool}{a b:Sem α}{Q:α→Shared→Prop}{Ex:Value→Shared→Prop}{s:Shared}(h:bA X (if t=true then a else b) Q Ex s):if t=true then bA X a Q Ex s else bA X b Q Ex s:=by cases t<;>exact h
theorem Aj{pos:Pos}{x y:Sem Value}{r:List (Sem Value)}{Q:Value→Shared→Prop}{Ex:Value→Shared→Prop}{s:Shared}(h:bA X x (λv cZ=>bA X (PySem.truthy v) (λt gB=>bA X (if t=true then boolOp pos .And (y::r) else pure v) Q Ex gB) Ex cZ) Ex s):bA X (boolOp pos .And (x::y::r)) Q Ex s:=by
 unfold boolOp;refine wpAny_bind (wpAny_mono h (λv cZ gX=>wpAny_bind (wpAny_standAt (wpAny_bind (wpAny_holding (wpAny_mono gX (λt gB kH=>?_) λ_ _ z=>z))))) λ_ _ z=>z)
 cases t<;>exact kH
theorem Ak{pos:Pos}{x y:Sem Value}{r:List (Sem Value)}{Q:Value→Shared→Prop}{Ex:Value→Shared→Prop}{s:Shared}(h:bA X x (λv cZ=>bA X (PySem.truthy v) (λt gB=>bA X (if t=true then pure v else boolOp pos .Or (y::r)) Q Ex gB) Ex cZ) Ex s):bA X (boolOp pos .Or (x::y::r)) Q Ex s:=by
 unfold boolOp;refine wpAny_bind (wpAny_mono h (λv cZ gX=>wpAny_bind (wpAny_standAt (wpAny_bind (wpAny_holding (wpAny_mono gX (λt gB kH=>?_) λ_ _ z=>z))))) λ_ _ z=>z)
 cases t<;>exact kH
theorem G3{pos:Pos}(I:∀e,Al (aB k f.ci e) (iw X n f e)){es:List Expr}{ms:List ai}(c:Se k f.ci es ms):∀l h W,dZ X f l h W→aD X [] W (boolOp pos .And (evalEach es f.env)) (tG (E X.D.pm n) ms l h) (RF X f l):=by
 induction c with
 |one c=>exact λl h W S=>I _ _ c l h W S
 |more c d ih=>exact λl h W S=>aD.qD (λ_ _=>Aj) (I _ _ c l h W S) (λW1 v m h1 _ r1=>mX r1.1.rep r1.2) λW1 W2 v m h1 t b _ r1 g r2=>aD.cond r2.2 (ih l h1 W2 (g.qm r1.1 r2.1)) (aD.ret ⟨g.qm r1.1 r2.1,g.v r1.2⟩)
theorem LG{pos:Pos}(I:∀e,Al (aB k f.ci e) (iw X n f e)){es:List Expr}{ms:List ai}(c:Se k f.ci es ms):∀l h W,dZ X f l h W→aD X [] W (boolOp pos .Or (evalEach es f.env)) (BL (E X.D.pm n) ms l h) (RF X f l):=by
 induction c with
 |one c=>exact λl h W S=>I _ _ c l h W S
 |more c d ih=>exact λl h W S=>aD.qD (λ_ _=>Ak) (I _ _ c l h W S) (λW1 v m h1 _ r1=>mX r1.1.rep r1.2) λW1 W2 v m h1 t b _ r1 g r2=>aD.cond r2.2 (aD.ret ⟨g.qm r1.1 r2.1,g.v r1.2⟩) (ih l h1 W2 (g.qm r1.1 r2.1))
theorem G4{v:Value}{m:MV}(R:Ok X h W)(hv:V X W m v):aD X [] W (unaryOp .USub v) (match m with|.int i=>if aK i then some (MV.int (-i),h) else none|_=>none) (RV X):=by
 cases m with
 |int i=>obtain ⟨t,rfl⟩:=di hv;exact aD.ite λ_=>aD.LC λr h' e Q Ex q=>P.neg_int (by cases e;exact q.val R VR.int _)
 |_=>exact aD.no
end
section
variable {X:Ctx}{K:Frag}{mg mb:Str→Option Value}{n k:Nat}{f:Fr}{l:Loc}{h:Hp}{W:Wd}
theorem qF{α β:Type}{vs:List Value}{x:Sem α}{g:α→Sem β}{Q:β→Shared→Prop}{Ex:Value→Shared→Prop}{s:Shared}(h:bA X (x >>=g) Q Ex s):bA X (holding vs x >>=g) Q Ex s:=λΓ p Yv=>by have:=h Γ p Yv;rw [Sem.wp_bind'] at this⊢;rw [Sem.wp_holding];exact this
noncomputable def Yw(X:Ctx)(f:Fr)(l:Loc):Wd→Value→Bool×Hp→Prop:=λW v b=>dZ X f l b.2 W∧V X W (.bool b.1) v
theorem CC{pos:Pos}{a:Value}{op LH:CmpOp}{ops:List CmpOp}{r r':Sem Value}{rs:List (Sem Value)}{Q:Value→Shared→Prop}{Ex:Value→Shared→Prop}{s:Shared}
  (h:bA X r (λb cZ=>bA X (compareOp op a b) (λc gB=>bA X (PySem.truthy c >>=λt=>if t=true then compareChain pos b (LH::ops) (r'::rs) else pure c) Q Ex gB) Ex cZ) Ex s):bA X (compareChain pos a (op::LH::ops) (r::r'::rs)) Q Ex s:=by
 show bA X (do
  let rv ← holding [a] r
  standAt pos
  let c ← holding [a,rv] (compareOp op a rv)
  release [a,rv] [c]
  if ← holding [c,rv] (PySem.truthy c) then compareChain pos rv (LH::ops) (r'::rs) else pure c) Q Ex s
 exact wpAny_bind (wpAny_holding (wpAny_mono h (λb cZ gX=>wpAny_bind (wpAny_standAt (wpAny_bind (wpAny_holding (wpAny_mono gX (λc gB kH=>wpAny_bind (wpAny_release' (qF kH))) λ_ _ x=>x))))) λ_ _ x=>x))
theorem G6{pos:Pos}{a:Value}{op LH:CmpOp}{ops:List CmpOp}{r r':Sem Value}{rs:List (Sem Value)}{Q:Bool→Shared→Prop}{Ex:Value→Shared→Prop}{s:Shared}
  (h:bA X r (λb cZ=>bA X (compareOp op a b) (λc gB=>bA X (PySem.truthy c >>=λt=>if t=true then testChain pos b (LH::ops) (r'::rs) else pure false) Q Ex gB) Ex cZ) Ex s):bA X (testChain pos a (op::LH::ops) (r::r'::rs)) Q Ex s:=by
 show bA X (do
  let rv ← holding [a] r
  standAt pos
  let c ← holding [a,rv] (compareOp op a rv)
  release [a,rv] [c]
  if ← holding [c,rv] (PySem.truthy c) then testChain pos rv (LH::ops) (r'::rs) else pure false) Q Ex s
 exact wpAny_bind (wpAny_holding (wpAny_mono h (λb cZ gX=>wpAny_bind (wpAny_standAt (wpAny_bind (wpAny_holding (wpAny_mono gX (λc gB kH=>wpAny_bind (wpAny_release' (qF kH))) λ_ _ x=>x))))) λ_ _ x=>x))
theorem uh{v:Value}{b:Bool}(hv:V X W (.bool b) v){α β:Type}{F:List Addr}{g:Bool→Sem α}{o:Option β}{R':Wd→α→β→Prop}(q:aD X F W (g b) o R'):aD X F W (PySem.truthy v >>=g) o R':=λr e Q Ex K=>wpAny_bind (by subst hv;exact wpAny_truthy_bool (q r e Q Ex K))
theorem CD{v:Value}{b:Bool}(hv:V X W (.bool b) v)(S:dZ X f l h W):aD X [] W (PySem.truthy v) (some (b,h)) (Lz X f l):=λr e Q Ex K=>by subst hv;exact wpAny_truthy_bool (K W b (.refl _) (bJ e▸⟨S,rfl⟩))
theorem Am{pos:Pos}(I:∀e,Al (aB k f.ci e) (iw X n f e)){ops:List CmpOp}{es:List Expr}{ms:List ai}(c:Ch k f.ci ops es ms):∀l h W va a,dZ X f l h W→V X W a va→aD X [] W (compareChain pos va ops (evalEach es f.env)) (tH (E X.D.pm n) a ops ms l h) (Yw X f l):=by
 induction c with
 |one c=>exact λl h W va a S hv=>aD.rO (λ_ _=>chain_last) (I _ _ c l h W S) λW1 vb m h1 g r=>aD.O6 (λ_ _ z=>z) (nV r.1.rep (g.v hv) r.2) λW2 t b g2 r2=>Al.some ⟨g2.qm r.1 r2.1,r2.2⟩
 |more c d ih=>exact λl h W va a S hv=>aD.qD (λ_ _=>CC) (I _ _ c l h W S) (λW1 vb m h1 g r1=>nV r1.1.rep (g.v hv) r1.2) λW1 W2 vb m h1 vc b g r1 g2 r2=>uh r2.2 (aD.JM (ih l h1 W2 vb m (g2.qm r1.1 r2.1) (g2.v r1.2)) λz=>aD.ret ⟨g2.qm r1.1 r2.1,z▸r2.2⟩)
theorem CF{pos:Pos}(I:∀e,Al (aB k f.ci e) (iw X n f e)){ops:List CmpOp}{es:List Expr}{ms:List ai}(c:Ch k f.ci ops es ms):∀l h W va a,dZ X f l h W→V X W a va→aD X [] W (testChain pos va ops (evalEach es f.env)) (tH (E X.D.pm n) a ops ms l h) (Lz X f l):=by
 induction c with
 |one c=>exact λl h W va a S hv=>aD.qD (λ_ _=>test_last) (I _ _ c l h W S) (λW1 vb m h1 g r1=>nV r1.1.rep (g.v hv) r1.2) λW1 W2 vb m h1 vc b g r1 g2 r2=>CD r2.2 (g2.qm r1.1 r2.1)
 |more c d ih=>exact λl h W va a S hv=>aD.qD (λ_ _=>G6) (I _ _ c l h W S) (λW1 vb m h1 g r1=>nV r1.1.rep (g.v hv) r1.2) λW1 W2 vb m h1 vc b g r1 g2 r2=>uh r2.2 (aD.JM (ih l h1 W2 vb m (g2.qm r1.1 r2.1) (g2.v r1.2)) λ_=>aD.ret ⟨g2.qm r1.1 r2.1,rfl⟩)
end
end
section
open PySem PySem.W PySem.Calls PyProof.Rows PySem.SeqAt
set_option backward.match.sparseCases true
theorem ya{o:Expr}{x:Str}{env:Env}(hs:fN o=false):attributeBase o x env (eval o env)=eval o env:=by
 cases o with
 |Call f a k p=>
  cases f with
  |Name id q=>
   cases a with
   |nil=>
    cases k with
    |nil=>
     have:(id !=Str.ofString "super")=true:=congrArg (!·) hs;unfold attributeBase;show (if (id !=Str.ofString "super"||_||_||_)=true then _ else _)=_
     rw [this];rfl
    |cons _ _=>rfl
   |cons _ _=>rfl
  |_=>rfl
 |_=>rfl
theorem um{D:bZ}{h₀:Heap}{G:Fz}{ρ:List PR}{h:Hp}{s:Shared}{l:List MV}{vs:List Value}{Q:Value→Shared→Prop}(R:Rep D h₀ G ρ h s)(hr:cB D G ρ l vs)(hl:l.length≤az)(k:bY D h₀ G ρ s (.obj h.length) (h++[.list l]) Q):
  Q (.ref s.heap.objs.size) {s with heap:=s.heap.push {cls:=.type "list",data:=.seq vs.toArray}}:=by
 have kp:∀b o,s.heap.get? b=some o→(s.heap.push {cls:=.type "list",data:=.seq vs.toArray}).get? b=some o:=λb o e=>Heap.get?_push_of_some _ e
 have g:fh G G ρ (ρ++[(s.heap.objs.size,none)]) s {s with heap:=s.heap.push {cls:=.type "list",data:=.seq vs.toArray}}:=.new _ _ _ _ _ (λb hb=>by simp only [gw,Option.toList,bO,List.mem_nil_iff,or_false] at hb;subst hb;exact cW (bf _)) (ir kp)
 refine k _ _ _ _ g (R.new kp (λb hb=>?_) (by simp [gw]) ⟨rfl,hl,vs,⟨0,Heap.get?_push_size _ rfl⟩,cB.mono (.refl _) g.r _ _ hr⟩) (.push _ s _) ?_
 ·simp only [gw,Option.toList,bO,List.mem_nil_iff,or_false] at hb
  subst hb;exact ⟨R.iu (bf _),λob gb=>absurd (R.Sh _ ob gb) (Nat.lt_irrefl _)⟩
 ·skip
  exact ⟨(s.heap.objs.size,none),by rw [← R.len];simp,rfl⟩
section
variable {X:Ctx}{K:Frag}{mg mb:Str→Option Value}{n k:Nat}{f:Fr}{l:Loc}{h:Hp}{W:Wd}
theorem G7{o:Expr}{x:Str}{pos:Pos}{env:Env}{Q:Value→Shared→Prop}{Ex:Value→Shared→Prop}{s:Shared}(hs:fN o=false)(hh:bA X (eval o env) (λov cZ=>bA X (PySem.getAttr ov x true) Q Ex cZ) Ex s):bA X (eval (.Attribute o x pos) env) Q Ex s:=by rw [arm_eval_Attribute,ya hs];exact wpAny_bind (wpAny_mono hh (λov cZ gX=>wpAny_bind (wpAny_standAt (wpAny_bind (wpAny_holding (wpAny_mono gX (λr gB kH=>wpAny_bind (wpAny_letTemporaryGo (wpAny_pure kH))) λ_ _ z=>z))))) λ_ _ z=>z)
theorem CG{c a b:Expr}{pos:Pos}{env:Env}{Q:Value→Shared→Prop}{Ex:Value→Shared→Prop}{s:Shared}(h:bA X (PySem.isTrue c env (eval c env)) (λt cZ=>bA X (if t=true then eval a env else eval b env) Q Ex cZ) Ex s):bA X (eval (.IfExp c a b pos) env) Q Ex s:=wpAny_IfExp (wpAny_mono h (λ_ _=>CB) λ_ _ z=>z)
theorem An{c:Const}{ku:Nat}{p:Pos}:Al (qu c) (iw X (n+1) f (.Constant c ku p)):=by
 cases c with
 |none=>exact Al.some λl h W S=>aD.T9 S (λ_ _=>wpAny_Constant_none) VR.none
 |bool b=>exact Al.some λl h W S=>aD.T9 S (λ_ _=>wpAny_Constant_bool) VR.bool
 |int i=>exact Al.ite λ_=>Al.some λl h W S=>aD.atT S (λ_ _=>wpAny_Constant_int) VR.int
 |str x=>exact Al.ite λhx=>Al.some λl h W S=>aD.atT S (λ_ _=>wpAny_Constant_str) (tO x▸VR.str (t:=W.s.toks) (x:=x.cps.toList) hx)
 |_=>exact Al.none
theorem v8{b:Bool}{vs:List MV}{ws:List Value}(R:Ok X h W)(hv:Vs X W vs ws):aD X [] W (newList ws) (if vs.length≤az then some (iC b vs h) else none) (RV X):=aD.ite λhl=>aD.LC λr h' e Q Ex q=>wpAny_newList (by
 cases b<;>cases e
 ·exact iE R hv hl q
 ·exact um R hv hl q) (by rw [← hv.length];exact ah hl cI)
theorem Ao{vs:List MV}{ws:List Value}(R:Ok X h W)(hv:Vs X W vs ws):aD X [] W (newTuple ws) (if vs.length≤az then some (.tup vs,h) else none) (RV X):=aD.ite λhl=>aD.LC λr h' e Q Ex q=>wpAny_newTuple (by
 cases e
 exact q _ _ _ _ (.add _ _ _ _ _ _ (bf _) (dF _ _)) (R.vI _ rfl) (.push _ _ _) (by exact ⟨hl,_,_,ws,0,rfl,.inr ⟨rfl,rfl⟩,rfl,rfl,cB.mono (Fz.i0 _ _ _) (.refl _) _ _ hv⟩)) (by rw [← hv.length];exact ah hl cI)
theorem G8{v sl:Expr}{a i:MV}{va vi:Value}(hn:lq sl=true)(R:Ok X h W)(ha:V X W a va)(hi:V X W i vi):aD X [] W (subscriptTail v sl va vi) ((fG a i h).bind λr=>some (r,h)) (RV X):=aD.LD λr e Q Ex q=>GG hn R ha hi e q
theorem O5.go{F:List Addr}{W':Wd}{m:Option MV}{v:Value}(g:Go F W W')(h:O5 X W m v):O5 X W' m v:=match m,h with
 |none,h=>h
 |some _,h=>g.v h
theorem Aq(I:∀k e,Al (aB k f.ci e) (iw X n f e)){v:Expr}{lo hi:Option Expr}{p:Pos}{Ua Ub:Option ai}(c1:fT k f.ci lo=some Ua)(c2:fT k f.ci hi=some Ub){a:MV}{va:Value}(S:dZ X f l h W)(ha:V X W a va):
  ∀r,((qt (E X.D.pm n) Ua l h).bind λy=>(qt (E X.D.pm n) Ub l y.2).bind λz=>(g8 a y.1 z.1 z.2).bind λr=>some (r,z.2))=some r→∀(Q Ex:Value→Shared→Prop),(∀W' v',Go [] W W'→RF X f l W' v' r→Q v' W'.s)→bA X (eval (.Slice lo hi none p) f.env) (λi gB=>bA X (subscriptTail v (.Slice lo hi none p) va i) Q Ex gB) Ex W.s:=λr e Q Ex KQ=>match aL.mp e with
 |⟨(vlo,h1),e1,e⟩=>match aL.mp e with
  |⟨(vhi,h2),e2,e⟩=>match aL.mp e with
   |⟨x,e3,e⟩=>wpAny_Slice (uf I k lo _ c1 l h W S _ e1 _ Ex λW1 vl g1 r1=>uf I k hi _ c2 l h1 W1 r1.1 _ e2 _ Ex λW2 vu g2 r2=>wpAny_evalPart_none
    (zZ r2.1.rep (g2.v (g1.v ha)) (O5.go g2 r1.2) r2.2 e3 λv' s' G' cA g' R' Br NS=>KQ ⟨G',cA,s'⟩ v' ((g1.trans g2).trans (.of g' Br)) (bJ e▸⟨r2.1.after g' R' Br,NS⟩)))
end
end
section
open PySem PySem.W PySem.Calls PyProof.Rows PySem.SeqAt
def LI(X:Ctx)(W:Wd)(c:Code)(o:Option (MV×Hp)):Prop:=∀b,o=some b→∀R:Result→Shared→Prop,(∀W' w,Go [] W W'→RV X W' w b→R (.ok (.ret w)) W'.s)→codeAny (model X.D.prog X.D.w) X.A c R W.s
def SC(D:bZ)(h₀:Heap)(n:Nat):Prop:=∀(A:Around) (i:Nat) (fe:cC) (fa:Addr) (pos kv bs:List MV) (kn:List Nat) (xs:List Str) (vs ws:List Value) (h:Hp) (W:Wd),D.pm.fns[i]? =some fe→D.fa[i]? =some fa→qk n A→Ok ⟨D,h₀,A⟩ h W→cB D W.G W.ρ pos vs→cB D W.G W.ρ kv ws→kn.mapM (λi=>D.nm[i]?)=some xs→dz fe pos kn kv=some bs→LI ⟨D,h₀,A⟩ W (.call (.ref fa) ⟨vs,xs.zip ws⟩) ((E D.pm n).ca i bs h)
abbrev KE(k:Nat)(ci:CI)(kw:Keyword)(m:ai):Prop:=aB k ci kw.value=some m
abbrev KN(ci:CI)(kw:Keyword)(i:Nat):Prop:=ou ci kw=some i
section
variable {X:Ctx}{K:Frag}{mg mb:Str→Option Value}{n k:Nat}{f:Fr}{l:Loc}{h:Hp}{W:Wd}
theorem LI.call{fv:Value}{a:Args}{o:Option (MV×Hp)}(s:LI X W (.call fv a) o):aD X [] W (PySem.call fv a.pos a.kw) o (RV X):=λb e Q Ex K=>wpAny_call (s b e _ λW' w g r=>K W' w g r)
theorem uo(H:B6 X.D f.ci){pos:Pos}{dX:List Keyword}{kn:List Nat}(c:bV (KN f.ci) dX kn):
  kn.mapM (λi=>X.D.nm[i]?)=some ((backToKw pos (keywordEach dX f.env)).filterMap (·.1))∧(backToKw pos (keywordEach dX f.env)).all (·.1.isSome)=true∧(backToKw pos (keywordEach dX f.env)).any (·.1.isNone)=false∧∀kw∈dX,kw.arg.isSome=true:=by
 induction c with
 |nil=>exact ⟨rfl,rfl,rfl,λ_ z=>(fF z).elim⟩
 |@cons kw b dX kn e r ih=>
  obtain ⟨i1,i2,i3,i4⟩:=ih;obtain ⟨ka,kv,kp⟩:=kw
  cases ka with
  |none=>exact (aY _ (show none=some b from e).symm).elim
  |some x=>
   have e3:=iO H x b e;refine ⟨?_,i2,i3,λkw z=>(bO.mp z).elim (λz=>z▸rfl) (i4 kw)⟩
   show (b::kn).mapM _=some (x::_)
   rw [List.mapM_cons,e3,i1];rfl
theorem G9{pos:Pos}(I:∀e,Al (aB k f.ci e) (iw X n f e)){dX:List Keyword}{ms:List ai}(c:bV (KE k f.ci) dX ms):(∀kw∈dX,kw.arg.isSome=true)→∀l h W,dZ X f l h W→aD X [] W (evalAll ((backToKw pos (keywordEach dX f.env)).map (·.2))) (aE (E X.D.pm n) ms l h) (WB X f l):=by
 induction c with
 |nil=>exact λ_ l h W S _ e Q Ex K=>kwAll_nil (K W [] (.refl _) (bJ e▸⟨S,.nil⟩))
 |@cons kw b dX ms c r ih=>
  intro hs l h W S;obtain ⟨ka,kv,kp⟩:=kw
  cases ka with
  |none=>exact absurd (hs _ (b7 ..)) bR
  |some x=>exact aD.fin2 (λ_ _ z=>kwAll_cons z) (I _ _ c l h W S) (λW1 a v h1 _ r1=>ih (λkw z=>hs kw (bP _ z)) l h1 W1 r1.1) λW1 W2 a v h1 b vs h2 _ r1 g r2=>Al.some ⟨r2.1,.cons (g.v r1.2) r2.2⟩
theorem kI{pos:Pos}{env:Env}{ci:CI}{args:List Expr}{ms:List ai}(c:bV (CE k ci) args ms):(backTo pos (starEach args env)).any (·.1)=false:=by
 induction c with
 |nil=>rfl
 |cons c r ih=>rw [jZ c];exact ih
theorem lA(H:B6 X.D f.ci)(I:∀e,Al (aB k f.ci e) (iw X n f e)){pos:Pos}{fv:Value}{first:List Value}{args:List Expr}{dX:List Keyword}{ms mk:List ai}{kn:List Nat}(ca:bV (CE k f.ci) args ms)(cn:bV (KN f.ci) dX kn)(ck:bV (KE k f.ci) dX mk)(S:dZ X f l h W)
  {δ:Type} {g:List MV→List MV→Hp→Option δ} {R':Wd→Value→δ→Prop} (O8:∀as ks h2 r,g as ks h2=some r→∀(M:Model) (hp:Heap),(∀b o,W.G b o→hp.get? b=some o)→uc M hp fv)
  (q:∀W2 as ks h2 vs ws xs,Go [] W W2→dZ X f l h2 W2→Vs X W2 as vs→Vs X W2 ks ws→kn.mapM (λi=>X.D.nm[i]?)=some xs→aD X [] W2 (call fv (first++vs) (xs.zip ws)) (g as ks h2) R'):
  aD X [] W (callWith pos fv first (backTo pos (starEach args f.env)) (backToKw pos (keywordEach dX f.env))) ((aE (E X.D.pm n) ms l h).bind λx=>(aE (E X.D.pm n) mk l x.2).bind λy=>g x.1 y.1 y.2) R':=λr e Q Ex KQ=>match aL.mp e with
 |⟨(as,h1),e1,e⟩=>match aL.mp e with
  |⟨(ks,h2),e2,e3⟩=>by
   obtain ⟨n1,n2,n3,n4⟩:=uo H (pos:=pos) cn;have last:∀W1 vs,Go [] W W1→dZ X f l h1 W1→Vs X W1 as vs→bA X (evalAll ((backToKw pos (keywordEach dX f.env)).map (·.2))) (λks gB=>(∀b o,W.G b o→gB.heap.get? b=some o)∧bA X (call fv (first++vs) (((backToKw pos (keywordEach dX f.env)).filterMap (·.1)).zip ks)) Q Ex gB) Ex W1.s:=λW1 vs g1 S1 hv=>G9 I ck n4 l h1 W1 S1 _ e2 _ Ex λW2 ws g2 r2=>⟨λb o z=>r2.1.rep.keep b o (g2.g.g _ _ (g1.g.g _ _ z)),q W2 as ks h2 vs ws _ (g1.trans g2) r2.1 (g2.vs hv) r2.2 n1 r e3 Q Ex λW3 v g3 r3=>KQ W3 v ((g1.trans g2).trans g3) r3⟩
   refine callWith_of (P:=λh'=>∀b o,W.G b o→h'.get? b=some o) (by rw [kI ca,n3];rfl) (λhp z=>O8 as ks h2 r e3 _ hp z) ?_
   cases ca with
   |nil=>cases e1;exact evalArgs_kw2_nil n2 (last W [] (.refl _) S .nil)
   |cons c ca=>exact evalArgs_kw2 n2 (nU I (.cons c ca) l h W S _ e1 _ Ex λW1 vs g1 r1=>last W1 vs g1 r1.1 r1.2) (jZ c _ _)
end
noncomputable def Uc(X:Ctx)(f:Fr):Wd→Flow→Fl×Loc×Hp→Prop:=λW fl r=>dZ X f r.2.1 r.2.2 W∧Wu X.D W.G W.ρ r.1 fl
def SX(X:Ctx)(n:Nat):Prop:=∀k f ss l h W,gf X n f→dZ X f l h W→aD X (jr f.env) W (execs ss f.env) ((E X.D.pm n).ex (eO k f.ci ss) l h) (Uc X f)
theorem uq{l:List MV}{kd:MV×MV}(e:vF l=some kd):l=[kd.1,kd.2]:=by
 cases l with
 |nil=>exact no e
 |cons a r=>
  cases r with
  |nil=>exact no e
  |cons b r=>
   cases r with
   |nil=>exact aC e▸rfl
   |cons _ _=>exact no e
section
variable {D:bZ}{h₀:Heap}{G:Fz}{ρ:List PR}{h:Hp}{s:Shared}{A:Around}{Ex:Value→Shared→Prop}{K:Frag}{mg mb:Str→Option Value}{n:Nat}
theorem CH(L:cD D K h₀ mg mb){c:kY}{v:MV}{f:Value}{first:List Value}{pos:List MV}{vs:List Value}{h':Hp}{Q:Value→Shared→Prop}(R:Rep D h₀ G ρ h s)(hf:rL D G ρ c f first)(h1:cB D G ρ pos vs)(e:oj c pos h=some (v,h'))(k:bY D h₀ G ρ s v h' Q):
  wpAny (model D.prog D.w) A (call f (first++vs) []) Q Ex s:=by
 cases c with
 |fn=>exact (aY _ e.symm).elim
 |join sep=>
  obtain ⟨q,e⟩:=aW e;obtain ⟨x,e1,e⟩:=aL.mp e;obtain ⟨l,e2,e⟩:=aL.mp e;obtain ⟨r,e3,e⟩:=aL.mp e;obtain ⟨w,e4,e⟩:=dw.mp e;obtain ⟨hr,e4⟩:=aW e4
  cases cO e1
  cases List.isEmpty_iff.mp q
  cases e4
  cases e
  obtain ⟨va,rfl,hx⟩:=h1.one;obtain ⟨rfl,t,rfl⟩:=hf;exact Cn R hx e2 e3 hr k
 |starts y=>
  obtain ⟨x,e1,e⟩:=aL.mp e;obtain ⟨z,e2,e⟩:=dw.mp e
  cases cO e1
  cases bG e2
  cases e
  obtain ⟨va,rfl,hx⟩:=h1.one;obtain ⟨rfl,t,rfl⟩:=hf;obtain ⟨_,u,rfl⟩:=id hx;exact v5 R k
 |append o=>
  obtain ⟨x,e1,e⟩:=aL.mp e;obtain ⟨l,e2,e⟩:=aL.mp e;obtain ⟨hz,e9⟩:=aW e
  cases cO e1
  cases e9
  obtain ⟨va,rfl,hx⟩:=h1.one;obtain ⟨rfl,vo,rfl,LJ⟩:=hf;exact vP R LJ hx e2 hz k
 |pop o=>
  obtain ⟨l,e1,e⟩:=aL.mp e;obtain ⟨j,e2,e⟩:=aL.mp e;obtain ⟨w,e3,e⟩:=dw.mp e;cases e
  obtain ⟨rfl,vo,rfl,LJ⟩:=hf;have z:=GO (A:=A) (E:=Ex) R LJ e1 e3 k
  cases pos with
  |nil=>rw [h1.nil_inv];exact z.1 (bJ e2).symm
  |cons x r=>
   obtain ⟨q,e2⟩:=aW e2;have q:=aZ.mp q
   cases List.isEmpty_iff.mp q.2
   obtain ⟨va,rfl,hx⟩:=h1.one
   cases xO q.1
   obtain ⟨t,rfl⟩:=id hx;exact z.2 (bJ e2).symm t
 |get ks vals=>
  obtain ⟨kd,e1,e⟩:=aL.mp e;obtain ⟨o,e2,e⟩:=dw.mp e;cases e
  cases uq e1
  obtain ⟨va,ws,rfl,ha,h1⟩:=h1.cons_inv;obtain ⟨vb,rfl,hb⟩:=h1.one;obtain ⟨rfl,vd,rfl,Yx⟩:=hf;exact GY R Yx ha hb e2 rfl k
 |copy ks vals=>
  obtain ⟨q,e⟩:=aW e;cases e
  have q:=aZ.mp q;have q1:=aZ.mp q.2;have q2:=aZ.mp q1.1
  cases List.isEmpty_iff.mp q.1
  obtain ⟨rfl,vo,rfl,LJ⟩:=hf;rw [h1.nil_inv];exact Ct L R LJ q2.1 q2.2 k (bz q1.2)
theorem v9(L:cD D K h₀ mg mb)(Yy:SC D h₀ n)(hA:qk (n+1) A){i:Nat}{ce:fZ}{fe:cC}{C:Addr}{pos kv bs:List MV}{kn:List Nat}{xs:List Str}{vs ws:List Value}{h':Hp}{Q:Value→Shared→Prop}
  (rF:D.pm.dM[i]? =some ce) (Lw:D.pm.fns[ce.init]? =some fe) (lU:ce.isRec=false) (hC:D.ca[i]? =some C) (R:Rep D h₀ G ρ h s) (h1:cB D G ρ pos vs) (h2:cB D G ρ kv ws) (ek:kn.mapM (λi=>D.nm[i]?)=some xs)
  (eb:dz fe (.obj h.length::pos) kn kv=some bs) (ec:(E D.pm n).ca ce.init bs (h++[.inst i []])=some (.none,h')) (k:bY D h₀ G ρ s (.obj h.length) h' Q):
  wpAny (model D.prog D.w) A (call (.ref C) vs (xs.zip ws)) Q Ex s:=by
 have q:=lT L rF hC;obtain ⟨fi,Ce,_⟩:=L.fns _ _ Lw;have k2:=ly s.heap C;have Cu:∀b∈gw (s.heap.objs.size+1,some s.heap.objs.size),s.heap.objs.size≤b:=λb hb=>(bO.mp hb).elim (λe=>e▸Nat.le_succ _) λhb=>ez.mp hb▸bf _
 have R1:Rep D h₀ G (ρ++[(s.heap.objs.size+1,some s.heap.objs.size)]) (h++[.inst i []]) (NT s C):=
  R.new k2 (λb hb=>⟨R.iu (Cu b hb),λob gb=>Nat.not_lt.mpr (Cu b hb) (R.Sh b ob gb)⟩) (List.nodup_cons.mpr ⟨λz=>Nat.succ_ne_self _ (ez.mp z),List.pairwise_singleton ..⟩)
   ⟨C,_,λ_=>none,hC,rfl,JK _ _,t9 (JL _ _),λa x e=>⟨rfl,λ_ e=>no e⟩,λa z=>(bR z).elim,ce,rF,lU⟩
 have g1:fh G G ρ (ρ++[(s.heap.objs.size+1,some s.heap.objs.size)]) s (NT s C):=.new _ _ _ _ _ (λb hb=>cW (Cu b hb)) (ir k2)
 have JN:VR D G (ρ++[(s.heap.objs.size+1,some s.heap.objs.size)]) (.obj h.length) (.ref (s.heap.objs.size+1)):=by exact ⟨(s.heap.objs.size+1,some s.heap.objs.size),R.len▸List.getElem?_concat_length,rfl⟩
 refine wpAny_call (ua q (R.qv L) Ce (Yy _ ce.init fe fi (.obj h.length::pos) kv bs kn xs (.ref (s.heap.objs.size+1)::vs) ws _ ⟨G,ρ++[(s.heap.objs.size+1,some s.heap.objs.size)],NT s C⟩ Lw Ce (hA.made C vs (xs.zip ws)) R1 (.cons JN (cB.mono (.refl _) g1.r _ _ h1)) (cB.mono (.refl _) g1.r _ _ h2) ek eb _ ec _ λW' w g2 r2=>?_))
 exact ⟨i6 r2.2,k _ _ _ _ (g1.trans g2.g) r2.1 (gK.OF (s':=NT s C) ⟨rfl,rfl,rfl,λb o _ e=>k2 b o e⟩ g1 g2.aP) (g2.v (X:=⟨D,h₀,A⟩) JN)⟩
theorem Ent.sr(L:cD D K h₀ mg mb){fe:cC}{fd:FuncData}{body:List Stmt}{T:SV}{s1:Shared}{env:Env}{bs:List MV}{vs:List Value}(R:Rep D h₀ G ρ h s)(x:Ent fd T s s1 env)(C:x7 D fd.params body fd.scope fe)
  (B:Bound D.nm (λ_ m v=>VR D G ρ m v) fe.params (fd.params.args.map (·.arg)) vs bs T):SR D h₀ (BS D.av D.nm D.ff fd.scope) env G ρ (bs.map some++List.replicate (fe.nE - bs.length) Option.none) h s1:=
 ⟨R.keeps x.x.toInCall.keep,x.lr C B,λb o g hb=>Nat.not_lt.mpr (x.new C.nd b hb).1 (R.Sh b o g),λb hb zM=>Nat.not_lt.mpr (x.new C.nd b zM).1 (R.lt hb),λb hb=>(x.new C.nd b hb).2⟩
theorem LK{P:Prog}{ih:Ev}{i:Nat}{fe:cC}{bs:List MV}{h:Hp}{b:MV×Hp}(hf:P.fns[i]? =some fe)(e:rt P ih i bs h=some b):∃r,ih.ex fe.body (bs.map some++List.replicate (fe.nE - bs.length) Option.none) h=some r∧b=(Ww r.1,r.2.2):=by
 obtain ⟨fe',e1,e⟩:=aL.mp e
 cases hf.symm.trans e1
 obtain ⟨⟨fl,l,hh⟩,e2,e⟩:=aL.mp e;exact ⟨_,e2,by cases fl<;>exact (bJ e).symm⟩
set_option backward.match.sparseCases true in
theorem LL{fl:Fl}{f:Flow}:Wu D G ρ fl f→VR D G ρ (Ww fl) (match (f:Flow) with|.ret v=>v|_=>Value.none):=by
 cases fl with
 |next=>rintro rfl;exact VR.none
 |ret m=>rintro ⟨w,rfl,hr⟩;exact hr
theorem CJ(L:cD D K h₀ mg mb)(IH:∀A,SX ⟨D,h₀,A⟩ n):SC D h₀ (n+1):=by
 rintro A i fe fa pos kv bs kn xs vs ws h ⟨G,ρ,s⟩ Lw tV hA R h1 h2 ek eb b ec Rz KR;obtain ⟨WC,Ud,FL⟩:=L.fns i fe Lw
 cases tV.symm.trans Ud
 obtain ⟨oc,od,z0,fd,body,ho,F⟩:=FL.obj;have R:Rep D h₀ G ρ h s:=R;have C:=oO F.comp;have X:=R.qv L;obtain ⟨T,hb,B⟩:=oQ L.GJ (R:=λ_ m v=>VR D G ρ m v) (λ_ _ _ z=>z) C F.Wm h1.length (x6 (λ_ _ _ z=>z) C.ids h1) h2 ek eb
 obtain ⟨r,e2,rfl⟩:=LK Lw ec;rw [C.body] at e2;refine enter L hA.B5 X (λb o e=>R.keep b o (R.base b o e)) ho F C (hb _ X) B.sub λenv s1 x=>codeAny_func ?_
 have S:=x.sr L R C B;refine IH _ 60 ⟨_,env⟩ body _ h ⟨G,ρ,s1⟩ ⟨⟨rfl,rfl,rfl⟩,x.OY C,hA.deep env⟩ S _ e2 _ _ λW' f g r'=>?_
 obtain ⟨hh,tk,e,_⟩:=x.x.done;have st:gK (bM ρ) s W'.s:=⟨g.st.gens.trans (by rw [e]),g.st.drawn.trans (by rw [e]),g.st.os.trans (by rw [e]),λb o nb e=>g.st.keep b o (λz=>(List.mem_append.mp z).elim nb λz=>Nat.not_lt.mpr (x.new C.nd b z).1 (Heap.lt_size e)) (x.x.toInCall.keep b o e)⟩
 exact KR W' _ (.of ((fh.same (ir x.x.toInCall.keep)).trans g.g) st) ⟨r'.1.rep,LL r'.2⟩
end
section
variable {X:Ctx}{K:Frag}{mg mb:Str→Option Value}{n k:Nat}{f:Fr}{l:Loc}{h:Hp}{W:Wd}
noncomputable def RM(X:Ctx){β:Type}(x:β×Hp):Wd→Value×List Value→kY→Prop:=λW fx c=>Ok X x.2 W∧rL X.D W.G W.ρ c fx.1 fx.2
theorem LM(L:cD X.D K X.h₀ mg mb){v:MV}{va:Value}{a:Nat}{x:Str}{pl:Sem Bool}(R:Ok X h W)(hx:X.D.nm[a]? =some x)(hv:V X W v va):aD X [] W (getMethod va x pl) (bK X.D.pm v a h) (RM X (v,h)):=λc e Q Ex KQ=>rM L R hx hv e λf first s' G' cA g R' st hc=>KQ ⟨G',cA,s'⟩ (f,first) (.of g st) ⟨R',hc⟩
theorem LN(L:cD X.D K X.h₀ mg mb)(IC:SC X.D X.h₀ n)(hA:qk (n+1) X.A){c:kY}{fv:Value}{first:List Value}{pos kv:List MV}{kn:List Nat}{xs:List Str}{vs ws:List Value}(R:Ok X h W)(hf:rL X.D W.G W.ρ c fv first)(h1:Vs X W pos vs)(h2:Vs X W kv ws)(ek:kn.mapM (λi=>X.D.nm[i]?)=some xs):
  aD X [] W (call fv (first++vs) (xs.zip ws)) (d9 X.D.pm (E X.D.pm n) c pos kn kv h) (RV X):=by
 have bi:Tn c=none→aD X [] W (call fv (first++vs) (xs.zip ws)) (if kn.isEmpty=true then oj c pos h else none) (RV X):=λ_=>aD.ite λhk=>aD.LC λr h' e Q Ex q=>by
  cases List.isEmpty_iff.mp hk
  rw [mapM_nil ek];exact CH L R hf h1 e q
 cases c with
 |fn fi self=>
  obtain ⟨fa,sv,tV,WD,z⟩:=hf;refine aD.pick λfe e1=>aD.pick λbs e2=>?_
  have q:=IC X.A fi fe fa (self::pos) kv bs kn xs (sv::vs) ws h W e1 tV hA.pred R (.cons WD h1) h2 ek e2;rcases z with ⟨rfl,rfl⟩|⟨m,rfl,rfl,g⟩
  ·exact q.call
  ·exact λb e Q Ex KQ=>wpAny_call (method_call (R.keep _ _ g) (q b e _ λW' w g r=>KQ W' w g r))
 |_=>exact bi rfl
theorem wc(L:cD X.D K X.h₀ mg mb)(hh:X.A.handled=none){b:BI}{args:List MV}{vs:List Value}(R:Ok X h W)(hv:Vs X W args vs):aD X [] W (call b.val vs []) ((iB X.D.pm b args h).map λv=>(v,h)) (RV X):=λr e Q Ex KQ=>match dw.mp e with
 |⟨v,e1,e2⟩=>vY L hh R hv e1 λw s' G' cA g R' st hw=>KQ ⟨G',cA,s'⟩ w (.of g st) (e2▸⟨R',hw⟩)
theorem we(L:cD X.D K X.h₀ mg mb)(IC:SC X.D X.h₀ n)(hA:qk (n+1) X.A){v:MV}{fv:Value}{pos kv:List MV}{kn:List Nat}{xs:List Str}{vs ws:List Value}(R:Ok X h W)(hf:V X W v fv)(h1:Vs X W pos vs)(h2:Vs X W kv ws)(ek:kn.mapM (λi=>X.D.nm[i]?)=some xs):
  aD X [] W (call fv vs (xs.zip ws)) (lQ X.D.pm (E X.D.pm n) v pos kn kv h) (RV X):=by
 cases v with
 |fn i=>obtain ⟨fa,tV,rfl⟩:=hf;exact aD.pick λfe e1=>aD.pick λbs e2=>(IC X.A i fe fa pos kv bs kn xs vs ws h W e1 tV hA.pred R h1 h2 ek e2).call
 |cls i=>
  obtain ⟨C,hC,rfl⟩:=hf;refine aD.pick λce e1=>aD.pick λfe e2=>?_
  cases hr:ce.isRec with
  |true=>exact aD.LC λr h' e Q Ex q=>match aL.mp e with
   |⟨bs,e3,e⟩=>match aL.mp e with
    |⟨vals,e4,e⟩=>by cases e;exact Cr L hA e1 e2 hr hC R h1 h2 ek e3 e4 q
  |false=>exact aD.LC λr h' e Q Ex q=>match aL.mp e with
   |⟨bs,e3,e⟩=>match aL.mp e with
    |⟨(w,hh),e4,e⟩=>by
     cases w<;>first|exact (aY _ e.symm).elim|skip
     cases e
     exact v9 L IC hA e1 e2 hr hC R h1 h2 ek e3 e4 q
 |bi b=>
  subst hf;refine aD.ite λhk=>?_
  obtain rfl:=List.isEmpty_iff.mp hk;rw [mapM_nil ek];exact wc L hA.handled R h1
 |_=>exact aD.no
end
def SK(X:Ctx)(n:Nat):Prop:=∀k f elt gs sc p,gf X (n+1) f→Al (aB k f.ci (.ListComp elt gs sc p)) (iw X (n+1) f (.ListComp elt gs sc p))
section
variable {X:Ctx}{K:Frag}{mg mb:Str→Option Value}{n k:Nat}{f:Fr}{l:Loc}{h:Hp}{W:Wd}
theorem aD.Ue{α β gW γ δ ε ζ ι:Type}{F:List Addr}{c:Sem α}{c':Sem ε}{o:Option (β×gW)}{R:Wd→α→β×gW→Prop}{d:ι→α→Sem γ}{k:α→γ→Sem ε}{o2:β×gW→Option δ}{g:β×gW→δ→Option ζ}{R2:β×gW→Wd→γ→δ→Prop}{R':Wd→ε→ζ→Prop}
  (rule:∀Q Ex,bA X c (λa s1=>∀i,bA X (d i a) (λb s2=>bA X (k a b) Q Ex s2) Ex s1) Ex W.s→bA X c' Q Ex W.s) (s:aD X F W c o R) (s2:∀W' a v h' i,Go F W W'→R W' a (v,h')→aD X F W' (d i a) (o2 (v,h')) (R2 (v,h')))
  (q:∀W' W2 a v h' a2 b2,Go F W W'→R W' a (v,h')→Go F W' W2→R2 (v,h') W2 a2 b2→aD X F W2 (k a a2) (g (v,h') b2) R'):aD X F W c' (o.bind λx=>(o2 x).bind (g x)) R':=λr e Q Ex K=>match aL.mp e with
 |⟨(_,_),e1,e2⟩=>match aL.mp e2 with
  |⟨_,e3,e4⟩=>rule Q Ex (s _ e1 _ Ex λW' a g1 r1 i=>s2 W' a _ _ i g1 r1 _ e3 _ Ex λW2 a2 g2 r2=>q W' W2 a _ _ a2 _ g1 r1 g2 r2 r e4 Q Ex λW3 a3 g3 r3=>K W3 a3 ((g1.trans g2).trans g3) r3)
theorem Ar{o:Expr}{x:Str}{apos pos:Pos}{args:List Expr}{dX:List Keyword}{env:Env}{Q:Value→Shared→Prop}{Ex:Value→Shared→Prop}{s:Shared}(hs:fN o=false)(O9:(apos.endLine==pos.line)=true)(hn:args.length+dX.length< 25)
  (h1:(backTo pos (starEach args env)).any (·.1)=false) (h2:(backToKw pos (keywordEach dX env)).all (·.1.isSome)=true)
  (hh:bA X (eval o env) (λov cZ=>∀pl,bA X (getMethod ov x pl) (λfx gB=>bA X (callWith pos fx.1 fx.2 (backTo pos (starEach args env)) (backToKw pos (keywordEach dX env))) Q Ex gB) Ex cZ) Ex s):
  bA X (eval (.Call (.Attribute o x apos) args dX pos) env) Q Ex s:=by
 rw [arm_eval_Call,ya hs];refine wpAny_bind (wpAny_mono hh (λov cZ gX=>wpAny_bind (wpAny_standAt ?_)) λ_ _ z=>z)
 have Pa:methodCallForm (args.length+dX.length) (backTo pos (starEach args env)) (backToKw pos (keywordEach dX env))=true:=by
  unfold methodCallForm;have Yz:(backTo pos (starEach args env)).all (!·.1)=true:=by rw [List.all_eq_true];exact λz hz=>by simpa using List.any_eq_false.mp h1 z hz
  rw [Yz,h2,decide_eq_true (show args.length+dX.length+(if (backToKw pos (keywordEach dX env)).isEmpty then 0 else 1)< 30 by split<;>lia)];rfl
 have Pb:methodCallPos true o env apos pos=pure pos:=by unfold methodCallPos;simp [O9]
 unfold methodCall calleeOf;rw [Pa,Pb];exact wpAny_bind (wpAny_holding (wpAny_mono (gX _) (λfx gB kH=>wpAny_bind (wpAny_pure kH)) λ_ _ z=>z))
theorem Hg{fe:Expr}{args:List Expr}{dX:List Keyword}{pos:Pos}{env:Env}(hf:lR fe=none):eval (.Call fe args dX pos) env=(do callWith pos (← eval fe env) [] (backTo pos (starEach args env)) (backToKw pos (keywordEach dX env))):=by cases fe<;>first|rfl|cases hf
theorem As(L:cD X.D K X.h₀ mg mb){c:kY}{fv:Value}{first:List Value}(R:Ok X h W)(hc:rL X.D W.G W.ρ c fv first){as ks:List MV}{kn:List Nat}{h2:Hp}{r:MV×Hp}{ih:Ev}(e:d9 X.D.pm ih c as kn ks h2=some r)(M:Model)(hp:Heap)(hk:∀b o,W.G b o→hp.get? b=some o):uc M hp fv:=by
 cases c with
 |fn fi self=>
  obtain ⟨fa,sv,tV,WD,z⟩:=hc;obtain ⟨fe,e7,_⟩:=aL.mp e;obtain ⟨WC,e8,FL⟩:=L.fns fi fe e7;rw [tV] at e8;cases e8
  obtain ⟨oc,od,z0,fd,body,ho,_⟩:=FL.obj;have X':K.In hp:=λb o z=>hk b o (R.base b o (L.qv b o z))
  rcases z with ⟨rfl,rfl⟩|⟨q,rfl,rfl,gq⟩
  ·exact keeps_K (by unfold keepIn;dsimp only;rw [ho]) _ X'
  ·exact keeps_M (by unfold fnIn;rw [ho]) _ ⟨hk _ _ gq,X'⟩
 |join x=>exact hc.1▸dH _
 |starts x=>exact hc.1▸dH _
 |append o=>exact hc.1▸dH _
 |pop o=>exact hc.1▸dH _
 |copy ks vs=>exact hc.1▸dH _
 |get ks vs=>exact hc.1▸dH _
theorem Au(L:cD X.D K X.h₀ mg mb){v:MV}{fv:Value}(R:Ok X h W)(hv:V X W v fv){as ks:List MV}{kn:List Nat}{h2:Hp}{r:MV×Hp}{ih:Ev}(e:lQ X.D.pm ih v as kn ks h2=some r)(M:Model)(hp:Heap)(hk:∀b o,W.G b o→hp.get? b=some o):uc M hp fv:=by
 have X':K.In hp:=λb o z=>hk b o (R.base b o (L.qv b o z))
 cases v with
 |fn i=>
  obtain ⟨fa,tV,rfl⟩:=hv;obtain ⟨fe,e7,_⟩:=aL.mp e;obtain ⟨WC,e8,FL⟩:=L.fns _ fe e7;rw [tV] at e8;cases e8
  obtain ⟨oc,od,z0,fd,body,ho,_⟩:=FL.obj;exact keeps_K (by unfold keepIn;dsimp only;rw [ho]) _ X'
 |cls i=>obtain ⟨C,hC,rfl⟩:=hv;obtain ⟨ce,e7,_⟩:=aL.mp e;exact keeps_K (lT L e7 hC).keep _ X'
 |bi b=>
  subst hv
  cases b<;>first|exact dH _|exact Af _
 |_=>exact (aY _ e.symm).elim
theorem Av{e:Expr}{q:Option Expr×Option Expr×Option Expr}(h:ig e=some q):∃p,e=.Slice q.1 q.2.1 q.2.2 p:=by
 cases e with
 |Slice x y z p=>exact bJ h▸⟨p,rfl⟩
 |_=>exact (aY _ h.symm).elim
theorem Hh{Pd:Expr}{ops:List CmpOp}{es:List Expr}{p:Pos}{env:Env}(hm:lastMarks ops es=false){Q:Value→Shared→Prop}{Ex:Value→Shared→Prop}{s:Shared}(h:bA X (eval Pd env) (λa s1=>bA X (compareChain p a ops (evalEach es env)) Q Ex s1) Ex s):bA X (eval (.Compare Pd ops es p) env) Q Ex s:=by rw [arm_eval_Compare,markedEach_of_false _ _ _ hm];exact wpAny_bind h
theorem ur{α:Type}{pos:Pos}{x:Sem (List Value)}{g:List Value→Sem α}{Q:α→Shared→Prop}{Ex:Value→Shared→Prop}{s:Shared}(h:bA X x (λa s1=>bA X (g a) Q Ex s1) Ex s):bA X (standAt pos >>=λ_=>x >>=g) Q Ex s:=wpAny_bind (wpAny_standAt (wpAny_bind h))
end
section
variable {X:Ctx}{K:Frag}{mg mb:Str→Option Value}{n k:Nat}{f:Fr}{l:Loc}{h:Hp}{W:Wd}
theorem CK(L:cD X.D K X.h₀ mg mb)(H:B6 X.D f.ci)(I:∀e,Al (aB k f.ci e) (iw X n f e)){o:Expr}{a:Str}{p:Pos}:Al (aB (k+1) f.ci (.Attribute o a p)) (iw X (n+1) f (.Attribute o a p)):=Al.rN λhs=>Al.bind (I o) λm im=>Al.bind (iO H a) λi hi=>Al.some λl h W S=>aD.rO (λ_ _=>G7 (by simpa using hs)) (im l h W S) λW1 va v h1 g r=>(ug L r.1.rep hi r.2).frame r.1
theorem Aw(I:∀e,Al (aB k f.ci e) (iw X n f e)){a b:Expr}{op:Operator}{p:Pos}:Al (aB (k+1) f.ci (.BinOp a op b p)) (iw X (n+1) f (.BinOp a op b p)):=Al.bind (I a) λma ia=>Al.bind (I b) λmb ib=>Al.some λl h W S=>aD.LA (λ_ _=>wpAny_BinOp) (ia l h W S) (λW1 va v h1 _ r1=>ib l h1 W1 r1.1) λW1 W2 va v h1 vb w h2 _ r1 g r2=>(GZ r2.1.rep (g.v r1.2) r2.2).frame r2.1
theorem wg(I:∀e,Al (aB k f.ci e) (iw X n f e)){es:List Expr}{op:BoolOp}{p:Pos}:Al (aB (k+1) f.ci (.BoolOp op es p)) (iw X (n+1) f (.BoolOp op es p)):=Al.bind (Al.mapM es) λms c=>Al.some λl h W S=>aD.eq (arm_eval_BoolOp ..) (by cases op<;>cases c<;>first|exact aD.no|exact G3 I (.mk ‹_› ‹_›) l h W S|exact LG I (.mk ‹_› ‹_›) l h W S)
theorem CL(I:∀e,Al (aB k f.ci e) (iw X n f e)){x:Expr}{op:UnaryOp}{p:Pos}:Al (aB (k+1) f.ci (.UnaryOp op x p)) (iw X (n+1) f (.UnaryOp op x p)):=
 Al.bind (I x) λm im=>by
  cases op with
  |Not=>exact Al.some λl h W S=>aD.assoc (aD.fin2 (λ_ _ z=>wpAny_UnaryOp (wpAny_mono z (λ_ _=>not_value) λ_ _ z=>z)) (im l h W S) (λW1 va v h1 _ r1=>(oU r1.1.rep r1.2).Cy r1.1) λW1 W2 va v h1 t b h2 _ r1 g r2=>Al.some ⟨r2.1,r2.2▸VR.bool⟩)
  |USub=>exact Al.some λl h W S=>aD.rO (λ_ _=>wpAny_UnaryOp) (im l h W S) λW1 va v h1 g r=>(G4 r.1.rep r.2).frame r.1
  |_=>exact Al.none
theorem CM(I:∀e,Al (aB k f.ci e) (iw X n f e)){a:Expr}{ops:List CmpOp}{es:List Expr}{p:Pos}:Al (aB (k+1) f.ci (.Compare a ops es p)) (iw X (n+1) f (.Compare a ops es p)):=
 Al.ite λhl=>Al.bind (I a) λm im=>Al.bind (Al.mapM es) λms c=>Al.some λl h W S=>by
  have hl:=beq_iff_eq.mp hl
  cases c with
  |nil=>obtain rfl:=List.length_eq_zero_iff.mp hl;exact aD.rO (λQ Ex z=>by rw [arm_eval_Compare];exact wpAny_bind z) (im l h W S) λW1 va v h1 g r=>aD.no
  |cons c r=>
   cases ops with
   |nil=>cases hl
   |cons op ops=>have ch:Ch k f.ci (op::ops) _ _:=.mk r c (Nat.succ.inj hl);exact aD.rO (λ_ _=>Hh (ue ch)) (im l h W S) λW1 va v h1 g r=>aD.then (Am I ch l h1 W1 va v r.1 r.2) λW2 t b h2 g2 r2=>Al.some r2
theorem Ax(I:∀e,Al (aB k f.ci e) (iw X n f e))(T:∀e,Al (aB k f.ci e) (LF X n f e)){c a b:Expr}{p:Pos}:Al (aB (k+1) f.ci (.IfExp c a b p)) (iw X (n+1) f (.IfExp c a b p)):=Al.bind (T c) λmc ic=>Al.bind (I a) λma ia=>Al.bind (I b) λmb ib=>Al.some λl h W S=>aD.rO (λ_ _=>CG) (ic l h W S) λW1 t b h1 g r=>aD.cond r.2 (ia l h1 W1 r.1) (ib l h1 W1 r.1)
theorem CN(I:∀k e,Al (aB k f.ci e) (iw X n f e)){a i:Expr}{p:Pos}:Al (aB (k+1) f.ci (.Subscript a i p)) (iw X (n+1) f (.Subscript a i p)):=by
 show Al (match ig i with
   |some (lo,hi,st)=>if st.isNone=true then (aB k f.ci a).bind λa=>(fT k f.ci lo).bind λlo=>(fT k f.ci hi).bind λhi=>some (ai.slice a lo hi) else none
   |none=>(aB k f.ci a).bind λa=>(aB k f.ci i).bind λi=>some (ai.sub a i)) _
 cases hs:ig i with
 |some q=>
  obtain ⟨lo,hi,st⟩:=q;obtain ⟨sp,rfl⟩:=Av hs;exact Al.ite λSo=>Al.bind (I k a) λma ia=>Al.bind Al.self λUa e1=>Al.bind Al.self λUb e2=>Al.some λl h W S=>by
   obtain rfl:=Option.isNone_iff_eq_none.mp So;exact λr e Q Ex KQ=>match aL.mp e with
    |⟨(v,h1),e3,e4⟩=>Subscript_ (ia l h W S _ e3 _ Ex λW1 va g1 r1=>Aq I e1 e2 r1.1 r1.2 r e4 Q Ex λW2 v' g2 r2=>KQ W2 v' (g1.trans g2) r2)
 |none=>exact Al.bind (I k a) λma ia=>Al.bind (λm e=>(⟨I k i m e,Ai e⟩:_∧lq i=true)) λmi ii=>Al.some λl h W S=>aD.LA (λ_ _=>Subscript_) (ia l h W S) (λW1 va v h1 _ r1=>ii.1 l h1 W1 r1.1) λW1 W2 va v h1 vb w h2 _ r1 g r2=>(G8 ii.2 r2.1.rep (g.v r1.2) r2.2).frame r2.1
theorem CO(I:∀e,Al (aB k f.ci e) (iw X n f e)){es:List Expr}{p:Pos}:Al (aB (k+1) f.ci (.List es p)) (iw X (n+1) f (.List es p)):=Al.bind (Al.mapM es) λms c=>Al.some λl h W S=>aD.rO (λ_ _=>ur) (nU I c l h W S) λW1 va v h1 g r=>(v8 r.1.rep r.2).frame r.1
theorem Ay(I:∀e,Al (aB k f.ci e) (iw X n f e)){es:List Expr}{c:Nat}{p:Pos}:Al (aB (k+1) f.ci (.Tuple es c p)) (iw X (n+1) f (.Tuple es c p)):=Al.bind (Al.mapM es) λms c=>Al.some λl h W S=>aD.rO (λ_ _=>ur) (nU I c l h W S) λW1 va v h1 g r=>(Ao r.1.rep r.2).frame r.1
theorem CP(L:cD X.D K X.h₀ mg mb){ks:List (Option Expr)}{vs:List Expr}{p:Pos}:Al (aB (k+1) f.ci (.Dict ks vs p)) (iw X (n+1) f (.Dict ks vs p)):=Al.bind Al.self λmk e1=>Al.bind Al.self λmv e2=>Al.some λl h W S=>aD.ite λhc=>aD.frame S (aD.LC λr h' e Q Ex q=>Cw L S.rep e1 e2 hc (by cases e;exact q))
theorem Az(L:cD X.D K X.h₀ mg mb)(H:gf X (n+1) f)(IC:SC X.D X.h₀ n)(I:∀e,Al (aB k f.ci e) (iw X n f e)){fe:Expr}{args:List Expr}{dX:List Keyword}{p:Pos}:Al (aB (k+1) f.ci (.Call fe args dX p)) (iw X (n+1) f (.Call fe args dX p)):=by
 show Al (match lR fe with
   |some (o,a,apos)=>if (fN o|| !(apos.endLine==p.line)|| !(args.length+dX.length< 25))=true then none else (aB k f.ci o).bind λm=>(nameId f.ci a).bind λi=>(args.mapM (aB k f.ci)).bind λms=>(dX.mapM (ou f.ci)).bind λkn=>(dX.mapM λk'=>aB k f.ci k'.value).bind λkv=>some (ai.ay m i ms kn kv)
   |none=>if args.length+2 * dX.length< 25 then (aB k f.ci fe).bind λm=>(args.mapM (aB k f.ci)).bind λms=>(dX.mapM (ou f.ci)).bind λkn=>(dX.mapM λk'=>aB k f.ci k'.value).bind λkv=>some (ai.call m ms kn kv) else none) _
 cases hs:lR fe with
 |some q=>
  obtain ⟨o,a,apos⟩:=q;obtain rfl:=qA hs;refine Al.rN λhc=>?_
  rw [Bool.not_eq_true,Bool.or_eq_false_iff,Bool.or_eq_false_iff,Bool.not_eq_false',Bool.not_eq_false',decide_eq_true_eq] at hc;exact Al.bind (I o) λm im=>Al.bind (iO H.ci a) λi hi=>Al.bind (Al.mapM args) λms ca=>Al.bind (Al.mapM dX) λkn cn=>Al.bind (Al.mapM dX) λkv ck=>Al.some λl h W S=>by
   show aD X [] W _ (((E X.D.pm n).ev m l h).bind λx=>(bK X.D.pm x.1 i x.2).bind λc=>(aE (E X.D.pm n) ms l x.2).bind λy=>(aE (E X.D.pm n) kv l y.2).bind λz=>d9 X.D.pm (E X.D.pm n) c y.1 kn z.1 z.2) _
   refine aD.Ue (λ_ _=>Ar hc.1.1 hc.1.2 hc.2 (kI ca) (uo H.ci cn).2.1) (im l h W S) (λW1 va v h1 pl _ r1=>LM L r1.1.rep hi r1.2) λW1 W2 va v h1 fx c _ r1 g r2=>?_
   exact lA (g:=λas ks h2=>d9 X.D.pm (E X.D.pm n) c as kn ks h2) H.ci I ca cn ck (g.qm r1.1 r2.1) (λas ks h2 r e=>As L r2.1 r2.2 e) λW3 as ks h2 vs ws xs g3 S3 hv hw hx=>(LN L IC H.A S3.rep (r2.2.mono g3.g.g g3.g.r) hv hw hx).frame S3
 |none=>exact Al.ite λ_=>Al.bind (I fe) λm im=>Al.bind (Al.mapM args) λms ca=>Al.bind (Al.mapM dX) λkn cn=>Al.bind (Al.mapM dX) λkv ck=>Al.some λl h W S=>aD.eq (Hg hs) (by
   show aD X [] W _ (((E X.D.pm n).ev m l h).bind λx=>(aE (E X.D.pm n) ms l x.2).bind λy=>(aE (E X.D.pm n) kv l y.2).bind λz=>lQ X.D.pm (E X.D.pm n) x.1 y.1 kn z.1 z.2) _
   exact aD.bind (im l h W S) λW1 va v h1 g r=>lA (first:=[]) (g:=λas ks h2=>lQ X.D.pm (E X.D.pm n) v as kn ks h2) H.ci I ca cn ck r.1 (λas ks h2 r' e=>Au L r.1.rep r.2 e) λW3 as ks h2 vs ws xs g3 S3 hv hw hx=>(we L IC H.A S3.rep (g3.v r.2) hv hw hx).frame S3)
theorem CQ(L:cD X.D K X.h₀ mg mb)(IH:j6 X n)(IT:ST X n)(IC:SC X.D X.h₀ n)(HK:SK X n):j6 X (n+1):=λk f e H=>match k with
 |0=>Al.none
 |k+1=>by
  have I:=λk e=>IH k f e H.pred
  cases e with
  |Constant c ku p=>exact An
  |Name x p=>exact CA L H.pred
  |Attribute o a p=>exact CK L H.ci (I k)
  |BinOp a op b p=>exact Aw (I k)
  |BoolOp op es p=>exact wg (I k)
  |UnaryOp op x p=>exact CL (I k)
  |Compare a ops es p=>exact CM (I k)
  |IfExp c a b p=>exact Ax (I k) λe=>IT k f e H.pred
  |Subscript a i p=>exact CN I
  |List es p=>exact CO (I k)
  |Tuple es c p=>exact Ay (I k)
  |Dict ks vs p=>exact CP L
  |Call fe args dX p=>exact Az L H IC (I k)
  |ListComp elt gs sc p=>exact HK _ f elt gs sc p H
  |_=>exact Al.none
end
noncomputable def Ft(v:MV×Hp):Option (Bool×Hp):=(truthy v.1 v.2).bind λb=>some (b,v.2)
theorem LO{a:Option (MV×Hp)}{rest:Hp→Option (MV×Hp)}:(a.bind λv=>(truthy v.1 v.2).bind λb=>if b=true then rest v.2 else some (v.1,v.2)).bind Ft=(a.bind Ft).bind λx=>if x.1=true then (rest x.2).bind Ft else some (false,x.2):=by
 cases a with
 |none=>rfl
 |some v=>
  show (Option.bind (truthy v.1 v.2) _).bind Ft=(Option.bind (truthy v.1 v.2) _).bind _
  cases q:truthy v.1 v.2 with
  |none=>rfl
  |some b=>
   cases b with
   |true=>rfl
   |false=>show (truthy v.1 v.2).bind _=_;rw [q];rfl
theorem Pe{a:Option (MV×Hp)}{rest:Hp→Option (MV×Hp)}:(a.bind λv=>(truthy v.1 v.2).bind λb=>if b=true then some (v.1,v.2) else rest v.2).bind Ft=(a.bind Ft).bind λx=>if x.1=true then some (true,x.2) else (rest x.2).bind Ft:=by
 cases a with
 |none=>rfl
 |some v=>
  show (Option.bind (truthy v.1 v.2) _).bind Ft=(Option.bind (truthy v.1 v.2) _).bind _
  cases q:truthy v.1 v.2 with
  |none=>rfl
  |some b=>
   cases b with
   |false=>rfl
   |true=>show (truthy v.1 v.2).bind _=_;rw [q];rfl
section
variable {X:Ctx}{K:Frag}{mg mb:Str→Option Value}{n k:Nat}{f:Fr}{l:Loc}{h:Hp}{W:Wd}
theorem aD.Ug{α β:Type}{F:List Addr}{c:Sem α}{o o':Option β}{R:Wd→α→β→Prop}(e:o=o')(s:aD X F W c o' R):aD X F W c o R:=e▸s
theorem aD.condB{α β γ:Type}{F:List Addr}{c c2:Sem α}{t v:Bool}{o o2:Option β}{g:β→Option γ}{R:Wd→α→γ→Prop}(e:t=v)(s:aD X F W c (o.bind g) R)(s2:aD X F W c2 (o2.bind g) R):aD X F W (if t=true then c else c2) ((if v=true then o else o2).bind g) R:=by
 subst e;cases t
 ·exact s2
 ·exact s
set_option backward.match.sparseCases true in
theorem AA{x:Expr}{rest:List Expr}{env:Env}{Q:Bool→Shared→Prop}{Ex:Value→Shared→Prop}{s:Shared}(h:bA X (PySem.isTrue x env (eval x env)) (λb cZ=>bA X (if b=true then allTrue .And rest env else pure false) Q Ex cZ) Ex s):bA X (allTrue .And (x::rest) env) Q Ex s:=by
 show bA X (do match BoolOp.And, ← PySem.isTrue x env (eval x env) with|.And,false=>pure false|.Or,true=>pure true|_,_=>allTrue .And rest env) Q Ex s
 exact wpAny_bind (wpAny_mono h (λb cZ gX=>by cases b<;>exact gX) λ_ _ x=>x)
set_option backward.match.sparseCases true in
theorem CR{x:Expr}{rest:List Expr}{env:Env}{Q:Bool→Shared→Prop}{Ex:Value→Shared→Prop}{s:Shared}(h:bA X (PySem.isTrue x env (eval x env)) (λb cZ=>bA X (if b=true then pure true else allTrue .Or rest env) Q Ex cZ) Ex s):bA X (allTrue .Or (x::rest) env) Q Ex s:=by
 show bA X (do match BoolOp.Or, ← PySem.isTrue x env (eval x env) with|.And,false=>pure false|.Or,true=>pure true|_,_=>allTrue .Or rest env) Q Ex s
 exact wpAny_bind (wpAny_mono h (λb cZ gX=>by cases b<;>exact gX) λ_ _ x=>x)
theorem Hi(T:∀e,Al (aB k f.ci e) (LF X n f e)){es:List Expr}{ms:List ai}(c:Se k f.ci es ms):∀l h W,dZ X f l h W→aD X [] W (allTrue .And es f.env) ((tG (E X.D.pm n) ms l h).bind Ft) (Lz X f l):=by
 induction c with
 |one c=>exact λl h W S=>aD.to (λQ Ex z=>wpAny_allTrue_And_cons (wpAny_mono z (λb s z=>by cases b;exact z;exact wpAny_allTrue_And_nil z) λ_ _ z=>z)) (T _ _ c l h W S)
 |more c d ih=>exact λl h W S=>aD.Ug LO (aD.rO (λ_ _=>AA) (T _ _ c l h W S) λW1 t b h1 g r=>aD.cond r.2 (ih l h1 W1 r.1) (aD.ret ⟨r.1,rfl⟩))
theorem LP(T:∀e,Al (aB k f.ci e) (LF X n f e)){es:List Expr}{ms:List ai}(c:Se k f.ci es ms):∀l h W,dZ X f l h W→aD X [] W (allTrue .Or es f.env) ((BL (E X.D.pm n) ms l h).bind Ft) (Lz X f l):=by
 induction c with
 |one c=>exact λl h W S=>aD.to (λQ Ex z=>wpAny_allTrue_Or_cons (wpAny_mono z (λb s z=>by cases b;exact wpAny_allTrue_Or_nil z;exact z) λ_ _ z=>z)) (T _ _ c l h W S)
 |more c d ih=>exact λl h W S=>aD.Ug Pe (aD.rO (λ_ _=>CR) (T _ _ c l h W S) λW1 t b h1 g r=>aD.cond r.2 (aD.ret ⟨r.1,rfl⟩) (ih l h1 W1 r.1))
theorem LQ{c a b:Expr}{pos:Pos}{env:Env}{whole:Sem Value}{Q:Bool→Shared→Prop}{Ex:Value→Shared→Prop}{s:Shared}(h:bA X (PySem.isTrue c env (eval c env)) (λt cZ=>bA X (if t=true then PySem.isTrue a env (eval a env) else PySem.isTrue b env (eval b env)) Q Ex cZ) Ex s):bA X (PySem.isTrue (.IfExp c a b pos) env whole) Q Ex s:=isTrue_IfExp (wpAny_mono h (λ_ _=>CB) λ_ _ z=>z)
theorem CS{Pd:Expr}{ops:List CmpOp}{es:List Expr}{p:Pos}{env:Env}{whole:Sem Value}(hm:lastMarks ops es=false){Q:Bool→Shared→Prop}{Ex:Value→Shared→Prop}{s:Shared}(h:bA X (eval Pd env) (λa s1=>bA X (testChain p a ops (evalEach es env)) Q Ex s1) Ex s):bA X (PySem.isTrue (.Compare Pd ops es p) env whole) Q Ex s:=by rw [arm_isTrue_Compare,markedEach_of_false _ _ _ hm];exact wpAny_bind h
theorem CT{e:Expr}{m:ai}(i:iw X n f e m)(ha:PySem.isTrue e f.env (eval e f.env)=(do let v ← eval e f.env;standAt e.pos;holding [v] (PySem.truthy v))):LF X n f e m:=λl h W S=>aD.rO (λ_ _ z=>wpAny_isTrue_value z ha) (i l h W S) λW1 v m h1 g r=>(oU r.1.rep r.2).Cy r.1
theorem AB(IH:j6 X n)(IT:ST X n)(IS:j6 X (n+1)):ST X (n+1):=λk f e H=>by
 have V:=λm c=>CT (IS k f e H m c)
 cases k with
 |zero=>exact Al.none
 |succ k=>
 have T:=λe=>IT k f e H.pred
 cases e with
 |BoolOp op es p=>exact Al.bind (Al.mapM es) λms c=>Al.some λl h W S=>aD.to (λ_ _=>wpAny_isTrue_BoolOp) (by cases op<;>cases c<;>first|exact aD.no|exact Hi T (.mk ‹_› ‹_›) l h W S|exact LP T (.mk ‹_› ‹_›) l h W S)
 |UnaryOp op x p=>
  cases op with
  |Not=>exact Al.bind (T x) λm im=>Al.some λl h W S=>aD.assoc (aD.fin (λ_ _=>wpAny_isTrue_Not) (im l h W S) λW1 t b h1 g r=>Al.some ⟨r.1,congrArg (!·) r.2⟩)
  |_=>exact λm c=>V m c rfl
 |IfExp c a b p=>exact Al.bind (T c) λmc ic=>Al.bind (T a) λma ia=>Al.bind (T b) λmb ib=>Al.some λl h W S=>aD.assoc (aD.rO (λ_ _=>LQ) (ic l h W S) λW1 t b h1 g r=>aD.condB r.2 (ia l h1 W1 r.1) (ib l h1 W1 r.1))
 |Compare a ops es p=>
  exact Al.ite λhl=>Al.bind (IH k f a H.pred) λm im=>Al.bind (Al.mapM es) λms c=>Al.some λl h W S=>by
   have hl:=beq_iff_eq.mp hl
   cases c with
   |nil=>obtain rfl:=List.length_eq_zero_iff.mp hl;exact aD.assoc (aD.rO (λQ Ex z=>by rw [arm_isTrue_Compare];exact wpAny_bind z) (im l h W S) λW1 va v h1 g r=>aD.no)
   |cons c r=>
    cases ops with
    |nil=>cases hl
    |cons op ops=>have ch:Ch k f.ci (op::ops) _ _:=.mk r c (Nat.succ.inj hl);exact aD.assoc (aD.rO (λ_ _=>CS (ue ch)) (im l h W S) λW1 va v h1 g r=>aD.assoc (aD.then (CF (λe=>IH k f e H.pred) ch l h1 W1 va v r.1 r.2) λW2 t b h2 g2 r2=>Al.some r2))
 |_=>exact λm c=>V m c rfl
end
noncomputable def RU(X:Ctx)(f:Fr):Wd→Unit→Loc×Hp→Prop:=λW _ r=>dZ X f r.1 r.2 W
theorem CU{l:List Str}{x:Str}{i:Nat}(e:l.idxOf? x=some i):i< l.length:=(List.getElem?_eq_some_iff.mp (dG e)).1
theorem CV{l:List Str}{x y:Str}{i:Nat}(e:l.idxOf? x=some i)(e':l.idxOf? y=some i):y=x:=bJ ((dG e').symm.trans (dG e))
theorem set_slot{slots:List Str}{l:Loc}{i j:Nat}{x y:Str}{v mv:MV}(il:i< l.length)(hs:slots.idxOf? x=some i)(ej:slots.idxOf? y=some j)(e:(gV l i v)[j]? =some (some mv)):(y=x∧mv=v)∨(y≠x∧l[j]? =some (some mv)):=by
 by_cases q:i=j
 ·subst q
  exact .inl ⟨CV hs ej,(bJ (bJ ((List.getElem?_set_self il).symm.trans e))).symm⟩
 ·exact .inr ⟨λz=>q (bJ ((z▸hs).symm.trans ej)),(List.getElem?_set_ne q).symm.trans e⟩
theorem uu{cells:List (Str×Addr)}(nd:(cells.map (·.2)).Nodup){x y:Str}{c:Addr}(a:(x,c)∈cells)(b:(y,c)∈cells):x=y:=by
 induction cells with
 |nil=>cases a
 |cons p r ih=>
  rw [List.map_cons,List.nodup_cons] at nd;rcases bO.mp a with a|a<;>rcases bO.mp b with b|b
  ·rw [← a] at b;exact (Prod.mk.inj b).1.symm
  ·exact absurd (by rw [← a];exact List.mem_map.mpr ⟨(y,c),b,rfl⟩) nd.1
  ·exact absurd (by rw [← b];exact List.mem_map.mpr ⟨(x,c),a,rfl⟩) nd.1
  ·exact ih nd.2 a b
section
variable {X:Ctx}{K:Frag}{mg mb:Str→Option Value}{n k:Nat}{f:Fr}{l:Loc}{h:Hp}{W:Wd}{F:List Addr}
theorem Rep.but{D:bZ}{h₀:Heap}{G:Fz}{ρ:List PR}{h:Hp}{s s':Shared}(R:Rep D h₀ G ρ h s)(F:List Addr)(k:∀b o,b∉F→s.heap.get? b=some o→s'.heap.get? b=some o)(sg:∀b o,G b o→b∉F)(sr:∀b∈bM ρ,b∉F):Rep D h₀ G ρ h s':=⟨R.base,λb o g=>k b o (sg b o g) (R.keep b o g),R.sep,R.nodup,R.len,λi p o a b=>(R.objs i p o a b).mono (.refl _) (.refl _) λb hb ob e=>k b ob (sr b (fV a hb)) e⟩
noncomputable abbrev Wd.hp(W:Wd)(H:Heap)(t:Nat):Wd:=⟨W.G,W.ρ,{W.s with heap:=H,toks:=t}⟩
theorem dZ.write(S:dZ X f l h W){b0:Addr}(hb:b0∈jr f.env)(hF:b0∈F){H:Heap}{t:Nat}{l':Loc}(hs:∀b,b≠b0→H.get? b=W.s.heap.get? b){o0:Obj}(ho:H.get? b0=some o0)(L:LR X.D W.G W.ρ f.ci f.env l' H):Go F W (W.hp H t)∧dZ X f l' h (W.hp H t):=by
 have kp:∀b o,b∉[b0]→W.s.heap.get? b=some o→H.get? b=some o:=λb o nb e=>(hs b λz=>nb (z▸b7 ..)).trans e
 have up:∀{b:Addr},b∈[b0]→b=b0:=λq=>ez.mp q
 refine ⟨⟨.same λb q=>?_,⟨rfl,rfl,rfl,λb o nb e=>kp b o (λz=>nb (List.mem_append_right _ (up z▸hF))) e⟩⟩,S.rep.but [b0] kp (λb o g z=>S.sg b o g (up z▸hb)) (λb r z=>S.sr b r (up z▸hb)),L,S.sg,S.sr,λb q=>?_⟩
 ·by_cases z:b=b0
  ·rw [z,ho] at q;cases q
  ·rwa [← hs b z]
 ·by_cases z:b=b0
  ·exact ⟨o0,z▸ho⟩
  ·exact (S.lt b q).imp λo e=>(hs b z).trans e
theorem yb(H:iK f.ci f.env){x:Str}{c:Addr}(e:f.env.cells.lookup x=some c):c≠f.env.locals:=λz=>(List.nodup_cons.mp H.nodup).1 (z▸List.mem_map_of_mem (f:=λ(p:Str×Addr)=>p.2) (mem_lookup e))
theorem mY(H:iK f.ci f.env)(hF:f.env.locals∈F){x:Str}{i:Nat}(hk:f.ci.kinds.lookup x=some .local)(hs:f.ci.slots.idxOf? x=some i){v:MV}{va:Value}(S:dZ X f l h W)(hv:V X W v va):aD X F W (storeName f.env x va) (some (gV l i v,h)) (RU X f):=λb e Q Ex K=>by
 obtain ⟨ml,hn,hm⟩:=S.lr.aH;have il:i< l.length:=by rw [S.lr.len];exact CU hs
 refine wpAny_storeName_local ((j0 H x).trans hk) hn (λh1 mT nT=>?_) (by rw [H.fn];rfl)
 obtain ⟨o,es,ep,h2,h3⟩:=id mT;have w:=S.write (F:=F) (l':=gV l i v) (t:=W.s.toks+1) (b7 ..) hF nT.2 h2 ⟨List.length_set.trans S.lr.len,⟨_,mT,λj y mv ej ek e=>?_⟩,λj y ej ek=>?_⟩
 ·exact K (W.hp h1 (W.s.toks+1)) () w.1 (bJ e▸w.2)
 ·rcases set_slot il hs ej e with ⟨rfl,rfl⟩|⟨q,e⟩
  ·exact ⟨va,if_pos rfl,hv⟩
  ·obtain ⟨w,hw,hr⟩:=hm j y mv ej ek e
   exact ⟨w,(if_neg q).trans hw,hr⟩
 ·obtain ⟨c,w,e1,⟨o,e2,e3⟩,r⟩:=S.lr.cell j y ej ek
  refine ⟨c,w,e1,⟨o,(nT.2 c (yb H e1)).trans e2,e3⟩,λmv e=>?_⟩
  rcases set_slot il hs ej e with ⟨rfl,_⟩|⟨_,e⟩
  ·rw [hk] at ek;cases ek
  ·exact r mv e
theorem wh(H:iK f.ci f.env){x:Str}{i:Nat}(hk:f.ci.kinds.lookup x=some .cell)(hs:f.ci.slots.idxOf? x=some i){v:MV}{va:Value}(S:dZ X f l h W)(hv:V X W v va):aD X (jr f.env) W (storeName f.env x va) (some (gV l i v,h)) (RU X f):=λb e Q Ex K=>by
 obtain ⟨c,w,e1,Cz,r⟩:=S.lr.cell i x hs hk;have il:i< l.length:=by rw [S.lr.len];exact CU hs
 refine wpAny_storeName_cell H.fn ((j0 H x).trans hk) e1 Cz λh1 mT nT=>?_
 obtain ⟨o,h2,h3⟩:=id mT;have w:=S.write (F:=jr f.env) (l':=gV l i v) (t:=W.s.toks) (jF e1) (jF e1) nT.2 h2 ⟨List.length_set.trans S.lr.len,?_,λj y ej ek=>?_⟩
 ·exact K (W.hp h1 W.s.toks) () w.1 (bJ e▸w.2)
 ·obtain ⟨ml,hn,hm⟩:=S.lr.aH
  refine ⟨ml,hn.sameBut nT (Ne.symm (yb H e1)),λj y mv ej ek e=>?_⟩
  rcases set_slot il hs ej e with ⟨rfl,_⟩|⟨_,e⟩
  ·rw [hk] at ek;cases ek
  ·exact hm j y mv ej ek e
 ·obtain ⟨c',w',f1,⟨o',f2,f3⟩,r'⟩:=S.lr.cell j y ej ek
  by_cases q:y=x
  ·subst q
   rw [e1] at f1;cases f1
   refine ⟨c,some va,e1,mT,λmv e=>?_⟩
   rcases set_slot il hs ej e with ⟨_,rfl⟩|⟨q,_⟩
   ·exact ⟨va,rfl,hv⟩
   ·exact absurd rfl q
  ·refine ⟨c',w',f1,⟨o',(nT.2 c' λz=>q (uu (List.nodup_cons.mp H.nodup).2 (mem_lookup f1) (z▸mem_lookup e1))).trans f2,f3⟩,λmv e=>?_⟩
   rcases set_slot il hs ej e with ⟨z,_⟩|⟨_,e⟩
   ·exact absurd z q
   ·exact r' mv e
def CW(X:Ctx)(f:Fr)(F:List Addr)(P:Str→Option Nat):Prop:=∀x i,P x=some i→∀l h W v va,dZ X f l h W→V X W v va→aD X F W (storeName f.env x va) (some (gV l i v,h)) (RU X f)
theorem rQ(H:iK f.ci f.env):CW X f (jr f.env) (jE f.ci):=λx i e l h W v va S hv=>by
 unfold jE at e
 by_cases q:fM (f.ci.kinds.lookup x)=true
 ·rw [if_pos q] at e
  exact (lV q).elim (λq=>mY H (b7 ..) q e S hv) λq=>wh H q e S hv
 ·rw [if_neg q] at e;cases e
theorem Pf(H:iK f.ci f.env):CW X f [f.env.locals] (BO f.ci):=λx i e l h W v va S hv=>by
 unfold BO at e
 by_cases q:(f.ci.kinds.lookup x==some .local)=true
 ·rw [if_pos q] at e
  exact mY H (b7 ..) (rP q) e S hv
 ·rw [if_neg q] at e;cases e
end
theorem gm{α β γ:Type}{o:Option (α×β)}{f:α×β→Option γ}{r:γ}{C:Prop}(e:o.bind f=some r)(k:∀a b,o=some (a,b)→f (a,b)=some r→C):C:=match aL.mp e with
 |⟨(a,b),e1,e2⟩=>k a b e1 e2
theorem jl{α γ:Type}{o:Option α}{f:α→Option γ}{r:γ}{C:Prop}(e:o.bind f=some r)(k:∀a,o=some a→f a=some r→C):C:=match aL.mp e with
 |⟨a,e1,e2⟩=>k a e1 e2
theorem AD{β:Type}{l:Loc}{i:Nat}{g:MV→Option β}{r:β}(e:(match l[i]? with|some (some v)=>g v|_=>none)=some r):∃v,l[i]? =some (some v)∧g v=some r:=by
 match q:l[i]?,e with
 |some (some v),e=>exact ⟨v,rfl,e⟩
theorem rR{α:Type}{c:Prop}[Decidable c]{a b:α}(e:(if c then some a else none)=some b):c∧a=b:=by
 by_cases q:c
 ·exact ⟨q,bJ ((if_pos q).symm.trans e)⟩
 ·exact (aY _ ((if_neg q).symm.trans e).symm).elim
theorem yc{α:Type}{c:Prop}[Decidable c]{o:Option α}{b:α}(e:(if c then o else none)=some b):c∧o=some b:=by
 by_cases q:c
 ·exact ⟨q,(if_pos q).symm.trans e⟩
 ·exact (aY _ ((if_neg q).symm.trans e).symm).elim
section
variable {X:Ctx}{K:Frag}{mg mb:Str→Option Value}{n k:Nat}{f:Fr}{l:Loc}{h:Hp}{W:Wd}{F:List Addr}
def WE(X:Ctx)(n:Nat)(f:Fr)(t:Expr)(mt:dI):Prop:=∀l h W v va,dZ X f l h W→V X W v va→aD X (jr f.env) W (assign t f.env va) (store X.D.pm (E X.D.pm n) mt v l h) (RU X f)
theorem aD.ofU{c:Sem Unit}{o:Option Hp}(S:dZ X f l h W)(q:∀h',o=some h'→∀Q Ex,vO X.D X.h₀ W.G W.ρ W.s h' Q→bA X c Q Ex W.s):aD X (jr f.env) W c (o.bind λh=>some (l,h)) (RU X f):=λb e Q Ex KQ=>jl e λh' e1 e2=>q h' e1 Q Ex λs' G' cA g R st=>KQ ⟨G',cA,s'⟩ () (Go.of g st).nQ (bJ e2▸S.after g R st)
theorem CX{o:Expr}{x:Str}{pos:Pos}{env:Env}{v:Value}{Q:Unit→Shared→Prop}{Ex:Value→Shared→Prop}{s:Shared}(hh:bA X (eval o env) (λov cZ=>bA X (PySem.setAttr ov x v) Q Ex cZ) Ex s):bA X (assign (.Attribute o x pos) env v) Q Ex s:=by rw [assign_Attribute];exact wpAny_bind (wpAny_holding (wpAny_mono hh (λov cZ gX=>wpAny_bind (wpAny_standAt (wpAny_bind (wpAny_holding (wpAny_mono gX (λ_ gB kH=>wpAny_release' kH) λ_ _ z=>z))))) λ_ _ z=>z))
theorem CY(L:cD X.D K X.h₀ mg mb)(H:gf X n f)(I:∀e,Al (aB k f.ci e) (iw X n f e))(t:Expr):Al (ow k f.ci t) (WE X n f t):=by
 cases t with
 |Name x p=>exact Al.map λi e l h W v va S hv=>aD.to (λ_ _=>wpAny_assign_Name) (rQ H.env x i e l h W v va S hv)
 |Attribute o a p=>exact Al.rN λ_=>Al.bind (I o) λm im=>Al.bind (iO H.ci a) λi hi=>Al.some λl h W v va S hv=>aD.rO (λ_ _=>CX) (im l h W S).nQ λW1 vo ov h1 g r=>aD.ofU r.1 λh' e Q Ex q=>mS L r.1.rep hi r.2 (g.v hv) e q
 |Subscript o i p=>exact Al.rN λ_=>Al.bind (I o) λm im=>Al.bind (I i) λj ij=>Al.some λl h W v va S hv=>aD.LA (λ_ _=>kas_sub) (im l h W S).nQ (λW1 vo ov h1 _ r=>(ij l h1 W1 r.1).nQ) λW1 W2 vo ov h1 vi iv h2 g r g2 r2=>aD.ofU r2.1 λh' e Q Ex q=>mU r2.1.rep (g2.v r.2) r2.2 (g2.v (g.v hv)) e q
 |_=>exact Al.none
theorem yd{t:Expr}{mt:dI}{env:Env}{ci:CI}(e:ow k ci t=some mt)(rest:List Expr):(assignEach (t::rest) env).map (·.2)=assign t env::(assignEach rest env).map (·.2):=by cases t<;>first|rfl|exact (aY _ e.symm).elim
theorem CZ{va:Value}{x y:Value→Sem Unit}{r:List (Value→Sem Unit)}{Q:Unit→Shared→Prop}{Ex:Value→Shared→Prop}{s:Shared}(h:bA X (x va) (λ_ s1=>bA X (assignAll va (y::r)) Q Ex s1) Ex s):bA X (assignAll va (x::y::r)) Q Ex s:=wpAny_bind (wpAny_holding h)
theorem wj(D:∀t,Al (ow k f.ci t) (WE X n f t)){ts:List Expr}{ms:List dI}(c:bV (λt m=>ow k f.ci t=some m) ts ms):∀l h W v va,dZ X f l h W→V X W v va→aD X (jr f.env) W (assignAll va ((assignEach ts f.env).map (·.2))) (storeAll X.D.pm (E X.D.pm n) ms v l h) (RU X f):=by
 induction c with
 |nil=>exact λl h W v va S hv=>aD.ret S
 |cons c r ih=>
  intro l h W v va S hv;rw [yd c]
  cases r with
  |nil=>exact aD.then (D _ _ c l h W v va S hv) λW1 u l1 h1 g r=>Al.some r
  |cons d r=>rw [yd d] at ih⊢;exact aD.rO (λ_ _=>CZ) (D _ _ c l h W v va S hv) λW1 u l1 h1 g r=>ih l1 h1 W1 v va r (g.v hv)
theorem Hj{x:Str}{q p:Pos}{op:Operator}{v:Expr}{env:Env}{Q:Flow→Shared→Prop}{Ex:Value→Shared→Prop}{s:Shared}(h:bA X (loadName env x) (λold s1=>bA X (eval v env) (λw s2=>bA X (inplaceOp op old w) (λnw s3=>bA X (storeName env x nw) (λ_ s4=>Q .next s4) Ex s3) Ex s2) Ex s1) Ex s):bA X (exec (.AugAssign (.Name x q) op v p) env) Q Ex s:=by rw [arm_exec_AugAssign];exact wpAny_bind (wpAny_standAt (wpAny_bind (wpAny_mono h (λ_ _ h=>wpAny_bind (wpAny_holding (wpAny_mono h (λ_ _ h=>wpAny_bind (wpAny_standAt (wpAny_bind (wpAny_operateT (wpAny_mono h (λ_ _ h=>wpAny_bind (wpAny_standAt (wpAny_bind (wpAny_bindName (wpAny_mono h (λ_ _ h=>wpAny_pure h) λ_ _ z=>z))))) λ_ _ z=>z))))) λ_ _ z=>z))) λ_ _ z=>z)))
theorem Hl{o:Expr}{a:Str}{q p:Pos}{op:Operator}{v:Expr}{env:Env}{Q:Flow→Shared→Prop}{Ex:Value→Shared→Prop}{s:Shared}(h:bA X (eval o env) (λov s0=>bA X (PySem.getAttr ov a true) (λold s1=>bA X (eval v env) (λw s2=>bA X (inplaceOp op old w) (λnw s3=>bA X (PySem.setAttr ov a nw) (λ_ s4=>Q .next s4) Ex s3) Ex s2) Ex s1) Ex s0) Ex s):bA X (exec (.AugAssign (.Attribute o a q) op v p) env) Q Ex s:=by rw [arm_exec_AugAssign_2];exact wpAny_bind (wpAny_standAt (wpAny_bind (wpAny_mono h (λ_ _ h=>wpAny_bind (wpAny_holding (wpAny_bind (wpAny_standAt (wpAny_bind (wpAny_mono h (λ_ _ h=>wpAny_bind (wpAny_holding (wpAny_mono h (λ_ _ h=>wpAny_bind (wpAny_standAt (wpAny_operateT (wpAny_mono h (λ_ _ h=>wpAny_bind (wpAny_standAt (wpAny_bind (wpAny_holding (wpAny_mono h (λ_ _ h=>wpAny_bind (wpAny_release' (wpAny_pure h))) λ_ _ z=>z))))) λ_ _ z=>z)))) λ_ _ z=>z))) λ_ _ z=>z)))))) λ_ _ z=>z)))
theorem uv{i:Expr}(hs:(ig i).isSome=false)(vo vi vn:Value):augStore i vo vi vn=(do holding [vn,vo,vi] (PySem.setItem vo vi vn);release [vn,vo,vi] [];pure Flow.next):=by cases i<;>first|rfl|cases hs
theorem Ho{o i:Expr}(hs:(ig i).isSome=false){q p:Pos}{op:Operator}{v:Expr}{env:Env}{Q:Flow→Shared→Prop}{Ex:Value→Shared→Prop}{s:Shared}(h:bA X (eval o env) (λov s0=>bA X (eval i env) (λiv s9=>bA X (PySem.getItem ov iv) (λold s1=>bA X (eval v env) (λw s2=>bA X (inplaceOp op old w) (λnw s3=>bA X (PySem.setItem ov iv nw) (λ_ s4=>Q .next s4) Ex s3) Ex s2) Ex s1) Ex s9) Ex s0) Ex s):bA X (exec (.AugAssign (.Subscript o i q) op v p) env) Q Ex s:=by rw [arm_exec_AugAssign_3];exact wpAny_bind (wpAny_standAt (wpAny_bind (wpAny_mono h (λ_ _ h=>wpAny_bind (wpAny_holding (wpAny_mono h (λ_ _ h=>wpAny_bind (wpAny_holding (wpAny_bind (wpAny_standAt (wpAny_bind (wpAny_mono h (λ_ _ h=>wpAny_bind (wpAny_holding (wpAny_mono h (λ_ _ h=>wpAny_bind (wpAny_standAt (wpAny_operateT (wpAny_mono h (λ_ _ h=>wpAny_bind (wpAny_standAt (uv hs _ _ _▸wpAny_bind (wpAny_holding (wpAny_mono h (λ_ _ h=>wpAny_bind (wpAny_release' (wpAny_pure h))) λ_ _ z=>z))))) λ_ _ z=>z)))) λ_ _ z=>z))) λ_ _ z=>z)))))) λ_ _ z=>z))) λ_ _ z=>z)))
end
section
variable {X:Ctx}{K:Frag}{mg mb:Str→Option Value}{n k:Nat}{f:Fr}{l:Loc}{h:Hp}{W:Wd}{F:List Addr}
theorem oV{op:Operator}{a b:MV}{va vb:Value}(R:Ok X h W)(ha:V X W a va)(hb:V X W b vb){r:MV}(e:eF op a b h=some r){Q Ex:Value→Shared→Prop}(q:∀W' v,Go [] W W'→RV X W' v (r,h)→Q v W'.s):bA X (inplaceOp op va vb) Q Ex W.s:=by
 have k:bY X.D X.h₀ W.G W.ρ W.s r h Q:=λv s' G' cA g R st hv=>q ⟨G',cA,s'⟩ v (.of g st) ⟨R,hv⟩
 clear q
 cases op with
 |Add=>
  rcases or_some e with e|⟨_,e⟩
  ·obtain ⟨i,j,t,u,rfl,rfl,_,_,rfl⟩:=iL ha hb e
   exact wpAny_iadd_int (k.val R VR.int _)
  ·obtain ⟨x,y,t,u,rfl,rfl,hl,rfl⟩:=tR ha hb e
   exact PyProof.Rows.iadd_str (λt' tk=>gA x y▸k.val R (VR.str hl) _) (xV hl)
 |Sub=>obtain ⟨i,j,t,u,rfl,rfl,_,_,rfl⟩:=iL ha hb e;exact P.isub_int (k.val R VR.int _)
 |_=>exact no e
def oW(X:Ctx)(n:Nat)(f:Fr)(st:Stmt)(ms:aA):Prop:=∀l h W,dZ X f l h W→aD X (jr f.env) W (exec st f.env) (bU X.D.pm (E X.D.pm n) ms l h) (Uc X f)
theorem LS(L:cD X.D K X.h₀ mg mb)(H:gf X n f)(I:∀e,Al (aB k f.ci e) (iw X n f e)){op:Operator}{v:Expr}{p:Pos}(t:Expr):Al ((ow k f.ci t).bind λmt=>(aB k f.ci v).bind λm=>some (aA.aug mt op m)) (oW X n f (.AugAssign t op v p)):=by
 cases t with
 |Name x q=>exact Al.bind (Al.map (o:=jE f.ci x) (R:=λmt=>∃i,jE f.ci x=some i∧mt=dI.aH i) λi e=>⟨i,e,rfl⟩) λmt ⟨i,hs,Pg⟩=>Al.bind (I v) λm im=>Al.some λl h W S r e Q Ex KQ=>by subst Pg;obtain ⟨old,hw,e⟩:=AD e;have hk:fM (f.ci.kinds.lookup x)=true∧f.ci.slots.idxOf? x=some i:=yc hs;exact gm e λvv h1 e1 e=>jl e λw e2 e=>Hj (qE H.env S (lV hk.1) hk.2 hw λvo LJ=>im l h W S _ e1 _ Ex λW1 va g1 r1=>oV r1.1.rep (g1.v LJ) r1.2 e2 λW2 vn g2 r2=>rQ H.env x i hs l h1 W2 w vn (g2.qm r1.1 r2.1) r2.2 _ rfl _ Ex λW3 u g3 r3=>KQ W3 .next ((g1.trans g2).nQ.trans g3) (bJ e▸⟨r3,rfl⟩))
 |Attribute o a q=>
  exact Al.bind (Al.rN λ_=>Al.bind (I o) λm im=>Al.bind (iO H.ci a) λi hi=>Al.some (P:=λmt=>∃m i,iw X n f o m∧X.D.nm[i]? =some a∧mt=dI.aJ m i) ⟨m,i,im,hi,rfl⟩) λmt ⟨mo,i,io,hi,Pg⟩=>Al.bind (I v) λm im=>Al.some λl h W S r e Q Ex KQ=>by
   subst Pg;exact gm e λov h1 e1 e=>jl e λold e2 e=>gm e λvv h2 e3 e=>jl e λw e4 e=>jl e λh3 e5 e=>Hl (io l h W S _ e1 _ Ex λW1 vo g1 r1=>mQ L r1.1.rep hi r1.2 e2 λUh s2 G2 ye gg R2 NU hold=>
    have g2:Go [] W1 ⟨G2,ye,s2⟩:=.of gg NU
    im l h1 ⟨G2,ye,s2⟩ (g2.qm r1.1 R2) _ e3 _ Ex λW3 va g3 r3=>oV r3.1.rep (g3.v (X:=X) hold) r3.2 e4 λW4 vn g4 r4=>mS L r4.1 hi (g4.v (g3.v (g2.v r1.2))) r4.2 e5 λs5 G5 Ph Ui R5 Uj=>
     have g5:Go [] W4 ⟨G5,Ph,s5⟩:=.of Ui Uj
     KQ ⟨G5,Ph,s5⟩ .next ((((g1.trans g2).trans g3).trans g4).trans g5).nQ (bJ e▸⟨(g4.trans g5).qm r3.1 R5,rfl⟩))
 |Subscript o i q=>
  exact Al.bind (Al.rN λhs=>Al.bind (I o) λm im=>Al.bind (I i) λj ij=>Al.some (P:=λmt=>∃m j,iw X n f o m∧iw X n f i j∧(ig i).isSome=false∧mt=dI.sub m j) ⟨m,j,im,ij,by simpa using hs,rfl⟩) λmt ⟨mo,mi,io,ii,hs,Pg⟩=>Al.bind (I v) λm im=>Al.some λl h W S r e Q Ex KQ=>by
   subst Pg;exact gm e λov h1 e1 e=>gm e λiv h9 e9 e=>jl e λold e2 e=>gm e λvv h2 e3 e=>jl e λw e4 e=>jl e λh3 e5 e=>Ho hs (io l h W S _ e1 _ Ex λW1 vo g1 r1=>ii l h1 W1 r1.1 _ e9 _ Ex λW9 vi g9 r9=>(mP r9.1.rep (g9.v r1.2) r9.2 e2 λUh s2 G2 ye gg R2 NU hold=>
    have g2:Go [] W9 ⟨G2,ye,s2⟩:=.of gg NU
    im l h9 ⟨G2,ye,s2⟩ (g2.qm r9.1 R2) _ e3 _ Ex λW3 va g3 r3=>oV r3.1.rep (g3.v (X:=X) hold) r3.2 e4 λW4 vn g4 r4=>mU r4.1 (g4.v (g3.v (g2.v (g9.v r1.2)))) (g4.v (g3.v (g2.v r9.2))) r4.2 e5 λs5 G5 Ph Ui R5 Uj=>
     have g5:Go [] W4 ⟨G5,Ph,s5⟩:=.of Ui Uj
     KQ ⟨G5,Ph,s5⟩ .next (((((g1.trans g9).trans g2).trans g3).trans g4).trans g5).nQ (bJ e▸⟨(g4.trans g5).qm r3.1 R5,rfl⟩)).2)
 |_=>exact λ_ e=>(aY _ e.symm).elim
end
def NV(X:Ctx)(n:Nat):Prop:=∀k f elt gs sc p x q i,gf X (n+1) f→jE f.ci x=some i→Al (aB k f.ci (.ListComp elt gs sc p)) λm=>∀l h W,dZ X f l h W→aD X (jr f.env) W (evalThenUse (.ListComp elt gs sc p) f.env (assign (.Name x q) f.env)) (((E X.D.pm (n+1)).ev m l h).bind λr=>some (gV l i r.1,r.2)) (RU X f)
def Uk(X:Ctx)(n:Nat):Prop:=∀k f x q it b p i,gf X n f→jE f.ci x=some i→Al (iZ k f.ci it) λmi=>oW X n f (.For (.Name x q) it b [] p) (.dW (.aH i) mi (eO k f.ci b))
section
variable {X:Ctx}{K:Frag}{mg mb:Str→Option Value}{n k:Nat}{f:Fr}{l:Loc}{h:Hp}{W:Wd}{F:List Addr}
theorem AE(H:gf X n f)(IX:SX X n){c:Expr}{m:ai}{b:List Stmt}{p:Pos}(im:LF X n f c m):oW X n f (.While c b [] p) (.cN m (eO k f.ci b)):=λl h W S r e Q Ex KQ=>by
 refine wpAny_While (codeAny_whileLoop (λfu s1=>∃l1 h1 W1,W1.s=s1∧dZ X f l1 h1 W1∧eZ (E X.D.pm n) m (eO k f.ci b) fu l1 h1=some r∧Go (jr f.env) W W1) (λfu s1 hI=>?_) fc ⟨l,h,W,rfl,S,e,.refl _⟩)
 obtain ⟨l1,h1,W1,rfl,S1,e1,g1⟩:=hI
 cases fu with
 |zero=>exact (aY _ e1.symm).elim
 |succ fu=>
  refine gm e1 λt h2 e2 e1=>im l1 h1 W1 S1 _ e2 _ _ λW2 t' g2 r2=>?_
  obtain rfl:t'=t:=r2.2;have Ul:=g1.trans g2.nQ
  cases t' with
  |false=>exact wpAny_execs_nil (KQ W2 .next Ul (bJ e1▸⟨r2.1,rfl⟩))
  |true=>
   refine gm e1 λf1 q e3 e1=>IX k f b l1 h2 W2 H r2.1 _ e3 _ _ λW3 fw g3 r3=>?_
   obtain ⟨l3,h3⟩:=q
   cases f1 with
   |next=>
    obtain rfl:fw=.next:=r3.2
    exact ⟨fu,Nat.lt_succ_self _,l3,h3,W3,rfl,r3.1,e1,Ul.trans g3⟩
   |ret v=>obtain ⟨w,rfl,hr⟩:=r3.2;exact KQ W3 (.ret w) (Ul.trans g3) (bJ e1▸⟨r3.1,w,rfl,hr⟩)
theorem Hq{e:Expr}{pos:Pos}{env:Env}{Q:Flow→Shared→Prop}{Ex:Value→Shared→Prop}{s:Shared}(hk:env.scope.kind=.function)(hs:swapsWith e none pos.line env=pure false)(hh:bA X (eval e env) (λv cZ=>Q .next cZ) Ex s):bA X (exec (.Expr e pos) env) Q Ex s:=by
 rw [exec_Expr _ e pos (by unfold interactive;rw [hk];rfl) hs]
 exact wpAny_bind (wpAny_standAt (wpAny_bind (wpAny_mono hh (λv cZ gX=>wpAny_dropValue gX) λ_ _ z=>z)))
theorem lW{e:Expr}{t:Option Expr}{ln:Nat}{env:Env}{ci:CI}{m:ai}(ec:aB k ci e=some m)(hc:kF e=false):swapsWith e t ln env=pure false:=by cases e<;>first|rfl|(cases hc;done)|exact (aY _ (ec.symm.trans (by cases k<;>rfl))).elim
theorem wk{ts:List Expr}{e:Expr}{env:Env}(h:ts.any BQ=false):swappedStores ts e env=pure none:=by
 cases ts with
 |nil=>rfl
 |cons t r=>cases r with
  |cons a b=>cases t<;>rfl
  |nil=>cases t with
   |Tuple a b c=>cases h
   |List a b=>cases h
   |_=>rfl
theorem oX{x:Expr}(h:kF x=true):∃a b c d,x=.ListComp a b c d:=by
 cases x with
 |ListComp a b c d=>exact ⟨a,b,c,d,rfl⟩
 |_=>exact Bool.noConfusion h
theorem Hr{a:Expr}{b:List Comprehension}{c:Scope}{d:Pos}{t:Expr}{ln:Nat}{env:Env}(h:iY t=none):swapsWith (.ListComp a b c d) (some t) ln env=pure false:=by
 cases t with
 |Name x p=>exact (aY _ h).elim
 |_=>rfl
theorem Hs{ts:List Expr}{x:Expr}{ln:Nat}{env:Env}{ci:CI}{m:ai}(ec:aB k ci x=some m)(hc:kF x=false∨∀y q,ts≠[.Name y q]):swapsWithSole ts x ln env=pure false:=by
 cases ts with
 |nil=>rfl
 |cons t r=>cases r with
  |cons a b=>rfl
  |nil=>
   show swapsWith x (some t) ln env=_
   rcases hc with hc|hn
   ·exact lW ec hc
   ·cases hx:kF x with
    |false=>exact lW ec hx
    |true=>
     obtain ⟨a,b,c,d,rfl⟩:=oX hx;refine Hr ?_
     cases ht:iY t with
     |none=>rfl
     |some y=>obtain ⟨q,rfl⟩:=iM ht;exact (hn _ _ rfl).elim
theorem Ht{y:Str}{q p:Pos}{x:Expr}{env:Env}{Q:Flow→Shared→Prop}{Ex:Value→Shared→Prop}{s:Shared}(hb:swapsWithSole [.Name y q] x p.line env=pure true)(h:bA X (evalThenUse x env (assign (.Name y q) env)) (λ_ s1=>Q .next s1) Ex s):bA X (exec (.Assign [.Name y q] x p) env) Q Ex s:=by rw [arm_exec_Assign,hb];exact wpAny_bind (wpAny_standAt (wpAny_bind (wpAny_pure (wpAny_bind (wpAny_mono h (λ_ _ z=>wpAny_pure z) λ_ _ z=>z)))))
theorem AF(L:cD X.D K X.h₀ mg mb)(H:gf X n f)(I:∀e,Al (aB k f.ci e) (iw X n f e))(HU:∀m,n=m+1→NV X m){ts:List Expr}{x:Expr}{p:Pos}:Al (BR (eO k f.ci) k f.ci (.Assign ts x p)) (oW X n f (.Assign ts x p)):=
 Al.rN λUm=>Al.bind (Al.mapM ts) λms ct=>Al.bind (λm e=>(⟨I x m e,e⟩:_∧CE k f.ci x m)) λm im=>Al.some λl h W S=>by
  have Um:=Bool.eq_false_iff.mpr Um;have norm:swapsWithSole ts x p.line f.env=pure false→aD X (jr f.env) W (exec (.Assign ts x p) f.env) (bU X.D.pm (E X.D.pm n) (.assign ms m) l h) (Uc X f):=λhs=>aD.fin2 (R:=RF X f l) (R2:=RU X f) (j:=λ_ _=>Flow.next) (λQ Ex z=>wpAny_Assign_stores z hs (wk Um)) (im.1 l h W S).nQ (λW1 va v h1 _ r=>wj (CY L H I) ct l h1 W1 v va r.1 r.2) λW1 W2 va v h1 u l2 h2 _ r g r2=>Al.some ⟨r2,rfl⟩
  by_cases hx:kF x=true∧∃y q,ts=[.Name y q]
  ·obtain ⟨hx,y,q,rfl⟩:=hx
   obtain ⟨elt,gs,sc,cp,rfl⟩:=oX hx;obtain ⟨b,hb⟩:∃b,swapsWithSole [.Name y q] (.ListComp elt gs sc cp) p.line f.env=pure b:=⟨_,rfl⟩
   cases b with
   |false=>exact norm hb
   |true=>
    cases ct with
    |cons c r=>
     cases r
     obtain ⟨i,hs,rfl⟩:=dw.mp c
     cases n with
     |zero=>exact aD.no
     |succ n=>
      refine aD.Ug (o':=(((E X.D.pm (n+1)).ev m l h).bind λr=>some (gV l i r.1,r.2)).bind λr=>some (Fl.next,r.1,r.2)) (by rw [Option.bind_assoc];rfl) ?_
      exact aD.fin (j:=λ_=>Flow.next) (λQ Ex=>Ht hb) (HU n rfl k f elt gs sc cp y q i H hs m im.2 l h W S) λW1 u l1 h1 g r=>Al.some ⟨r,rfl⟩
  ·refine norm (Hs im.2 ?_)
   cases hc:kF x with
   |false=>exact .inl rfl
   |true=>exact .inr λy q e=>hx ⟨hc,y,q,e⟩
theorem Hu(L:cD X.D K X.h₀ mg mb)(H:gf X n f)(IH:j6 X n)(IT:ST X n)(IX:SX X n)(HF:Uk X n)(HU:∀m,n=m+1→NV X m)(st:Stmt):Al (BR (eO k f.ci) k f.ci st) (oW X n f st):=by
 have I:=λe=>IH k f e H
 cases st with
 |Expr e p=>exact Al.rN λhc=>Al.map λm ec l h W S=>aD.fin (j:=λ_=>Flow.next) (λQ Ex=>Hq H.env.fn (lW ec (by simpa using hc))) (I e m ec l h W S).nQ λW1 va v h1 g r=>Al.some ⟨r.1,rfl⟩
 |Pass p=>exact Al.some λl h W S r e Q Ex KQ=>wpAny_Pass (KQ W .next (.refl _) (bJ e▸⟨S,rfl⟩))
 |Return eo p=>
  cases eo with
  |none=>exact Al.some λl h W S r e Q Ex KQ=>wpAny_Return_none (KQ W _ (.refl _) (bJ e▸⟨S,_,rfl,VR.none⟩))
  |some x=>exact Al.map (Al.bind (I x) λm im=>Al.some λl h W S=>aD.fin (j:=Flow.ret) (λQ Ex=>wpAny_Return_some) (im l h W S).nQ λW1 va v h1 g r=>Al.some ⟨r.1,va,rfl,r.2⟩)
 |Assign ts x p=>exact AF L H I HU
 |AugAssign t op x p=>exact LS L H I t
 |If c a b p=>exact Al.map λm ec l h W S=>aD.rO (k:=λt=>if t=true then execs a f.env else execs b f.env) (λQ Ex z=>wpAny_If (wpAny_mono z (λ_ _=>CB) λ_ _ z=>z)) (IT k f c H m ec l h W S).nQ λW1 t b' h1 g r=>aD.cond r.2 (IX k f a l h1 W1 H r.1) (IX k f b l h1 W1 H r.1)
 |While c b e p=>exact Al.ite λhe=>Al.map λm ec=>by rw [List.isEmpty_iff.mp he];exact AE H IX (IT k f c H m ec)
 |For t it b e p=>exact Al.ite λhe=>Al.bind Al.self λx hx=>Al.bind Al.self λi hi=>Al.bind (λmi e=>(e:iZ k f.ci it=some mi)) λmi ei=>Al.some (by rw [List.isEmpty_iff.mp he];obtain ⟨q,rfl⟩:=iM hx;exact HF k f x q it b p i H hi mi ei)
 |_=>exact Al.none
theorem Hv(L:cD X.D K X.h₀ mg mb)(IH:j6 X n)(IT:ST X n)(IX:SX X n)(HF:Uk X n)(HU:∀m,n=m+1→NV X m):SX X (n+1):=λk f ss l h W H S=>by
 cases k with
 |zero=>exact aD.no
 |succ k=>
 cases ss with
 |nil=>exact λr e Q Ex KQ=>wpAny_execs_nil (KQ W .next (.refl _) (bJ e▸⟨S,rfl⟩))
 |cons st r=>
  cases k with
  |zero=>exact aD.no
  |succ k=>
  have q:oW X n f st (JD (k+1) f.ci st):=by
   show oW X n f st ((BR (eO k f.ci) k f.ci st).getD .fail)
   cases e:BR (eO k f.ci) k f.ci st with
   |none=>exact λl h W S=>aD.no
   |some ms=>exact Hu L H.pred IH IT IX HF HU st ms e
  intro b e Q Ex KQ;refine gm e λf1 lh e1 e=>wpAny_execs_cons (q l h W S _ e1 _ Ex λW1 fw g1 r1=>?_)
  obtain ⟨l1,h1⟩:=lh
  cases f1 with
  |next=>
   obtain rfl:fw=.next:=r1.2
   exact IX (k+1) f r l1 h1 W1 H.pred r1.1 b e Q Ex λW2 a g2 r2=>KQ W2 a (g1.trans g2) r2
  |ret v=>obtain ⟨w,rfl,hr⟩:=r1.2;exact KQ W1 (.ret w) g1 (bJ e▸⟨r1.1,w,rfl,hr⟩)
end
def C0(D:bZ)(G:Fz)(ρ:List PR)(tup:Bool)(x:MV)(v:Value)(h:Heap):Prop:=VR D G ρ x v∨tup=true∧∃ms a vals,x=.tup ms∧v=.ref a∧IsTup h a (vals:List Value).toArray∧cB D G ρ ms vals
noncomputable abbrev uw(env:Env):Expr→Bool→Sem (ForInStep Bool):=λc r=>if r=true then do let ok ← PySem.isTrue c env (eval c env);pure (ForInStep.yield ok) else pure (ForInStep.yield r)
noncomputable abbrev LU(X:Ctx)(env:Env)(R:Result→Shared→Prop):Value→Shared→Prop:=notedBy (model X.D.prog X.D.w) X.A env λe s'=>R (.error e) s'
noncomputable def Pj(X:Ctx)(elt target:Expr)(ifs:List Expr)(it acc:Value)(env:Env)(R:Result→Shared→Prop)(Pn:Shared→Prop):Shared→Prop:=
 bA X (pyNext it) (λr cZ=>match r with
  |none=>R (.ok .next) cZ
  |some v=>bA X (letOwnedTupleGo target it v) (λ_ vH=>bA X (assign target env v) (λ_ gB=>bA X (forIn ifs true (uw env)) (λok LV=>match ok with
    |true=>bA X (eval elt env) (λx Po=>bA X (call (.builtin "list.append") [acc,x]) (λ_ Pp=>Pn Pp) (LU X env R) Po) (LU X env R) LV
    |false=>Pn LV) (LU X env R) gB) (LU X env R) vH) (LU X env R) cZ) (LU X env R)
theorem AG{X:Ctx}{R:Result→Shared→Prop}{elt target iter:Expr}{ifs:List Expr}{scope:Scope}{pos:Pos}{it acc:Value}{env:Env}(I:Nat→Shared→Prop)(turn:∀n s,I n s→Pj X elt target ifs it acc env R (λs'=>∃m,m< n∧I m s') s)(n:Nat){s:Shared}(h:I n s):
  codeAny (model X.D.prog X.D.w) X.A (.compLoop (.ListComp elt [⟨target,iter,ifs,0⟩] scope pos) 0 it acc env) R s:=by
 refine codeAny_loop rfl I (λn s hI=>?_) n h
 have t:=turn n s hI;clear turn;show bA X ((compTurn (.ListComp elt [⟨target,iter,ifs,0⟩] scope pos) 0 it acc env).onRaise (λx=>do noteFrame x env;theTreesLotGoes x)) _ _ s
 refine wpAny_noted ?_;rw [compTurn_list];refine wpAny_bind (wpAny_standAt (wpAny_bind (wpAny_mono t (λr cZ gX=>?_) λ_ _ h'=>h')))
 cases r with
 |none=>exact wpAny_pure gX
 |some v=>
  refine wpAny_bind (wpAny_mono gX (λ_ vH h₀=>wpAny_bind (wpAny_mono h₀ (λ_ gB kH=>wpAny_bind (wpAny_mono kH (λok LV oY=>?_) λ_ _ h'=>h')) λ_ _ h'=>h')) λ_ _ h'=>h')
  cases ok with
  |false=>exact wpAny_pure ⟨rfl,oY⟩
  |true=>exact wpAny_bind (wpAny_bind (wpAny_mono oY (λx Po Un=>wpAny_bind (wpAny_mono Un (λ_ Pp Uo=>wpAny_pure (wpAny_pure ⟨rfl,Uo⟩)) λ_ _ h'=>h')) λ_ _ h'=>h'))
section
variable {D:bZ}{h₀:Heap}{K:Frag}{mg mb:Str→Option Value}{n:Nat}
theorem AH{G0 G:Fz}{LW ρ:List PR}{s0 s s1:Shared}{W F:List Addr}(g:fh G0 G LW ρ s0 s)(st:gK (bM LW++F) s0 s)(fresh:∀b∈W,s0.heap.get? b=none)(k:∀b o,b∉W→s.heap.get? b=some o→s1.heap.get? b=some o)(e1:s1.gens=s.gens)(e2:s1.drawn=s.drawn)(e3:s1.os=s.os):
  fh G0 G LW ρ s0 s1∧gK (bM LW++F) s0 s1:=by
 refine ⟨⟨g.g,g.r,g.gn,g.rn,g.rs,λb q=>?_⟩,⟨e1.trans st.gens,e2.trans st.drawn,e3.trans st.os,λb o nb e=>k b o (λz=>by rw [fresh b z] at e;cases e) (st.keep b o nb e)⟩⟩
 by_cases z:b∈W
 ·exact fresh b z
 ·refine g.lv b ?_
  cases e:s.heap.get? b with
  |none=>rfl
  |some o=>rw [k b o z e] at q;cases q
structure Src(D:bZ)(h₀:Heap)(A:Around)(target:Expr)(tup:Bool)(it:Value)(at_:Nat→Hp→Option (Option MV))(pv:List Addr)(T:Nat→Fz→List PR→Heap→Prop):Prop where
 mono:∀i G ρ H G' cA H',T i G ρ H→jq G G'→tg ρ cA→(∀b o,G b o→H.get? b=some o)→(∀b o,G b o→H'.get? b=some o)→(∀b∈pv,∀o,H.get? b=some o→H'.get? b=some o)→T i G' cA H'
 next:∀i G ρ h (s:Shared) x (Q:Option Value→Shared→Prop) (Ex:Value→Shared→Prop),T i G ρ s.heap→Rep D h₀ G ρ h s→at_ i h=some (some x)→(∀v h1 tk,(∀b o,b∉pv→s.heap.get? b=some o→h1.get? b=some o)→(∀(Q':Unit→Shared→Prop) (JO:Value→Shared→Prop),(∀h2,(∀b o,b∉pv→s.heap.get? b=some o→h2.get? b=some o)→T (i+1) G ρ h2→C0 D G ρ tup x v h2→Q' () {s with heap:=h2,toks:=tk})→wpAny (model D.prog D.w) A (letOwnedTupleGo target it v) Q' JO {s with heap:=h1,toks:=tk})→Q (some v) {s with heap:=h1,toks:=tk})→wpAny (model D.prog D.w) A (pyNext it) Q Ex s
 stop:∀i G ρ h (s:Shared) (Q:Option Value→Shared→Prop) (Ex:Value→Shared→Prop),T i G ρ s.heap→Rep D h₀ G ρ h s→at_ i h=some none→(∀h1 tk,(∀b o,b∉pv→s.heap.get? b=some o→h1.get? b=some o)→Q none {s with heap:=h1,toks:=tk})→wpAny (model D.prog D.w) A (pyNext it) Q Ex s
 live:∀i G ρ H,T i G ρ H→∀b∈pv,∃o,H.get? b=some o
 self:∀i G ρ (s:Shared) (Q:Value→Shared→Prop) (Ex:Value→Shared→Prop),T i G ρ s.heap→Q it s→wpAny (model D.prog D.w) A (pyIter it) Q Ex s
end
section
variable {D:bZ}{h₀:Heap}{A:Around}
theorem Src.ofWalks{target:Expr}{tup:Bool}{I:Addr}{fp:List Addr}{xs:List MV}{P:Nat→Value→Prop}{St:Nat→Heap→Prop}{Good:Fz→List PR→Prop}(W:Walks D.prog D.w A I fp [I] xs.length P St)
  (YA:∀G ρ G' cA,Good G ρ→jq G G'→tg ρ cA→Good G' cA) (YB:∀G ρ,Good G ρ→∀b∈fp,b=I∨∃o,G b o) (hP:∀G ρ i v x,Good G ρ→P i v→xs[i]? =some x→VR D G ρ x v)
  (Pq:∀i j v (s:Shared) (Q:Unit→Shared→Prop) (E:Value→Shared→Prop),St i s.heap→P j v→Q () s→wpAny (model D.prog D.w) A (letOwnedTupleGo target (.ref I) v) Q E s) (C1:∀i H,St i H→∃o,H.get? I=some o):
  Src D h₀ A target tup (.ref I) (eY xs) [I] (λi G ρ H=>St i H∧i≤xs.length∧Good G ρ) where
 mono:=λi G ρ H G' cA H' t hG lS k1 k2 k3=>⟨W.frame i H H' t.1 λb hb o e=>by
  rcases YB G ρ t.2.2 b hb with rfl|⟨o',g⟩
  ·exact k3 b (b7 ..) o e
  ·have:=k1 b o' g
   rw [e] at this;cases this
   exact k2 b o g,t.2.1,YA _ _ _ _ t.2.2 hG lS⟩
 next:=λi G ρ h s x Q Ex t R wm KQ=>by
  have hx:xs[i]? =some x:=aC wm;have il:i< xs.length:=by obtain ⟨z,_⟩:=List.getElem?_eq_some_iff.mp hx;exact z
  refine W.item i s Q Ex il t.1 λv h' tk p Br hk=>KQ v h' tk hk λQ' JO Up=>?_
  exact Pq (i+1) i v {s with heap:=h',toks:=tk} Q' JO Br p (Up h' hk ⟨Br,il,t.2.2⟩ (.inl (hP G ρ i v x t.2.2 p hx)))
 stop:=λi G ρ h s Q Ex t R wm KQ=>by
  have hx:xs[i]? =none:=aC wm;have il:i=xs.length:=by
   have:=List.getElem?_eq_none_iff.mp hx;have:=t.2.1
   lia
  subst il;exact W.done s Q Ex t.1 KQ
 live:=λi G ρ H t b hb=>by rw [ez] at hb;subst hb;exact C1 i H t.1
 self:=λi G ρ s Q Ex t q=>W.self i s Q Ex t.1 q
theorem src_list{target:Expr}{tup:Bool}{xs:List MV}{vs:List Value}{I ax:Addr}{o:Obj}{n:Nat}{G0:Fz}{LW:List PR}(hh:A.handled=none)(Cg:ax≠I)(g:G0 ax o)(hr:cB D G0 LW xs vs):
  Src D h₀ A target tup (.ref I) (eY xs) [I] (λi G ρ H=>(H.IsListIter I ax i∧H.IsList ax vs.toArray)∧i≤xs.length∧(jq G0 G∧tg LW ρ)):=by
 have hl:vs.toArray.size=xs.length:=by simp [hr.length]
 have W:=Walks.list (prog:=D.prog) (w:=D.w) hh I ax Cg vs.toArray;rw [hl] at W;refine Src.ofWalks W (λG ρ G' cA a b c=>⟨a.1.trans b,a.2.trans c⟩) (λG ρ a b hb=>?_) (λG ρ i v x a p hx=>?_) (λi j v s Q E st _ q=>letGo_listiter st.1 q) λi H st=>?_
 ·simp only [bO,List.mem_nil_iff,or_false] at hb
  rcases hb with rfl|rfl
  ·exact .inl rfl
  ·exact .inr ⟨o,a.1 _ _ g⟩
 ·obtain ⟨w,hw,hv⟩:=hr.get hx
  have p:vs[i]? =some v:=by simpa using p
  rw [hw] at p;cases p
  exact VR.mono a.1 a.2 _ _ hv
 ·obtain ⟨o,e,_⟩:=st.1
  exact ⟨o,e⟩
theorem yf{target:Expr}{tup:Bool}{x:List Nat}{I:Addr}{St:Nat→Heap→Prop}(W:Walks D.prog D.w A I [I] [I] (toStr x).cps.size (SignAt (toStr x)) St)(C1:∀i H,St i H→∃o,H.get? I=some o):
  Src D h₀ A target tup (.ref I) (eY (x.map λc=>.str [c])) [I] (λi G ρ H=>St i H∧i≤(x.map λc=>MV.str [c]).length∧True):=by
 have hl:(toStr x).cps.size=(x.map λc=>MV.str [c]).length:=by simp [toStr]
 rw [hl] at W;refine Src.ofWalks (Good:=λ_ _=>True) W (λ_ _ _ _ _ _ _=>trivial) (λG ρ _ b hb=>.inl (ez.mp hb)) (λG ρ i v y _ p hx=>?_) (λi j v s Q E st p q=>?_) C1
 ·obtain ⟨c,u,hc,rfl⟩:=p
  rw [List.getElem?_map] at hx;obtain ⟨c',Bu,rfl⟩:=dw.mp hx;have:x[i]? =some c:=by simpa [toStr] using hc
  rw [Bu] at this;cases this
  exact VR.str (by unfold az;simp)
 ·obtain ⟨c,u,hc,rfl⟩:=p
  have:letOwnedTupleGo target (.ref I) (.str ⟨#[c]⟩ u)=pure ():=by cases target<;>rfl
  rw [this];exact wpAny_pure q
theorem src_range{target:Expr}{tup:Bool}{I:Addr}{a b:Int}(hh:A.handled=none):
  Src D h₀ A target tup (.ref I) (eY (cY a b)) [I] (λi G ρ H=>IsRangeIter H I (a+(i:Nat) * 1) (((b - a).toNat:Int) - (i:Nat)) 1∧i≤(cY a b).length∧True):=by
 have hl:(b - a).toNat=(cY a b).length:=by simp [cY]
 have W:=Walks.range (prog:=D.prog) (w:=D.w) hh I a 1 (b - a).toNat;rw [hl] at W⊢;refine Src.ofWalks (Good:=λ_ _=>True) W (λ_ _ _ _ _ _ _=>trivial) (λG ρ _ b hb=>.inl (ez.mp hb)) (λG ρ i v y _ p hx=>?_) (λi j v s Q E st p q=>?_) λi H st=>⟨_,st⟩
 ·obtain ⟨t,rfl⟩:=p
  unfold cY at hx;rw [List.getElem?_map] at hx;obtain ⟨j,hj,rfl⟩:=dw.mp hx;have:j=i:=by
   rw [List.getElem?_range (by have:=(List.getElem?_eq_some_iff.mp hj).1;simpa using this)] at hj
   exact (bJ hj).symm
  subst this;rw [Int.mul_one];exact VR.int
 ·obtain ⟨t,rfl⟩:=p
  have:letOwnedTupleGo target (.ref I) (.int (a+j * 1) t)=pure ():=by cases target<;>rfl
  rw [this];exact wpAny_pure q
theorem Hw{target:Expr}{tup:Bool}{o:Nat}{p:PR}{I:Addr}(hh:A.handled=none)(Cg:p.1≠I):
  Src D h₀ A target tup (.ref I) (kg o) [I] (λi G ρ H=>H.IsListIter I p.1 i∧ρ[o]? =some p) where
 mono:=λi G ρ H G' cA H' t hG lS k1 k2 k3=>⟨by
  obtain ⟨ob,e,r⟩:=t.1;exact ⟨ob,k3 I (b7 ..) ob e,r⟩,lS _ _ t.2⟩
 next:=λi G ρ h s x Q Ex t R wm KQ=>map_some wm λcur C2 hx=>by
  obtain ⟨q,vs,hq,_,_,hl,jG,hr⟩:=gy R ⟨p,t.2,rfl⟩ C2
  cases aC (t.2.symm.trans hq)
  obtain ⟨w,hw,hv⟩:=hr.get hx;refine wpAny_pyNext_list_item t.1 jG.isList ((List.getElem?_toArray ..).trans hw) λh' Pr YC=>?_
  have kp:∀b ob,b∉[I]→s.heap.get? b=some ob→h'.get? b=some ob:=λb ob nb e=>(YC.2 b (λz=>nb (z▸b7 ..))).trans e
  exact KQ w h' s.toks kp λQ' JO Up=>letGo_listiter (s':={s with heap:=h'}) Pr (Up h' kp ⟨Pr,t.2⟩ (.inl hv))
 stop:=λi G ρ h s Q Ex t R wm KQ=>map_some wm λcur C2 hx=>by
  obtain ⟨q,vs,hq,_,_,hl,jG,hr⟩:=gy R ⟨p,t.2,rfl⟩ C2
  cases aC (t.2.symm.trans hq)
  exact wpAny_pyNext_list_end hh t.1 jG.isList ((List.getElem?_toArray ..).trans (List.getElem?_eq_none (hr.length▸List.getElem?_eq_none_iff.mp hx))) λh' YD=>KQ h' s.toks λb ob nb e=>YD b ob (λz=>nb (z▸b7 ..)) e
 live:=λi G ρ H t b hb=>by rw [ez] at hb;subst hb;obtain ⟨ob,e,_⟩:=t.1;exact ⟨ob,e⟩
 self:=λi G ρ s Q Ex t q=>wpAny_pyIter_listiter t.1 q
end
def NW(G:Fz)(ρ:List PR)(s:Shared)(b:Addr):Prop:=b∉bM ρ∧(∀o,¬ G b o)∧∃o,s.heap.get? b=some o
theorem NW.step{G G':Fz}{ρ cA:List PR}{s s':Shared}{F:List Addr}{b:Addr}(x:NW G ρ s b)(g:fh G G' ρ cA s s')(st:gK (bM ρ++F) s s')(hb:b∉F):NW G' cA s' b:=by
 obtain ⟨x1,x2,o,x3⟩:=x;refine ⟨λq=>?_,λo' q=>?_,o,st.keep b o (λq=>?_) x3⟩
 ·rcases g.rn b q with q|q
  ·exact x1 q
  ·rw [q] at x3;cases x3
 ·rcases g.gn b o' q with q|q
  ·exact x2 _ q
  ·rw [q] at x3;cases x3
 ·rcases List.mem_append.mp q with q|q
  ·exact x1 q
  ·exact hb q
abbrev Hx(D:bZ)(h₀:Heap)(A:Around)(target:Expr)(tup:Bool)(I:It)(G:Fz)(ρ:List PR)(s:Shared)(h':Hp)(Q:Value→Shared→Prop):Prop:=∀(iv:Value) (s2:Shared) (G2:Fz) (ye:List PR) (pv:List Addr) (T:Nat→Fz→List PR→Heap→Prop),fh G G2 ρ ye s s2→Rep D h₀ G2 ye h' s2→gK (bM ρ) s s2→Src D h₀ A target tup iv (zQ I) pv T→T 0 G2 ye s2.heap→(∀b∈pv,s.heap.get? b=none∧NW G2 ye s2 b)→Q iv s2
section
variable {D:bZ}{h₀:Heap}{G:Fz}{ρ:List PR}{h:Hp}{s:Shared}{A:Around}{Ex:Value→Shared→Prop}{n:Nat}
theorem jJ{target:Expr}{tup:Bool}{I:It}{Q:Value→Shared→Prop}{T:Nat→Fz→List PR→Heap→Prop}{o:Obj}(ho:o.isFreed=false)(R:Rep D h₀ G ρ h s)(sc:Src D h₀ A target tup (.ref s.heap.objs.size) (zQ I) [s.heap.objs.size] T)(t0:T 0 G ρ (s.heap.push o))(k:Hx D h₀ A target tup I G ρ s h Q):
  Q (.ref s.heap.objs.size) {s with heap:=s.heap.push o}:=by
 refine k _ _ G ρ _ T (.same (dF s o)) (R.push o) (.push _ s o) sc t0 λb hb=>?_
 rw [ez] at hb;subst hb;exact ⟨cW (bf _),R.iu (bf _),λob g=>absurd (R.Sh _ ob g) (Nat.lt_irrefl _),o,Heap.get?_push_size _ ho⟩
theorem C3{target:Expr}{tup:Bool}{v:MV}{va:Value}{I:It}{Q:Value→Shared→Prop}(hh:A.handled=none)(R:Rep D h₀ G ρ h s)(hv:VR D G ρ v va)
  (e:tK v h=some I) (k:Hx D h₀ A target tup I G ρ s h Q):
  wpAny (model D.prog D.w) A (pyIter va) Q Ex s:=by
 rcases or_some e with e|⟨_,e⟩
 ·refine map_some e λx e1 e2=>?_
  subst e2
  cases bG e1
  obtain ⟨t,rfl⟩:=dQ hv
  cases ha:(toStr x).cps.all (·< 128) with
  |false=>exact wpAny_pyIter_wide ha (jJ rfl R (yf (Walks.strWide hh _ (toStr x) t) λi H st=>st.imp λ_ z=>z.1) ⟨⟨_,Heap.get?_push_size _ rfl,rfl,rfl⟩,Nat.zero_le _,trivial⟩ k)
  |true=>exact wpAny_pyIter_ascii ha (jJ rfl R (yf (Walks.strAscii hh _ (toStr x) t) λi H st=>st.imp λ_ z=>z.1) ⟨⟨_,Heap.get?_push_size _ rfl,rfl,rfl⟩,Nat.zero_le _,trivial⟩ k)
 rcases or_some e with e|⟨_,e⟩
 ·refine map_some e λvs e1 e2=>?_
  subst e2
  cases cH e1
  obtain ⟨hl,a,o,vals,m,rfl,g,hc,hd,hr⟩:=hv;have JJ:=R.keep _ _ g;have ux:s.heap.IsList a vals.toArray:=⟨o,JJ,hc,m,hd⟩;exact wpAny_pyIter_list ux (jJ rfl R (src_list hh (Nat.ne_of_lt (Heap.lt_size JJ)) g hr (n:=m)) ⟨⟨⟨_,Heap.get?_push_size _ rfl,rfl,rfl⟩,ux.push _⟩,Nat.zero_le _,.refl _,.refl _⟩ k)
 ·obtain ⟨o,e1,e⟩:=aL.mp e
  refine map_some e λcur C2 e2=>?_
  subst e2
  cases cJ e1
  obtain ⟨p,vs,hp,rfl,_,_,jG,hr⟩:=gy R hv C2;have ux:=jG.isList;exact wpAny_pyIter_list ux (jJ (I:=.oi o) rfl R (Hw hh (Nat.ne_of_lt (ux.elim λ_ z=>Heap.lt_size z.1))) ⟨⟨_,Heap.get?_push_size _ rfl,rfl,rfl⟩,hp⟩ k)
theorem oZ{target:Expr}{tup:Bool}{a b:Int}{t u v:Tok}{r:Addr}{Q:Value→Shared→Prop}(hh:A.handled=none)(R:Rep D h₀ G ρ h s)(hr:IsRange s.heap r a b 1 t u v)(LX:Builtin.Range.small a b 1=true)(k:Hx D h₀ A target tup (.items (cY a b)) G ρ s h Q):
  wpAny (model D.prog D.w) A (pyIter (.ref r)) Q Ex s:=by
 refine wpAny_pyIter_range hr LX (jJ rfl R (src_range hh (a:=a) (b:=b)) ⟨?_,Nat.zero_le _,trivial⟩ k);have xU:Builtin.Range.rangeSize a b 1=((b - a).toNat:Int):=by rw [rangeSize_one];split<;>lia
 rw [xU];have e1:a+((0:Nat):Int) * 1=a:=by simp
 have e2:(((b - a).toNat:Int) - ((0:Nat):Int))=((b - a).toNat:Int):=by simp
 rw [e1,e2];exact Heap.get?_push_size _ rfl
end
section
variable {X:Ctx}{K:Frag}{mg mb:Str→Option Value}{n k:Nat}{f:Fr}{l:Loc}{h:Hp}{W W0:Wd}{F:List Addr}
theorem C4{env:Env}{s:Shared}{Q:Bool→Shared→Prop}{Ex:Value→Shared→Prop}(ifs:List Expr)(q:Q false s):bA X (forIn ifs false (uw env)) Q Ex s:=by
 induction ifs with
 |nil=>rw [List.forIn_nil];exact wpAny_pure q
 |cons c r ih=>rw [List.forIn_cons];exact wpAny_bind (show bA X (pure (ForInStep.yield false)) _ _ _ from wpAny_pure ih)
theorem wo{c:Expr}{r:List Expr}{env:Env}{s:Shared}{Q:Bool→Shared→Prop}{Ex:Value→Shared→Prop}(h:bA X (PySem.isTrue c env (eval c env)) (λok s1=>bA X (forIn r ok (uw env)) Q Ex s1) Ex s):bA X (forIn (c::r) true (uw env)) Q Ex s:=by rw [List.forIn_cons];exact wpAny_bind (show bA X (PySem.isTrue c env (eval c env) >>=λok=>pure (ForInStep.yield ok)) _ _ _ from wpAny_bind (wpAny_mono h (λ_ _ z=>wpAny_pure z) λ_ _ z=>z))
theorem AI(T:∀e,Al (aB k f.ci e) (LF X n f e)){es:List Expr}{ms:List ai}(c:bV (CE k f.ci) es ms):∀l h W,dZ X f l h W→aD X [] W (forIn es true (uw f.env)) (tests (E X.D.pm n) ms l h) (Lz X f l):=by
 induction c with
 |nil=>exact λl h W S=>aD.eq (List.forIn_nil ..) (aD.ret ⟨S,rfl⟩)
 |cons c r ih=>
  exact λl h W S=>aD.rO (λ_ _=>wo) (T _ _ c l h W S) λW1 t b h1 g r=>by
   obtain rfl:t=b:=r.2
   cases t with
   |true=>exact ih l h1 W1 r.1
   |false=>exact λx e Q Ex KQ=>C4 _ (KQ W1 false (.refl _) (bJ e▸⟨r.1,rfl⟩))
abbrev uy(X:Ctx)(t:Expr)(tup:Bool)(it:Value)(at_:Nat→Hp→Option (Option MV))(pv:List Addr)(T:Nat→Fz→List PR→Heap→Prop):Prop:=Src X.D X.h₀ X.A t tup it at_ pv T
abbrev Pv(W:Wd)(b:Addr):Prop:=NW W.G W.ρ W.s b
theorem Pv.go{W':Wd}{b:Addr}(p:Pv W b)(g:Go F W W')(hb:b∉F):Pv W' b:=p.step g.g g.st hb
theorem Pv.kept{W':Wd}{b:Addr}(p:Pv W b)(g:Go F W W')(hb:b∉F){o:Obj}(e:W.s.heap.get? b=some o):W'.s.heap.get? b=some o:=g.st.keep b o (λq=>(List.mem_append.mp q).elim p.1 hb) e
theorem Go.rS(g:Go F W0 W){P:List Addr}{H:Heap}{t:Nat}(fresh:∀b∈P,W0.s.heap.get? b=none)(k:∀b o,b∉P→W.s.heap.get? b=some o→H.get? b=some o):Go F W0 (W.hp H t):=
 have q:=AH (s1:=(W.hp H t).s) g.g g.st fresh k rfl rfl rfl
 ⟨q.1,q.2⟩
theorem dZ.rS(S:dZ X f l h W){P:List Addr}{H:Heap}{t:Nat}(k:∀b o,b∉P→W.s.heap.get? b=some o→H.get? b=some o)(hw:∀b∈P,Pv W b∧b∉jr f.env):dZ X f l h (W.hp H t):=⟨S.rep.but P k (λb o g z=>(hw b z).1.2.1 o g) (λb hb z=>(hw b z).1.1 hb),S.lr.keep (.refl _) (.refl _) λb hb o e=>k b o (λz=>(hw b z).2 hb) e,S.sg,S.sr,λb hb=>(S.lt b hb).imp λo e=>k b o (λz=>(hw b z).2 hb) e⟩
structure yg(X:Ctx)(f:Fr)(T:Nat→Fz→List PR→Heap→Prop)(pv F:List Addr)(W0:Wd)(i:Nat)(l:Loc)(h:Hp)(W:Wd):Prop where
 g:Go F W0 W
 S:dZ X f l h W
 t:T i W.G W.ρ W.s.heap
 pv:∀b∈pv,Pv W b
structure Pu(f:Fr)(pv F:List Addr)(W0:Wd):Prop where
 fresh:∀b∈pv,W0.s.heap.get? b=none
 nf:∀b∈pv,b∉jr f.env
 nF:∀b∈pv,b∉F
variable {t:Expr}{tup:Bool}{it:Value}{at_:Nat→Hp→Option (Option MV)}{pv:List Addr}{T:Nat→Fz→List PR→Heap→Prop}{i:Nat}
theorem yg.move(SC:uy X t tup it at_ pv T)(P:Pu f pv F W0)(L:yg X f T pv F W0 i l h W){W':Wd}{l':Loc}{h':Hp}(g:Go F W W')(S':dZ X f l' h' W'):yg X f T pv F W0 i l' h' W':=⟨L.g.trans g,S',SC.mono _ _ _ _ _ _ _ L.t g.g.g g.g.r L.S.rep.keep (λb o gb=>S'.rep.keep b o (g.g.g _ _ gb)) λb hb o e=>(L.pv b hb).kept g (P.nF b hb) e,λb hb=>(L.pv b hb).go g (P.nF b hb)⟩
theorem yg.next(SC:uy X t tup it at_ pv T)(P:Pu f pv F W0)(L:yg X f T pv F W0 i l h W){x:MV}(wm:at_ i h=some (some x)){Q:Option Value→Shared→Prop}{Ex:Value→Shared→Prop}
  (K:∀v H1 tk,(∀(Q':Unit→Shared→Prop) (JO:Value→Shared→Prop),(∀H2,yg X f T pv F W0 (i+1) l h (W.hp H2 tk)→(∀b o,b∉pv→W.s.heap.get? b=some o→H2.get? b=some o)→C0 X.D W.G W.ρ tup x v H2→Q' () (W.hp H2 tk).s)→bA X (letOwnedTupleGo t it v) Q' JO (W.hp H1 tk).s)→Q (some v) (W.hp H1 tk).s):bA X (pyNext it) Q Ex W.s:=
 SC.next i W.G W.ρ h W.s x Q Ex L.t L.S.rep wm λv H1 tk kp go=>K v H1 tk λQ' JO q=>go Q' JO λH2 Uq hT hx=>q H2 ⟨L.g.rS P.fresh Uq,L.S.rS Uq λb hb=>⟨L.pv b hb,P.nf b hb⟩,hT,λb hb=>⟨(L.pv b hb).1,(L.pv b hb).2.1,SC.live _ _ _ _ hT b hb⟩⟩ Uq hx
theorem yg.stop(SC:uy X t tup it at_ pv T)(P:Pu f pv F W0)(L:yg X f T pv F W0 i l h W)(wm:at_ i h=some none){Q:Option Value→Shared→Prop}{Ex:Value→Shared→Prop}
  (K:∀H tk,Go F W0 (W.hp H tk)→dZ X f l h (W.hp H tk)→(∀b o,b∉pv→W.s.heap.get? b=some o→H.get? b=some o)→Q none (W.hp H tk).s):bA X (pyNext it) Q Ex W.s:=
 SC.stop i W.G W.ρ h W.s Q Ex L.t L.S.rep wm λH tk kp=>K H tk (L.g.rS P.fresh kp) (L.S.rS kp λb hb=>⟨L.pv b hb,P.nf b hb⟩) kp
def Px(X:Ctx)(n:Nat)(f:Fr)(t:Expr)(tup:Bool)(it:Expr)(mi:dm):Prop:=∀l h W,dZ X f l h W→∀I h',dB (E X.D.pm n) mi l h=some (I,h')→∀(Q Ex:Value→Shared→Prop),(∀iv W2 pv T,Go [] W W2→dZ X f l h' W2→uy X t tup iv (zQ I) pv T→T 0 W2.G W2.ρ W2.s.heap→(∀b∈pv,W.s.heap.get? b=none∧Pv W2 b)→Q iv W2.s)→bA X (eval it f.env) (λxv s1=>bA X (pyIter xv) Q Ex s1) Ex W.s
theorem LY{I:It}{h':Hp}{Q:Value→Shared→Prop}{W1:Wd}(g1:Go [] W W1)(S1:dZ X f l h' W1)(q:∀iv W2 pv T,Go [] W W2→dZ X f l h' W2→uy X t tup iv (zQ I) pv T→T 0 W2.G W2.ρ W2.s.heap→(∀b∈pv,W.s.heap.get? b=none∧Pv W2 b)→Q iv W2.s):Hx X.D X.h₀ X.A t tup I W1.G W1.ρ W1.s h' Q:=λiv s2 G2 ye pv T g2 R2 NU sc t0 hp=>q iv ⟨G2,ye,s2⟩ pv T (g1.trans (.of g2 NU)) (S1.after g2 R2 NU) sc t0 λb hb=>⟨g1.g.lv b (hp b hb).1,(hp b hb).2⟩
theorem LZ(H:gf X n f){e:Expr}{m:ai}(im:iw X n f e m):Px X n f t tup e (.val m):=λl h W S I h' e Q Ex q=>gm e λv h1 e1 e=>map_some e λJ e2 e3=>im l h W S _ e1 _ Ex λW1 va g1 r1=>C3 H.A.handled r1.1.rep r1.2 (e2.trans (congrArg some (congrArg Prod.fst e3))) (LY g1 r1.1 λiv W2 pv T g S=>q iv W2 pv T g ((show h1=h' from congrArg Prod.snd e3)▸S))
theorem wu{ci:CI}{nm:String}{x:Str}(h:eG ci nm x=true):x=Str.ofString nm∧ci.kinds.lookup x=some .globalImplicit:=by unfold eG at h;rw [Bool.and_eq_true,Bool.and_eq_true,beq_iff_eq] at h;exact ⟨h.1.1,rP h.1.2⟩
theorem C5(H:gf X n f)(L:cD X.D K X.h₀ mg mb)(S:dZ X f l h W){T:String}{x:Str}{np p:Pos}{a:Expr}{args:List Expr}{m:ai}(c:CE k f.ci a m){ms:List ai}(c2:bV (CE k f.ci) args ms)(hx:x=Str.ofString T)(hk:f.ci.kinds.lookup x=some .globalImplicit)(hd:(x==("__debug__":Str))=false)(h1:mg x=none)(h2:mb x=some (.type T)){Q Ex:Value→Shared→Prop}
  (q:bA X (spliced (backTo p (starEach (a::args) f.env))) (λvs s1=>bA X (call (.type T) vs []) Q Ex s1) Ex W.s):bA X (eval (.Call (.Name x np) (a::args) [] p) f.env) Q Ex W.s:=by
 refine wpAny_Call_NameR (Calls.Name_function_global H.env.fn ((j0 H.env x).trans hk) (Calls.loadGlobal_builtin (by rw [H.env.av];exact L.g.keeps (O7 S.rep)) h1 (by rw [H.env.bi];exact L.b.keeps (O7 S.rep)) h2 ?_) hd)
 have GN:=kI (pos:=p) (env:=f.env) (bV.cons c c2);rw [jZ c] at GN q⊢;exact PyProof.Rows.callWith_type (first:=[]) GN (Calls.evalArgs_plain q)
end
theorem wz{e:Expr}{q:Str×List Expr}(h:ry e=some q):∃np p,e=.Call (.Name q.1 np) q.2 [] p:=by
 cases e with
 |Call g args dX p=>obtain ⟨hk,h⟩:=yc h;obtain ⟨x,hx,rfl⟩:=dw.mp h;obtain ⟨np,rfl⟩:=iM hx;exact ⟨np,p,by rw [List.isEmpty_iff.mp hk]⟩
 |_=>exact (aY _ h.symm).elim
section
variable {X:Ctx}{K:Frag}{mg mb:Str→Option Value}{n k:Nat}{f:Fr}{l:Loc}{h:Hp}{W W0:Wd}{F:List Addr}{t:Expr}{tup:Bool}
theorem yh{o:Obj}{tk:Nat}{l:Loc}(S:dZ X f l h W):Go [] W (W.hp (W.s.heap.push o) tk)∧dZ X f l h (W.hp (W.s.heap.push o) tk):=
 have g:Go [] W (W.hp (W.s.heap.push o) tk):=.of (.same (dF _ _)) ⟨rfl,rfl,rfl,λ_ _ _ e=>Heap.get?_push_of_some _ e⟩
 ⟨g,g.qm S (S.rep.keeps λ_ _ e=>Heap.get?_push_of_some _ e)⟩
theorem Hy(L:cD X.D K X.h₀ mg mb)(H:gf X n f)(I:∀e,Al (aB k f.ci e) (iw X n f e)){x:Str}{np p:Pos}{args:List Expr}{ms:List ai}(hx:eG f.ci "range" x=true)(c:bV (CE k f.ci) args ms):Px X n f t tup (.Call (.Name x np) args [] p) (.range ms):=λl h W S J h' e Q Ex q=>by
 obtain ⟨hx,hk⟩:=wu hx;refine jl e λvs e1 e=>map_some e λ_ e2 e3=>?_
 cases c with
 |nil=>
  cases (show ([],h)=vs from aC e1)
  exact no e2
 |cons c c2=>
  refine C5 H L S c c2 hx hk (by rw [hx];decide+kernel) (by rw [hx];exact L.range.1) (by rw [hx];exact L.range.2) (nU I (.cons c c2) l h W S _ e1 _ Ex λW1 ws g1 r1=>?_)
  rcases or_some e2 with e2|⟨_,e2⟩
  ·obtain ⟨v,e4,e2⟩:=aL.mp e2
   obtain ⟨a,e5,e2⟩:=aL.mp e2;obtain ⟨b,e6,e2⟩:=aL.mp e2;obtain ⟨hN,e7⟩:=rR e2;have hN:=aZ.mp hN;have bd:=dY hN.1;have bd2:=dY hN.2;have hv:Vs X W1 [v.1,v.2] ws:=uq e4▸r1.2;obtain ⟨v1,YE,rfl,Cf,hn⟩:=cB.cons_inv hv;obtain ⟨v2,r2',rfl,TA,NR⟩:=hn.cons_inv;obtain ⟨t,rfl⟩:=di (bD e5▸Cf);obtain ⟨u,rfl⟩:=di (bD e6▸TA);rw [NR.nil_inv];obtain ⟨g2,S2⟩:=yh (tk:=W1.s.toks+1) (o:={cls:=.type "range",data:=.fields #[.int a t,.int b u,.int 1 W1.s.toks]}) r1.1;have eJ:It.items (cY a b)=J:=e7.trans (congrArg Prod.fst e3);have eh:vs.2=h':=congrArg Prod.snd e3;subst eJ;exact call_range_2 (oZ H.A.handled S2.rep (IsRange.new ..) (small_one (by lia) (by lia) (by lia) (by lia)) (LY (g1.trans g2) S2 λiv W2 pv T g S=>q iv W2 pv T g (eh▸S)))
  ·obtain ⟨v,e4,e2⟩:=aL.mp e2
   obtain ⟨N,e5,e2⟩:=aL.mp e2;obtain ⟨hN,e6⟩:=rR e2;have bd:=dY hN;have hv:Vs X W1 [v] ws:=cO e4▸r1.2;obtain ⟨v1,YE,rfl,Cf,hn⟩:=cB.cons_inv hv;obtain ⟨t,rfl⟩:=di (bD e5▸Cf);rw [hn.nil_inv];obtain ⟨g2,S2⟩:=yh (tk:=W1.s.toks+1+1) (o:={cls:=.type "range",data:=.fields #[.int 0 W1.s.toks,.int N t,.int 1 (W1.s.toks+1)]}) r1.1;have eJ:It.items (cY 0 N)=J:=e6.trans (congrArg Prod.fst e3);have eh:vs.2=h':=congrArg Prod.snd e3;subst eJ;exact call_range_1 (oZ H.A.handled S2.rep (IsRange.new ..) (small_one (by decide) (by decide) (by lia) (by lia)) (LY (g1.trans g2) S2 λiv W2 pv T g S=>q iv W2 pv T g (eh▸S)))
set_option tactic.hygienic true in
theorem yi(L:cD X.D K X.h₀ mg mb)(H:gf X n f)(I:∀k e,Al (aB k f.ci e) (iw X n f e))(k:Nat)(it:Expr):Al (iZ k f.ci it) λmi=>Px X n f t tup it mi:=match k with
 |0=>Al.none
 |k+1=>by
  show Al (match ry it with
   |none=>(aB k f.ci it).map dm.val
   |some q=>if eG f.ci "range" q.1=true then (q.2.mapM (aB k f.ci)).map dm.range
    else (aB k f.ci it).map dm.val) _
  have hv:Al ((aB k f.ci it).map dm.val) λmi=>Px X n f t tup it mi:=Al.map λm e=>LZ H (I k it m e)
  cases hc:ry it with
  |none=>exact hv
  |some q=>
   obtain ⟨np,p,rfl⟩:=wz hc;dsimp only;split
   ·rename_i hr
    exact Al.map λms e=>Hy L H (I k) hr (Al.mapM _ _ e)
   ·exact hv
theorem C6{ci:CI}{it:Expr}{mi:dm}{env:Env}(ec:iZ k ci it=some mi)(x:Value):foldedSetIterable it env x=pure x:=by
 cases it with
 |Set a b c=>
  cases k with
  |zero=>exact (aY _ ec.symm).elim
  |succ k=>cases k<;>exact (aY _ ec.symm).elim
 |_=>rfl
end
section
variable {X:Ctx}{K:Frag}{mg mb:Str→Option Value}{n k:Nat}{f:Fr}{l:Loc}{h:Hp}{W W0:Wd}{F:List Addr}{t:Expr}{tup:Bool}{it:Value}{at_:Nat→Hp→Option (Option MV)}{pv:List Addr}{T:Nat→Fz→List PR→Heap→Prop}{i:Nat}
inductive Py(X:Ctx)(f:Fr)(n i:Nat)(b:List aA)(xs:List MV)(r:Fl×Loc×Hp)(T:Nat→Fz→List PR→Heap→Prop)(pv:List Addr)(W0:Wd)(m:Nat)(s:Shared):Prop
 |mk {j:Nat} {l:Loc} {h:Hp} {W:Wd} (hs:W.s=s) (hm:m=(xs.drop j).length+1) (e:bT (E X.D.pm n) (.aH i) b (xs.drop j) l h=some r) (L:yg X f T pv (jr f.env) W0 j l h W)
set_option tactic.hygienic true in
theorem Hz(L:cD X.D K X.h₀ mg mb)(IH:j6 X n)(IX:SX X n):Uk X n:=λk f x q it b p i H hs mi ei l h W S r e Q Ex KQ=>gm e λI h1 e1 e=>by
 have HI:Px X n f (.Name x q) false it mi:=yi L H (λk e=>IH k f e H) k it mi ei
 cases I with
 |oi _=>exact no e
 |items xs=>
  refine wpAny_For (HI l h W S _ _ e1 _ _ λiv W2 pv T g2 S2 sc t0 HA=>?_) (C6 ei)
  have nf:∀b∈pv,b∉jr f.env:=λb hb zM=>(S.lt b zM).elim λo eo=>no ((HA b hb).1.symm.trans eo)
  have P:Pu f pv (jr f.env) W:=⟨λb hb=>(HA b hb).1,nf,nf⟩
  have I0:Py X f n i (eO k f.ci b) xs r T pv W (xs.length+1) W2.s:=.mk (j:=0) rfl rfl e ⟨g2.nQ,S2,t0,λb hb=>(HA b hb).2⟩
  clear HA e e1 HI g2 S2 t0 nf;refine codeAny_forLoop_any (Py X f n i (eO k f.ci b) xs r T pv W) (λm s' hI=>?_) _ I0
  obtain ⟨rfl,rfl,e2,Y⟩:=hI;rename_i j l1 h2 W3
  cases hd:xs.drop j with
  |nil=>rw [hd] at e2;exact Y.stop sc P (congrArg some (List.getElem?_eq_none (List.drop_eq_nil_iff.mp hd))) λH2 tk g4 S4 _=>wpAny_execs_nil (KQ (W3.hp H2 tk) .next g4 (aC e2▸⟨S4,rfl⟩))
  |cons y r'=>
   rw [hd] at e2;have hx:xs[j]? =some y:=by rw [← Nat.add_zero j, ← List.getElem?_drop,hd];rfl
   have Bs:xs.drop (j+1)=r':=by rw [← List.drop_drop,hd];rfl
   refine Y.next sc P (x:=y) (congrArg some hx) λv H1 tk go=>go _ _ λH2 Y2 _ hv=>wpAny_assign_Name (rQ H.env x i hs l1 h2 _ y v Y2.S (hv.resolve_right λz=>Bool.noConfusion z.1) _ rfl _ _ λW5 u g5 S5=>?_)
   have e2:((E X.D.pm n).ex (eO k f.ci b) (gV l1 i y) h2).bind _=some r:=e2;refine gm e2 λf1 q e3 e2=>IX k f b _ h2 W5 H S5 _ e3 _ _ λW6 fw g6 r6=>?_
   have Y6:=(Y2.move sc P g5 S5).move sc P g6 r6.1
   cases f1 with
   |next=>
    obtain rfl:fw=.next:=r6.2
    exact ⟨_,Nat.lt_succ_self _,.mk (j:=j+1) rfl (by rw [Bs];rfl) (by rw [Bs];exact e2) Y6⟩
   |ret w=>obtain ⟨wv,rfl,hr⟩:=r6.2;exact KQ W6 (.ret wv) Y6.g (aC e2▸⟨r6.1,wv,rfl,hr⟩)
theorem L0(H:gf X n f)(t:Expr):Al (dD f.ci t) λp=>∀l h W x v,dZ X f l h W→C0 X.D W.G W.ρ p.2 x v W.s.heap→aD X [f.env.locals] W (assign t f.env v) ((gu l p.1 p.2 x).bind λl'=>some (l',h)) (RU X f):=by
 cases t with
 |Name x p=>exact Al.map λi e l h W v va S hv=>aD.to (λ_ _=>wpAny_assign_Name) (Pf H.env x i e l h W v va S (hv.resolve_right λz=>Bool.noConfusion z.1))
 |_=>exact Al.none
structure jm(X:Ctx)(acc:Addr)(done:List MV)(vals:List Value)(W:Wd):Prop where
 pl:W.s.heap.PlainList acc vals.toArray
 v:Vs X W done vals
 pa:Pv W acc
theorem jm.go{acc:Addr}{done:List MV}{vals:List Value}{W':Wd}(x:jm X acc done vals W)(g:Go F W W')(hF:acc∉F):jm X acc done vals W':=⟨x.pl.imp λ_ e=>x.pa.kept g hF e,g.vs x.v,x.pa.go g hF⟩
theorem jm.hp{acc:Addr}{done:List MV}{vals:List Value}{H:Heap}{tk:Nat}(x:jm X acc done vals W)(k:∀o,W.s.heap.get? acc=some o→H.get? acc=some o):jm X acc done vals (W.hp H tk):=⟨x.pl.imp λ_ e=>k _ e,x.v,x.pa.1,x.pa.2.1,x.pa.2.2.imp λ_ e=>k _ e⟩
theorem yg.app{acc:Addr}{done:List MV}{vals:List Value}{v:MV}{y:Value}{H:Heap}{t0:Expr}(SC:uy X t0 tup it at_ pv T)(AJ:W0.s.heap.get? acc=none)(PA:acc∉pv)(Sp:acc∉jr f.env)(L:yg X f T pv F W0 i l h W)(A:jm X acc done vals W)(hv:V X W v y)(hp:H.PlainList acc (vals.toArray.push y))(hs:Heap.SameBut acc W.s.heap H):
  yg X f T pv F W0 i l h (W.hp H W.s.toks)∧jm X acc (done++[v]) (vals++[y]) (W.hp H W.s.toks):=
 have kp:∀b o,b∉[acc]→W.s.heap.get? b=some o→H.get? b=some o:=λb o nb e=>(hs.2 b λz=>nb (z▸b7 ..)).trans e
 have ka:∀b∈pv,b∉[acc]:=λb hb z=>PA (ez.mp z▸hb)
 ⟨⟨L.g.rS (λb hb=>ez.mp hb▸AJ) kp,L.S.rS kp λb hb=>ez.mp hb▸⟨A.pa,Sp⟩,SC.mono _ _ _ _ _ _ _ L.t (.refl _) (.refl _) L.S.rep.keep (λb o gb=>kp b o (λz=>A.pa.2.1 o (ez.mp z▸gb)) (L.S.rep.keep b o gb)) λb hb o e=>kp b o (ka b hb) e,λb hb=>⟨(L.pv b hb).1,(L.pv b hb).2.1,(L.pv b hb).2.2.imp λo e=>kp b o (ka b hb) e⟩⟩,(List.push_toArray ..)▸hp,A.v.append (.cons hv .nil),A.pa.1,A.pa.2.1,hp.imp' _ λ_ e=>e⟩
inductive PB(X:Ctx)(f:Fr)(n:Nat)(me:ai)(is:List Nat)(tup:Bool)(gO:List ai)(at_:Nat→Hp→Option (Option MV))(all:List MV)(wA:Hp)(acc:Addr)(T:Nat→Fz→List PR→Heap→Prop)(pv:List Addr)(W0:Wd)(sz:Nat)(s:Shared):Prop
 |mk {i:Nat} {l:Loc} {h:Hp} {rest done:List MV} {vals:List Value} {W:Wd} (hs:W.s=s) (e:dc (E X.D.pm n) me is tup gO at_ sz i l h=some (rest,wA)) (v7:all=done++rest) (L:yg X f T pv [f.env.locals] W0 i l h W) (A:jm X acc done vals W)
set_option tactic.hygienic true in
theorem HB(H:gf X n f)(IH:j6 X n)(IT:ST X n){elt iter:Expr}{ifs:List Expr}{sc:Scope}{pos:Pos}{me:ai}{gO:List ai}{is:List Nat}{acc:Addr}{R:Result→Shared→Prop}{yj:List MV}{wA:Hp}(ct:dD f.ci t=some (is,tup))(ce:aB k f.ci elt=some me)(cf:bV (CE k f.ci) ifs gO)
  (SC:uy X t tup it at_ pv T) (P:Pu f pv [f.env.locals] W0) (AJ:W0.s.heap.get? acc=none) (PA:acc∉pv) (Sp:acc∉jr f.env) (hlen:yj.length≤az)
  (KR:∀W' l' vals,Go [f.env.locals] W0 W'→dZ X f l' wA W'→jm X acc yj vals W'→R (.ok .next) W'.s) {sz:Nat} {s:Shared} (I:PB X f n me is tup gO at_ yj wA acc T pv W0 sz s):
  codeAny (model X.D.prog X.D.w) X.A (.compLoop (.ListComp elt [⟨t,iter,ifs,0⟩] sc pos) 0 it (.ref acc) f.env) R s:=by
 have Sq:acc∉[f.env.locals]:=λq=>Sp (ez.mp q▸b7 ..)
 refine AG (PB X f n me is tup gO at_ yj wA acc T pv W0) (λsz s I=>?_) sz I
 generalize LU X f.env R=Ex;obtain ⟨rfl,e,v7,L,A⟩:=I;rename_i i l h rest done vals W
 cases sz with
 |zero=>exact no e
 |succ sz=>
 refine jl e λo wm e=>?_
 cases o with
 |none=>exact L.stop SC P wm λH1 tk g S kp=>KR _ l vals g ((show h=wA from congrArg Prod.snd (aC e))▸S) ((v7.trans ((congrArg (done++·) (show []=rest from congrArg Prod.fst (aC e)).symm).trans (cM _)))▸A.hp λo e=>kp _ _ PA e)
 |some x=>
  refine jl e λl1 hb e=>gm e λb h1 ht e=>L.next SC P wm λv H1 tk go=>go _ _ λH2 L2 kp hx=>L0 H t _ ct l h _ x v L2.S hx (l1,h) (by dsimp only;rw [hb];rfl) _ _ λW3 u g3 S3=>AI (λe=>IT k f e H) cf l1 h W3 S3 _ ht _ _ λW4 b' g4 r4=>?_
  have L4:=(L2.move SC P g3 S3).move SC P g4.nQ r4.1;have A4:=((A.hp (H:=H2) (tk:=tk) λo e=>kp _ _ PA e).go g3 Sq).go g4.nQ Sq
  obtain rfl:b'=b:=r4.2;clear hx kp go r4 g4 g3 S3 L2 wm hb ht
  cases b' with
  |false=>exact Exists.intro sz ⟨Nat.lt_succ_self _,.mk rfl e v7 L4 A4⟩
  |true=>
   refine gm e λv h2 C7 e=>jl e λq e1 e2=>IH k f elt H me ce l1 h1 W4 L4.S _ C7 _ _ λW5 y g5 r5=>wpAny_list_append_plain (A4.go g5.nQ Sq).pl (λh6 YF YG=>?_) ?_
   ·have q6:=yg.app SC AJ PA Sp (L4.move SC P g5.nQ r5.1) (A4.go g5.nQ Sq) r5.2 YF YG
    exact Exists.intro sz ⟨Nat.lt_succ_self _,.mk rfl (e1.trans (congrArg some (Prod.ext rfl (show q.2=wA from congrArg Prod.snd (aC e2))))) ((v7.trans (congrArg (done++·) (show v::q.1=rest from congrArg Prod.fst (aC e2)).symm)).trans (cU done [v] q.1).symm) q6.1 q6.2⟩
   ·rw [List.size_toArray, ← A4.v.length]
    exact ah (ah (by rw [v7,aM];exact bI ..) hlen) cI
end
theorem AK{ci:CI}{env:Env}(he:iK ci env)(x:Str):env.kindOf x=ci.kinds.lookup x:=by unfold Env.kindOf;rw [he.kinds]
noncomputable abbrev rT(env:Env):Str×NameKind→List (Str×Addr)→Sem (ForInStep (List (Str×Addr))):=λx cs=>if (x.2==.free)=true then do let a ← cellOf env x.1;pure (ForInStep.yield ((x.1,a)::cs)) else pure (ForInStep.yield cs)
noncomputable def frees(names:List (Str×NameKind))(env:Env):List (Str×Addr):=(names.filter (·.2==.free)).map λp=>(p.1,(env.cells.lookup p.1).getD 0)
theorem rU{scope:Scope}{env:Env}(h:∀p∈scope.names,p.2=.free→∃c,env.cells.lookup p.1=some c):
  closureFor scope env=pure (frees scope.names env).reverse:=by
 have main:∀(names:List (Str×NameKind)) (cs:List (Str×Addr)),(∀p∈names,p.2=.free→∃c,env.cells.lookup p.1=some c)→
   (forIn names cs (rT env)=(pure ((frees names env).reverse++cs):Sem (List (Str×Addr)))):=by
  intro names
  induction names with
  |nil=>intro cs _;rw [List.forIn_nil];rfl
  |cons p r ih=>
   intro cs h1;obtain ⟨x,k⟩:=p
   by_cases hk:k=.free
   ·subst hk
    obtain ⟨c,hc⟩:=h1 (x,.free) (b7 ..) rfl;have e:=ih ((x,c)::cs) (λp hp=>h1 p (bP _ hp))
    rw [List.forIn_cons];have:cellOf env x=pure c:=by unfold cellOf;rw [hc]
    have hf:frees ((x,NameKind.free)::r) env=(x,c)::frees r env:=by unfold frees;rw [List.filter_cons_of_pos (by rfl),List.map_cons,hc];rfl
    rw [hf,List.reverse_cons,cU];show (cellOf env x >>=λa=>pure (ForInStep.yield ((x,a)::cs))) >>=_=_
    rw [this];exact e
   ·have Cs:(k==NameKind.free)=false:=by cases k<;>first|rfl|exact absurd rfl hk
    have e:=ih cs (λp hp=>h1 p (bP _ hp))
    have hf:frees ((x,k)::r) env=frees r env:=by unfold frees;rw [List.filter_cons_of_neg (by rw [Cs];exact bR)]
    rw [List.forIn_cons,hf];have hb:rT env (x,k) cs=pure (ForInStep.yield cs):=by unfold rT;dsimp only;rw [Cs];rfl
    rw [hb];exact e
 have e:=main scope.names [] h;rw [cM] at e;unfold closureFor;exact (congrArg (λ(z:Sem (List (Str×Addr)))=>z >>=λcs=>pure cs) e)
theorem lX{names:List (Str×NameKind)}{env:Env}{x:Str}{c:Addr}(hl:∀p∈names,p.2=.free→∃c,env.cells.lookup p.1=some c)(h:(x,c)∈(frees names env).reverse):(x,NameKind.free)∈names∧env.cells.lookup x=some c:=by
 rw [List.mem_reverse] at h;unfold frees at h;obtain ⟨⟨y,k⟩,hp,e⟩:=List.mem_map.mp h;obtain ⟨hm,hk⟩:=List.mem_filter.mp hp;have hk:k=.free:=by cases k<;>first|rfl|cases hk
 subst hk;obtain ⟨c',hc⟩:=hl _ hm rfl;rw [hc] at e;cases e
 exact ⟨hm,hc⟩
theorem AL{names:List (Str×NameKind)}{env:Env}{x:Str}(hl:∀p∈names,p.2=.free→∃c,env.cells.lookup p.1=some c)(h:(x,NameKind.free)∈names):∃c,(x,c)∈(frees names env).reverse∧env.cells.lookup x=some c:=by obtain ⟨c,hc⟩:=hl _ h rfl;refine ⟨c,?_,hc⟩;rw [List.mem_reverse];unfold frees;refine List.mem_map.mpr ⟨(x,.free),List.mem_filter.mpr ⟨h,rfl⟩,?_⟩;rw [hc];rfl
theorem mZ{names:List (Str×NameKind)}{env:Env}(nd:(names.map (·.1)).Nodup):((frees names env).reverse.map (·.1)).Nodup:=by rw [List.map_reverse,(List.reverse_perm _).nodup_iff];unfold frees;rw [List.map_map];exact (List.Sublist.map _ List.filter_sublist).nodup nd
theorem rV{l:List (Str×Addr)}{cells:List (Str×Addr)}(nd:(l.map (·.1)).Nodup)(YH:(cells.map (·.2)).Nodup)(h:∀x c,(x,c)∈l→(x,c)∈cells):(l.map (·.2)).Nodup:=by
 induction l with
 |nil=>exact List.nodup_nil
 |cons p r ih=>
  rw [List.map_cons,List.nodup_cons] at nd⊢;refine ⟨λq=>?_,ih nd.2 λx c hx=>h x c (bP _ hx)⟩
  obtain ⟨⟨y,c⟩,hy,e⟩:=List.mem_map.mp q;have e:c=p.2:=e;subst e;have:=uu YH (h y _ (bP _ hy)) (h p.1 p.2 (b7 ..));exact nd.1 (by rw [← this];exact List.mem_map.mpr ⟨(y,p.2),hy,rfl⟩)
theorem qn{l:List (Str×Addr)}{x:Str}{c:Addr}(nd:(l.map (·.1)).Nodup)(h:(x,c)∈l):l.lookup x=some c:=by
 induction l with
 |nil=>cases h
 |cons p r ih=>
  rw [List.map_cons,List.nodup_cons] at nd;rw [List.lookup_cons];rcases bO.mp h with h|h
  ·rw [← h];simp
  ·have:(x==p.1)=false:=by
    rw [beq_eq_false_iff_ne];intro e;exact nd.1 (by rw [← e];exact List.mem_map.mpr ⟨(x,c),h,rfl⟩)
   rw [this];exact ih nd.2 h
theorem dR{sc:Scope}(h:gv sc=true):sc.kind=.function∧(∀p∈sc.names,p.2≠.cell)∧(sc.names.map (·.1)).Nodup:=by
 unfold gv at h;simp only [Bool.and_eq_true] at h;obtain ⟨⟨⟨⟨a,_⟩,_⟩,b⟩,c⟩:=h;refine ⟨?_,λp hp e=>?_,bz c⟩
 ·cases q:sc.kind<;>first|rfl|(rw [q] at a;cases a)
 ·have:=List.all_eq_true.mp b p hp
  rw [e] at this;cases this
theorem o4{ci:CI}{sc:Scope}(h:freeOk ci sc=true):∀p∈sc.names,p.2=.free→ci.kinds.lookup p.1=some .cell∧p.1∈ci.slots:=λp hp e=>by
 have:=List.all_eq_true.mp h p hp;rw [e] at this;have:(ci.kinds.lookup p.1==some .cell&&ci.slots.contains p.1)=true:=this;rw [Bool.and_eq_true] at this;refine ⟨?_,List.contains_iff_mem.mp this.2⟩;have h1:=this.1
 cases q:ci.kinds.lookup p.1 with
 |none=>rw [q] at h1;exact absurd h1 (by decide)
 |some kd=>rw [q] at h1;cases kd<;>first|rfl|exact absurd h1 (by decide)
theorem yk{x:Str}:∀{a b:List Str},x∉a→(a++b).idxOf? x=(b.idxOf? x).map (·+a.length)
 |[],b,_=>by simp
 |y::a,b,h=>by
  have hy:(y==x)=false:=by rw [beq_eq_false_iff_ne];rintro rfl;exact h (b7 ..)
  rw [List.cons_append,List.idxOf?_cons,hy,yk λq=>h (bP _ q)]
  cases b.idxOf? x with
  |none=>rfl
  |some j=>exact congrArg some (Nat.add_assoc j a.length 1)
set_option tactic.hygienic true in
theorem m5{x:Str}:∀{a b:List Str} {i:Nat},x∈a→(a++b).idxOf? x=some i→i< a.length
 |[],b,_,h,_=>by cases h
 |y::a,b,i,h,e=>by
  rw [List.cons_append,List.idxOf?_cons] at e;split at e
  ·cases e;exact Nat.zero_lt_succ _
  ·rename_i q
   obtain ⟨j,hj,rfl⟩:=dw.mp e;have hm:x∈a:=by
    rcases bO.mp h with rfl|h
    ·exact absurd (beq_self_eq_true x) q
    ·exact h
   exact Nat.succ_lt_succ (m5 hm hj)
theorem o5{x:Str}:∀{b:List Str},x∈b→∃i,b.idxOf? x=some i
 |[],h=>by cases h
 |y::b,h=>by
  rw [List.idxOf?_cons]
  by_cases q:(y==x)=true
  ·exact ⟨0,by rw [if_pos q]⟩
  ·rw [if_neg q]
   have hm:x∈b:=by
    rcases bO.mp h with rfl|h
    ·exact absurd (beq_self_eq_true x) q
    ·exact h
   obtain ⟨i,e⟩:=o5 hm;exact ⟨i+1,by rw [e];rfl⟩
theorem C8{ci:CI}{env:Env}(he:iK ci env)(sc:Scope):(relabel sc env).names=oq ci.kinds sc.names:=by
 unfold relabel oq;dsimp only;refine List.map_congr_left λp hp=>?_
 obtain ⟨x,k⟩:=p;dsimp only;rw [AK he x,he.fn];have:(k==NameKind.free&&(ScopeKind.function==ScopeKind.function)&&(ci.kinds.lookup x==some NameKind.cell))=(k==.free&&ci.kinds.lookup x==some .cell):=by cases (k==NameKind.free)<;>rfl
 rw [this]
set_option tactic.hygienic true in
theorem jK{o:List (Str×NameKind)}{x:Str}:∀{names:List (Str×NameKind)},(oq o names).lookup x=some .local→(x,NameKind.local)∈names
 |[],h=>by cases h
 |(n,k)::r,h=>by
  have h:List.lookup x ((if k==.free&&o.lookup n==some .cell then (n,NameKind.cell) else (n,k))::oq o r)=some .local:=h;split at h
  ·rw [List.lookup_cons] at h
   split at h
   ·cases h
   ·exact bP _ (jK h)
  ·rw [List.lookup_cons] at h
   split at h
   ·rename_i q;cases h;rw [beq_iff_eq] at q;rw [q];exact b7 ..
   ·exact bP _ (jK h)
set_option tactic.hygienic true in
theorem kJ{o:List (Str×NameKind)}{x:Str}:∀{names:List (Str×NameKind)},(∀p∈names,p.2≠.cell)→(oq o names).lookup x=some .cell→(x,NameKind.free)∈names
 |[],_,h=>by cases h
 |(n,k)::r,hc,h=>by
  have h:List.lookup x ((if k==.free&&o.lookup n==some .cell then (n,NameKind.cell) else (n,k))::oq o r)=some .cell:=h;have Bu:∀p∈r,p.2≠.cell:=λp hp=>hc p (bP _ hp)
  split at h
  ·rename_i z
   rw [Bool.and_eq_true] at z;have hk:k=.free:=by have:=z.1;cases k<;>first|rfl|cases this
   rw [List.lookup_cons] at h;split at h
   ·rename_i q;rw [beq_iff_eq] at q;rw [q,hk];exact b7 ..
   ·exact bP _ (kJ Bu h)
  ·rw [List.lookup_cons] at h
   split at h
   ·cases h;exact absurd rfl (hc (n,.cell) (b7 ..))
   ·exact bP _ (kJ Bu h)
theorem C9{names:List (Str×NameKind)}(nd:(names.map (·.1)).Nodup){x:Str}{k k':NameKind}(a:(x,k)∈names)(b:(x,k')∈names):k=k':=by
 induction names with
 |nil=>cases a
 |cons p r ih=>
  rw [List.map_cons,List.nodup_cons] at nd;rcases bO.mp a with a|a<;>rcases bO.mp b with b|b
  ·rw [← a] at b;exact (Prod.mk.inj b).2.symm
  ·exact absurd (by rw [← a];exact List.mem_map.mpr ⟨(x,k'),b,rfl⟩) nd.1
  ·exact absurd (by rw [← b];exact List.mem_map.mpr ⟨(x,k),a,rfl⟩) nd.1
  ·exact ih nd.2 a b
theorem AM{names:List (Str×NameKind)}(nd:(names.map (·.1)).Nodup){x:Str}{k:NameKind}(h:(x,k)∈names):names.lookup x=some k:=by
 cases e:names.lookup x with
 |none=>
  exfalso;have:∀{l:List (Str×NameKind)},(x,k)∈l→l.lookup x≠none:=λ{l}=>by
   induction l with
   |nil=>intro h;cases h
   |cons p r ih=>
    intro h;rw [List.lookup_cons];rcases bO.mp h with h|h
    ·rw [← h];simp
    ·split
     ·simp
     ·exact ih h
  exact this h e
 |some k'=>rw [C9 nd h (mem_lookup e)]
noncomputable abbrev wB(sc:Scope):Nat:=(sc.names.filter (·.2==.local)).length
section
variable {D:bZ}{h₀:Heap}{G:Fz}{ρ:List PR}{h:Hp}{s:Shared}{A:Around}{Ex:Value→Shared→Prop}{K:Frag}{mg mb:Str→Option Value}{n:Nat}
theorem kK{ci:CI}{env:Env}{sc:Scope}{l:Loc}(yl:freeOk ci sc=true)(S:LR D G ρ ci env l s.heap):∀p∈sc.names,p.2=.free→∃c,env.cells.lookup p.1=some c:=λp hp e=>by obtain ⟨h1,h2⟩:=o4 yl p hp e;obtain ⟨i,hi⟩:=o5 h2;obtain ⟨c,_,e1,_⟩:=S.cell i p.1 hi h1;exact ⟨c,e1⟩
theorem nW{env:Env}{sc:Scope}{C:Addr}{b:Addr}(hf:∀p∈sc.names,p.2=.free→∃c,env.cells.lookup p.1=some c)(hb:b∈jr (compEnvC sc (frees sc.names env).reverse C env)):b=C∨b∈jr env:=by
 rcases bO.mp hb with hb|hb
 ·exact .inl hb
 ·obtain ⟨⟨x,c⟩,hx,rfl⟩:=List.mem_map.mp hb
  exact .inr (jF (lX hf hx).2)
theorem Dc{ci:CI}{env:Env}{sc:Scope}{C:Addr}(he:iK ci env)(uz:gv sc=true)(hf:∀p∈sc.names,p.2=.free→∃c,env.cells.lookup p.1=some c)(hC:C∉jr env):iK (eg ci sc) (compEnvC sc (frees sc.names env).reverse C env) where
 kinds:=C8 he sc
 fn:=(dR uz).1
 av:=he.av
 bi:=he.bi
 nodup:=by
  have nd:=he.nodup;unfold jr at nd⊢;rw [List.nodup_cons] at nd⊢;refine ⟨λq=>?_,rV (mZ (dR uz).2.2) nd.2 λx c hx=>mem_lookup (lX hf hx).2⟩
  obtain ⟨⟨x,c⟩,hx,e⟩:=List.mem_map.mp q;have e:c=C:=e;subst e;exact hC (jF (lX hf hx).2)
theorem HC{ci:CI}{env:Env}{sc:Scope}{C:Addr}{l:Loc}{m:Str→Option Value}(uz:gv sc=true)(yl:freeOk ci sc=true)(S:SR D h₀ ci env G ρ l h s)(hn:s.heap.Ns C m)(h1:C∉bM ρ)(h2:∀o,¬ G C o):
  SR D h₀ (eg ci sc) (compEnvC sc (frees sc.names env).reverse C env) G ρ (List.replicate (wB sc) none++l) h s:=by
 have hf:=kK yl S.lr;obtain ⟨_,nc,nd⟩:=dR uz;have L1:((sc.names.filter (·.2==.local)).map (·.1)).length=wB sc:=cL ..;refine ⟨S.rep,⟨?_,⟨m,hn,λi x mv ei ek e=>?_⟩,λi x ei ek=>?_⟩,λb o g hb=>?_,λb hr hb=>?_,λb hb=>?_⟩
 ·show (List.replicate _ none++l).length=(List.map _ _++ci.slots).length
  rw [aM,aM,List.length_replicate,L1,S.lr.len]
 ·exfalso
  have hx:=jK ek;have hm:x∈(sc.names.filter (·.2==.local)).map (·.1):=List.mem_map.mpr ⟨(x,.local),List.mem_filter.mpr ⟨hx,rfl⟩,rfl⟩;have hi:=m5 hm ei;rw [L1] at hi;rw [List.getElem?_append_left (by rw [List.length_replicate];exact hi),List.getElem?_replicate,if_pos hi] at e
  cases e
 ·have hx:=kJ nc ek
  have hm:x∉(sc.names.filter (·.2==.local)).map (·.1):=λq=>by
   obtain ⟨⟨y,k⟩,hy,e⟩:=List.mem_map.mp q;have e:y=x:=e;subst e;obtain ⟨hy,hk⟩:=List.mem_filter.mp hy;have hk:k=.local:=by cases k<;>first|rfl|cases hk
   subst hk;exact absurd (C9 nd hx hy) (by decide)
  have ei:((sc.names.filter (·.2==.local)).map (·.1)++ci.slots).idxOf? x=some i:=ei;rw [yk hm] at ei;obtain ⟨j,hj,rfl⟩:=dw.mp ei;obtain ⟨f1,_⟩:=o4 yl _ hx rfl;obtain ⟨c,w,e1,hc,r⟩:=S.lr.cell j x hj f1;obtain ⟨c',Bu,WG⟩:=AL hf hx;rw [e1] at WG;cases WG
  refine ⟨c,w,qn (mZ nd) Bu,hc,λmv q=>r mv ?_⟩
  rw [L1,List.getElem?_append_right (by rw [List.length_replicate];exact Nat.le_add_left ..),List.length_replicate,Nat.add_sub_cancel] at q
  exact q
 ·rcases nW hf hb with rfl|hb
  ·exact h2 o g
  ·exact S.sg b o g hb
 ·rcases nW hf hb with rfl|hb
  ·exact h1 hr
  ·exact S.sr b hr hb
 ·rcases nW hf hb with rfl|hb
  ·obtain ⟨o,es,ep,e,_⟩:=hn
   exact ⟨o,e⟩
  ·exact S.lt b hb
end
section
variable {D:bZ}{h₀:Heap}{K:Frag}{mg mb:Str→Option Value}{n:Nat}
theorem wC{gs:List Comprehension}{t it:Expr}{ifs:List Expr}(h:ru gs=some (t,it,ifs)):gs=[⟨t,it,ifs,0⟩]:=by
 cases gs with
 |nil=>exact no h
 |cons g r=>cases g with
  |mk a b c d=>
  obtain ⟨h1,h2⟩:=rR (show (if (r.isEmpty&&d==0)=true then some (a,b,c) else none)=some (t,it,ifs) from h)
  obtain ⟨h3,h4⟩:=aZ.mp h1;rw [List.isEmpty_iff.mp h3,show a=t from congrArg Prod.fst h2,show b=it from congrArg (λz:Expr×Expr×List Expr=>z.2.1) h2,show c=ifs from congrArg (λz:Expr×Expr×List Expr=>z.2.2) h2,show d=0 from beq_iff_eq.mp h4]
theorem AN{m:Bool}{me:ai}{nv:Nat}{is:List Nat}{tup:Bool}{i:dm}{gO:List ai}{l:Loc}{h:Hp}{r:MV×Hp}(e:fK D.pm (E D.pm n) (.comp m me nv is tup i gO) l h=some r):
  ∃I h1 vs hE sz,dB (E D.pm n) i l h=some (I,h1)∧dc (E D.pm n) me is tup gO (zQ I) sz 0 (List.replicate nv none++l) h1=some (vs,hE)∧vs.length≤az∧iC m vs hE=r:=
 gm e λI h1 e1 e=>gm e λvs h2 e2 e=>
  have e:=rR e
  ⟨I,h1,vs,h2,_,e1,e2,e.1,e.2⟩
theorem Dd{G:Fz}{ρ:List PR}{h h':Hp}{s:Shared}{acc:Addr}{vals:List Value}{vs:List MV}{v:MV}{mu:Bool}(R:Rep D h₀ G ρ h s)(jG:s.heap.PlainList acc vals.toArray)(hv:cB D G ρ vs vals)(pa:NW G ρ s acc)(hl:vs.length≤az)(e:iC mu vs h=(v,h')):
  ∃G' cA,Rep D h₀ G' cA h' s∧VR D G' cA v (.ref acc)∧jq G G'∧tg ρ cA∧(∀b o,G' b o→G b o∨b=acc)∧(∀b∈bM cA,b∈bM ρ∨b=acc)∧(∀b∈bM ρ,b∈bM cA):=by
 cases mu
 ·cases e
  obtain ⟨m,ho⟩:=jG;refine ⟨G.add acc _,ρ,R.freeze ho pa.1,?_,Fz.i0 _ _ _,.refl _,λb o q=>q.elim .inl λq=>.inr q.1,λb q=>.inl q,λb q=>q⟩
  exact ⟨hl,_,_,vals,m,rfl,.inr ⟨rfl,rfl⟩,rfl,rfl,cB.mono (Fz.i0 _ _ _) (.refl _) _ _ hv⟩
 ·cases e
  refine ⟨G,ρ++[(acc,none)],R.new (λ_ _ z=>z) (λb hb=>?_) (by simp [gw]) ⟨rfl,hl,vals,jG,cB.mono (.refl _) (.append _ _) _ _ hv⟩,?_,.refl _,.append _ _,λb o q=>.inl q,λb q=>?_,λb q=>?_⟩
  ·simp only [gw,Option.toList,bO,List.mem_nil_iff,or_false] at hb
   subst hb;exact ⟨pa.1,pa.2.1⟩
  ·skip
   exact ⟨(acc,none),by rw [← R.len];simp,rfl⟩
  ·rw [eU] at q
   rcases List.mem_append.mp q with q|q
   ·exact .inl q
   ·simp only [bM,List.flatMap_cons,List.flatMap_nil,gw,Option.toList,cM,bO,List.mem_nil_iff,or_false] at q
    exact .inr q
  ·rw [eU];exact List.mem_append_left _ q
end
section
variable {X:Ctx}{K:Frag}{mg mb:Str→Option Value}{n k:Nat}{f:Fr}{l:Loc}{h:Hp}{W W0:Wd}{F:List Addr}
theorem dZ.over(S:dZ X f l h W){W':Wd}{P:List Addr}{h':Hp}(g:Go P W W')(R:Ok X h' W')(hP:∀b∈P,b∉jr f.env):dZ X f l h' W':=by
 have kf:∀b∈jr f.env,∀o,W.s.heap.get? b=some o→W'.s.heap.get? b=some o:=λb hb o e=>g.st.keep b o (λq=>(List.mem_append.mp q).elim (λq=>S.sr b q hb) λq=>hP b q hb) e
 have L3:∀{b:Addr},W.s.heap.get? b=none→b∉jr f.env:=λ{b} z hb=>by obtain ⟨o,eo⟩:=S.lt b hb;rw [z] at eo;cases eo
 exact ⟨R,S.lr.keep g.g.g g.g.r kf,λb o hg hb=>(g.g.gn b o hg).elim (λq=>S.sg b o q hb) λq=>L3 q hb,λb hr hb=>(g.g.rn b hr).elim (λq=>S.sr b q hb) λq=>L3 q hb,λb hb=>(S.lt b hb).imp λo eo=>kf b hb o eo⟩
theorem Go.wide{W':Wd}{P:List Addr}(g:Go P W W')(h:∀b∈P,b∈F):Go F W W':=⟨g.g,g.st.weaken λb q=>(List.mem_append.mp q).elim (List.mem_append_left _) λq=>List.mem_append_right _ (h b q)⟩
theorem Go.drop{W':Wd}{C:Addr}{H:Heap}{t:Nat}(g:Go (C::F) W W')(fC:W.s.heap.get? C=none)(hs:Heap.SameBut C W'.s.heap H):Go F W (W'.hp H t):=by
 refine ⟨⟨g.g.g,g.g.r,g.g.gn,g.g.rn,g.g.rs,λb q=>?_⟩,⟨g.st.gens,g.st.drawn,g.st.os,λb o nb e=>?_⟩⟩
 ·by_cases z:b=C
  ·exact z▸fC
  ·exact g.g.lv b ((hs.2 b z)▸q)
 ·have z:b≠C:=λz=>by rw [z,fC] at e;cases e
  refine (hs.2 b z).trans (g.st.keep b o (λq=>?_) e)
  rcases List.mem_append.mp q with q|q
  ·exact nb (List.mem_append_left _ q)
  ·exact (bO.mp q).elim z λq=>nb (List.mem_append_right _ q)
theorem De{acc:Addr}{vs:List MV}{vals:List Value}{W':Wd}{P:List Addr}{hE:Hp}{r:MV×Hp}{mu:Bool}(A:jm X acc vs vals W')(g:Go P W W')(AJ:W.s.heap.get? acc=none)(hl:vs.length≤az)(R:Ok X hE W')(e:iC mu vs hE=r):
  ∃W2,W2.s=W'.s∧Go P W W2∧Ok X r.2 W2∧V X W2 r.1 (.ref acc)∧∀b,b≠acc→Pv W' b→Pv W2 b:=by
 obtain ⟨G2,ye,R2,hr,a1,a2,a3,a4,a5⟩:=Dd R A.pl A.v A.pa hl e;exact ⟨⟨G2,ye,W'.s⟩,rfl,⟨⟨g.g.g.trans a1,g.g.r.trans a2,λx o q=>(a3 x o q).elim (g.g.gn x o) λq=>.inr (q▸AJ),λx q=>(a4 x q).elim (g.g.rn x) λq=>.inr (q▸AJ),λx q=>a5 x (g.g.rs x q),g.g.lv⟩,g.st⟩,R2,hr,λb nb p=>⟨λq=>(a4 b q).elim p.1 nb,λo q=>(a3 b o q).elim (p.2.1 o) nb,p.2.2⟩⟩
end
section
variable {X:Ctx}{K:Frag}{mg mb:Str→Option Value}{n k:Nat}{f:Fr}{l:Loc}{h:Hp}{W W0:Wd}{F:List Addr}
theorem dZ.L3(S:dZ X f l h W){b:Addr}(z:W.s.heap.get? b=none):b∉jr f.env:=λhb=>by obtain ⟨o,eo⟩:=S.lt b hb;rw [z] at eo;cases eo
theorem ym(R:Ok X h W){b:Addr}(z:W.s.heap.get? b=none):b∉bM W.ρ∧∀o,¬ W.G b o:=⟨λq=>(R.live q).elim λo eo=>(aY _ (eo.symm.trans z)).elim,λo q=>aY _ ((R.keep _ _ q).symm.trans z)⟩
noncomputable abbrev qG(f:Fr)(sc:Scope)(C:Addr):Fr:=⟨eg f.ci sc,compEnvC sc (frees sc.names f.env).reverse C f.env⟩
noncomputable abbrev uA:Obj:={cls:=.type "list",dict:=none,data:=.seq ([]:List Value).toArray}
theorem AO{H oY:Heap}{ob:Obj}(Bt:Heap.SameBut (H.push uA).objs.size ((H.push uA).push ob) oY){m:Str→Option Value}(hn:oY.Ns (H.push uA).objs.size m):
  H.objs.size≠(H.push uA).objs.size∧H.get? H.objs.size=none∧H.get? (H.push uA).objs.size=none∧(∀b o,H.get? b=some o→oY.get? b=some o)∧oY.PlainList H.objs.size ([]:List Value).toArray∧(∃o,oY.get? H.objs.size=some o):=by
 have hz:(H.push uA).objs.size=H.objs.size+1:=Heap.size_push ..;have ne:H.objs.size≠(H.push uA).objs.size:=by rw [hz];exact Nat.ne_of_lt (Nat.lt_succ_self _)
 have e:=Bt.extBut _ _ ne (Heap.get?_push_of_some _ (Heap.get?_push_size _ rfl));exact ⟨ne,cW (bf _),cW (by rw [hz];exact Nat.le_succ _),λb o e=>Bt.extBut b o (by rw [hz];exact Nat.ne_of_lt (Nat.lt_succ_of_lt (Heap.lt_size e))) (Heap.get?_push_of_some _ (Heap.get?_push_of_some _ e)),⟨_,e⟩,⟨_,e⟩⟩
theorem AP(H:gf X n f)(IH:j6 X n)(IT:ST X n){elt it t:Expr}{ifs:List Expr}{sc:Scope}{pos:Pos}{tup:Bool}{me:ai}{gO:List ai}{is:List Nat}{R:Result→Shared→Prop}{at_:Nat→Hp→Option (Option MV)}{pv:List Addr}{T:Nat→Fz→List PR→Heap→Prop}{iv:Value}{acc C:Addr}{h1 hE:Hp}{vs:List MV}{sz:Nat}{mu:Bool}{r:MV×Hp}{W4:Wd}
  (uz:gv sc=true) (yl:freeOk f.ci sc=true) (ct:dD (eg f.ci sc) t=some (is,tup)) (ee:CE k (eg f.ci sc) elt me) (ef:bV (CE k (eg f.ci sc)) ifs gO)
  (S:dZ X f l h W) (g4:Go [] W W4) (S4:dZ X (qG f sc C) (List.replicate (wB sc) none++l) h1 W4) (A4:jm X acc [] [] W4) (ne:acc≠C) (fa:W.s.heap.get? acc=none) (fC:W.s.heap.get? C=none)
  (src:uy X t tup iv at_ pv T) (t4:T 0 W4.G W4.ρ W4.s.heap) (hp:∀b∈pv,(W.s.heap.get? b=none∧Pv W4 b)∧b≠acc∧b≠C) (run:dc (E X.D.pm n) me is tup gO at_ sz 0 (List.replicate (wB sc) none++l) h1=some (vs,hE)) (hlen:vs.length≤az) (er:iC mu vs hE=r)
  (KP:∀m W2,Go [C] W W2→dZ X f l r.2 W2→V X W2 r.1 (.ref acc)→Pv W2 C→W2.s.heap.Ns C m→R (.ok .next) W2.s):
  codeAny (model X.D.prog X.D.w) X.A (.compLoop (.ListComp elt [⟨t,it,ifs,0⟩] sc pos) 0 iv (.ref acc) (qG f sc C).env) R W4.s:=by
 have hf:=kK yl S.lr;have Hf:gf X n (qG f sc C):=⟨⟨H.ci.av,H.ci.nm,H.ci.ff⟩,Dc H.env uz hf (S.L3 fC),H.A⟩;have fr:∀b,W.s.heap.get? b=none→b≠C→b∉jr (qG f sc C).env:=λb z nb hb=>(nW hf hb).elim nb (S.L3 z)
 have hC:C∈jr (qG f sc C).env:=b7 ..;exact HB (f:=qG f sc C) (W0:=W) Hf IH IT ct ee ef src ⟨λb hb=>(hp b hb).1.1,λb hb=>fr b (hp b hb).1.1 (hp b hb).2.2,λb hb z=>(hp b hb).2.2 (ez.mp z)⟩ fa (λq=>(hp _ q).2.1 rfl) (fr acc fa ne) hlen (λW' l' vals g' S' A'=>by obtain ⟨W2,hs,g2,R2,hv,kp⟩:=De A' g' fa hlen S'.rep er;obtain ⟨m,hm,_⟩:=S'.lr.aH;exact hs▸KP m W2 g2 (S.over g2 R2 λb hb=>ez.mp hb▸S.L3 fC) hv (kp C (Ne.symm ne) ⟨λq=>S'.sr _ q hC,λo q=>S'.sg _ o q hC,S'.lt _ hC⟩) (hs▸hm)) (.mk (done:=[]) rfl run rfl ⟨g4.nQ,S4,t4,λb hb=>(hp b hb).1.2⟩ A4)
theorem qH(L:cD X.D K X.h₀ mg mb)(H:gf X n f)(IH:j6 X n)(IT:ST X n){elt it t:Expr}{ifs:List Expr}{sc:Scope}{pos Ur:Pos}{mu tup:Bool}{me:ai}{mi:dm}{gO:List ai}{is:List Nat}{r:MV×Hp}{Q Ex:Value→Shared→Prop}{use:Option (Value→Sem Unit)}
  (uz:gv sc=true) (yl:freeOk f.ci sc=true) (ei:iZ k f.ci it=some mi) (ct:dD (eg f.ci sc) t=some (is,tup)) (ee:CE k (eg f.ci sc) elt me) (ef:bV (CE k (eg f.ci sc)) ifs gO)
  (S:dZ X f l h W) (e:fK X.D.pm (E X.D.pm n) (.comp mu me (wB sc) is tup mi gO) l h=some r)
  (KP:∀acc C m W2,Go [C] W W2→dZ X f l r.2 W2→V X W2 r.1 (.ref acc)→Pv W2 C→W.s.heap.get? C=none→C∉jr f.env→W2.s.heap.Ns C m→compPost (model X.D.prog X.D.w) X.A Ex use Q (.ref acc) C (.ok .next) W2.s):
  bA X (comprehension (.ListComp elt [⟨t,it,ifs,0⟩] sc pos) sc f.env Ur (newList []) false (eval it f.env) use) Q Ex W.s:=by
 obtain ⟨I,h1,vs,hE,sz,e1,run,hlen,er⟩:=AN e;have hf:=kK yl S.lr;refine wpAny_comprehension_free (g:=⟨t,it,ifs,0⟩) (gs:=[]) rfl (C6 ei) (rU hf) (dR uz).1 (λx hx hl=>AM (dR uz).2.2 (by rw [← hl];exact hx)) ?_
 refine yi (t:=t) (tup:=tup) L H (λk e=>IH k f e H) k it mi ei l h W S I h1 e1 _ Ex λiv W2 pv T g2 S2 src t0 HA=>?_
 refine wpAny_newObj_type (wpAny_newFunctionEnv (dR uz).2.1 (by intro y hy;simp at hy) (λoY Lv Bt=>?_) (dR uz).1)
 obtain ⟨ne,fa,fC,kp,jG,PC⟩:=AO Bt Lv;dsimp only at Lv⊢;generalize (W2.s.heap.push uA).objs.size=C at Lv ne fC⊢;generalize W2.s.heap.objs.size=acc at fa ne jG PC⊢;clear Bt;have Ss:=g2.g.lv _ fa;have fC0:=g2.g.lv _ fC;have g4:Go [] W2 (W2.hp oY (W2.s.toks+0)):=.of (.same (ir kp)) ⟨rfl,rfl,rfl,λb o _ z=>kp b o z⟩
 have S4:=g4.qm S2 (S2.rep.keeps kp);have main:=λ(Z:Wd) (hZ:Z=W2.hp oY (W2.s.toks+0))=>AP (n:=n) (pos:=pos) (it:=it) (W4:=Z) H IH IT uz yl ct ee ef S (hZ▸g2.trans g4) (hZ▸HC uz yl S4 Lv (ym S2.rep fC).1 (ym S2.rep fC).2) (hZ▸⟨jG,.nil,(ym S2.rep fa).1,(ym S2.rep fa).2,PC⟩) ne (g2.g.lv _ fa) (g2.g.lv _ fC) src (hZ▸src.mono _ _ _ _ _ _ _ t0 (.refl _) (.refl _) S2.rep.keep S4.rep.keep λb _ o z=>kp b o z) (λb hb=>⟨⟨(HA b hb).1,hZ▸(HA b hb).2.go g4 fF⟩,λz=>(HA b hb).2.2.2.elim λo eo=>(aY _ (eo.symm.trans (z▸fa))).elim,λz=>(HA b hb).2.2.2.elim λo eo=>(aY _ (eo.symm.trans (z▸fC))).elim⟩) run hlen er λm W3 g S3 hv p hn=>KP acc C m W3 g S3 hv p (g2.g.lv _ fC) (S.L3 (g2.g.lv _ fC)) hn
 refine codeAny_compStart_list (main _ rfl) ?_;exact src.self 0 W2.G W2.ρ _ _ _ (src.mono _ _ _ _ _ _ _ t0 (.refl _) (.refl _) S2.rep.keep (λb o g=>kp b o (S2.rep.keep b o g)) λb _ o z=>kp b o z) (main _ rfl)
theorem yo{ci:CI}{elt:Expr}{gs:List Comprehension}{sc:Scope}{pos:Pos}{P:ai→Prop}(q:∀k t it ifs mi is tup me gO,gs=[⟨t,it,ifs,0⟩]→gv sc=true→freeOk ci sc=true→iZ k ci it=some mi→dD (eg ci sc) t=some (is,tup)→
  CE k (eg ci sc) elt me→bV (CE k (eg ci sc)) ifs gO→P (.comp (xP ci pos) me (wB sc) is tup mi gO)):Al (aB k ci (.ListComp elt gs sc pos)) P:=by
 cases k with
 |zero=>exact Al.none
 |succ k=>
 show Al (match ru gs with
  |some (t,it,ifs)=>if (gv sc&&freeOk ci sc)=true then (iZ k ci it).bind λmi=>(dD (eg ci sc) t).bind λp=>match p with
   |(is,tup)=>(aB k (eg ci sc) elt).bind λme=>(ifs.mapM (aB k (eg ci sc))).bind λgO=>some (.comp (xP ci pos) me (wB sc) is tup mi gO) else none
  |none=>none) P
 cases hg:ru gs with
 |none=>exact Al.none
 |some p=>
 obtain ⟨t,it,ifs⟩:=p;exact Al.ite λok=>Al.bind Al.self λmi ei=>Al.bind Al.self λ(is,tup) ct=>Al.bind Al.self λme ee=>Al.bind (Al.mapM ifs) λgO ef=>Al.some
  (q k t it ifs mi is tup me gO (wC hg) (aZ.mp ok).1 (aZ.mp ok).2 ei ct ee ef)
theorem qI{C:Addr}{H H':Heap}(s:Heap.SameBut C H H')(b:Addr)(o:Obj)(nb:b∉[C])(e:H.get? b=some o):H'.get? b=some o:=(s.2 b λz=>nb (z▸b7 ..)).trans e
theorem sk(L:cD X.D K X.h₀ mg mb)(IH:j6 X n)(IT:ST X n):SK X n:=λk f elt gs sc p H=>yo λk t it ifs mi is tup me gO hg uz yl ei ct ee ef l h W S r e Q Ex KQ=>by
 subst hg;rw [eval_ListComp];refine qH L H.pred IH IT uz yl ei ct ee ef S e λacc C m W2 g S2 hv pC fC hC hn=>?_
 exact ⟨m,hn,λh2 hs=>KQ (W2.hp h2 W2.s.toks) _ (g.drop fC hs) ⟨S2.rS (qI hs) λb hb=>ez.mp hb▸⟨pC,hC⟩,hv⟩⟩
theorem YI(L:cD X.D K X.h₀ mg mb)(IH:j6 X n)(IT:ST X n):NV X n:=λk f elt gs sc p x q i H hs=>yo λk t it ifs mi is tup me gO hg uz yl ei ct ee ef l h W S r e Q Ex KQ=>by
 subst hg;obtain ⟨r0,e1,e2⟩:=aL.mp e;cases e2
 show bA X (do let _ ← comprehension (.ListComp elt [⟨t,it,ifs,0⟩] sc p) sc f.env _ (newList []) false (eval it f.env) (some (assign (.Name x q) f.env))) _ _ W.s
 refine wpAny_bind (wpAny_mono (qH (Q:=λ_ s'=>Q () s') L H.pred IH IT uz yl ei ct ee ef S e1 λacc C m W2 g S2 hv pC fC hC hn=>?_) (λ_ s' hq=>wpAny_pure hq) λ_ _ z=>z)
 refine wpAny_assign_Name (rQ H.env x i hs l r0.2 W2 r0.1 _ S2 hv _ rfl _ _ λW3 u g3 S3=>?_)
 exact ⟨m,hn.at' λo e=>pC.kept g3 hC e,λh4 WH=>KQ (W3.hp h4 W3.s.toks) () (((g.wide λb hb=>ez.mp hb▸b7 ..).trans (g3.wide λb hb=>bP _ hb)).drop fC WH) (S3.rS (qI WH) λb hb=>ez.mp hb▸⟨pC.go g3 hC,hC⟩)⟩
end
theorem Us(X:Ctx):j6 X 0∧ST X 0∧SX X 0:=⟨λk f e H m _ l h W S=>aD.no,λk f e H m _ l h W S=>aD.no,λk f ss l h W H S=>aD.no⟩
theorem Df{X:Ctx}{n:Nat}{K:Frag}{mg mb:Str→Option Value}(L:cD X.D K X.h₀ mg mb)(HU:∀m,n=m+1→NV X m)(h:j6 X n∧ST X n∧SX X n)(c:SC X.D X.h₀ n):j6 X (n+1)∧ST X (n+1)∧SX X (n+1):=
 have e:=CQ L h.1 h.2.1 c (sk L h.1 h.2.1)
 ⟨e,AB h.1 h.2.1 e,Hv L h.1 h.2.1 h.2.2 (Hz L h.1 h.2.2) HU⟩
def YJ(X:Ctx)(n:Nat):Prop:=(∀m,n=m+1→NV X m)∧j6 X n∧ST X n∧SX X n
theorem sound{D:bZ}{h₀:Heap}{K:Frag}{mg mb:Str→Option Value}(L:cD D K h₀ mg mb)(n:Nat):(∀A,YJ ⟨D,h₀,A⟩ n)∧SC D h₀ n:=by
 induction n with
 |zero=>exact ⟨λA=>⟨λ_ e=>(Nat.succ_ne_zero _ e.symm).elim,Us _⟩,λA i fe fa pos kv bs kn xs vs ws h W _ _ _ _ _ _ _ _ _ e=>(aY _ e.symm).elim⟩
 |succ n ih=>exact ⟨λA=>⟨λm e=>Nat.succ.inj e▸YI (X:=⟨D,h₀,A⟩) L (ih.1 A).2.1 (ih.1 A).2.2.1,Df (X:=⟨D,h₀,A⟩) L (ih.1 A).1 (ih.1 A).2 ih.2⟩,CJ L λA=>(ih.1 A).2.2.2⟩
end
section
open PySem
structure d7 where
 v:Nat→MV
 l:Nat→List MV
 o:Nat→Option MV
noncomputable def PD:MV→Bool
 |.fn i=>Nat.ble 1000 i
 |_=>false
mutual
noncomputable def MV.I(ρ:d7):MV→MV
 |.none=>.none
 |.bool b=>.bool b
 |.int i=>.int i
 |.str s=>.str s
 |.tup l=>.tup (MV.Is ρ l)
 |.lst l=>.lst (MV.Is ρ l)
 |.jk ks vs=>.jk ks vs
 |.d8 c l=>.d8 c (MV.Is ρ l)
 |.obj i=>.obj i
 |.fn i=>cond (Nat.ble 1000 i) (ρ.v (i - 1000)) (.fn i)
 |.cls i=>.cls i
 |.bm o f=>.bm o f
 |.bi b=>.bi b
noncomputable def MV.Is(ρ:d7):List MV→List MV
 |[]=>[]
 |a::r=>MV.I ρ a::MV.Is ρ r
end
mutual
noncomputable def Ut:MV→Bool
 |.tup l=>wD l
 |.lst l=>wD l
 |.d8 _ l=>wD l
 |.fn i=> !Nat.ble 1000 i
 |.none=>true
 |.bool _=>true
 |.int _=>true
 |.str _=>true
 |.jk _ _=>true
 |.obj _=>true
 |.cls _=>true
 |.bm _ _=>true
 |.bi _=>true
noncomputable def wD:List MV→Bool
 |[]=>true
 |a::r=>Ut a&&wD r
end
inductive lY where
 |inst (c:Nat) (attrs:List (Nat×MV))
 |list (p:Option Nat) (l:List MV)
noncomputable abbrev aS:=List lY
inductive SL where
 |u
 |v (m:MV)
 |o (i:Nat)
noncomputable abbrev aV:=List SL
noncomputable def pI(ρ:d7):Option Nat→List MV
 |none=>[]
 |some i=>ρ.l i
noncomputable def cat(ρ:d7)(p:Option Nat)(l:List MV):List MV:=match p with
 |none=>l
 |some i=>(match l with
  |[]=>ρ.l i
  |a::r=>ρ.l i++a::r)
noncomputable def kL(ρ:d7)(l:List (Nat×MV)):List (Nat×MV):=l.map λp=>(p.1,p.2.I ρ)
noncomputable def lY.I(ρ:d7):lY→iW
 |.inst c a=>.inst c (kL ρ a)
 |.list p l=>.list (cat ρ p (MV.Is ρ l))
noncomputable def aQ(ρ:d7)(h:aS):Hp:=h.map (lY.I ρ)
noncomputable def SL.I(ρ:d7):SL→Option MV
 |.u=>none
 |.v m=>some (m.I ρ)
 |.o i=>ρ.o i
noncomputable def bq(ρ:d7)(l:aV):Loc:=l.map (SL.I ρ)
noncomputable def Fl.I(ρ:d7):Fl→Fl
 |.next=>.next
 |.ret v=>.ret (v.I ρ)
noncomputable def fnOf:MV→Option Nat
 |.fn i=>some i
 |_=>none
noncomputable def PE:MV→Option BI
 |.bi b=>some b
 |_=>none
noncomputable def gP{α:Type}(o:Option α)(f:α→Bool):Bool:=match o with
 |none=>false
 |some a=>f a
noncomputable def nG:List Nat→List Nat→Bool
 |[],b=>b.isEmpty
 |a::r,b=>match b with
  |[]=>false
  |c::q=>Nat.beq a c&&nG r q
mutual
noncomputable def nH:MV→MV→Bool
 |.none,b=>isNone b
 |.bool x,b=>gP (boolOf b) λy=>decide (x=y)
 |.int x,b=>gP (intOf b) λy=>decide (x=y)
 |.str x,b=>gP (strOf b) λy=>nG x y
 |.tup l,b=>gP (tB b) λr=>nI l r
 |.lst l,b=>gP (iA b) λr=>nI l r
 |.jk ks vs,b=>gP (tC b) λr=>nI ks r.1&&nI vs r.2
 |.d8 c l,b=>gP (xK b) λr=>Nat.beq c r.1&&nI l r.2
 |.obj i,b=>gP (objOf b) λj=>Nat.beq i j
 |.fn i,b=>gP (fnOf b) λj=>Nat.beq i j
 |.cls i,b=>gP (xM b) λj=>Nat.beq i j
 |.bm o f,b=>gP (vC b) λj=>Nat.beq o j.1&&Nat.beq f j.2
 |.bi k,b=>gP (PE b) λj=>decide (k=j)
noncomputable def nI:List MV→List MV→Bool
 |[],b=>b.isEmpty
 |a::r,b=>match b with
  |[]=>false
  |c::q=>nH a c&&nI r q
end
noncomputable def JP{α:Type}(f:α→α→Bool):List α→List α→Bool
 |[],b=>b.isEmpty
 |a::r,b=>match b with
  |[]=>false
  |c::q=>f a c&&JP f r q
noncomputable def PF(a b:Option Nat):Bool:=decide (a=b)
noncomputable def WI:lY→lY→Bool
 |.inst c a,o=>(match o with
  |.inst d b=>Nat.beq c d&&JP (λp q=>Nat.beq p.1 q.1&&nH p.2 q.2) a b
  |.list _ _=>false)
 |.list p l,o=>(match o with
  |.list q m=>PF p q&&nI l m
  |.inst _ _=>false)
noncomputable def Fv(a b:aS):Bool:=JP WI a b
noncomputable def HE:SL→SL→Bool
 |.u,b=>(match b with|.u=>true|_=>false)
 |.v m,b=>(match b with|.v n=>nH m n|_=>false)
 |.o i,b=>(match b with|.o j=>Nat.beq i j|_=>false)
noncomputable def PG:Fl→Fl→Bool
 |.next,b=>(match b with|.next=>true|_=>false)
 |.ret v,b=>(match b with|.ret w=>nH v w|_=>false)
mutual
noncomputable def lN:ai→ai→Bool
 |.bE a0,b=>if h:b.ctorIdx=0 then ai.bE.elim b h λb0=>nH a0 b0 else false
 |.aH a0,b=>if h:b.ctorIdx=1 then ai.aH.elim b h λb0=>Nat.beq a0 b0 else false
 |.av a0,b=>if h:b.ctorIdx=2 then ai.av.elim b h λb0=>nH a0 b0 else false
 |.aJ a0 a1,b=>if h:b.ctorIdx=3 then ai.aJ.elim b h λb0 b1=>lN a0 b0&&Nat.beq a1 b1 else false
 |.bin a0 a1 a2,b=>if h:b.ctorIdx=4 then ai.bin.elim b h λb0 b1 b2=>decide (a0=b0)&&lN a1 b1&&lN a2 b2 else false
 |.bS a0,b=>if h:b.ctorIdx=5 then ai.bS.elim b h λb0=>lZ a0 b0 else false
 |.fJ a0,b=>if h:b.ctorIdx=6 then ai.fJ.elim b h λb0=>lZ a0 b0 else false
 |.cg a0,b=>if h:b.ctorIdx=7 then ai.cg.elim b h λb0=>lN a0 b0 else false
 |.neg a0,b=>if h:b.ctorIdx=8 then ai.neg.elim b h λb0=>lN a0 b0 else false
 |.cmp a0 a1 a2,b=>if h:b.ctorIdx=9 then ai.cmp.elim b h λb0 b1 b2=>lN a0 b0&&decide (a1=b1)&&lZ a2 b2 else false
 |.aG a0 a1 a2,b=>if h:b.ctorIdx=10 then ai.aG.elim b h λb0 b1 b2=>lN a0 b0&&lN a1 b1&&lN a2 b2 else false
 |.sub a0 a1,b=>if h:b.ctorIdx=11 then ai.sub.elim b h λb0 b1=>lN a0 b0&&lN a1 b1 else false
 |.slice a0 a1 a2,b=>if h:b.ctorIdx=12 then ai.slice.elim b h λb0 b1 b2=>lN a0 b0&&HG a1 b1&&HG a2 b2 else false
 |.list a0 a1,b=>if h:b.ctorIdx=13 then ai.list.elim b h λb0 b1=>decide (a0=b0)&&lZ a1 b1 else false
 |.tuple a0,b=>if h:b.ctorIdx=14 then ai.tuple.elim b h λb0=>lZ a0 b0 else false
 |.dict a0 a1,b=>if h:b.ctorIdx=15 then ai.dict.elim b h λb0 b1=>nI a0 b0&&nI a1 b1 else false
 |.call a0 a1 a2 a3,b=>if h:b.ctorIdx=16 then ai.call.elim b h λb0 b1 b2 b3=>lN a0 b0&&lZ a1 b1&&nG a2 b2&&lZ a3 b3 else false
 |.ay a0 a1 a2 a3 a4,b=>if h:b.ctorIdx=17 then ai.ay.elim b h λb0 b1 b2 b3 b4=>lN a0 b0&&Nat.beq a1 b1&&lZ a2 b2&&nG a3 b3&&lZ a4 b4 else false
 |.comp a0 a1 a2 a3 a4 a5 a6,b=>if h:b.ctorIdx=18 then ai.comp.elim b h λb0 b1 b2 b3 b4 b5 b6=>decide (a0=b0)&&lN a1 b1&&Nat.beq a2 b2&&nG a3 b3&&decide (a4=b4)&&L5 a5 b5&&lZ a6 b6 else false
termination_by structural x=>x
noncomputable def lZ:List ai→List ai→Bool
 |[],b=>b.isEmpty
 |x::r,b=>(match b with
  |[]=>false
  |c::q=>lN x c&&lZ r q)
termination_by structural x=>x
noncomputable def HG:Option ai→Option ai→Bool
 |none,b=>b.isNone
 |some x,b=>(match b with
  |none=>false
  |some c=>lN x c)
termination_by structural x=>x
noncomputable def L5:dm→dm→Bool
 |.val a0,b=>if h:b.ctorIdx=0 then dm.val.elim b h λb0=>lN a0 b0 else false
 |.range a0,b=>if h:b.ctorIdx=1 then dm.range.elim b h λb0=>lZ a0 b0 else false
termination_by structural x=>x
end
noncomputable def eqT:dI→dI→Bool
 |.aH a0,b=>if h:b.ctorIdx=0 then dI.aH.elim b h λb0=>Nat.beq a0 b0 else false
 |.aJ a0 a1,b=>if h:b.ctorIdx=1 then dI.aJ.elim b h λb0 b1=>lN a0 b0&&Nat.beq a1 b1 else false
 |.sub a0 a1,b=>if h:b.ctorIdx=2 then dI.sub.elim b h λb0 b1=>lN a0 b0&&lN a1 b1 else false
mutual
noncomputable def Uu:aA→aA→Bool
 |.assign a0 a1,b=>if h:b.ctorIdx=0 then aA.assign.elim b h λb0 b1=>JP eqT a0 b0&&lN a1 b1 else false
 |.aug a0 a1 a2,b=>if h:b.ctorIdx=1 then aA.aug.elim b h λb0 b1 b2=>eqT a0 b0&&decide (a1=b1)&&lN a2 b2 else false
 |.aG a0 a1 a2,b=>if h:b.ctorIdx=2 then aA.aG.elim b h λb0 b1 b2=>lN a0 b0&&AQ a1 b1&&AQ a2 b2 else false
 |.cN a0 a1,b=>if h:b.ctorIdx=3 then aA.cN.elim b h λb0 b1=>lN a0 b0&&AQ a1 b1 else false
 |.dW a0 a1 a2,b=>if h:b.ctorIdx=4 then aA.dW.elim b h λb0 b1 b2=>eqT a0 b0&&L5 a1 b1&&AQ a2 b2 else false
 |.ret a0,b=>if h:b.ctorIdx=5 then aA.ret.elim b h λb0=>HG a0 b0 else false
 |.expr a0,b=>if h:b.ctorIdx=6 then aA.expr.elim b h λb0=>lN a0 b0 else false
 |.pass,b=>Nat.beq b.ctorIdx 7
 |.fail,b=>Nat.beq b.ctorIdx 8
termination_by structural x=>x
noncomputable def AQ:List aA→List aA→Bool
 |[],b=>b.isEmpty
 |x::r,b=>(match b with
  |[]=>false
  |c::q=>Uu x c&&AQ r q)
termination_by structural x=>x
end
structure gr where
 n:Nat
 f:Nat
 as:List MV
 h:aS
 r:MV
 h':aS
structure JQ where
 n:Nat
 s:aA
 l:aV
 h:aS
 l':aV
 h':aS
structure YK where
 n:Nat
 e:ai
 l:aV
 h:aS
 r:MV
structure Facts where
 o6:List (MV×Bool):=[]
 cmp:List (CmpOp×MV×MV×Bool):=[]
 bin:List (Operator×MV×MV×MV):=[]
 sub:List (MV×MV×MV):=[]
 wG:List (MV×Option MV×Option MV×MV):=[]
 bi:List (BI×MV×MV):=[]
 join:List (Option Nat×List MV×MV):=[]
 room:List Nat:=[]
 aug:List (Operator×MV×MV×MV):=[]
 starts:List (MV×MV×Bool):=[]
 call:List gr:=[]
 st:List JQ:=[]
 ev:List YK:=[]
noncomputable def gd{α:Type}(b:Bool)(x:Option α):Option α:=cond b x none
noncomputable def L6:Option MV→Option MV→Bool
 |none,b=>b.isNone
 |some a,b=>gP b λc=>nH a c
section
variable (F:Facts)
noncomputable def Uv(a:MV):Option Bool:=F.o6.findSome? λe=>gd (nH e.1 a) (some e.2)
noncomputable def Uw(op:CmpOp)(a b:MV):Option Bool:=F.cmp.findSome? λe=>gd (decide (e.1=op)&&nH e.2.1 a&&nH e.2.2.1 b) (some e.2.2.2)
noncomputable def Ux(op:Operator)(a b:MV):Option MV:=F.bin.findSome? λe=>gd (decide (e.1=op)&&nH e.2.1 a&&nH e.2.2.1 b) (some e.2.2.2)
noncomputable def Uy(op:Operator)(a b:MV):Option MV:=F.aug.findSome? λe=>gd (decide (e.1=op)&&nH e.2.1 a&&nH e.2.2.1 b) (some e.2.2.2)
noncomputable def Uz(a b:MV):Option MV:=F.sub.findSome? λe=>gd (nH e.1 a&&nH e.2.1 b) (some e.2.2)
noncomputable def UA(a:MV)(lo hi:Option MV):Option MV:=F.wG.findSome? λe=>gd (nH e.1 a&&L6 e.2.1 lo&&L6 e.2.2.1 hi) (some e.2.2.2)
noncomputable def YL(b:BI)(a:MV):Option MV:=F.bi.findSome? λe=>gd (decide (e.1=b)&&nH e.2.1 a) (some e.2.2)
noncomputable def Dg(p:Option Nat)(l:List MV):Option MV:=F.join.findSome? λe=>gd (PF e.1 p&&nI e.2.1 l) (some e.2.2)
noncomputable def HH(a b:MV):Option Bool:=F.starts.findSome? λe=>gd (nH e.1 a&&nH e.2.1 b) (some e.2.2)
noncomputable def PI(n f:Nat)(as:List MV)(h:aS):Option (MV×aS):=F.call.findSome? λe=>gd (Nat.ble e.n n&&Nat.beq e.f f&&nI e.as as&&Fv e.h h) (some (e.r,e.h'))
end
noncomputable def UB(F:Facts)(n:Nat)(s:aA)(l:aV)(h:aS):Option (aV×aS):=F.st.findSome? λe=>gd (Nat.ble e.n n&&JP HE e.l l&&Fv e.h h&&Uu e.s s) (some (e.l',e.h'))
noncomputable def Su(F:Facts)(n:Nat)(x:ai)(l:aV)(h:aS):Option MV:=F.ev.findSome? λe=>gd (Nat.ble e.n n&&JP HE e.l l&&Fv e.h h&&lN e.e x) (some e.r)
noncomputable def rW:lY→Option (List MV)
 |.list p l=>(match p with
  |none=>some l
  |some _=>none)
 |.inst _ _=>none
noncomputable def Dh(v:MV)(h:aS):Option (List MV):=(objOf v).bind λo=>(h[o]?).bind rW
noncomputable def lB(v:MV)(h:aS):Option (List MV):=(iA v).or (Dh v h)
noncomputable def lC(F:Facts)(v:MV)(h:aS):Option Bool:=(truthy v []).or (((Dh v h).map λl=> !l.isEmpty).or (Uv F v))
noncomputable def L7:CmpOp→Bool
 |.Is=>true
 |.IsNot=>true
 |_=>false
noncomputable def PJ(F:Facts)(op:CmpOp)(a b:MV):Option Bool:=(gd (!(L7 op&&PD a)) (cV op a b)).or (Uw F op a b)
noncomputable def PK(F:Facts)(op:Operator)(a b:MV)(_:aS):Option MV:=(binOp op a b []).or (Ux F op a b)
noncomputable def HJ(F:Facts)(op:Operator)(a b:MV):Option MV:=(eF op a b []).or (Uy F op a b)
noncomputable def AR(v:MV):Option MV:=gd (Ut v) (some v)
noncomputable def yp(h:aS)(o:Nat):Option (Nat×List (Nat×MV)):=(h[o]?).bind λx=>match x with
 |.inst c a=>some (c,a)
 |.list _ _=>none
noncomputable def m6(h:aS)(o:Nat):Option (Option Nat×List MV):=(h[o]?).bind λx=>match x with
 |.inst _ _=>none
 |.list p l=>some (p,l)
noncomputable def PL(v:MV):Bool:=match intOf v with
 |some i=>decide (i= -1)
 |none=>false
noncomputable def lastOf(a i:MV)(h:aS):Option MV:=(objOf a).bind λo=>(m6 h o).bind λq=>gd (PL i) q.2.getLast?
noncomputable def JR(a i:MV)(h:aS):Option MV:=(lB a h).bind λl=>(tE i l.length).bind λj=>l[j]?
noncomputable def HL(F:Facts)(a i:MV)(h:aS):Option MV:=(K8 a i).or (((K9 a i).bind AR).or ((La a i).or ((JR a i h).or ((lastOf a i h).or (Uz F a i)))))
noncomputable def PM(a:MV)(lo hi:Option Int)(h:aS):Option MV:=((strOf a).map λs=>MV.str (eX s lo hi)).or ((lB a h).map λl=>.lst (eX l lo hi))
noncomputable def Di(F:Facts)(a:MV)(lo hi:Option MV)(h:aS):Option MV:=((jB lo).bind λx=>(jB hi).bind λy=>PM a x y h).or (UA F a lo hi)
noncomputable def JS:BI→Bool
 |.len=>true
 |_=>false
noncomputable def PN(a:MV)(h:aS):Option Nat:=((strOf a).map List.length).or ((lB a h).map List.length)
noncomputable def WJ(P:Prog)(F:Facts)(b:BI)(args:List MV)(h:aS):Option MV:=(cond (JS b) ((jA args).bind λa=>(PN a h).map λ(n:Nat)=>MV.int (n:Int)) (iB P b args [])).or ((jA args).bind λa=>YL F b a)
noncomputable def lD(f:cC)(pos:List MV)(kn:List Nat)(kv:List MV):Option (List MV):=gd (wD f.defs) (dz f pos kn kv)
structure PO where
 ev:ai→aV→aS→Option (MV×aS)
 ex:List aA→aV→aS→Option (Fl×aV×aS)
 ca:Nat→List MV→aS→Option (MV×aS)
section
variable (P:Prog)(F:Facts)(S:PO)
noncomputable def o7:List ai→aV→aS→Option (List MV×aS)
 |[],_,h=>some ([],h)
 |e::r,l,h=>(S.ev e l h).bind λa=>(o7 r l a.2).bind λb=>some (a.1::b.1,b.2)
noncomputable def wH:Option ai→aV→aS→Option (Option MV×aS)
 |none,_,h=>some (none,h)
 |some e,l,h=>(S.ev e l h).bind λa=>some (some a.1,a.2)
noncomputable def wI:List ai→aV→aS→Option (MV×aS)
 |[],_,_=>none
 |e::r,l,h=>match r with
  |[]=>S.ev e l h
  |_::_=>(S.ev e l h).bind λa=>(lC F a.1 a.2).bind λb=>cond b (wI r l a.2) (some (a.1,a.2))
noncomputable def Dj:List ai→aV→aS→Option (MV×aS)
 |[],_,_=>none
 |e::r,l,h=>match r with
  |[]=>S.ev e l h
  |_::_=>(S.ev e l h).bind λa=>(lC F a.1 a.2).bind λb=>cond b (some (a.1,a.2)) (Dj r l a.2)
noncomputable def wJ:MV→List CmpOp→List ai→aV→aS→Option (Bool×aS)
 |a,op::ops,es,l,h=>(match es with
  |[]=>none
  |e::es=>(S.ev e l h).bind λv=>(PJ F op a v.1).bind λb=>match ops with
   |[]=>(match es with
    |[]=>some (b,v.2)
    |_::_=>none)
   |_::_=>(match es with
    |[]=>none
    |_::_=>cond b (wJ v.1 ops es l v.2) (some (false,v.2))))
 |_,[],_,_,_=>none
noncomputable def m7(e:ai)(l:aV)(h:aS):Option (Bool×aS):=(S.ev e l h).bind λa=>(lC F a.1 a.2).bind λb=>some (b,a.2)
noncomputable def wK:List ai→aV→aS→Option (Bool×aS)
 |[],_,h=>some (true,h)
 |e::r,l,h=>(m7 F S e l h).bind λa=>cond a.1 (wK r l a.2) (some (false,a.2))
noncomputable def m8(l:aV)(i:Nat)(v:MV):aV:=l.set i (.v v)
noncomputable def uB(l:aV)(tgt:List Nat)(tup:Bool)(v:MV):Option aV:=match tup with
 |false=>(match tgt with
  |[]=>none
  |i::r=>gd r.isEmpty (some (m8 l i v)))
 |true=>none
noncomputable def yq(m:Bool)(vs:List MV)(h:aS):MV×aS:=match m with
 |false=>(.lst vs,h)
 |true=>(.obj h.length,h++[.list none vs])
noncomputable def itemsOf(v:MV):Option (List MV):=((strOf v).map λs=>s.map λc=>MV.str [c]).or (iA v)
noncomputable def L8(vs:List MV):Option (List MV):=(vF vs).bind λv=>(intOf v.1).bind λa=>(intOf v.2).bind λb=>gd (aK a&&aK b) (some (cY a b))
noncomputable def yr(vs:List MV):Option (List MV):=Option.or (L8 vs)<|(jA vs).bind λv=>(intOf v).bind λn=>gd (aK n) (some (cY 0 n))
noncomputable def yt(it:dm)(l:aV)(h:aS):Option (List MV×aS):=match it with
 |.val e=>(S.ev e l h).bind λa=>(itemsOf a.1).bind λxs=>some (xs,a.2)
 |.range args=>(o7 S args l h).bind λa=>(yr a.1).bind λxs=>some (xs,a.2)
noncomputable def gQ(elt:ai)(tgt:List Nat)(tup:Bool)(ifs:List ai):List MV→aV→aS→Option (List MV×aS)
 |[],_,h=>some ([],h)
 |x::r,l,h=>(uB l tgt tup x).bind λl=>(wK F S ifs l h).bind λb=>cond b.1
   ((S.ev elt l b.2).bind λv=>(gQ elt tgt tup ifs r l v.2).bind λvs=>some (v.1::vs.1,vs.2))
   (gQ elt tgt tup ifs r l b.2)
noncomputable def yu(i:Nat)(h:aS):aS:=h++[.inst i []]
noncomputable def yv(f:MV)(pos:List MV)(kn:List Nat)(kv:List MV)(h:aS):Option (MV×aS):=match f with
 |.fn i=>gd (!Nat.ble 1000 i) ((P.fns[i]?).bind λfe=>(lD fe pos kn kv).bind λbs=>S.ca i bs h)
 |.cls i=>(P.dM[i]?).bind λce=>(P.fns[ce.init]?).bind λfe=>cond ce.isRec
   ((lD fe (.none::pos) kn kv).bind λbs=>(ce.fields.mapM λp=>bs[p.2]?).bind λvs=>some (.d8 i vs,h))
   ((lD fe (.obj h.length::pos) kn kv).bind λbs=>(S.ca ce.init bs (yu i h)).bind λa=>gd (isNone a.1) (some (.obj h.length,a.2)))
 |.bi b=>gd kn.isEmpty ((WJ P F b pos h).bind λv=>some (v,h))
 |_=>none
noncomputable def o8(o a:Nat)(h:aS):Option (Nat×MV):=(yp h o).bind λx=>match aR x.2 a with
 |some m=>(vC m).bind λb=>some (b.2,.obj b.1)
 |none=>(P.dM[x.1]?).bind λce=>(fU ce.meths a).bind λf=>some (f,.obj o)
noncomputable def Dk(p:Option Nat)(l:List MV):Bool:=Nat.ble l.length 1000&&(match p with
 |none=>true
 |some i=>F.room.contains i)
noncomputable def yw(o:Nat)(x:MV)(h:aS):Option aS:=(m6 h o).bind λq=>gd (Dk F q.1 q.2) (some (h.set o (.list q.1 (q.2++[x]))))
noncomputable def uC(o:Nat)(h:aS):Option (MV×aS):=(m6 h o).bind λq=>(q.2.getLast?).bind λv=>some (v,h.set o (.list q.1 q.2.dropLast))
noncomputable def JT(o:Nat)(h:aS):Option (MV×aS):=(m6 h o).bind λq=>match q.1 with
 |none=>(match q.2 with
  |[]=>none
  |v::r=>some (v,h.set o (.list none r)))
 |some _=>none
noncomputable def Dl(ov:MV)(a:Nat)(h0:aS):Option kY:=match objOf ov with
 |some o=>(m6 h0 o).bind λ_=>if (a==P.iX)=true then some (.append o) else if (a==P.BH)=true then some (.pop o) else none
 |none=>bK P ov a []
noncomputable def Dm(x:MV)(h:aS):Option MV:=match objOf x with
 |some o=>(m6 h o).bind λq=>Dg F q.1 q.2
 |none=>(iA x).bind λl=>((aT l).bind qg).or (Dg F none l)
noncomputable def JU(o:Option MV)(d:MV):Option MV:=match o with
 |some v=>AR v
 |none=>some d
noncomputable def JV(c:kY)(pos:List MV)(h:aS):Option (MV×aS):=match c with
 |.fn _ _=>none
 |.join s=>gd s.isEmpty ((jA pos).bind λx=>(Dm F x h).bind λr=>some (r,h))
 |.starts s=>(jA pos).bind λt=>(strOf t).bind λt=>some (.bool (t.isPrefixOf s),h)
 |.append o=>(jA pos).bind λx=>(yw F o x h).bind λh=>some (.none,h)
 |.pop o=>(match pos with
  |[]=>uC o h
  |z::r=>gd (Tj z&&r.isEmpty) (JT o h))
 |.copy ks vs=>gd (pos.isEmpty&&(strKeys ks&&keysOk ks&&decide (ks.length≤100))) (some (.jk ks vs,h))
 |.get ks vs=>(vF pos).bind λkd=>(gc kd.1 ks vs).bind λo=>(JU o kd.2).bind λr=>some (r,h)
noncomputable def JW(ov:MV)(a:Nat)(pos:List MV)(h0 h:aS):Option (MV×aS):=((Dl P ov a h0).bind λc=>JV F c pos h).or
 (gd (a==P.g7&& !(a==P.j9)) ((jA pos).bind λt=>(HH F ov t).bind λb=>some (.bool b,h)))
noncomputable def rX(ov:MV)(a:Nat)(pos:List MV)(kn:List Nat)(kv:List MV)(h0 h:aS):Option (MV×aS):=
 match (objOf ov).bind λo=>o8 P o a h0 with
 |some c=>(P.fns[c.1]?).bind λfe=>(lD fe (c.2::pos) kn kv).bind λbs=>S.ca c.1 bs h
 |none=>gd kn.isEmpty (JW P F ov a pos h0 h)
noncomputable def o9(v:MV)(a:Nat)(h:aS):Option MV:=match v with
 |.obj o=>(yp h o).bind λx=>(aR x.2 a).or ((P.dM[x.1]?).bind λce=>((fU ce.meths a).map λf=>MV.bm o f).or ((aR ce.gI a).bind AR))
 |.d8 c vs=>(P.dM[c]?).bind λce=>iJ ce.fields vs a
 |_=>none
noncomputable def Ma(l:aV)(i:Nat):Option MV:=(l[i]?).bind λx=>match x with
 |.v m=>some m
 |.u=>none
 |.o _=>none
noncomputable def yx(n:Nat):ai→aV→aS→Option (MV×aS)
 |.bE v,_,h=>(AR v).bind λv=>some (v,h)
 |.av v,_,h=>(AR v).bind λv=>some (v,h)
 |.aH i,l,h=>(Ma l i).bind λv=>some (v,h)
 |.aJ e a,l,h=>(S.ev e l h).bind λv=>(o9 P v.1 a v.2).bind λr=>some (r,v.2)
 |.bin op a b,l,h=>(S.ev a l h).bind λx=>(S.ev b l x.2).bind λy=>(PK F op x.1 y.1 y.2).bind λr=>some (r,y.2)
 |.bS es,l,h=>wI F S es l h
 |.fJ es,l,h=>Dj F S es l h
 |.cg e,l,h=>(m7 F S e l h).bind λb=>some (.bool (!b.1),b.2)
 |.neg e,l,h=>(S.ev e l h).bind λv=>(intOf v.1).bind λi=>gd (aK i) (some (.int (-i),v.2))
 |.cmp a ops es,l,h=>(S.ev a l h).bind λv=>(wJ F S v.1 ops es l v.2).bind λb=>some (.bool b.1,b.2)
 |.aG c a b,l,h=>(m7 F S c l h).bind λt=>cond t.1 (S.ev a l t.2) (S.ev b l t.2)
 |.sub a i,l,h=>((Su F n (.sub a i) l h).bind λr=>some (r,h)).or ((S.ev a l h).bind λx=>(S.ev i l x.2).bind λy=>(HL F x.1 y.1 y.2).bind λr=>some (r,y.2))
 |.slice a lo hi,l,h=>(S.ev a l h).bind λx=>(wH S lo l x.2).bind λy=>(wH S hi l y.2).bind λz=>(Di F x.1 y.1 z.1 z.2).bind λr=>some (r,z.2)
 |.list m es,l,h=>(o7 S es l h).bind λvs=>gd (decide (vs.1.length≤az)) (some (yq m vs.1 vs.2))
 |.tuple es,l,h=>(o7 S es l h).bind λvs=>gd (decide (vs.1.length≤az)) (some (.tup vs.1,vs.2))
 |.dict ks vs,_,h=>gd ((strKeys ks||intKeys ks)&&keysOk ks&&ks.length==vs.length&&decide (ks.length≤15)&& !ks.isEmpty) (some (.jk ks vs,h))
 |.call f args kn kv,l,h=>(S.ev f l h).bind λfv=>(o7 S args l fv.2).bind λas=>(o7 S kv l as.2).bind λks=>yv P F S fv.1 as.1 kn ks.1 ks.2
 |.ay o a args kn kv,l,h=>((Su F n (.ay o a args kn kv) l h).bind λr=>some (r,h)).or ((S.ev o l h).bind λov=>(o7 S args l ov.2).bind λas=>(o7 S kv l as.2).bind λks=>rX P F S ov.1 a as.1 kn ks.1 ov.2 ks.2)
 |.comp m elt nv tgt tup it ifs,l,h=>((Su F n (.comp m elt nv tgt tup it ifs) l h).bind λr=>some (r,h)).or
  ((yt S it l h).bind λi=>(gQ F S elt tgt tup ifs i.1 (List.replicate nv .u++l) i.2).bind λvs=>gd (!m&&decide (vs.1.length≤az)) (some (.lst vs.1,vs.2)))
noncomputable def pe(ov:MV)(a:Nat)(v:MV)(h:aS):Option aS:=(objOf ov).bind λk=>(yp h k).bind λx=>gd (tL P x.1 a&&decide (x.2.length< 300)) (some (h.set k (.inst x.1 (gJ x.2 a v))))
noncomputable def pq(ov iv v:MV)(h:aS):Option aS:=(objOf ov).bind λk=>(intOf iv).bind λj=>gd (aK j) ((m6 h k).bind λq=>match q.1 with
 |none=>(idx q.2.length j).bind λj=>some (h.set k (.list none (q.2.set j v)))
 |some p=>gd (decide (j= -1)&& !q.2.isEmpty) (some (h.set k (.list (some p) (q.2.dropLast++[v])))))
noncomputable def Dn:dI→MV→aV→aS→Option (aV×aS)
 |.aH i,v,l,h=>some (m8 l i v,h)
 |.aJ o a,v,l,h=>(S.ev o l h).bind λov=>(pe P ov.1 a v ov.2).bind λh=>some (l,h)
 |.sub o i,v,l,h=>(S.ev o l h).bind λov=>(S.ev i l ov.2).bind λiv=>(pq ov.1 iv.1 v iv.2).bind λh=>some (l,h)
noncomputable def l5:List dI→MV→aV→aS→Option (aV×aS)
 |[],_,l,h=>some (l,h)
 |t::r,v,l,h=>(Dn P S t v l h).bind λa=>l5 r v a.1 a.2
noncomputable def rY(c:ai)(b:List aA):Nat→aV→aS→Option (Fl×aV×aS)
 |0,_,_=>none
 |k+1,l,h=>(m7 F S c l h).bind λt=>cond t.1
   ((S.ex b l t.2).bind λa=>match a.1 with
    |.next=>rY c b k a.2.1 a.2.2
    |.ret v=>some (.ret v,a.2.1,a.2.2))
   (some (.next,l,t.2))
noncomputable def yy(t:dI)(l:aV)(x:MV):Option aV:=match t with
 |.aH i=>some (m8 l i x)
 |_=>none
noncomputable def l6(t:dI)(b:List aA):List MV→aV→aS→Option (Fl×aV×aS)
 |[],l,h=>some (.next,l,h)
 |x::r,l,h=>(yy t l x).bind λl=>(S.ex b l h).bind λa=>match a.1 with
   |.next=>l6 t b r a.2.1 a.2.2
   |.ret v=>some (.ret v,a.2.1,a.2.2)
noncomputable def Dp(n:Nat):aA→aV→aS→Option (Fl×aV×aS)
 |.pass,l,h=>some (.next,l,h)
 |.fail,_,_=>none
 |.expr e,l,h=>(S.ev e l h).bind λv=>some (.next,l,v.2)
 |.ret none,l,h=>some (.ret .none,l,h)
 |.ret (some e),l,h=>(S.ev e l h).bind λv=>some (.ret v.1,l,v.2)
 |.assign ts e,l,h=>(S.ev e l h).bind λv=>(l5 P S ts v.1 l v.2).bind λa=>some (.next,a.1,a.2)
 |.aug t op e,l,h=>(match t with
  |.aH i=>(Ma l i).bind λold=>(S.ev e l h).bind λv=>(HJ F op old v.1).bind λr=>some (.next,m8 l i r,v.2)
  |.aJ o a=>(S.ev o l h).bind λov=>(o9 P ov.1 a ov.2).bind λold=>(S.ev e l ov.2).bind λv=>(HJ F op old v.1).bind λr=>(pe P ov.1 a r v.2).bind λh=>some (.next,l,h)
  |.sub o i=>(S.ev o l h).bind λov=>(S.ev i l ov.2).bind λiv=>(HL F ov.1 iv.1 iv.2).bind λold=>(S.ev e l iv.2).bind λv=>(HJ F op old v.1).bind λr=>(pq ov.1 iv.1 r v.2).bind λh=>some (.next,l,h))
 |.aG c a b,l,h=>(m7 F S c l h).bind λt=>cond t.1 (S.ex a l t.2) (S.ex b l t.2)
 |.cN c b,l,h=>((UB F n (.cN c b) l h).bind λr=>some (.next,r)).or (rY F S c b fc l h)
 |.dW t it b,l,h=>((UB F n (.dW t it b) l h).bind λr=>some (.next,r)).or ((yt S it l h).bind λi=>l6 S t b i.1 l i.2)
noncomputable def yz(n:Nat):List aA→aV→aS→Option (Fl×aV×aS)
 |[],l,h=>some (.next,l,h)
 |s::r,l,h=>(Dp P F S n s l h).bind λa=>match a.1 with
  |.next=>S.ex r a.2.1 a.2.2
  |.ret v=>some (.ret v,a.2.1,a.2.2)
noncomputable def JX:Fl→MV
 |.next=>.none
 |.ret v=>v
noncomputable def yC(n:Nat)(i:Nat)(bs:List MV)(h:aS):Option (MV×aS):=(PI F n i bs h).or
 ((P.fns[i]?).bind λfe=>(S.ex fe.body (bs.map .v++List.replicate (fe.nE - bs.length) .u) h).bind λa=>some (JX a.1,a.2.2))
end
noncomputable def SE(P:Prog)(F:Facts):Nat→PO
 |0=>⟨λ_ _ _=>none,λ_ _ _=>none,λ_ _ _=>none⟩
 |n+1=>⟨yx P F (SE P F n) (n+1),yz P F (SE P F n) n,yC P F (SE P F n) (n+1)⟩
def Le{α β:Type}(x:Option α)(f:α→β)(y:Option β):Prop:=∀a,x=some a→y=some (f a)
theorem bF{α:Type}{o:Option α}{f:α→Bool}(e:gP o f=true){C:Prop}(k:∀a,o=some a→f a=true→C):C:=match o,e,k with
 |none,e,_=>(bR e).elim
 |some a,e,k=>k a rfl e
theorem ao{a b:Bool}(e:(a&&b)=true){C:Prop}(k:a=true→b=true→C):C:=match a,e with
 |true,e=>k rfl e
 |false,e=>(bR e).elim
theorem fQ{α:Type}{b:Bool}{x:Option α}{r:α}(e:gd b x=some r){C:Prop}(k:b=true→x=some r→C):C:=match b,e,k with
 |true,e,k=>k rfl e
 |false,e,_=>(aY _ e.symm).elim
theorem aq{α β:Type}{x:Option α}{f:α→Option β}{r:β}(e:x.bind f=some r){C:Prop}(k:∀a,x=some a→f a=some r→C):C:=match x,e,k with
 |none,e,_=>(aY _ e.symm).elim
 |some a,e,k=>k a rfl e
theorem cj{α β:Type}{x:Option α}{f:α→β}{r:β}(e:x.map f=some r){C:Prop}(k:∀a,x=some a→f a=r→C):C:=match x,e,k with
 |none,e,_=>(aY _ e.symm).elim
 |some a,e,k=>k a rfl (bJ e)
theorem bB{α:Type}{x y:Option α}{r:α}(e:x.or y=some r){C:Prop}(k:x=some r→C)(q:y=some r→C):C:=match x,e,k with
 |none,e,_=>q e
 |some _,e,k=>k e
section
variable {α β UC gW:Type}
theorem Le.bind{x:Option α}{y:Option UC}{i:α→UC}(h:Le x i y){f:α→Option β}{g:UC→Option gW}{j:β→gW}(k:∀a,Le (f a) j (g (i a))):Le (x.bind f) j (y.bind g):=λr e=>aq e λa e1 e2=>(congrArg (λz=>z.bind g) (h a e1)).trans (k a r e2)
theorem Le.bindL{x:Option α}{f:α→Option β}{y:Option gW}{j:β→gW}(k:∀a,x=some a→Le (f a) j y):Le (x.bind f) j y:=λr e=>aq e λa e1 e2=>k a e1 r e2
theorem Le.one{a:α}{f:α→β}:Le (some a) f (some (f a)):=λ_ e=>congrArg (λz=>some (f z)) (aC e)
theorem Le.of{a:α}{f:α→β}{y:Option β}(h:y=some (f a)):Le (some a) f y:=λ_ e=>h.trans (congrArg (λz=>some (f z)) (aC e))
theorem Le.no{f:α→β}{y:Option β}:Le none f y:=λ_ e=>Mine.no e
theorem Le.gd{b:Bool}{x:Option α}{f:α→β}{y:Option β}(h:b=true→Le x f y):Le (gd b x) f y:=λr e=>fQ e λq e=>h q r e
end
theorem Dq{v:MV}{x:Nat}(e:fnOf v=some x):v=.fn x:=by cases v<;>first|exact no e|exact congrArg _ (aC e)
theorem Dr{v:MV}{x:BI}(e:PE v=some x):v=.bi x:=by cases v<;>first|exact no e|exact congrArg _ (aC e)
theorem pG{v:MV}(e:isNone v=true):v=.none:=by cases v<;>first|rfl|exact (bR e).elim
theorem lE:∀{a b:List Nat},nG a b=true→a=b
 |[],b,e=>(List.isEmpty_iff.mp e).symm
 |a::r,[],e=>(bR e).elim
 |a::r,c::q,e=>ao e λe1 e2=>by rw [bQ e1,lE e2]
mutual
theorem cE:∀{a b:MV},nH a b=true→a=b
 |.none,_,e=>(pG e).symm
 |.bool _,_,e=>bF e λ_ e1 e2=>(congrArg _ (bz e2)).trans (vD e1).symm
 |.int _,_,e=>bF e λ_ e1 e2=>(congrArg _ (bz e2)).trans (bD e1).symm
 |.str _,_,e=>bF e λ_ e1 e2=>(congrArg _ (lE e2)).trans (bG e1).symm
 |.tup _,_,e=>bF e λ_ e1 e2=>(congrArg _ (fj e2)).trans (eL e1).symm
 |.lst _,_,e=>bF e λ_ e1 e2=>(congrArg _ (fj e2)).trans (cH e1).symm
 |.jk _ _,_,e=>bF e λ_ e1 e2=>ao e2 λe2 e3=>(congr (congrArg _ (fj e2)) (fj e3)).trans (iH e1).symm
 |.d8 _ _,_,e=>bF e λ_ e1 e2=>ao e2 λe2 e3=>(congr (congrArg _ (bQ e2)) (fj e3)).trans (jU e1).symm
 |.obj _,_,e=>bF e λ_ e1 e2=>(congrArg _ (bQ e2)).trans (cJ e1).symm
 |.fn _,_,e=>bF e λ_ e1 e2=>(congrArg _ (bQ e2)).trans (Dq e1).symm
 |.cls _,_,e=>bF e λ_ e1 e2=>(congrArg _ (bQ e2)).trans (lP e1).symm
 |.bm _ _,_,e=>bF e λ_ e1 e2=>ao e2 λe2 e3=>(congr (congrArg _ (bQ e2)) (bQ e3)).trans (n9 e1).symm
 |.bi _,_,e=>bF e λ_ e1 e2=>(congrArg _ (bz e2)).trans (Dr e1).symm
theorem fj:∀{a b:List MV},nI a b=true→a=b
 |[],_,e=>(List.isEmpty_iff.mp e).symm
 |_::_,[],e=>(bR e).elim
 |_::_,_::_,e=>ao e λe1 e2=>congr (congrArg _ (cE e1)) (fj e2)
end
theorem kM{α:Type}{f:α→α→Bool}(hf:∀{a b},f a b=true→a=b):∀{a b:List α},JP f a b=true→a=b
 |[],_,e=>(List.isEmpty_iff.mp e).symm
 |_::_,[],e=>(bR e).elim
 |_::_,_::_,e=>ao e λe1 e2=>congr (congrArg _ (hf e1)) (kM hf e2)
theorem bu{c:Prop}[Decidable c]{x:c→Bool}(e:(if h:c then x h else false)=true){C:Prop}(k:∀h,x h=true→C):C:=by
 by_cases h:c
 ·rw [dif_pos h] at e;exact k h e
 ·rw [dif_neg h] at e;exact (bR e).elim
mutual
theorem bX:∀{a b:ai},lN a b=true→a=b
 |.bE _,b,e=>bu e λh e=>ai.bE.elim (motive_1:=λb=>∀h,ai.bE.elim b h _=true→_=b) b h (λb0 _ e=>(congrArg _ (cE e))) h e
 |.aH _,b,e=>bu e λh e=>ai.aH.elim (motive_1:=λb=>∀h,ai.aH.elim b h _=true→_=b) b h (λb0 _ e=>(congrArg _ (bQ e))) h e
 |.av _,b,e=>bu e λh e=>ai.av.elim (motive_1:=λb=>∀h,ai.av.elim b h _=true→_=b) b h (λb0 _ e=>(congrArg _ (cE e))) h e
 |.aJ _ _,b,e=>bu e λh e=>ai.aJ.elim (motive_1:=λb=>∀h,ai.aJ.elim b h _=true→_=b) b h (λb0 b1 _ e=>ao e λp1 q1=>(congr (congrArg ai.aJ (bX p1)) (bQ q1))) h e
 |.bin _ _ _,b,e=>bu e λh e=>ai.bin.elim (motive_1:=λb=>∀h,ai.bin.elim b h _=true→_=b) b h (λb0 b1 b2 _ e=>ao e λp2 q2=>ao p2 λp1 q1=>(congr (congr (congrArg ai.bin (bz p1)) (bX q1)) (bX q2))) h e
 |.bS _,b,e=>bu e λh e=>ai.bS.elim (motive_1:=λb=>∀h,ai.bS.elim b h _=true→_=b) b h (λb0 _ e=>(congrArg _ (eK e))) h e
 |.fJ _,b,e=>bu e λh e=>ai.fJ.elim (motive_1:=λb=>∀h,ai.fJ.elim b h _=true→_=b) b h (λb0 _ e=>(congrArg _ (eK e))) h e
 |.cg _,b,e=>bu e λh e=>ai.cg.elim (motive_1:=λb=>∀h,ai.cg.elim b h _=true→_=b) b h (λb0 _ e=>(congrArg _ (bX e))) h e
 |.neg _,b,e=>bu e λh e=>ai.neg.elim (motive_1:=λb=>∀h,ai.neg.elim b h _=true→_=b) b h (λb0 _ e=>(congrArg _ (bX e))) h e
 |.cmp _ _ _,b,e=>bu e λh e=>ai.cmp.elim (motive_1:=λb=>∀h,ai.cmp.elim b h _=true→_=b) b h (λb0 b1 b2 _ e=>ao e λp2 q2=>ao p2 λp1 q1=>(congr (congr (congrArg ai.cmp (bX p1)) (bz q1)) (eK q2))) h e
 |.aG _ _ _,b,e=>bu e λh e=>ai.aG.elim (motive_1:=λb=>∀h,ai.aG.elim b h _=true→_=b) b h (λb0 b1 b2 _ e=>ao e λp2 q2=>ao p2 λp1 q1=>(congr (congr (congrArg ai.aG (bX p1)) (bX q1)) (bX q2))) h e
 |.sub _ _,b,e=>bu e λh e=>ai.sub.elim (motive_1:=λb=>∀h,ai.sub.elim b h _=true→_=b) b h (λb0 b1 _ e=>ao e λp1 q1=>(congr (congrArg ai.sub (bX p1)) (bX q1))) h e
 |.slice _ _ _,b,e=>bu e λh e=>ai.slice.elim (motive_1:=λb=>∀h,ai.slice.elim b h _=true→_=b) b h (λb0 b1 b2 _ e=>ao e λp2 q2=>ao p2 λp1 q1=>(congr (congr (congrArg ai.slice (bX p1)) (rZ q1)) (rZ q2))) h e
 |.list _ _,b,e=>bu e λh e=>ai.list.elim (motive_1:=λb=>∀h,ai.list.elim b h _=true→_=b) b h (λb0 b1 _ e=>ao e λp1 q1=>(congr (congrArg ai.list (bz p1)) (eK q1))) h e
 |.tuple _,b,e=>bu e λh e=>ai.tuple.elim (motive_1:=λb=>∀h,ai.tuple.elim b h _=true→_=b) b h (λb0 _ e=>(congrArg _ (eK e))) h e
 |.dict _ _,b,e=>bu e λh e=>ai.dict.elim (motive_1:=λb=>∀h,ai.dict.elim b h _=true→_=b) b h (λb0 b1 _ e=>ao e λp1 q1=>(congr (congrArg ai.dict (fj p1)) (fj q1))) h e
 |.call _ _ _ _,b,e=>bu e λh e=>ai.call.elim (motive_1:=λb=>∀h,ai.call.elim b h _=true→_=b) b h (λb0 b1 b2 b3 _ e=>ao e λp3 q3=>ao p3 λp2 q2=>ao p2 λp1 q1=>(congr (congr (congr (congrArg ai.call (bX p1)) (eK q1)) (lE q2)) (eK q3))) h e
 |.ay _ _ _ _ _,b,e=>bu e λh e=>ai.ay.elim (motive_1:=λb=>∀h,ai.ay.elim b h _=true→_=b) b h (λb0 b1 b2 b3 b4 _ e=>ao e λp4 q4=>ao p4 λp3 q3=>ao p3 λp2 q2=>ao p2 λp1 q1=>(congr (congr (congr (congr (congrArg ai.ay (bX p1)) (bQ q1)) (eK q2)) (lE q3)) (eK q4))) h e
 |.comp _ _ _ _ _ _ _,b,e=>bu e λh e=>ai.comp.elim (motive_1:=λb=>∀h,ai.comp.elim b h _=true→_=b) b h (λb0 b1 b2 b3 b4 b5 b6 _ e=>ao e λp6 q6=>ao p6 λp5 q5=>ao p5 λp4 q4=>ao p4 λp3 q3=>ao p3 λp2 q2=>ao p2 λp1 q1=>(congr (congr (congr (congr (congr (congr (congrArg ai.comp (bz p1)) (bX q1)) (bQ q2)) (lE q3)) (bz q4)) (yD q5)) (eK q6))) h e
termination_by structural a=>a
theorem eK:∀{a b:List ai},lZ a b=true→a=b
 |[],_,e=>(List.isEmpty_iff.mp e).symm
 |_::_,[],e=>(bR e).elim
 |_::_,_::_,e=>ao e λe1 e2=>congr (congrArg _ (bX e1)) (eK e2)
termination_by structural a=>a
theorem rZ:∀{a b:Option ai},HG a b=true→a=b
 |none,none,_=>rfl
 |none,some _,e=>(bR e).elim
 |some _,none,e=>(bR e).elim
 |some _,some _,e=>congrArg _ (bX e)
termination_by structural a=>a
theorem yD:∀{a b:dm},L5 a b=true→a=b
 |.val _,b,e=>bu e λh e=>dm.val.elim (motive_2:=λb=>∀h,dm.val.elim b h _=true→_=b) b h (λb0 _ e=>(congrArg _ (bX e))) h e
 |.range _,b,e=>bu e λh e=>dm.range.elim (motive_2:=λb=>∀h,dm.range.elim b h _=true→_=b) b h (λb0 _ e=>(congrArg _ (eK e))) h e
termination_by structural a=>a
end
theorem wL:∀{a b:dI},eqT a b=true→a=b
 |.aH _,b,e=>bu e λh e=>dI.aH.elim (motive:=λb=>∀h,dI.aH.elim b h _=true→_=b) b h (λb0 _ e=>(congrArg _ (bQ e))) h e
 |.aJ _ _,b,e=>bu e λh e=>dI.aJ.elim (motive:=λb=>∀h,dI.aJ.elim b h _=true→_=b) b h (λb0 b1 _ e=>ao e λp1 q1=>(congr (congrArg dI.aJ (bX p1)) (bQ q1))) h e
 |.sub _ _,b,e=>bu e λh e=>dI.sub.elim (motive:=λb=>∀h,dI.sub.elim b h _=true→_=b) b h (λb0 b1 _ e=>ao e λp1 q1=>(congr (congrArg dI.sub (bX p1)) (bX q1))) h e
mutual
theorem Ds:∀{a b:aA},Uu a b=true→a=b
 |.assign _ _,b,e=>bu e λh e=>aA.assign.elim (motive_1:=λb=>∀h,aA.assign.elim b h _=true→_=b) b h (λb0 b1 _ e=>ao e λp1 q1=>(congr (congrArg aA.assign (kM wL p1)) (bX q1))) h e
 |.aug _ _ _,b,e=>bu e λh e=>aA.aug.elim (motive_1:=λb=>∀h,aA.aug.elim b h _=true→_=b) b h (λb0 b1 b2 _ e=>ao e λp2 q2=>ao p2 λp1 q1=>(congr (congr (congrArg aA.aug (wL p1)) (bz q1)) (bX q2))) h e
 |.aG _ _ _,b,e=>bu e λh e=>aA.aG.elim (motive_1:=λb=>∀h,aA.aG.elim b h _=true→_=b) b h (λb0 b1 b2 _ e=>ao e λp2 q2=>ao p2 λp1 q1=>(congr (congr (congrArg aA.aG (bX p1)) (lF q1)) (lF q2))) h e
 |.cN _ _,b,e=>bu e λh e=>aA.cN.elim (motive_1:=λb=>∀h,aA.cN.elim b h _=true→_=b) b h (λb0 b1 _ e=>ao e λp1 q1=>(congr (congrArg aA.cN (bX p1)) (lF q1))) h e
 |.dW _ _ _,b,e=>bu e λh e=>aA.dW.elim (motive_1:=λb=>∀h,aA.dW.elim b h _=true→_=b) b h (λb0 b1 b2 _ e=>ao e λp2 q2=>ao p2 λp1 q1=>(congr (congr (congrArg aA.dW (wL p1)) (yD q1)) (lF q2))) h e
 |.ret _,b,e=>bu e λh e=>aA.ret.elim (motive_1:=λb=>∀h,aA.ret.elim b h _=true→_=b) b h (λb0 _ e=>(congrArg _ (rZ e))) h e
 |.expr _,b,e=>bu e λh e=>aA.expr.elim (motive_1:=λb=>∀h,aA.expr.elim b h _=true→_=b) b h (λb0 _ e=>(congrArg _ (bX e))) h e
 |.pass,b,e=>aA.pass.elim (motive_1:=λb=>.pass=b) b (bQ e) rfl
 |.fail,b,e=>aA.fail.elim (motive_1:=λb=>.fail=b) b (bQ e) rfl
termination_by structural a=>a
theorem lF:∀{a b:List aA},AQ a b=true→a=b
 |[],_,e=>(List.isEmpty_iff.mp e).symm
 |_::_,[],e=>(bR e).elim
 |_::_,_::_,e=>ao e λe1 e2=>congr (congrArg _ (Ds e1)) (lF e2)
termination_by structural a=>a
end
theorem Mb{a b:lY}(e:WI a b=true):a=b:=by
 cases a with
 |inst c x=>cases b with
  |inst d y=>exact ao e λe1 e2=>congr (congrArg _ (bQ e1)) (kM (λ{p q} e=>ao e λe1 e2=>Prod.ext (bQ e1) (cE e2)) e2)
  |list=>exact (bR e).elim
 |list p x=>cases b with
  |inst=>exact (bR e).elim
  |list q y=>exact ao e λe1 e2=>congr (congrArg _ (bz e1)) (fj e2)
theorem i9{a b:aS}(e:Fv a b=true):a=b:=kM Mb e
theorem r8{a b:SL}(e:HE a b=true):a=b:=by cases a<;>cases b<;>first|rfl|exact (bR e).elim|exact congrArg _ (cE e)|exact congrArg _ (bQ e)
theorem HM{a b:Fl}(e:PG a b=true):a=b:=by cases a<;>cases b<;>first|rfl|exact (bR e).elim|exact congrArg _ (cE e)
theorem yE{a b:Option MV}(e:L6 a b=true):a=b:=by
 cases a with
 |none=>cases b with
  |none=>rfl
  |some _=>exact (bR e).elim
 |some x=>exact bF e λc e1 e2=>(congrArg _ (cE e2)).trans e1.symm
section
variable {ρ:d7}
theorem bC:∀l:List MV,MV.Is ρ l=l.map (MV.I ρ)
 |[]=>rfl
 |a::r=>congrArg (MV.I ρ a::·) (bC r)
mutual
theorem pH:∀{v:MV},Ut v=true→v.I ρ=v
 |.none,_=>rfl
 |.bool _,_=>rfl
 |.int _,_=>rfl
 |.str _,_=>rfl
 |.tup _,e=>congrArg _ (mh e)
 |.lst _,e=>congrArg _ (mh e)
 |.jk _ _,_=>rfl
 |.d8 _ _,e=>congrArg _ (mh e)
 |.obj _,_=>rfl
 |.fn i,e=>by
  have e:(!Nat.ble 1000 i)=true:=e;show cond (Nat.ble 1000 i) _ _=_
  cases q:Nat.ble 1000 i with
  |true=>rw [q] at e;exact (bR e).elim
  |false=>rfl
 |.cls _,_=>rfl
 |.bm _ _,_=>rfl
 |.bi _,_=>rfl
theorem mh:∀{l:List MV},wD l=true→MV.Is ρ l=l
 |[],_=>rfl
 |_::_,e=>ao e λe1 e2=>(congrArg (·::_) (pH e1)).trans (congrArg (_::·) (mh e2))
end
theorem gh(p:Option Nat)(l:List MV):cat ρ p l=pI ρ p++l:=by
 cases p with
 |none=>rfl
 |some i=>cases l with
  |nil=>exact (cM _).symm
  |cons _ _=>rfl
set_option tactic.hygienic true in
theorem PS{v:MV}(e:PD v=false):isNone (v.I ρ)=isNone v:=by
 cases v<;>first|rfl|skip
 rename_i i;have e:Nat.ble 1000 i=false:=e;show isNone (cond (Nat.ble 1000 i) _ _)=_
 rw [e];rfl
theorem wM(h:aS)(i:Nat):(aQ ρ h)[i]? =(h[i]?).map (lY.I ρ):=List.getElem?_map ..
theorem mj(h:aS)(i:Nat)(o:lY):aQ ρ (h.set i o)=(aQ ρ h).set i (o.I ρ):=List.map_set ..
theorem Dt(h:aS):(aQ ρ h).length=h.length:=cL _
theorem yF(h:aS)(o:lY):aQ ρ (h++[o])=aQ ρ h++[o.I ρ]:=List.map_append ..
theorem iP:∀{l:List (Nat×MV)} {a:Nat},aR (kL ρ l) a=(aR l a).map (MV.I ρ)
 |[],_=>rfl
 |(k,v)::r,a=>by
  show (if k==a then some (v.I ρ) else aR (kL ρ r) a)=Option.map _ (if k==a then some v else aR r a)
  rw [iP];cases k==a<;>rfl
theorem yG:∀{l:List (Nat×MV)} {a:Nat} {v:MV},kL ρ (gJ l a v)=gJ (kL ρ l) a (v.I ρ)
 |[],_,_=>rfl
 |(k,x)::r,a,v=>by
  show kL ρ (if k==a then (k,v)::r else (k,x)::gJ r a v)=(if k==a then (k,v.I ρ)::kL ρ r else (k,x.I ρ)::gJ (kL ρ r) a (v.I ρ))
  rw [← yG];cases k==a<;>rfl
theorem HN{l:List (Nat×MV)}:(kL ρ l).length=l.length:=cL _
theorem yH:∀{f:List (Nat×Nat)} {l:List MV} {a:Nat},iJ f (l.map (MV.I ρ)) a=(iJ f l a).map (MV.I ρ)
 |[],_,_=>rfl
 |_::_,[],_=>rfl
 |(k,_)::r,v::vs,a=>by
  show (if k==a then some (v.I ρ) else iJ r (vs.map _) a)=Option.map _ (if k==a then some v else iJ r vs a)
  rw [yH];cases k==a<;>rfl
theorem HO{α β:Type}{f:α→β}:∀l:List α,(l.map f).isEmpty=l.isEmpty
 |[]=>rfl
 |_::_=>rfl
theorem Du{v:MV}{b:Bool}{h:Hp}(e:truthy v []=some b):truthy (v.I ρ) h=some b:=by cases v<;>first|exact e|exact no e
theorem Dv{a b:MV}{r:Bool}(e:iI a b=some r):a.I ρ=a∧b.I ρ=b:=by
 cases a<;>first|exact no e|skip
 all_goals (cases b<;>first|exact ⟨rfl,rfl⟩|exact no e)
theorem wN{a b:MV}{r:Bool}(e:iI a b=some r):iI (a.I ρ) (b.I ρ)=some r:=by obtain ⟨h1,h2⟩:=Dv (ρ:=ρ) e;rw [h1,h2];exact e
theorem pJ{x:MV}:∀{l:List MV} {r:Bool},dh x l=some r→dh (x.I ρ) (MV.Is ρ l)=some r
 |[],_,e=>e
 |y::l,r,e=>by
  show (match iI (y.I ρ) (x.I ρ),dh (x.I ρ) (MV.Is ρ l) with|some b,some c=>some (b||c)|_,_=>none)=_
  have e:(match iI y x,dh x l with|some b,some c=>some (b||c)|_,_=>none)=some r:=e
  cases h1:iI y x with
  |none=>rw [h1] at e;exact no e
  |some b=>
   cases h2:dh x l with
   |none=>rw [h1,h2] at e;exact no e
   |some c=>rw [wN h1,pJ h2];rw [h1,h2] at e;exact e
theorem kN{a:MV}{ks vs:List MV}{r:Option MV}(e:gc a ks vs=some r):a.I ρ=a:=by cases a<;>first|rfl|exact no e
theorem gC{v:MV}{x:Int}(e:intOf v=some x):v.I ρ=v:=bD e▸rfl
theorem j3{v:MV}{x:List Nat}(e:strOf v=some x):v.I ρ=v:=bG e▸rfl
theorem Dw{v:MV}{c:Nat}(e:xN v=some c):v.I ρ=v:=jV e▸rfl
theorem HP{v:MV}{x:List MV×List MV}(e:tC v=some x):v.I ρ=v:=iH e▸rfl
theorem HQ{v:MV}{x:Nat}(e:xM v=some x):v.I ρ=v:=lP e▸rfl
theorem Dy{a b:MV}{r:Bool}(e:cV.vE a b=some r):cV.vE (a.I ρ) (b.I ρ)=some r:=
 bB e (λe1=>aq e1 λs e2 e3=>cj e3 λc e4 _=>by rw [j3 e2,Dw e4];exact e) λe1=>bB e1
  (λe1=>aq e1 λl e2 e3=>by rw [cH e2];exact congrArg (Option.or · none) (pJ e3))
  λe1=>bB e1 (λe1=>aq e1 λl e2 e3=>by rw [eL e2];exact congrArg (Option.or · none) (pJ e3)) λe1=>aq e1 λd e2 e3=>cj e3 λg e4 _=>by rw [HP e2,kN (ρ:=ρ) e4];exact e
theorem HS{f:Int→Int→Bool}{g:Option (List Nat→List Nat→Bool)}{a b:MV}{r:Bool}(e:mJ f g a b=some r):a.I ρ=a∧b.I ρ=b:=by
 cases a<;>first|exact no e|skip
 all_goals (cases b<;>first|exact ⟨rfl,rfl⟩|exact no e)
theorem yI{f:Int→Int→Bool}{g:Option (List Nat→List Nat→Bool)}{a b:MV}{r:Bool}(e:mJ f g a b=some r):mJ f g (a.I ρ) (b.I ρ)=some r:=by obtain ⟨h1,h2⟩:=HS (ρ:=ρ) e;rw [h1,h2];exact e
theorem PT{f:Bool→Bool}{a b:MV}{r:Bool}(q:PD a=false)(e:(match b with|.none=>some (f (isNone a))|_=>none)=some r):(match b.I ρ with|.none=>some (f (isNone (a.I ρ)))|_=>none)=some r:=by
 cases b<;>first|exact no e|skip
 show some (f (isNone (a.I ρ)))=_
 rw [PS q];exact e
theorem HT{op:CmpOp}{a b:MV}{r:Bool}(q:(!(L7 op&&PD a))=true)(e:cV op a b=some r):cV op (a.I ρ) (b.I ρ)=some r:=by
 have q:(L7 op&&PD a)=false:=Bool.not_eq_true' _▸q
 cases op with
 |Eq=>exact wN e
 |NotEq=>exact cj (x:=iI a b) e λc h1 h2=>(congrArg (Option.map _) (wN h1)).trans (congrArg some h2)
 |Lt=>exact yI e
 |LtE=>exact yI e
 |Gt=>exact yI e
 |GtE=>exact yI e
 |Is=>exact PT (f:=id) q e
 |IsNot=>exact PT (f:=(!·)) q e
 |In=>exact Dy e
 |NotIn=>exact cj (x:=cV.vE a b) e λc h1 h2=>(congrArg (Option.map _) (Dy h1)).trans (congrArg some h2)
set_option tactic.hygienic true in
theorem Mc{x y:List MV}{r:MV}(e:(if x.length+y.length≤az then some (MV.lst (x++y)) else none)=some r):(if (MV.Is ρ x).length+(MV.Is ρ y).length≤az then some (MV.lst (MV.Is ρ x++MV.Is ρ y)) else none)=some (r.I ρ):=by
 have h:MV.Is ρ (x++y)=MV.Is ρ x++MV.Is ρ y:=by rw [bC,bC,bC,List.map_append]
 rw [bC,bC,cL,cL, ← bC, ← bC, ← h];split at e
 ·rename_i q
  rw [if_pos q, ← aC e];rfl
 ·exact no e
theorem Me{x:Option MV}{r:MV}(e:x=some r)(k:∀v,x=some v→v.I ρ=v):x=some (r.I ρ):=by rw [k r e];exact e
theorem yJ{s:List Nat}{v:MV}(e:qg s=some v):v.I ρ=v:=by
 unfold qg at e;split at e
 ·rw [← aC e];rfl
 ·exact no e
theorem sd{c:Prop}[Decidable c]{w v:MV}(hw:w.I ρ=w)(e:(if c then some w else none)=some v):v.I ρ=v:=by
 split at e
 ·rw [← aC e];exact hw
 ·exact no e
structure Fx(ρ:d7)(a b r:MV):Prop where
 a:a.I ρ=a
 b:b.I ρ=b
 r:r.I ρ=r
theorem Fx.go{a b r:MV}(x:Fx ρ a b r){f:MV→MV→Option MV}(e:f a b=some r):f (a.I ρ) (b.I ρ)=some (r.I ρ):=by rw [x.a,x.b,x.r];exact e
theorem jL{f:Int→Int→Int}{a b r:MV}(e:arith f a b=some r):Fx ρ a b r:=aq e λ_ e1 e=>aq e λ_ e2 e=>⟨gC e1,gC e2,sd rfl e⟩
theorem yK{f:Int→Int→Int}{a b r:MV}(e:Gm f a b=some r):Fx ρ a b r:=aq e λ_ e1 e=>aq e λ_ e2 e=>⟨gC e1,gC e2,sd rfl e⟩
theorem yL{a b r:MV}(e:BJ a b=some r):Fx ρ a b r:=aq e λ_ e1 e=>aq e λ_ e2 e=>⟨j3 e1,j3 e2,yJ e⟩
theorem HV{a b r:MV}(e:K7 a b=some r):Fx ρ a b r:=aq e λ_ e1 e=>aq e λ_ e2 e=>⟨j3 e1,gC e2,sd rfl e⟩
theorem HW{a b r:MV}(e:Oz a b=some r):Fx ρ a b r:=aq e λ_ e1 e=>aq e λ_ e2 e=>⟨j3 e1,gC e2,cj e λ_ _ e=>e▸rfl⟩
theorem or_mono{α:Type}{p o o':Option α}{r:α}(k:o=some r→o'=some r)(e:p.or o=some r):p.or o'=some r:=by
 cases p with
 |none=>exact k e
 |some _=>exact e
theorem ja{v:MV}{l:List MV}(e:listOf v []=some l):iA v=some l:=bB e id λe=>aq e λ_ _ e=>no e
theorem m9{v:MV}{l:List MV}{h:Hp}(e:iA v=some l):listOf v h=some l:=by unfold listOf;rw [e];rfl
theorem Dz{a b r:MV}{h:Hp}(e:Gn a b []=some r):Gn a b h=some r:=aq e λx e1 e=>aq e λy e2 e=>by unfold Gn;rw [m9 (ja e1),m9 (ja e2)];exact e
theorem AS{op:Operator}{a b r:MV}{h:Hp}(e:binOp op a b []=some r):binOp op a b h=some r:=by
 cases op with
 |Add=>exact or_mono (or_mono Dz) e
 |_=>exact e
theorem HX{op:Operator}{a b r:MV}{h:Hp}(e:binOp op a b []=some r):binOp op (a.I ρ) (b.I ρ) h=some (r.I ρ):=by
 refine AS ?_
 cases op with
 |Add=>exact bB e (λe1=>(jL e1).go (f:=λa b=>binOp .Add a b []) e) λe1=>bB e1 (λe1=>(yL e1).go (f:=λa b=>binOp .Add a b []) e) λe1=>aq e1 λx e2 e3=>aq e3 λy e4 e5=>by rw [cH (ja e2),cH (ja e4)];exact Mc e5
 |Sub=>exact (jL e).go (f:=λa b=>binOp .Sub a b []) e
 |Mult=>exact bB e (λe1=>(jL e1).go (f:=λa b=>binOp .Mult a b []) e) λe1=>(HV e1).go (f:=λa b=>binOp .Mult a b []) e
 |Mod=>exact bB e (λe1=>(yK e1).go (f:=λa b=>binOp .Mod a b []) e) λe1=>(HW e1).go (f:=λa b=>binOp .Mod a b []) e
 |FloorDiv=>exact (yK e).go (f:=λa b=>binOp .FloorDiv a b []) e
 |_=>exact no e
theorem HY{op:Operator}{a b r:MV}{h:Hp}(e:eF op a b []=some r):eF op (a.I ρ) (b.I ρ) h=some (r.I ρ):=by
 cases op with
 |Add=>exact bB e (λe1=>(jL e1).go (f:=λa b=>eF .Add a b h) e) λe1=>(yL e1).go (f:=λa b=>eF .Add a b h) e
 |Sub=>exact (jL e).go (f:=λa b=>eF .Sub a b h) e
 |_=>exact no e
theorem PU{l:List MV}{i r:MV}(e:((tE i l.length).bind λj=>l[j]?)=some r):((tE (i.I ρ) (MV.Is ρ l).length).bind λj=>(MV.Is ρ l)[j]?)=some (r.I ρ):=aq e λj e1 e2=>aq e1 λk e3 _=>by rw [gC e3,bC,cL,e1];exact List.getElem?_map.trans (congrArg (Option.map _) e2)
theorem DA{o:lY}{l:List MV}(e:rW o=some l):dJ (o.I ρ)=some (MV.Is ρ l):=by
 cases o with
 |inst=>exact no e
 |list p l=>cases p with
  |some _=>exact no e
  |none=>exact congrArg (λz=>some (MV.Is ρ z)) (aC e)
theorem qJ{h:aS}{o:Nat}{l:List MV}(e:((h[o]?).bind rW)=some l):((aQ ρ h)[o]?).bind dJ=some (MV.Is ρ l):=aq e λs e1 e2=>by rw [wM,e1];exact DA e2
theorem gD{v:MV}{h:aS}{l:List MV}(e:lB v h=some l){C:MV→Prop}(k:C (.lst l))(q:∀o,((h[o]?).bind rW)=some l→C (.obj o)):C v:=bB e (λe=>cH e▸k) λe=>aq e λo e1 e2=>cJ e1▸q o e2
theorem pK{v:MV}{h:aS}{l:List MV}(e:lB v h=some l):listOf (v.I ρ) (aQ ρ h)=some (MV.Is ρ l):=gD e (C:=λv=>listOf (v.I ρ) (aQ ρ h)=some (MV.Is ρ l)) rfl λ_ q=>qJ q
theorem HZ{a i r:MV}{h:Hp}(e:K8 a i=some r):fG (a.I ρ) (i.I ρ) h=some (r.I ρ):=aq e λs e1 e2=>aq e2 λj e3 e4=>aq e3 λk e5 _=>cj e4 λc _ e6=>by rw [j3 e1,gC e5, ← e6];unfold fG;rw [e, ← e6];rfl
theorem H6{a i r:MV}{h:Hp}(e:(K9 a i).bind AR=some r):fG (a.I ρ) (i.I ρ) h=some (r.I ρ):=aq e λw e0 e=>fQ e λq e=>aq e0 λd e1 e2=>aq e2 λo e3 e4=>by
 rw [iH e1,kN e3, ← aC e,pH q];show ((gc i d.1 d.2).bind id).or _=_
 rw [e3,show o=some w from e4];rfl
theorem H7{a i r:MV}{h:Hp}(e:La a i=some r):fG (a.I ρ) (i.I ρ) h=some (r.I ρ):=aq e λl e1 e2=>by rw [eL e1];exact congrArg (Option.or · _) (PU e2)
theorem H8{a i r:MV}{h:aS}(e:JR a i h=some r):fG (a.I ρ) (i.I ρ) (aQ ρ h)=some (r.I ρ):=aq e λl e1 e2=>by
 have k:Gp (a.I ρ) (i.I ρ) (aQ ρ h)=some (r.I ρ):=by unfold Gp;rw [pK e1];exact PU e2
 exact gD e1 (C:=λv=>Gp (v.I ρ) (i.I ρ) (aQ ρ h)=some (r.I ρ)→fG (v.I ρ) (i.I ρ) (aQ ρ h)=some (r.I ρ)) id (λ_ _=>id) k
theorem DB{o:Option MV}{x:Option Int}(e:jB o=some x):jB (o.map (MV.I ρ))=some x:=by
 cases o with
 |none=>exact e
 |some v=>exact aq (x:=intOf v) e λk e1 _=>(congrArg (λv=>jB (some v)) (gC e1)).trans e
theorem DC{α β:Type}(f:α→β)(l:List α)(x y:Option Int):eX (l.map f) x y=(eX l x y).map f:=by unfold eX;rw [cL,List.map_take,List.map_drop]
theorem PV{a r:MV}{x y:Option Int}{h:aS}(e:PM a x y h=some r):BK (a.I ρ) x y (aQ ρ h)=some (r.I ρ):=
 bB e (λe=>cj e λs e1 e2=>by rw [bG e1, ← e2];rfl) λe=>cj e λl e1 e2=>by
  rw [← e2];have k:((listOf (a.I ρ) (aQ ρ h)).map λl=>MV.lst (eX l x y))=some ((MV.lst (eX l x y)).I ρ):=by
   rw [pK e1];show some (MV.lst (eX (MV.Is ρ l) x y))=some (.lst (MV.Is ρ (eX l x y)))
   rw [bC,bC,DC]
  exact gD e1 (C:=λv=>((listOf (v.I ρ) (aQ ρ h)).map λl=>MV.lst (eX l x y))=_→BK (v.I ρ) x y (aQ ρ h)=_) id (λ_ _=>id) k
theorem pL{sup:List Nat}:∀{l:List MV} {b:Bool},jC sup l=some b→MV.Is ρ l=l
 |[],_,_=>rfl
 |a::r,b,e=>by
  cases a<;>first|exact no e|skip
  exact cj (x:=jC sup r) e λc e1 _=>congrArg (List.cons _) (pL e1)
theorem Mf{sup:List Nat}{c:MV}{b:Bool}(e:Gq sup c=some b):Gq sup (c.I ρ)=some b:=
 bB e (λe1=>cj e1 λi e2 _=>by rw [HQ e2];exact e) λe1=>aq e1 λl e2 e3=>by
  rw [eL e2];show jC sup (MV.Is ρ l)=_
  rw [pL e3];exact e3
theorem DE{P:Prog}{v c:MV}{b:Bool}(e:rq P v c=some b):rq P (v.I ρ) (c.I ρ)=some b:=aq e λr e1 e2=>aq e2 λce e3 e4=>by
 rw [jU e1];show (P.dM[r.1]?).bind (λce:fZ=>Gq ce.rm (c.I ρ))=_
 rw [e3];exact Mf e4
theorem PW{a:MV}{n:Nat}{h:aS}(e:PN a h=some n):lenOf (a.I ρ) (aQ ρ h)=some n:=
 bB e (λe1=>cj e1 λs e2 e3=>by rw [bG e2, ← e3];rfl) λe1=>cj e1 λl e2 e3=>by
  have k:(listOf (a.I ρ) (aQ ρ h)).map List.length=some n:=by rw [pK e2, ← e3,bC];exact congrArg some (cL _)
  exact gD e2 (C:=λv=>(listOf (v.I ρ) (aQ ρ h)).map List.length=some n→lenOf (v.I ρ) (aQ ρ h)=some n) id (λ_ _=>id) k
theorem H9{v:MV}{n:Nat}(e:tF v=some n):v.I ρ=v:=by cases v<;>first|rfl|exact no e
theorem DF{P:Prog}{b:BI}{args:List MV}{r:MV}{h:Hp}(hl:JS b=false)(e:iB P b args []=some r):iB P b (MV.Is ρ args) h=some (r.I ρ):=by
 cases b with
 |isinstance=>exact aq e λa e1 e=>cj e λk e2 e3=>by rw [tD e1, ← e3];exact congrArg (Option.map MV.bool) (DE e2)
 |len=>cases hl
 |ord=>exact aq e λa e1 e=>cj e λk e2 e3=>by rw [cO e1, ← e3,jV e2];rfl
 |str=>
  exact aq e λa e1 e=>cj e λk e2 e3=>by
   rw [cO e1, ← e3];show (tF (a.I ρ)).map _=_
   rw [H9 e2,e2];rfl
end
structure Holds(P:Prog)(ρ:d7)(F:Facts):Prop where
 o6:∀e∈F.o6,∀h,truthy (e.1.I ρ) h=some e.2
 cmp:∀e∈F.cmp,cV e.1 (e.2.1.I ρ) (e.2.2.1.I ρ)=some e.2.2.2
 bin:∀e∈F.bin,∀h,binOp e.1 (e.2.1.I ρ) (e.2.2.1.I ρ) h=some (e.2.2.2.I ρ)
 sub:∀e∈F.sub,∀h,fG (e.1.I ρ) (e.2.1.I ρ) h=some (e.2.2.I ρ)
 wG:∀e∈F.wG,∀h,g8 (e.1.I ρ) (e.2.1.map (MV.I ρ)) (e.2.2.1.map (MV.I ρ)) h=some (e.2.2.2.I ρ)
 bi:∀e∈F.bi,∀h,iB P e.1 [e.2.1.I ρ] h=some (e.2.2.I ρ)
 join:∀e∈F.join,(aT (pI ρ e.1++MV.Is ρ e.2.1)).bind qg=some (e.2.2.I ρ)
 room:∀i∈F.room,(ρ.l i).length+1000< az
 aug:∀e∈F.aug,∀h,eF e.1 (e.2.1.I ρ) (e.2.2.1.I ρ) h=some (e.2.2.2.I ρ)
 starts:∀e∈F.starts,∃x y,e.1.I ρ=.str x∧e.2.1.I ρ=.str y∧e.2.2=y.isPrefixOf x
 st:∀e∈F.st,∀k,e.n≤k→bU P (E P k) e.s (bq ρ e.l) (aQ ρ e.h)=some (.next,bq ρ e.l',aQ ρ e.h')
 ev:∀e∈F.ev,∀k,e.n≤k→(E P k).ev e.e (bq ρ e.l) (aQ ρ e.h)=some (e.r.I ρ,aQ ρ e.h)
 call:∀e∈F.call,∀k,e.n≤k→(E P k).ca e.f (MV.Is ρ e.as) (aQ ρ e.h)=some (e.r.I ρ,aQ ρ e.h')
theorem uD{len:Nat}(h:0< len):idx len (-1)=some (len - 1):=if_pos h
theorem dK{α β:Type}{l:List α}{f:α→Bool}{g:α→β}{b:β}(e:l.findSome? (λa=>gd (f a) (some (g a)))=some b){C:Prop}(k:∀a∈l,f a=true→g a=b→C):C:=by obtain ⟨a,h1,h2⟩:=List.exists_of_findSome?_eq_some e;exact fQ h2 λh3 h4=>k a h1 h3 (aC h4)
section
variable {ρ:d7}
theorem wO{h:aS}{o:Nat}{x:Nat×List (Nat×MV)}(e:yp h o=some x):((aQ ρ h)[o]?).bind n8=some (x.1,kL ρ x.2):=aq e λs e1 e2=>by
 rw [wM,e1]
 cases s with
 |inst c a=>rw [← aC e2];rfl
 |list _ _=>exact no e2
theorem kO{h:aS}{o:Nat}{x:Option Nat×List MV}(e:m6 h o=some x):((aQ ρ h)[o]?).bind dJ=some (pI ρ x.1++MV.Is ρ x.2):=aq e λs e1 e2=>by
 rw [wM,e1]
 cases s with
 |list p l=>rw [← aC e2];exact congrArg some (gh p (MV.Is ρ l))
 |inst _ _=>exact no e2
theorem DG{v:MV}(e:PL v=true):v=.int (-1):=by cases v<;>first|exact (bR e).elim|exact congrArg _ (bz e)
end
section
variable {P:Prog}{ρ:d7}{F:Facts}(H:Holds P ρ F)
include H
theorem AU{v:MV}{h:aS}{b:Bool}(e:lC F v h=some b):truthy (v.I ρ) (aQ ρ h)=some b:=
 bB e (λe=>Du e) λe=>bB e (λe=>cj e λl e1 e2=>aq e1 λo e3 e4=>by
  rw [cJ e3, ← e2];show (((aQ ρ h)[o]?).bind dJ).map _=_
  rw [qJ e4,bC];exact congrArg (λb=>some (!b)) (HO l)) λe=>dK e λa h1 h2 h3=>by
  rw [← h3, ← cE h2];exact H.o6 a h1 _
theorem DH{op:CmpOp}{a b:MV}{r:Bool}(e:PJ F op a b=some r):cV op (a.I ρ) (b.I ρ)=some r:=bB e (λe=>fQ e λq e=>HT q e) λe=>dK e λa h1 h2 h3=>ao h2 λh2 h4=>ao h2 λh2 h5=>by rw [← h3, ← cE h4, ← cE h5, ← bz h2];exact H.cmp a h1
theorem Mg{op:Operator}{a b r:MV}{h:aS}(e:PK F op a b h=some r):binOp op (a.I ρ) (b.I ρ) (aQ ρ h)=some (r.I ρ):=bB e (λe=>HX e) λe=>dK e λa h1 h2 h3=>ao h2 λh2 h4=>ao h2 λh2 h5=>by rw [← h3, ← cE h4, ← cE h5, ← bz h2];exact H.bin a h1 _
theorem wQ{op:Operator}{a b r:MV}{h:Hp}(e:HJ F op a b=some r):eF op (a.I ρ) (b.I ρ) h=some (r.I ρ):=bB e (λe=>HY e) λe=>dK e λa h1 h2 h3=>ao h2 λh2 h4=>ao h2 λh2 h5=>by rw [← h3, ← cE h4, ← cE h5, ← bz h2];exact H.aug a h1 _
omit H in
theorem DI{a i r:MV}{h:aS}(e:lastOf a i h=some r):fG (a.I ρ) (i.I ρ) (aQ ρ h)=some (r.I ρ):=by
 refine aq e λo e1 e=>aq e λq e2 e=>fQ e λhi hl=>?_
 rw [cJ e1,DG hi];have hl:(pI ρ q.1++MV.Is ρ q.2).getLast? =some (r.I ρ):=by rw [List.getLast?_append,bC,List.getLast?_map,hl];rfl
 have hp:0< (pI ρ q.1++MV.Is ρ q.2).length:=List.length_pos_iff.mpr λz=>by rw [z] at hl;exact no hl
 show (((aQ ρ h)[o]?).bind dJ).bind (λl=>(idx l.length (-1)).bind λj=>l[j]?)=_
 rw [kO e2];show (idx (pI ρ q.1++MV.Is ρ q.2).length (-1)).bind _=_
 rw [uD hp, ← hl,List.getLast?_eq_getElem?];rfl
theorem DJ{a i r:MV}{h:aS}(e:HL F a i h=some r):fG (a.I ρ) (i.I ρ) (aQ ρ h)=some (r.I ρ):=bB e HZ λe=>bB e H6 λe=>bB e H7 λe=>bB e H8 λe=>bB e DI λe=>dK e λa h1 h2 h3=>ao h2 λh2 h4=>by rw [← h3, ← cE h4, ← cE h2];exact H.sub a h1 _
theorem DK{a r:MV}{lo hi:Option MV}{h:aS}(e:Di F a lo hi h=some r):g8 (a.I ρ) (lo.map (MV.I ρ)) (hi.map (MV.I ρ)) (aQ ρ h)=some (r.I ρ):=
 bB e (λe=>aq e λx e1 e=>aq e λy e2 e=>by
  show (jB _).bind (λlo=>(jB _).bind λhi=>_)=_
  rw [DB e1,DB e2];exact PV e) λe=>dK e λa h1 h2 h3=>ao h2 λh2 h4=>ao h2 λh2 h5=>by
  rw [← h3, ← yE h4, ← yE h5, ← cE h2];exact H.wG a h1 _
theorem PX{b:BI}{args:List MV}{r:MV}{h:aS}(e:WJ P F b args h=some r):iB P b (MV.Is ρ args) (aQ ρ h)=some (r.I ρ):=by
 refine bB e (λe=>?_) λe=>aq e λa ea e=>dK e λa h1 h2 h3=>ao h2 λh2 h4=>by rw [← h3,cO ea, ← cE h4, ← bz h2];exact H.bi a h1 _
 cases b with
 |len=>exact aq e λa e1 e=>cj e λn e2 e3=>by rw [cO e1, ← e3];exact congrArg (Option.map λn:Nat=>MV.int n) (PW e2)
 |_=>exact DF rfl e
end
noncomputable def vh(ρ:d7)(r:MV×aS):MV×Hp:=(r.1.I ρ,aQ ρ r.2)
noncomputable def UD(ρ:d7)(r:List MV×aS):List MV×Hp:=(MV.Is ρ r.1,aQ ρ r.2)
noncomputable def bh(ρ:d7)(r:Bool×aS):Bool×Hp:=(r.1,aQ ρ r.2)
noncomputable def JY(ρ:d7)(r:Fl×aV×aS):Fl×Loc×Hp:=(r.1.I ρ,bq ρ r.2.1,aQ ρ r.2.2)
noncomputable def lh(ρ:d7)(r:aV×aS):Loc×Hp:=(bq ρ r.1,aQ ρ r.2)
structure qK(ρ:d7)(S:PO)(T:Ev):Prop where
 ev:∀e l h,Le (S.ev e l h) (vh ρ) (T.ev e (bq ρ l) (aQ ρ h))
 ex:∀b l h,Le (S.ex b l h) (JY ρ) (T.ex b (bq ρ l) (aQ ρ h))
 ca:∀f bs h,Le (S.ca f bs h) (vh ρ) (T.ca f (MV.Is ρ bs) (aQ ρ h))
theorem Le.ite{α β:Type}{b:Bool}{x y:Option α}{f:α→β}{u w:Option β}(h:Le x f u)(k:Le y f w):Le (_root_.cond b x y) f (if b=true then u else w):=match b with
 |true=>h
 |false=>k
theorem Le.Sv{α β:Type}{b:Bool}{x:Option α}{f:α→β}{u:Option β}(h:Le x f u):Le (Mine.gd b x) f (if b=true then u else none):=match b with
 |true=>h
 |false=>.no
section
variable {P:Prog}{ρ:d7}{F:Facts}{S:PO}{T:Ev}
theorem kP(l:List MV):(MV.Is ρ l).length=l.length:=by rw [bC,cL]
theorem yM(a b:List (Nat×MV)):kL ρ (a++b)=kL ρ a++kL ρ b:=List.map_append ..
theorem se(ps:List Nat)(l:List MV):kL ρ (ps.zip l)=ps.zip (MV.Is ρ l):=by rw [bC,List.zip_map_right];rfl
theorem qL(l:List (Nat×MV))(a:Nat):(aR (kL ρ l) a).isNone=(aR l a).isNone:=by rw [iP];cases aR l a<;>rfl
theorem Ia{ps:List Nat}(kw:List (Nat×MV)):∀s,Le (kw.foldlM (stepK ps) s) (kL ρ) ((kL ρ kw).foldlM (stepK ps) (kL ρ s)):=by
 induction kw with
 |nil=>exact λs=>.one
 |cons a r ih=>exact λs=>Le.bind (i:=kL ρ) (x:=stepK ps s a) (y:=stepK ps (kL ρ s) (a.1,a.2.I ρ)) (by unfold stepK;rw [qL];intro b e;obtain ⟨q,e⟩:=aW e;rw [if_pos q, ← aC e,yM];rfl) ih
theorem Ib(kw:List (Nat×MV)):∀s,(kL ρ kw).foldl jD (kL ρ s)=kL ρ (kw.foldl jD s):=by
 induction kw with
 |nil=>exact λ_=>rfl
 |cons a r ih=>
  intro s;refine Eq.trans (congrArg (List.foldl jD · (kL ρ r)) ?_) (ih (jD s a));show jD (kL ρ s) (a.1,a.2.I ρ)=_
  unfold jD;rw [qL]
  cases (aR s a.1).isNone with
  |true=>exact (yM s [a]).symm
  |false=>rfl
theorem Mh{s:List (Nat×MV)}(ps:List Nat):Le (ps.mapM (aR s)) (MV.Is ρ) (ps.mapM (aR (kL ρ s))):=by
 induction ps with
 |nil=>exact .one
 |cons p r ih=>rw [List.mapM_cons,List.mapM_cons];exact .bind (i:=MV.I ρ) (λv e=>by rw [iP,e];rfl) λv=>.bind (i:=MV.Is ρ) ih λw=>.one
theorem j4{f:cC}{pos:List MV}{kn:List Nat}{kv:List MV}:Le (lD f pos kn kv) (MV.Is ρ) (dz f (MV.Is ρ pos) kn (MV.Is ρ kv)):=λvs e=>fQ e λhd e=>by
 obtain ⟨q,e⟩:=aW e;unfold dz;rw [kP,if_pos q, ← se, ← se];refine Le.bind (i:=kL ρ) (j:=MV.Is ρ) (Ia _ _) (λs r e=>?_) vs e
 obtain ⟨q,e⟩:=aW e;have hs:∀p,(aR (kL ρ s) p).isSome=(aR s p).isSome:=λp=>by rw [iP];cases aR s p<;>rfl
 simp only [hs];rw [if_pos q];have hz:(f.params.drop (f.params.length - f.defs.length)).zip f.defs=kL ρ ((f.params.drop (f.params.length - f.defs.length)).zip f.defs):=by rw [se,mh hd]
 rw [hz,Ib];exact Mh _ r e
theorem jM(H:qK ρ S T):∀(es:List ai) (l:aV) (h:aS),Le (o7 S es l h) (UD ρ) (aE T es (bq ρ l) (aQ ρ h))
 |[],l,h=>.of rfl
 |e::r,l,h=>.bind (H.ev e l h) λa=>.bind (jM H r l a.2) λb=>.of rfl
theorem uE(H:qK ρ S T)(eo:Option ai)(l:aV)(h:aS):Le (wH S eo l h) (λr=>(r.1.map (MV.I ρ),aQ ρ r.2)) (qt T eo (bq ρ l) (aQ ρ h)):=match eo with
 |none=>.of rfl
 |some e=>.bind (H.ev e l h) λa=>.of rfl
theorem DL(K:Holds P ρ F)(v:MV)(h:aS):Le (lC F v h) id (truthy (v.I ρ) (aQ ρ h)):=λ_ e=>AU K e
theorem uF(K:Holds P ρ F)(H:qK ρ S T):∀(es:List ai) (l:aV) (h:aS),Le (wI F S es l h) (vh ρ) (tG T es (bq ρ l) (aQ ρ h))
 |[],l,h=>.no
 |e::r,l,h=>match r with
  |[]=>H.ev e l h
  |x::q=>.bind (H.ev e l h) λa=>.bind (DL K a.1 a.2) λb=>.ite (uF K H (x::q) l a.2) (.of rfl)
theorem yN(K:Holds P ρ F)(H:qK ρ S T):∀(es:List ai) (l:aV) (h:aS),Le (Dj F S es l h) (vh ρ) (BL T es (bq ρ l) (aQ ρ h))
 |[],l,h=>.no
 |e::r,l,h=>match r with
  |[]=>H.ev e l h
  |x::q=>.bind (H.ev e l h) λa=>.bind (DL K a.1 a.2) λb=>.ite (.of rfl) (yN K H (x::q) l a.2)
theorem uG(K:Holds P ρ F)(H:qK ρ S T):∀(ops:List CmpOp) (a:MV) (es:List ai) (l:aV) (h:aS),Le (wJ F S a ops es l h) (bh ρ) (tH T (a.I ρ) ops es (bq ρ l) (aQ ρ h))
 |[],a,es,l,h=>.no
 |op::ops,a,es,l,h=>match es with
  |[]=>.no
  |e::es=>match ops,es with
   |[],[]=>.bind (H.ev e l h) λv=>.bind (i:=id) (λ_ e=>DH K e) λb=>.of rfl
   |[],_::_=>.bindL λv _=>.bindL λb _=>.no
   |_::_,[]=>.bindL λv _=>.bindL λb _=>.no
   |o::ops,x::es=>.bind (H.ev e l h) λv=>.bind (i:=id) (λ_ e=>DH K e) λb=>.ite (uG K H (o::ops) v.1 (x::es) l v.2) (.of rfl)
theorem jb(K:Holds P ρ F)(H:qK ρ S T)(e:ai)(l:aV)(h:aS):Le (m7 F S e l h) (bh ρ) (test T e (bq ρ l) (aQ ρ h)):=.bind (H.ev e l h) λa=>.bind (DL K a.1 a.2) λb=>.of rfl
theorem uH(K:Holds P ρ F)(H:qK ρ S T):∀(es:List ai) (l:aV) (h:aS),Le (wK F S es l h) (bh ρ) (tests T es (bq ρ l) (aQ ρ h))
 |[],l,h=>.of rfl
 |e::r,l,h=>.bind (jb K H e l h) λa=>.ite (uH K H r l a.2) (.of rfl)
theorem lG(l:aV)(i:Nat)(v:MV):bq ρ (m8 l i v)=gV (bq ρ l) i (v.I ρ):=List.map_set ..
theorem wR(l:aV)(tgt:List Nat)(tup:Bool)(v:MV):Le (uB l tgt tup v) (bq ρ) (gu (bq ρ l) tgt tup (v.I ρ)):=match tup with
 |false=>match tgt with
  |[]=>.no
  |i::r=>.gd λq=>by rw [List.isEmpty_iff.mp q];exact .of (congrArg some (lG l i v).symm)
 |true=>.no
theorem AV{mu:Bool}{vs:List MV}{h:aS}:some (iC mu (MV.Is ρ vs) (aQ ρ h))=some (vh ρ (yq mu vs h)):=match mu with
 |false=>rfl
 |true=>by
  show some (MV.obj (aQ ρ h).length,aQ ρ h++[iW.list (MV.Is ρ vs)])=some (MV.obj h.length,aQ ρ (h++[lY.list none vs]))
  rw [Dt,yF];rfl
noncomputable def YM(ρ:d7)(r:List MV×aS):It×Hp:=(.items (MV.Is ρ r.1),aQ ρ r.2)
theorem qM{a b:Int}:MV.Is ρ (cY a b)=cY a b:=by rw [bC];unfold cY;rw [List.map_map];rfl
theorem AW{l:List MV}{v:MV×MV}(e:vF l=some v):l=[v.1,v.2]:=by
 match l,e with
 |[a,b],e=>rw [← aC e]
theorem PY{vs xs:List MV}(e:yr vs=some xs):zP (MV.Is ρ vs)=some (.items (MV.Is ρ xs)):=
 bB e (λe=>aq e λv e1 e=>aq e λa e2 e=>aq e λb e3 e=>fQ e λq e=>by
   rw [AW e1,bD e2,bD e3, ← aC e,qM];exact congrArg (Option.or · _) (if_pos q))
  λe=>aq e λv e1 e=>aq e λn e2 e=>fQ e λq e=>by rw [cO e1,bD e2, ← aC e,qM];exact if_pos q
theorem yO(H:qK ρ S T)(it:dm)(l:aV)(h:aS):Le (yt S it l h) (YM ρ) (dB T it (bq ρ l) (aQ ρ h)):=match it with
 |.val e=>.bind (H.ev e l h) λa=>.bindL λxs e=>bB e (λe=>cj e λs e1 e2=>.of (by
    show (tK (a.1.I ρ) (aQ ρ a.2)).map (λi=>(i,aQ ρ a.2))=some (It.items (MV.Is ρ xs),aQ ρ a.2)
    rw [bG e1, ← e2,bC,List.map_map];rfl)) λe=>.of (by
    show (tK (a.1.I ρ) (aQ ρ a.2)).map (λi=>(i,aQ ρ a.2))=_
    rw [cH e];rfl)
 |.range args=>.bind (jM H args l h) λa=>.bindL λxs e=>.of (by
   show (zP (MV.Is ρ a.1)).map (λi=>(i,aQ ρ a.2))=some (It.items (MV.Is ρ xs),aQ ρ a.2)
   rw [PY e];rfl)
section
variable (ih:Ev)(elt:ai)(tgt:List Nat)(tup:Bool)(ifs:List ai)
noncomputable def dj:List MV→Loc→Hp→Option (List MV×Hp)
 |[],_,h=>some ([],h)
 |x::r,l,h=>(gu l tgt tup x).bind λl=>(tests ih ifs l h).bind λb=>if b.1=true then (ih.ev elt l b.2).bind λv=>(dj r l v.2).bind λvs=>some (v.1::vs.1,vs.2) else dj r l b.2
theorem pM(xs:List MV)(r:List MV):∀(k:Nat) (l:Loc) (h:Hp),xs.drop k=r→dc ih elt tgt tup ifs (eY xs) (r.length+1) k l h=dj ih elt tgt tup ifs r l h:=by
 induction r with
 |nil=>
  intro k l h e;show (some xs[k]?).bind _=_
  rw [List.getElem?_eq_none (List.drop_eq_nil_iff.mp e)];rfl
 |cons x r YN=>
  intro k l h e;have hx:xs[k]? =some x:=by rw [← Nat.add_zero k, ← List.getElem?_drop,e];rfl
  have YO:=λl h=>YN (k+1) l h (by rw [← List.drop_drop,e];rfl)
  show (some xs[k]?).bind _=_
  rw [hx];show (gu l tgt tup x).bind (λl=>(tests ih ifs l h).bind λb=>if b.1=true then (ih.ev elt l b.2).bind λv=>(dc ih elt tgt tup ifs (eY xs) (r.length+1) (k+1) l v.2).bind λvs=>some (v.1::vs.1,vs.2) else dc ih elt tgt tup ifs (eY xs) (r.length+1) (k+1) l b.2)=_
  simp only [YO];rfl
end
theorem jc(K:Holds P ρ F)(H:qK ρ S T){elt:ai}{tgt:List Nat}{tup:Bool}{ifs:List ai}:∀(xs:List MV) (l:aV) (h:aS),Le (gQ F S elt tgt tup ifs xs l h) (UD ρ) (dj T elt tgt tup ifs (MV.Is ρ xs) (bq ρ l) (aQ ρ h))
 |[],l,h=>.of rfl
 |x::r,l,h=>.bind (wR l tgt tup x) λl=>.bind (uH K H ifs l h) λb=>.ite
   (.bind (H.ev elt l b.2) λv=>.bind (jc K H r l v.2) λvs=>.of rfl)
   (jc K H r l b.2)
theorem DM{bs:List MV}:∀(f:List (Nat×Nat)),Le (f.mapM λp=>bs[p.2]?) (MV.Is ρ) (f.mapM λp=>(MV.Is ρ bs)[p.2]?)
 |[]=>.of rfl
 |p::r=>by rw [List.mapM_cons,List.mapM_cons];exact .bind (i:=MV.I ρ) (λv e=>by rw [bC,List.getElem?_map,e];rfl) λv=>.bind (DM r) λvs=>.of rfl
theorem AX(K:Holds P ρ F)(H:qK ρ S T){f:MV}{pos:List MV}{kn:List Nat}{kv:List MV}{h:aS}:Le (yv P F S f pos kn kv h) (vh ρ) (lQ P T (f.I ρ) (MV.Is ρ pos) kn (MV.Is ρ kv) (aQ ρ h)):=by
 cases f with
 |fn i=>
  refine .gd λq=>?_
  have:(MV.fn i).I ρ=.fn i:=pH q;rw [this];exact .bind (i:=id) (λ_ e=>e) λfe=>.bind j4 λbs=>H.ca i bs h
 |cls i=>
  refine .bind (i:=id) (λ_ e=>e) λce=>.bind (i:=id) (λ_ e=>e) λfe=>.ite ?_ ?_
  ·exact .bind (j4 (pos:=.none::pos)) λbs=>.bind (DM _) λvs=>.of rfl
  ·have hl:MV.obj (aQ ρ h).length=(MV.obj h.length).I ρ:=congrArg MV.obj (Dt h)
   have hn:aQ ρ h++[.inst i []]=aQ ρ (yu i h):=(yF h (.inst i [])).symm;show Le _ _ ((dz fe (MV.obj (aQ ρ h).length::MV.Is ρ pos) kn (MV.Is ρ kv)).bind λbs=>(T.ca ce.init bs (aQ ρ h++[.inst i []])).bind λw=>match w.1 with|.none=>some (MV.obj (aQ ρ h).length,w.2)|_=>none)
   rw [hl,hn];exact .bind (j4 (pos:=.obj h.length::pos)) λbs=>.bind (H.ca ce.init bs _) λa=>.gd λq=>.of (by
    show (match MV.I ρ a.1 with|.none=>some (MV.obj h.length,aQ ρ a.2)|_=>none)=_
    rw [pG q];rfl)
 |bi b=>exact .Sv (.bindL λv e=>.of (by rw [PX K e];rfl))
 |_=>exact .no
end
section
variable {P:Prog}{ρ:d7}{F:Facts}{S:PO}{T:Ev}
theorem Le.orM{α β:Type}{x y:Option α}{f:α→β}{u w:Option β}(h:u=x.map f)(k:Le y f w):Le (x.or y) f (u.or w):=by
 subst h
 cases x with
 |none=>exact k
 |some a=>exact λ_ e=>congrArg (λz=>some (f z)) (aC e)
theorem pO(v:MV)(a:Nat)(h:aS):Le (o9 P v a h) (MV.I ρ) (getAttr P (v.I ρ) a (aQ ρ h)):=by
 cases v with
 |d8 c vs=>
  exact .bind (i:=id) (λ_ e=>e) λce=>λw e=>by
   show iJ ce.fields (MV.Is ρ vs) a=_
   rw [bC,yH,e];rfl
 |obj o=>
  refine .bindL λx e=>?_
  show Le _ _ ((((aQ ρ h)[o]?).bind n8).bind _)
  rw [wO e];exact .orM iP (.bind (i:=id) (λ_ e=>e) λce=>.orM (by rw [Option.map_map];rfl) (.bindL λw e=>.gd λq=>.of (by rw [pH q];exact e)))
 |_=>exact .no
theorem pP(ov:MV)(a:Nat)(v:MV)(h:aS):Le (pe P ov a v h) (aQ ρ) (jW P (ov.I ρ) a (v.I ρ) (aQ ρ h)):=.bindL λk e=>.bindL λx e2=>by
 rw [cJ e];show Le _ _ ((((aQ ρ h)[k]?).bind n8).bind _)
 rw [wO e2];show Le _ _ (if (tL P x.1 a&&decide ((kL ρ x.2).length< 300))=true then some ((aQ ρ h).set k (.inst x.1 (gJ (kL ρ x.2) a (v.I ρ)))) else none)
 rw [HN, ← yG];exact .Sv (.of (by rw [mj];rfl))
theorem DN(a b:List MV):MV.Is ρ (a++b)=MV.Is ρ a++MV.Is ρ b:=by rw [bC,bC,bC,List.map_append]
theorem DO:∀(a b:List MV) (v:MV),b≠[]→(a++b).set ((a++b).length - 1) v=a++(b.dropLast++[v]):=λa b v hb=>by
 obtain ⟨c,d,rfl⟩:∃c d,b=c++[d]:=⟨b.dropLast,b.getLast hb,(List.dropLast_concat_getLast hb).symm⟩;rw [List.dropLast_concat, ← cU,aM];show ((a++c)++[d]).set ((a++c).length+1 - 1) _=_
 rw [Nat.add_sub_cancel,List.set_append_right _ _ (bf _),Nat.sub_self,cU];rfl
theorem pQ(ov iv v:MV)(h:aS):Le (pq ov iv v h) (aQ ρ) (jX (ov.I ρ) (iv.I ρ) (v.I ρ) (aQ ρ h)):=.bindL λk e=>.bindL λj e2=>.gd λq=>.bindL λx e3=>by
 rw [cJ e,bD e2];show Le _ _ ((((aQ ρ h)[k]?).bind dJ).bind λxs=>if aK j=true then (idx xs.length j).map λj=>(aQ ρ h).set k (.list (xs.set j (v.I ρ))) else none)
 rw [kO e3];show Le _ _ (if aK j=true then _ else none)
 rw [if_pos q];obtain ⟨p,l⟩:=x
 cases p with
 |some p=>
  refine .gd λq2=>ao q2 λq2 q3=>?_
  have Cg:MV.Is ρ l≠[]:=by rw [bC];exact λz=>by rw [List.map_eq_nil_iff.mp z] at q3;exact bR q3
  rw [bz q2];refine .of ?_;rw [uD (List.length_pos_iff.mpr λz=>Cg (List.append_eq_nil_iff.mp z).2),mj]
  show some _=some ((aQ ρ h).set k (.list (cat ρ (some p) (MV.Is ρ (l.dropLast++[v])))))
  rw [gh,DN];show some ((aQ ρ h).set k (.list ((pI ρ (some p)++MV.Is ρ l).set ((pI ρ (some p)++MV.Is ρ l).length - 1) (v.I ρ))))=_
  rw [DO _ _ _ Cg,bC,bC,List.map_dropLast];rfl
 |none=>
  refine λr e=>aq e λn e4 e5=>?_
  show (idx (MV.Is ρ l).length j).map (λj=>(aQ ρ h).set k (.list ((MV.Is ρ l).set j (v.I ρ))))=_
  rw [kP,e4, ← aC e5,mj];show some _=some ((aQ ρ h).set k (.list (MV.Is ρ (l.set n v))))
  rw [bC,bC,List.map_set]
theorem wU{o a:Nat}{h:aS}{c:Nat×MV}(e:o8 P o a h=some c):bK P (.obj o) a (aQ ρ h)=some (.fn c.1 c.2)∧c.2.I ρ=c.2:=aq e λx e1 e=>by
 have k:ie P o a (aQ ρ h)=(match (aR x.2 a).map (MV.I ρ) with|some m=>(vC m).map λ(b:Nat×Nat)=>kY.fn b.2 (.obj b.1)|none=>(P.dM[x.1]?).bind λce=>(fU ce.meths a).map λf=>.fn f (.obj o)):=by unfold ie;rw [wO e1, ← iP];rfl
 have e:(match aR x.2 a with|some m=>(vC m).bind λb=>some (b.2,MV.obj b.1)|none=>(P.dM[x.1]?).bind λce=>(fU ce.meths a).bind λf=>some (f,MV.obj o))=some c:=e
 suffices z:ie P o a (aQ ρ h)=some (.fn c.1 c.2)∧c.2.I ρ=c.2 from ⟨congrArg (Option.or · _) z.1,z.2⟩
 rw [k]
 cases hl:aR x.2 a with
 |some m=>rw [hl] at e;exact aq e λb e2 e3=>by rw [n9 e2, ← aC e3];exact ⟨rfl,rfl⟩
 |none=>
  rw [hl] at e;exact aq e λce e2 e=>aq e λf e3 e=>by
   rw [← aC e];refine ⟨?_,rfl⟩;show (P.dM[x.1]?).bind _=_
   rw [e2];show (fU ce.meths a).map _=_
   rw [e3];rfl
noncomputable def PZ(P:Prog)(T:Ev)(ov:MV)(a:Nat)(pos:List MV)(kn:List Nat)(kv:List MV)(h0 h:Hp):Option (MV×Hp):=(bK P ov a h0).bind λc=>d9 P T c pos kn kv h
theorem DP(K:Holds P ρ F){p:Option Nat}{l:List MV}(q:Dk F p l=true):(pI ρ p++MV.Is ρ l).length< az:=ao q λq1 q2=>by
 have h1:l.length≤1000:=c8 q1;rw [aM,kP]
 cases p with
 |none=>show 0+l.length< az;unfold az;lia
 |some i=>
  have:=K.room i (List.contains_iff_mem.mp q2);show (ρ.l i).length+l.length< az
  lia
theorem uI(K:Holds P ρ F){o:Nat}{x:MV}{h h':aS}(e:yw F o x h=some h'):oj (.append o) [x.I ρ] (aQ ρ h)=some (.none,aQ ρ h'):=aq e λq e1 e=>fQ e λr e=>by
 show (((aQ ρ h)[o]?).bind dJ).bind (λl=>if l.length< az then some (MV.none,(aQ ρ h).set o (.list (l++[x.I ρ]))) else none)=_
 rw [kO e1];show (if (pI ρ q.1++MV.Is ρ q.2).length< az then some (MV.none,(aQ ρ h).set o (.list ((pI ρ q.1++MV.Is ρ q.2)++[x.I ρ]))) else none)=_
 rw [if_pos (DP K r), ← aC e,mj];show _=some (MV.none,(aQ ρ h).set o (.list (cat ρ q.1 (MV.Is ρ (q.2++[x])))))
 rw [gh,DN,cU];rfl
theorem DQ{o:Nat}{h:aS}{r:MV×aS}(e:uC o h=some r):oj (.pop o) [] (aQ ρ h)=some (vh ρ r):=aq e λq e1 e=>aq e λv e2 e=>by
 have Cg:q.2≠[]:=λz=>by rw [z] at e2;exact no e2
 have h1:(pI ρ q.1++MV.Is ρ q.2).getLast? =some (v.I ρ):=by rw [List.getLast?_append,bC,List.getLast?_map,e2];rfl
 have h2:(pI ρ q.1++MV.Is ρ q.2).dropLast=pI ρ q.1++MV.Is ρ q.2.dropLast:=by rw [List.dropLast_append_of_ne_nil (by rw [bC];exact λz=>Cg (List.map_eq_nil_iff.mp z)),bC,bC,List.map_dropLast]
 show (((aQ ρ h)[o]?).bind dJ).bind (λl=>(some (l.length - 1)).bind λj=>(l[j]?).map λv=>(v,(aQ ρ h).set o (.list (l.eraseIdx j))))=_
 rw [kO e1];show ((pI ρ q.1++MV.Is ρ q.2)[(pI ρ q.1++MV.Is ρ q.2).length - 1]?).map _=_
 rw [← List.getLast?_eq_getElem?,h1,List.eraseIdx_length_sub_one,h2, ← gh, ← aC e];show some (v.I ρ,(aQ ρ h).set o _)=some (v.I ρ,aQ ρ (h.set o _))
 rw [mj];rfl
theorem AY{o:Nat}{h:aS}{r:MV×aS}(e:JT o h=some r):oj (.pop o) [.int 0] (aQ ρ h)=some (vh ρ r):=aq e λq e1 e=>by
 obtain ⟨p,l⟩:=q
 cases p with
 |some _=>exact no e
 |none=>cases l with
  |nil=>exact no e
  |cons v l=>
   show (((aQ ρ h)[o]?).bind dJ).bind (λl=>(l[0]?).map λv=>(v,(aQ ρ h).set o (.list (l.eraseIdx 0))))=_
   rw [kO e1, ← (show (v,h.set o (.list none l))=r from aC e)]
   show some (v.I ρ,(aQ ρ h).set o (.list _))=some (v.I ρ,aQ ρ (h.set o _))
   rw [mj];rfl
theorem sj{l:List MV}:∀{s:List Nat},aT l=some s→MV.Is ρ l=l:=by
 induction l with
 |nil=>exact λ_=>rfl
 |cons a r ih=>
  intro s e
  cases a<;>first|exact no e|skip
  exact cj (x:=aT r) e λt e4 _=>congrArg (List.cons _) (ih e4)
theorem yP(K:Holds P ρ F){p:Option Nat}{l:List MV}{r:MV}(e:Dg F p l=some r):(aT (pI ρ p++MV.Is ρ l)).bind qg=some (r.I ρ):=dK e λa h1 h2 h3=>ao h2 λh2 h4=>by have:=K.join a h1;rw [bz (p:=a.1=p) h2,fj h4] at this;rw [← h3];exact this
theorem Ic(K:Holds P ρ F){x:MV}{h:aS}{r:MV}(e:Dm F x h=some r):∃l,listOf (x.I ρ) (aQ ρ h)=some l∧(aT l).bind qg=some (r.I ρ):=by
 unfold Dm at e
 cases ho:objOf x with
 |some o=>rw [ho] at e;exact aq e λq e1 e2=>⟨_,by rw [cJ ho];exact kO e1,yP K e2⟩
 |none=>rw [ho] at e;exact aq e λl e1 e2=>⟨MV.Is ρ l,by rw [cH e1];rfl,bB e2 (λe2=>aq e2 λs e3 e4=>by rw [sj e3,e3];exact Me e4 λv q=>yJ q) (yP K (p:=none))⟩
theorem Mi{pos:List MV}{kd:MV×MV}(e:vF pos=some kd):MV.Is ρ pos=[kd.1.I ρ,kd.2.I ρ]:=by
 cases pos with
 |nil=>exact no e
 |cons a r=>
  cases r with
  |nil=>exact no e
  |cons b r=>
   cases r with
   |nil=>rw [← aC e];rfl
   |cons _ _=>exact no e
theorem Ie{o:Option MV}{d r:MV}(e:JU o d=some r):o.getD (d.I ρ)=r.I ρ:=by
 cases o with
 |none=>rw [← aC e];rfl
 |some v=>exact fQ e λq e=>by rw [← aC e];exact (pH q).symm
theorem Ig(K:Holds P ρ F)(c:kY)(pos:List MV)(h:aS):Le (JV F c pos h) (vh ρ) (oj c (MV.Is ρ pos) (aQ ρ h)):=by
 cases c with
 |fn=>exact .no
 |join s=>
  exact .gd λhs=>.bindL λx e1=>.bindL λr e2=>.of (by
   obtain ⟨l,h1,h2⟩:=Ic K e2;rw [cO e1];show (if s.isEmpty=true then (listOf (x.I ρ) (aQ ρ h)).bind λl=>(aT l).bind λs=>(qg s).map λv=>(v,aQ ρ h) else none)=_
   rw [if_pos hs,h1];exact aq h2 λs e3 e4=>by
    show (aT l).bind _=_
    rw [e3];show (qg s).map _=_
    rw [e4];rfl)
 |starts s=>exact .bindL λt e1=>.bindL λy e2=>.of (by rw [cO e1,bG e2];rfl)
 |append o=>exact .bindL λx e1=>.bindL λh' e2=>.of (by rw [cO e1];exact uI K e2)
 |pop o=>cases pos with
  |nil=>exact λr e=>DQ e
  |cons z q=>exact .gd λt=>ao t λt1 t2=>λr e=>by rw [xO t1,List.isEmpty_iff.mp t2];exact AY e
 |copy ks vs=>exact .gd λt=>.of (by rw [List.isEmpty_iff.mp (aZ.mp t).1];exact if_pos (by rw [(aZ.mp t).2];rfl))
 |get ks vs=>
  exact .bindL λkd e1=>.bindL λo e2=>.bindL λr e3=>.of (by
   rw [Mi e1];show ((gc (kd.1.I ρ) ks vs).map λo=>(o.getD (kd.2.I ρ),aQ ρ h))=_
   rw [kN e2,e2];exact congrArg (λv=>some (v,aQ ρ h)) (Ie e3))
theorem Ih{ov:MV}{a:Nat}{h0:aS}{c:kY}(e:Dl P ov a h0=some c):bK P (ov.I ρ) a (aQ ρ h0)=some c∧Tn c=none:=by
 unfold Dl at e
 cases ho:objOf ov with
 |some o=>
  rw [ho] at e;refine aq e λq e1 e2=>?_
  rw [cJ ho];have h1:=kO (ρ:=ρ) e1;have hn:ie P o a (aQ ρ h0)=none:=aq h1 λs e3 e4=>by
   unfold ie;rw [e3]
   cases s with
   |list=>rfl
   |inst=>exact no e4
  refine ⟨?_,?_⟩
  ·show (ie P o a (aQ ρ h0)).or ((((aQ ρ h0)[o]?).bind dJ).bind _)=_
   rw [hn,h1];exact e2
  ·by_cases q:(a==P.iX)=true
   ·rw [if_pos q] at e2;rw [← aC e2];rfl
   ·rw [if_neg q] at e2;rw [← aC (aW e2).2];rfl
 |none=>
  rw [ho] at e
  cases ov<;>first|exact no e|exact no ho.symm|skip
  ·refine ⟨e,?_⟩
   have e:(if (a==P.j9)=true then some (kY.join _) else if (a==P.g7)=true then some (.starts _) else none)=some c:=e
   by_cases q:(a==P.j9)=true
   ·rw [if_pos q] at e;rw [← aC e];rfl
   ·rw [if_neg q] at e;rw [← aC (aW e).2];rfl
  ·refine ⟨e,?_⟩
   have e:(if (a==P.mH)=true then some (kY.copy _ _) else if (a==P.zO)=true then some (.get _ _) else none)=some c:=e
   by_cases q:(a==P.mH)=true
   ·rw [if_pos q] at e;rw [← aC e];rfl
   ·rw [if_neg q] at e;rw [← aC (aW e).2];rfl
theorem Ii(K:Holds P ρ F){ov:MV}{a:Nat}{pos:List MV}{kv:List MV}{h0 h:aS}:Le (JW P F ov a pos h0 h) (vh ρ) (PZ P T (ov.I ρ) a (MV.Is ρ pos) [] (MV.Is ρ kv) (aQ ρ h0) (aQ ρ h)):=λr e=>
 bB e (λe=>aq e λc e1 e2=>by
  obtain ⟨h1,h2⟩:=Ih (ρ:=ρ) e1;unfold PZ;rw [h1];show d9 P T c (MV.Is ρ pos) [] (MV.Is ρ kv) (aQ ρ h)=_
  unfold d9;rw [h2];exact Ig K c pos h r e2) λe=>fQ e λq e=>aq e λt e1 e=>aq e λb e2 e=>dK e2 λf h1 h2 h3=>ao h2 λh2 h4=>ao q λq1 q2=>by
  obtain ⟨x,y,k1,k2,k3⟩:=K.starts f h1;rw [cE h2] at k1;rw [cE h4] at k2;rw [k1,cO e1, ← aC e, ← h3,k3];show (if (a==P.j9)=true then some (kY.join x) else if (a==P.g7)=true then some (kY.starts x) else none).bind _=_
  rw [if_neg (by rw [(Bool.not_eq_true' _).mp q2];exact bR),if_pos q1]
  show (strOf (t.I ρ)).map _=_
  rw [k2];rfl
theorem DR(K:Holds P ρ F)(H:qK ρ S T){ov:MV}{a:Nat}{pos:List MV}{kn:List Nat}{kv:List MV}{h0 h:aS}:Le (rX P F S ov a pos kn kv h0 h) (vh ρ) (PZ P T (ov.I ρ) a (MV.Is ρ pos) kn (MV.Is ρ kv) (aQ ρ h0) (aQ ρ h)):=by
 unfold rX
 cases hm:(objOf ov).bind λo=>o8 P o a h0 with
 |some c=>
  refine aq hm λo e1 e2=>?_
  obtain ⟨h1,h2⟩:=wU (ρ:=ρ) e2;rw [cJ e1];show Le _ _ ((bK P (.obj o) a (aQ ρ h0)).bind _)
  rw [h1];show Le _ _ ((P.fns[c.1]?).bind λfe=>(dz fe (c.2::MV.Is ρ pos) kn (MV.Is ρ kv)).bind λbs=>T.ca c.1 bs (aQ ρ h))
  have h3:c.2::MV.Is ρ pos=MV.Is ρ (c.2::pos):=congrArg (·::MV.Is ρ pos) h2.symm;rw [h3];exact .bind (i:=id) (λ_ e=>e) λfe=>.bind j4 λbs=>H.ca c.1 bs h
 |none=>
  refine .gd λq=>?_
  rw [List.isEmpty_iff.mp q];exact Ii K
theorem pR{o:ai}{a:Nat}{args:List ai}{kn:List Nat}{kv:List ai}{l:Loc}{h:Hp}:fK P T (.ay o a args kn kv) l h=(T.ev o l h).bind λov=>(bK P ov.1 a ov.2).bind λc=>(aE T args l ov.2).bind λas=>(aE T kv l as.2).bind λks=>d9 P T c as.1 kn ks.1 ks.2:=rfl
theorem Ij{ov:MV}{a:Nat}{h0:Hp}{X:Option (List MV×Hp)}{Y:Hp→Option (List MV×Hp)}{kn:List Nat}:((bK P ov a h0).bind λc=>X.bind λas=>(Y as.2).bind λks=>d9 P T c as.1 kn ks.1 ks.2)=X.bind λas=>(Y as.2).bind λks=>PZ P T ov a as.1 kn ks.1 h0 ks.2:=by
 unfold PZ
 cases bK P ov a h0 with
 |none=>
  cases X with
  |none=>rfl
  |some x=>cases hy:Y x.2 with
   |none=>show none=(Y x.2).bind _;rw [hy];rfl
   |some y=>show none=(Y x.2).bind _;rw [hy];rfl
 |some c=>rfl
theorem DS(K:Holds P ρ F){n k:Nat}(hn:n≤k)(hT:(E P k).ev=fK P T){x:ai}{l:aV}{h:aS}{r:MV×aS}(e:((Su F n x l h).bind λr=>some (r,h))=some r):fK P T x (bq ρ l) (aQ ρ h)=some (vh ρ r):=aq e λv e1 e2=>dK e1 λa h1 h2 h3=>ao h2 λh2 q4=>ao h2 λh2 q3=>ao h2 λq1 q2=>by have:=K.ev a h1 k (ah (c8 q1) hn);rw [hT,bX q4,i9 q3,kM r8 q2] at this;rw [this, ← aC e2,h3];rfl
theorem AZ(K:Holds P ρ F)(H:qK ρ S T){n k:Nat}(hn:n≤k)(hT:(E P k).ev=fK P T)(e:ai)(l:aV)(h:aS):Le (yx P F S n e l h) (vh ρ) (fK P T e (bq ρ l) (aQ ρ h)):=by
 cases e with
 |bE v=>exact .bindL λw e=>fQ e λq e=>.of (by rw [← aC e];show some (v,_)=some (v.I ρ,_);rw [pH q])
 |av v=>exact .bindL λw e=>fQ e λq e=>.of (by rw [← aC e];show some (v,_)=some (v.I ρ,_);rw [pH q])
 |aH i=>
  refine .bindL λw e=>aq e λx e1 e2=>?_
  have h1:(bq ρ l)[i]? =some (x.I ρ):=by show (l.map _)[i]? =_;rw [List.getElem?_map,e1];rfl
  refine .of ?_;show (match (bq ρ l)[i]? with|some (some v)=>some (v,aQ ρ h)|_=>none)=_
  rw [h1]
  cases x with
  |v m=>rw [← aC e2];rfl
  |u=>exact no e2
  |o _=>exact no e2
 |aJ e a=>exact .bind (H.ev e l h) λv=>.bind (pO v.1 a v.2) λr=>.of rfl
 |bin op a b=>exact .bind (H.ev a l h) λv=>.bind (H.ev b l v.2) λw=>.bind (i:=MV.I ρ) (λ_ e=>Mg K e) λr=>.of rfl
 |bS es=>exact uF K H es l h
 |fJ es=>exact yN K H es l h
 |cg e=>exact .bind (jb K H e l h) λb=>.of rfl
 |neg e=>
  refine .bind (H.ev e l h) λv=>.bindL λi e=>?_
  show Le _ _ (match v.1.I ρ with|.int i=>if aK i=true then some (MV.int (-i),aQ ρ v.2) else none|_=>none)
  rw [bD e];exact .Sv (.of rfl)
 |cmp a ops es=>exact .bind (H.ev a l h) λv=>.bind (uG K H ops v.1 es l v.2) λb=>.of rfl
 |aG c a b=>exact .bind (jb K H c l h) λt=>.ite (H.ev a l t.2) (H.ev b l t.2)
 |sub a i=>
  have nat:Le ((S.ev a l h).bind λx=>(S.ev i l x.2).bind λy=>(HL F x.1 y.1 y.2).bind λr=>some (r,y.2)) (vh ρ) (fK P T (.sub a i) (bq ρ l) (aQ ρ h)):=.bind (H.ev a l h) λv=>.bind (H.ev i l v.2) λw=>.bind (i:=MV.I ρ) (λ_ e=>DJ K e) λr=>.of rfl
  exact λr e=>bB e (λe=>DS K hn hT e) λe=>nat r e
 |slice a lo hi=>exact .bind (H.ev a l h) λv=>.bind (uE H lo l v.2) λw=>.bind (uE H hi l w.2) λz=>.bind (i:=MV.I ρ) (λ_ e=>DK K e) λr=>.of rfl
 |list mu es=>exact .bind (jM H es l h) λvs=>.gd λq=>.of (by
   show (if (MV.Is ρ vs.1).length≤az then some (iC mu (MV.Is ρ vs.1) (aQ ρ vs.2)) else none)=_
   rw [if_pos (by rw [kP];exact bz q)];exact AV)
 |tuple es=>exact .bind (jM H es l h) λvs=>.gd λq=>.of (by
   show (if (MV.Is ρ vs.1).length≤az then some (MV.tup (MV.Is ρ vs.1),aQ ρ vs.2) else none)=_
   rw [if_pos (by rw [kP];exact bz q)];rfl)
 |dict ks vs=>exact .Sv (.of rfl)
 |call f args kn kv=>exact .bind (H.ev f l h) λv=>.bind (jM H args l v.2) λw=>.bind (jM H kv l w.2) λz=>AX K H
 |ay o a args kn kv=>
  have nat:Le ((S.ev o l h).bind λov=>(o7 S args l ov.2).bind λas=>(o7 S kv l as.2).bind λks=>rX P F S ov.1 a as.1 kn ks.1 ov.2 ks.2) (vh ρ) (fK P T (.ay o a args kn kv) (bq ρ l) (aQ ρ h)):=by
   rw [pR];refine .bind (H.ev o l h) λv=>?_
   rw [Ij (Y:=λh=>aE T kv (bq ρ l) h)]
   exact .bind (jM H args l v.2) λw=>.bind (jM H kv l w.2) λz=>DR K H
  exact λr e=>bB e (λe=>DS K hn hT e) λe=>nat r e
 |comp mu elt nv tgt tup it ifs=>
  have nat:Le ((yt S it l h).bind λi=>(gQ F S elt tgt tup ifs i.1 (List.replicate nv .u++l) i.2).bind λvs=>gd (!mu&&decide (vs.1.length≤az)) (some (.lst vs.1,vs.2))) (vh ρ) (fK P T (.comp mu elt nv tgt tup it ifs) (bq ρ l) (aQ ρ h)):=by
   refine .bind (yO H it l h) λi=>?_
   have hl:List.replicate nv Option.none++bq ρ l=bq ρ (List.replicate nv .u++l):=by
    show _=List.map _ _
    rw [List.map_append,List.map_replicate];rfl
   show Le _ _ ((dc T elt tgt tup ifs (eY (MV.Is ρ i.1)) ((MV.Is ρ i.1).length+1) 0 (List.replicate nv Option.none++bq ρ l) (aQ ρ i.2)).bind λw=>if w.1.length≤az then some (iC mu w.1 w.2) else none)
   rw [hl,pM T elt tgt tup ifs (MV.Is ρ i.1) (MV.Is ρ i.1) 0 _ _ rfl];exact .bind (jc K H i.1 _ i.2) λvs=>.gd λq=>.of (by
    rw [if_pos (show (UD ρ vs).1.length≤az from ah (Nat.le_of_eq (kP _)) (bz (aZ.mp q).2))]
    cases mu with
    |true=>cases q
    |false=>rfl)
  exact λr e=>bB e (λe=>DS K hn hT e) λe=>nat r e
theorem DT(H:qK ρ S T)(t:dI)(v:MV)(l:aV)(h:aS):Le (Dn P S t v l h) (lh ρ) (store P T t (v.I ρ) (bq ρ l) (aQ ρ h)):=by
 cases t with
 |aH i=>exact .of (by show some (gV _ _ _,_)=some (bq ρ (m8 l i v),_);rw [lG])
 |aJ o a=>exact .bind (H.ev o l h) λov=>.bind (pP ov.1 a v ov.2) λh'=>.of rfl
 |sub o i=>exact .bind (H.ev o l h) λov=>.bind (H.ev i l ov.2) λiv=>.bind (pQ ov.1 iv.1 v iv.2) λh'=>.of rfl
theorem ng(H:qK ρ S T):∀(ts:List dI) (v:MV) (l:aV) (h:aS),Le (l5 P S ts v l h) (lh ρ) (storeAll P T ts (v.I ρ) (bq ρ l) (aQ ρ h))
 |[],v,l,h=>.of rfl
 |t::r,v,l,h=>.bind (DT H t v l h) λa=>ng H r v a.1 a.2
theorem Mj{β γ:Type}{j:β→γ}(a:Fl){x:Option β}{f:MV→Option β}{y:Option γ}{g:MV→Option γ}(hx:Le x j y)(hf:∀v,Le (f v) j (g (v.I ρ))):Le (match a with|.next=>x|.ret v=>f v) j (match a.I ρ with|.next=>y|.ret v=>g v):=match a with
 |.next=>hx
 |.ret v=>hf v
theorem qN(K:Holds P ρ F)(H:qK ρ S T)(c:ai)(b:List aA):∀(k:Nat) (l:aV) (h:aS),Le (rY F S c b k l h) (JY ρ) (eZ T c b k (bq ρ l) (aQ ρ h))
 |0,l,h=>.no
 |k+1,l,h=>.bind (jb K H c l h) λt=>.ite (.bind (H.ex b l t.2) λa=>Mj a.1 (qN K H c b k a.2.1 a.2.2) λv=>.of rfl) (.of rfl)
noncomputable def DU(t:dI)(l:Loc)(x:MV):Option Loc:=match t with
 |.aH i=>gu l [i] false x
 |_=>none
theorem DV(t:dI)(l:aV)(x:MV):Le (yy t l x) (bq ρ) (DU t (bq ρ l) (x.I ρ)):=by
 cases t with
 |aH i=>exact .of (congrArg some (lG l i x).symm)
 |_=>exact .no
theorem nh(H:qK ρ S T)(t:dI)(b:List aA):∀(xs:List MV) (l:aV) (h:aS),Le (l6 S t b xs l h) (JY ρ) (bT T t b (MV.Is ρ xs) (bq ρ l) (aQ ρ h))
 |[],l,h=>.of rfl
 |x::r,l,h=>by
  show Le _ _ ((DU t (bq ρ l) (x.I ρ)).bind λl=>(T.ex b l (aQ ρ h)).bind λw=>match w.1 with|.next=>bT T t b (MV.Is ρ r) w.2.1 w.2.2|.ret v=>some (.ret v,w.2.1,w.2.2))
  exact .bind (DV t l x) λl'=>.bind (H.ex b l' h) λa=>Mj a.1 (nh H t b r a.2.1 a.2.2) λv=>.of rfl
theorem Mk{l:aV}{i:Nat}{v:MV}(e:Ma l i=some v):(bq ρ l)[i]? =some (some (v.I ρ)):=aq e λx e1 e2=>by
 show (l.map _)[i]? =_
 rw [List.getElem?_map,e1]
 cases x with
 |v m=>rw [← aC e2];rfl
 |u=>exact no e2
 |o _=>exact no e2
theorem JZ(K:Holds P ρ F){n k:Nat}(hn:n≤k){st:aA}{l:aV}{h:aS}{r:Fl×aV×aS}(e:((UB F n st l h).bind λr=>some (Fl.next,r))=some r):bU P (E P k) st (bq ρ l) (aQ ρ h)=some (JY ρ r):=aq e λv e1 e2=>dK e1 λa h1 h2 h3=>ao h2 λh2 q4=>ao h2 λh2 q3=>ao h2 λq1 q2=>by have:=K.st a h1 k (ah (c8 q1) hn);rw [Ds q4,i9 q3,kM r8 q2] at this;rw [this, ← aC e2, ← h3];rfl
theorem DW(K:Holds P ρ F){k:Nat}(H:qK ρ S (E P k)){n:Nat}(hn:n≤k)(st:aA)(l:aV)(h:aS):Le (Dp P F S n st l h) (JY ρ) (bU P (E P k) st (bq ρ l) (aQ ρ h)):=by
 cases st with
 |pass=>exact .of rfl
 |fail=>exact .no
 |expr e=>exact .bind (H.ev e l h) λv=>.of rfl
 |ret eo=>cases eo with
  |none=>exact .of rfl
  |some e=>exact .bind (H.ev e l h) λv=>.of rfl
 |assign ts e=>exact .bind (H.ev e l h) λv=>.bind (ng H ts v.1 l v.2) λw=>.of rfl
 |aug t op e=>cases t with
  |aH i=>
   refine .bindL λold eo=>?_
   show Le _ _ (match (bq ρ l)[i]? with|some (some old)=>(((E P k).ev e (bq ρ l) (aQ ρ h)).bind λw=>(eF op old w.1 w.2).bind λr=>some (Fl.next,gV (bq ρ l) i r,w.2))|_=>none)
   rw [Mk eo];exact .bind (H.ev e l h) λv=>.bind (i:=MV.I ρ) (λ_ e=>wQ K e) λr=>.of (by show some (Fl.next,gV _ _ _,_)=some (Fl.next,bq ρ (m8 l i r),_);rw [lG];rfl)
  |aJ o a=>exact .bind (H.ev o l h) λov=>.bind (pO ov.1 a ov.2) λold=>.bind (H.ev e l ov.2) λv=>.bind (i:=MV.I ρ) (λ_ e=>wQ K e) λr=>.bind (pP ov.1 a r v.2) λh'=>.of rfl
  |sub o i=>exact .bind (H.ev o l h) λov=>.bind (H.ev i l ov.2) λiv=>.bind (i:=MV.I ρ) (λ_ e=>DJ K e) λold=>.bind (H.ev e l iv.2) λv=>.bind (i:=MV.I ρ) (λ_ e=>wQ K e) λr=>.bind (pQ ov.1 iv.1 r v.2) λh'=>.of rfl
 |aG c a b=>exact .bind (jb K H c l h) λt=>.ite (H.ex a l t.2) (H.ex b l t.2)
 |cN c b=>exact λr e=>bB e (λe=>JZ K hn e) λe=>qN K H c b _ l h r e
 |dW t it b=>exact λr e=>bB e (λe=>JZ K hn e) λe=>Le.bind (j:=JY ρ) (yO H it l h) (λi=>nh H t b i.1 l i.2) r e
theorem A0(K:Holds P ρ F){k:Nat}(H:qK ρ S (E P k)){n:Nat}(hn:n≤k)(b:List aA)(l:aV)(h:aS):Le (yz P F S n b l h) (JY ρ) (BN P (E P k) b (bq ρ l) (aQ ρ h)):=match b with
 |[]=>.of rfl
 |s::r=>.bind (DW K H hn s l h) λa=>Mj a.1 (H.ex r a.2.1 a.2.2) λv=>.of rfl
theorem A1(K:Holds P ρ F)(H:qK ρ S T){n k:Nat}(hn:n≤k)(hT:(E P k).ca=rt P T)(i:Nat)(bs:List MV)(h:aS):Le (yC P F S n i bs h) (vh ρ) (rt P T i (MV.Is ρ bs) (aQ ρ h)):=λr e=>by
 refine bB e (λe=>dK e λa h1 h2 h3=>ao h2 λh2 q4=>ao h2 λh2 q3=>ao h2 λq1 q2=>?_) λe=>?_
 ·rw [← hT, ← h3, ← bQ q2, ← fj q3, ← i9 q4]
  exact K.call a h1 k (ah (c8 q1) hn)
 ·refine Le.bind (i:=id) (j:=vh ρ) (λ_ e=>e) (λfe=>?_) r e
  have hl:(MV.Is ρ bs).map some++List.replicate (fe.nE - (MV.Is ρ bs).length) Option.none=bq ρ (bs.map .v++List.replicate (fe.nE - bs.length) .u):=by
   show _=List.map _ _
   rw [List.map_append,List.map_replicate,kP,bC,List.map_map,List.map_map];rfl
  show Le _ _ ((T.ex fe.body ((MV.Is ρ bs).map some++List.replicate (fe.nE - (MV.Is ρ bs).length) Option.none) (aQ ρ h)).bind λw=>match w.1 with|.next=>some (MV.none,w.2.2)|.ret v=>some (v,w.2.2))
  rw [hl];exact .bind (H.ex fe.body _ h) λa=>.of (by
   show (match a.1.I ρ with|.next=>some (MV.none,aQ ρ a.2.2)|.ret v=>some (v,aQ ρ a.2.2))=some ((JX a.1).I ρ,aQ ρ a.2.2)
   cases a.1<;>rfl)
theorem uJ(K:Holds P ρ F):∀(n k:Nat),n≤k→qK ρ (SE P F n) (E P k)
 |0,_,_=>⟨λ_ _ _=>.no,λ_ _ _=>.no,λ_ _ _=>.no⟩
 |n+1,0,h=>(Nat.not_succ_le_zero n h).elim
 |n+1,k+1,h=>by have H:=uJ K n k (Nat.le_of_succ_le_succ h);exact ⟨λe l hp=>AZ K H h rfl e l hp,λb l hp=>A0 K H (Nat.le_of_succ_le_succ h) b l hp,λf bs hp=>A1 K H h rfl f bs hp⟩
end
noncomputable def cX(P:Prog)(F:Facts)(N f:Nat)(as:List MV)(h:aS)(r:MV)(h':aS):Bool:=gP ((SE P F N).ca f as h) λx=>nH x.1 r&&Fv x.2 h'
noncomputable def kj(P:Prog)(F:Facts)(N:Nat)(b:List aA)(l:aV)(h:aS)(fl:Fl)(l':aV)(h':aS):Bool:=gP ((SE P F N).ex b l h) λx=>PG x.1 fl&&JP HE x.2.1 l'&&Fv x.2.2 h'
noncomputable def uK(P:Prog)(F:Facts)(N:Nat)(e:ai)(l:aV)(h:aS)(r:MV)(h':aS):Bool:=gP ((SE P F N).ev e l h) λx=>nH x.1 r&&Fv x.2 h'
noncomputable def Ml(P:Prog)(F:Facts)(N:Nat)(e:ai)(l:aV)(h:aS)(b:Bool)(h':aS):Bool:=gP (m7 F (SE P F N) e l h) λx=>decide (x.1=b)&&Fv x.2 h'
noncomputable def yQ(P:Prog)(F:Facts)(N:Nat)(c:ai)(b:List aA)(l:aV)(h:aS)(l':aV)(h':aS):Bool:=gP (m7 F (SE P F N) c l h) λt=>t.1&&kj P F N b l t.2 .next l' h'
section
variable {P:Prog}{ρ:d7}{F:Facts}(K:Holds P ρ F)
include K
theorem fR{N f:Nat}{as:List MV}{h:aS}{r:MV}{h':aS}(e:cX P F N f as h r h'=true){k:Nat}(hk:N≤k):(E P k).ca f (MV.Is ρ as) (aQ ρ h)=some (r.I ρ,aQ ρ h'):=bF e λx e1 e2=>ao e2 λe2 e3=>by rw [(uJ K N k hk).ca f as h x e1, ← cE e2, ← i9 e3];rfl
theorem su{N:Nat}{e:ai}{l:aV}{h:aS}{r:MV}{h':aS}(q:uK P F N e l h r h'=true){k:Nat}(hk:N≤k):(E P k).ev e (bq ρ l) (aQ ρ h)=some (r.I ρ,aQ ρ h'):=bF q λx e1 e2=>ao e2 λe2 e3=>by rw [(uJ K N k hk).ev e l h x e1, ← cE e2, ← i9 e3];rfl
theorem jd{N:Nat}{b:List aA}{l:aV}{h:aS}{fl:Fl}{l':aV}{h':aS}(q:kj P F N b l h fl l' h'=true){k:Nat}(hk:N≤k):(E P k).ex b (bq ρ l) (aQ ρ h)=some (fl.I ρ,bq ρ l',aQ ρ h'):=bF q λx e1 e2=>ao e2 λe2 e3=>ao e2 λe2 e4=>by rw [(uJ K N k hk).ex b l h x e1, ← HM e2, ← kM r8 e4, ← i9 e3];rfl
theorem DX{N:Nat}{e:ai}{l:aV}{h:aS}{b:Bool}{h':aS}(q:Ml P F N e l h b h'=true){k:Nat}(hk:N≤k):test (E P k) e (bq ρ l) (aQ ρ h)=some (b,aQ ρ h'):=bF q λx e1 e2=>ao e2 λe2 e3=>by rw [jb K (uJ K N k hk) e l h x e1, ← bz e2, ← i9 e3];rfl
theorem wW{N:Nat}{c:ai}{b:List aA}{l l':aV}{h h':aS}(q:yQ P F N c b l h l' h'=true){k:Nat}(hk:N≤k)(j:Nat):eZ (E P k) c b (j+1) (bq ρ l) (aQ ρ h)=eZ (E P k) c b j (bq ρ l') (aQ ρ h'):=
 bF q λx e1 e2=>ao e2 λe2 e3=>by
  have h1:=jb K (uJ K N k hk) c l h x e1;have h2:=jd K e3 hk;show (test (E P k) c _ _).bind (λr=>if r.1=true then ((E P k).ex b _ r.2).bind (λw=>match w.1 with|.next=>eZ (E P k) c b j w.2.1 w.2.2|.ret v=>some (.ret v,w.2.1,w.2.2)) else some (.next,_,r.2))=_
  rw [h1];show (if x.1=true then ((E P k).ex b _ (aQ ρ x.2)).bind (λw=>match w.1 with|.next=>eZ (E P k) c b j w.2.1 w.2.2|.ret v=>some (.ret v,w.2.1,w.2.2)) else some (.next,_,aQ ρ x.2))=_
  rw [e2,if_pos rfl,h2];rfl
theorem A2{N:Nat}{c:ai}{b:List aA}{l:aV}{h h':aS}(q:Ml P F N c l h false h'=true){k:Nat}(hk:N≤k)(j:Nat):eZ (E P k) c b (j+1) (bq ρ l) (aQ ρ h)=some (.next,bq ρ l,aQ ρ h'):=by
 have h1:=DX K q hk;show (test (E P k) c _ _).bind _=_
 rw [h1];rfl
theorem P0{N:Nat}{t:Nat}{b:List aA}{x:MV}{l l':aV}{h h':aS}(q:kj P F N b (m8 l t x) h .next l' h'=true){k:Nat}(hk:N≤k)(r:List MV):bT (E P k) (.aH t) b (x.I ρ::r) (bq ρ l) (aQ ρ h)=bT (E P k) (.aH t) b r (bq ρ l') (aQ ρ h'):=by
 have h2:=jd K q hk;show ((E P k).ex b (gV (bq ρ l) t (x.I ρ)) (aQ ρ h)).bind _=_
 rw [← lG,h2];rfl
end
theorem aa{α:Type}{p:α→Prop}:∀e∈([]:List α),p e:=λ_ h=>(fF h).elim
theorem af{α:Type}{p:α→Prop}{a:α}{l:List α}(h:p a)(k:∀e∈l,p e):∀e∈a::l,p e:=List.forall_mem_cons.mpr ⟨h,k⟩
theorem uL{P:Prog}{ρ:d7}:Holds P ρ {}:=⟨aa,aa,aa,aa,aa,aa,aa,aa,aa,aa,aa,aa,aa⟩
end
section
open PySem
set_option backward.match.sparseCases true
namespace L2
noncomputable def pI(i:Int):ai:=.bE (.int i)
noncomputable def pS(s:List Nat):ai:=.bE (.str s)
noncomputable def pT:ai:=.bE (.bool true)
noncomputable def pF:ai:=.bE (.bool false)
noncomputable def pN:ai:=.bE .none
noncomputable def q0:ai:=.aH 0
noncomputable def q1:ai:=.aH 1
noncomputable def q2:ai:=.aH 2
noncomputable def q3:ai:=.aH 3
noncomputable def q4:ai:=.aH 4
noncomputable def q5:ai:=.aH 5
noncomputable def q6:ai:=.aH 6
noncomputable def q7:ai:=.aH 7
noncomputable def q8:ai:=.aH 8
noncomputable def q9:ai:=.aH 9
noncomputable def DY:ai:=.aH 10
noncomputable def Ik:ai:=.aH 11
noncomputable def P1:ai:=.aH 12
noncomputable def UE:ai:=.aH 13
noncomputable def YQ:ai:=.aH 14
noncomputable def WK:ai:=.aH 15
noncomputable def Il:ai:=.aH 16
noncomputable def uM:ai:=.aH 17
noncomputable def YR:ai:=.aH 19
noncomputable def YS:ai:=.aH 20
noncomputable def YT:ai:=.aH 21
noncomputable def YU:ai:=.aH 22
noncomputable def YV:ai:=.aH 23
noncomputable def pA(n:Nat)(e:ai):aA:=.assign [.aJ q0 n] e
noncomputable def pB(n:Nat)(e:ai):aA:=.assign [.aH n] e
noncomputable def pC(n:Nat):ai:=.aJ q0 n
noncomputable def pD(n:Nat)(a:List ai)(k:List Nat)(v:List ai):ai:=.ay q0 n a k v
noncomputable def f0:cC:=⟨[0,1,2],[.none,.none],3,[pA 1 q1,pA 2 q2]⟩
noncomputable def f1:cC:=⟨[0,3,1,2],[.none,.none],4,[pA 3 q1,pA 1 q2,pA 2 q3]⟩
noncomputable def f2:cC:=⟨[0,3,4,5,1,2,6],[.none,.none,.none],7,[pA 3 q1,pA 4 q2,pA 5 q3,pA 1 q4,pA 2 q5,pA 6 q6]⟩
noncomputable def f3:cC:=⟨[0,1,2,7],[.none,.none,.none],4,[pA 1 q1,pA 2 q2,pA 7 q3]⟩
noncomputable def f4:cC:=⟨[0,1,2,8,9,10],[.none,.none,.none,.none,.none],6,[pA 1 q1,pA 2 q2,pA 8 q3,pA 9 q4,pA 10 q5]⟩
noncomputable def f5:cC:=⟨[0,1,2,8],[.none,.none,.none],4,[pA 1 q1,pA 2 q2,pA 8 q3]⟩
noncomputable def f6:cC:=⟨[0,3,4,5,11,1,2,12],[.none,.none,.none],8,[pA 3 q1,pA 4 q2,pA 5 q3,pA 11 q4,pA 1 q5,pA 2 q6,pA 12 q7]⟩
noncomputable def f7:cC:=⟨[0,13,14,15,16,17,18,19,20],[],9,[pA 13 q1,pA 14 q2,pA 15 q3,pA 16 q4,pA 17 q5,pA 18 q6,pA 19 q7,pA 20 q8]⟩
noncomputable def f8:cC:=⟨[0,21,22,23,24,25,26],[.none,.none,.none,.none,.none],7,[pA 21 q1,pA 7 pN,pA 27 (.list true []),pA 28 (pC 29),pA 30 (.list true []),pA 31 pN,pA 32 (.list true []),pA 23 pN,pA 33 (pI 0),pA 34 pF,pA 35 pF,pA 36 pF,pA 37 pF,pA 38 (pI 0),pA 39 (pI 0),pA 40 pT,pA 41 pT,pA 42 pF,pA 22 q2,pA 25 q5,pA 43 (pI 2),.aG (.bS [q3,.cmp (pI 1) [.Lt,.Lt] [q3,pI 10]]) [pA 43 q3] [],pA 44 (pI 80),.aG (.bS [q4,.cmp q4 [.Gt] [.bin .Mult (pC 43) (pI 2)]]) [pA 44 q4] [],pA 45 (pS [10]),.aG (.cmp q6 [.In] [.list false [pS [13],pS [10],pS [13,10]]]) [pA 45 q6] [],pA 46 pN,pA 47 pN,pA 48 pN,pA 49 pN,pA 12 pN]⟩
noncomputable def f9:cC:=⟨[0,31],[],2,[.expr (.ay (pC 30) 50 [q1] [] []),.cN (.cg (pD 51 [] [] [])) [pA 31 (.ay (pC 30) 52 [pI 0] [] []),.expr (pD 28 [] [] []),pA 31 pN]]⟩
noncomputable def Fw:cC:=⟨[0],[],2,[.aG (.cg (pC 30)) [.ret (some pT)] [],pB 1 (.sub (pC 30) (pI 0)),.aG (.call (.av (.bi .isinstance)) [q1,.av (.cls 6)] [] []) [.ret (some (pD 53 [pI 1] [] []))] [.aG (.call (.av (.bi .isinstance)) [q1,.av (.cls 10)] [] []) [.ret (some (pD 53 [pI 2] [] []))] [.aG (.call (.av (.bi .isinstance)) [q1,.av (.cls 12)] [] []) [.ret (some (pD 53 [pI 3] [] []))] [.ret (some pF)]]]]⟩
noncomputable def J3:cC:=⟨[0,54],[],4,[pB 2 (pI 0),.dW (.aH 3) (.val (.slice (pC 30) (some (pI 1)) none)) [.aG (.call (.av (.bi .isinstance)) [q3,.tuple [.av (.cls 6),.av (.cls 2)]] [] []) [.aug (.aH 2) .Add (pI 1)] [.aG (.call (.av (.bi .isinstance)) [q3,.tuple [.av (.cls 7),.av (.cls 3)]] [] []) [.aug (.aH 2) .Sub (pI 1)] [.aG (.call (.av (.bi .isinstance)) [q3,.av (.cls 5)] [] []) [pB 2 (.neg (pI 1))] []]],.aG (.cmp q2 [.Lt] [pI 0]) [.ret (some pF)] []],.ret (some (.cmp (.call (.av (.bi .len)) [pC 30] [] []) [.Lt] [.bin .Add q1 (pI 1)]))]⟩
noncomputable def YW:cC:=⟨[0,55,56],[.bool false,.bool false],3,[.expr (.ay (pC 32) 50 [pC 23] [] []),.aG (.cmp (pC 23) [.Is] [pN]) [.aG q1 [pA 23 (pC 43)] [pA 23 (pI 0)]] [.aG (.cg q2) [.aug (.aJ q0 23) .Add (pC 43)] []]]⟩
noncomputable def YX:cC:=⟨[0],[],1,[.aG (.call (.av (.bi .isinstance)) [pC 31,.av (.cls 4)] [] []) [.expr (pD 58 [] [] []),pA 28 (pC 57)] [.fail]]⟩
noncomputable def YY:cC:=⟨[0],[],1,[.fail]⟩
noncomputable def YZ:cC:=⟨[0],[],1,[.ret (some (pD 59 [] [60] [pT]))]⟩
noncomputable def Y0:cC:=⟨[0,60],[.bool false],9,[.aG (.call (.av (.bi .isinstance)) [pC 31,.av (.cls 6)] [] []) [.aG (.bS [.fJ [.aJ (pC 31) 9,.aJ (pC 31) 10],pC 42]) [.expr (pD 64 [pS [46,46,46],pT] [] []),.expr (pD 65 [] [] [])] [],.aG (.aJ (pC 31) 9) [pB 2 (pD 66 [.aJ (pC 31) 9] [] []),.expr (pD 67 [q2] [] [])] [],pA 46 (.ay (pC 68) 62 [] [] []),.aG (.aJ (pC 31) 10) [.fail,.dW (.aH 4) (.val q3) [pB 5 (.sub (.aJ (pC 31) 10) q4),.assign [.sub (pC 46) q5] q4,pB 6 (pD 71 [q4] [] []),pB 7 (pD 72 [q5] [] []),.expr (pD 73 [q6,q7] [] [])]] [],pB 8 (.bS [q1,.cg (.aJ (pC 31) 8),.cg (pC 22),.cg (.aJ (pC 31) 9),.cg (.aJ (pC 31) 10),.cg (pD 74 [] [] [])]),.aG (.cg q8) [.expr (pD 65 [] [] []),.expr (pD 64 [pS [45,45,45],pT] [] []),.aG (pC 22) [.expr (pD 65 [] [] [])] []] [],pA 28 (pC 61)] [.aG (.call (.av (.bi .isinstance)) [pC 31,.av (.cls 5)] [] []) [.aG (pC 42) [.expr (pD 64 [pS [46,46,46],pT] [] []),.expr (pD 65 [] [] [])] [],.expr (pD 69 [] [] []),pA 28 (pC 63)] [.fail]]]⟩
noncomputable def Y3:cC:=⟨[0],[],1,[.aG (.call (.av (.bi .isinstance)) [pC 31,.av (.cls 7)] [] []) [.expr (pD 65 [] [] []),.aG (.aJ (pC 31) 8) [.expr (pD 64 [pS [46,46,46],pT] [] []),.expr (pD 65 [] [] [])] [],.expr (pD 75 [] [] []),pA 28 (pC 59)] [.fail]]⟩
noncomputable def Y4:cC:=⟨[0],[],1,[.expr (.ay (pC 27) 50 [pC 76] [] []),.expr (pD 77 [] [78] [pT])]⟩
noncomputable def Y5:cC:=⟨[0,78,79,80,81],[.bool false,.bool false,.bool false,.bool false],5,[pA 34 q1,pA 35 q2,pA 36 q3,pA 37 q4,.aG (.call (.av (.bi .isinstance)) [pC 31,.av (.cls 8)] [] []) [.expr (pD 82 [] [] [])] [.aG (.call (.av (.bi .isinstance)) [pC 31,.tuple [.av (.cls 9),.av (.cls 2)]] [] []) [.expr (pD 83 [pS [38]] [] []),.expr (pD 84 [] [] []),.aG (.call (.av (.bi .isinstance)) [pC 31,.av (.cls 9)] [] []) [.expr (pD 85 [] [] [])] [.aG (.call (.av (.bi .isinstance)) [pC 31,.av (.cls 10)] [] []) [.aG (.fJ [pC 33,pC 22,.aJ (pC 31) 6,pD 86 [] [] []]) [.expr (pD 87 [] [] [])] [.expr (pD 88 [] [] [])]] [.aG (.call (.av (.bi .isinstance)) [pC 31,.av (.cls 12)] [] []) [.aG (.fJ [pC 33,pC 22,.aJ (pC 31) 6,pD 89 [] [] []]) [.expr (pD 90 [] [] [])] [.expr (pD 91 [] [] [])]] []]]] [.fail]]]⟩
noncomputable def Y7:cC:=⟨[0],[],1,[.aG (.cmp (.aJ (pC 31) 3) [.Is] [pN]) [.fail] [],.expr (pD 83 [pS [42]] [] []),pA 28 (.ay (pC 27) 52 [] [] [])]⟩
noncomputable def Y8:cC:=⟨[0],[],1,[.expr (pD 92 [] [55] [pT]),.expr (pD 93 [] [] []),pA 23 (.ay (pC 32) 52 [] [] []),pA 28 (.ay (pC 27) 52 [] [] [])]⟩
noncomputable def Y9:cC:=⟨[0],[],1,[.expr (pD 64 [pS [91],pT] [40] [pT]),.aug (.aJ q0 33) .Add (pI 1),.expr (pD 92 [] [55] [pT]),pA 28 (pC 94)]⟩
noncomputable def Za:cC:=⟨[0],[],1,[.aG (.call (.av (.bi .isinstance)) [pC 31,.av (.cls 11)] [] []) [pA 23 (.ay (pC 32) 52 [] [] []),.aug (.aJ q0 33) .Sub (pI 1),.expr (pD 64 [pS [93],pF] [] []),pA 28 (.ay (pC 27) 52 [] [] [])] [.aG (.fJ [pC 22,.cmp (pC 39) [.Gt] [pC 44]]) [.expr (pD 65 [] [] [])] [],.expr (.ay (pC 27) 50 [pC 95] [] []),.expr (pD 77 [] [79] [pT])]]⟩
noncomputable def Zb:cC:=⟨[0],[],1,[.aG (.call (.av (.bi .isinstance)) [pC 31,.av (.cls 11)] [] []) [pA 23 (.ay (pC 32) 52 [] [] []),.aug (.aJ q0 33) .Sub (pI 1),.aG (pC 22) [.expr (pD 64 [pS [44],pF] [] []),.expr (pD 65 [] [] [])] [],.expr (pD 64 [pS [93],pF] [] []),pA 28 (.ay (pC 27) 52 [] [] [])] [.expr (pD 64 [pS [44],pF] [] []),.aG (.fJ [pC 22,.cmp (pC 39) [.Gt] [pC 44]]) [.expr (pD 65 [] [] [])] [],.expr (.ay (pC 27) 50 [pC 95] [] []),.expr (pD 77 [] [79] [pT])]]⟩
noncomputable def Zc:cC:=⟨[0],[],1,[.expr (pD 64 [pS [123],pT] [40] [pT]),.aug (.aJ q0 33) .Add (pI 1),.expr (pD 92 [] [55] [pT]),pA 28 (pC 96)]⟩
noncomputable def Zd:cC:=⟨[0],[],1,[.aG (.call (.av (.bi .isinstance)) [pC 31,.av (.cls 13)] [] []) [pA 23 (.ay (pC 32) 52 [] [] []),.aug (.aJ q0 33) .Sub (pI 1),.expr (pD 64 [pS [125],pF] [] []),pA 28 (.ay (pC 27) 52 [] [] [])] [.aG (.fJ [pC 22,.cmp (pC 39) [.Gt] [pC 44]]) [.expr (pD 65 [] [] [])] [],.aG (.bS [.cg (pC 22),pD 97 [] [] []]) [.expr (.ay (pC 27) 50 [pC 98] [] []),.expr (pD 77 [] [80,81] [pT,pT])] [.expr (pD 64 [pS [63],pT] [] []),.expr (.ay (pC 27) 50 [pC 99] [] []),.expr (pD 77 [] [80] [pT])]]]⟩
noncomputable def Ze:cC:=⟨[0],[],1,[.aG (.call (.av (.bi .isinstance)) [pC 31,.av (.cls 13)] [] []) [pA 23 (.ay (pC 32) 52 [] [] []),.aug (.aJ q0 33) .Sub (pI 1),.aG (pC 22) [.expr (pD 64 [pS [44],pF] [] []),.expr (pD 65 [] [] [])] [],.expr (pD 64 [pS [125],pF] [] []),pA 28 (.ay (pC 27) 52 [] [] [])] [.expr (pD 64 [pS [44],pF] [] []),.aG (.fJ [pC 22,.cmp (pC 39) [.Gt] [pC 44]]) [.expr (pD 65 [] [] [])] [],.aG (.bS [.cg (pC 22),pD 97 [] [] []]) [.expr (.ay (pC 27) 50 [pC 98] [] []),.expr (pD 77 [] [80,81] [pT,pT])] [.expr (pD 64 [pS [63],pT] [] []),.expr (.ay (pC 27) 50 [pC 99] [] []),.expr (pD 77 [] [80] [pT])]]]⟩
noncomputable def Zf:cC:=⟨[0],[],1,[.expr (pD 64 [pS [58],pF] [] []),.expr (.ay (pC 27) 50 [pC 100] [] []),.expr (pD 77 [] [80] [pT])]⟩
noncomputable def Zg:cC:=⟨[0],[],1,[.aG (.fJ [pC 22,.cmp (pC 39) [.Gt] [pC 44]]) [.expr (pD 65 [] [] [])] [],.expr (pD 64 [pS [58],pT] [] []),.expr (.ay (pC 27) 50 [pC 100] [] []),.expr (pD 77 [] [80] [pT])]⟩
noncomputable def Zh:cC:=⟨[0],[],2,[pB 1 (.bS [pC 36,.cg (pC 41)]),.expr (pD 92 [] [55,56] [pF,q1]),pA 28 (pC 101)]⟩
noncomputable def Zi:cC:=⟨[0],[],1,[.ret (some (pD 102 [] [60] [pT]))]⟩
noncomputable def Zj:cC:=⟨[0,60],[.bool false],2,[.aG (.bS [.cg q1,.call (.av (.bi .isinstance)) [pC 31,.av (.cls 11)] [] []]) [pA 23 (.ay (pC 32) 52 [] [] []),pA 28 (.ay (pC 27) 52 [] [] [])] [.expr (pD 65 [] [] []),.expr (pD 64 [pS [45],pT] [41] [pT]),.expr (.ay (pC 27) 50 [pC 102] [] []),.expr (pD 77 [] [79] [pT])]]⟩
noncomputable def Zk:cC:=⟨[0],[],1,[.expr (pD 92 [] [55] [pF]),pA 28 (pC 103)]⟩
noncomputable def Zl:cC:=⟨[0],[],1,[.ret (some (pD 104 [] [60] [pT]))]⟩
noncomputable def Zm:cC:=⟨[0,60],[.bool false],2,[.aG (.bS [.cg q1,.call (.av (.bi .isinstance)) [pC 31,.av (.cls 13)] [] []]) [pA 23 (.ay (pC 32) 52 [] [] []),pA 28 (.ay (pC 27) 52 [] [] [])] [.expr (pD 65 [] [] []),.aG (pD 97 [] [] []) [.expr (.ay (pC 27) 50 [pC 105] [] []),.expr (pD 77 [] [80,81] [pT,pT])] [.expr (pD 64 [pS [63],pT] [41] [pT]),.expr (.ay (pC 27) 50 [pC 106] [] []),.expr (pD 77 [] [80] [pT])]]]⟩
noncomputable def Zn:cC:=⟨[0],[],1,[.expr (pD 64 [pS [58],pF] [] []),.expr (.ay (pC 27) 50 [pC 104] [] []),.expr (pD 77 [] [80] [pT])]⟩
noncomputable def Zo:cC:=⟨[0],[],1,[.expr (pD 65 [] [] []),.expr (pD 64 [pS [58],pT] [41] [pT]),.expr (.ay (pC 27) 50 [pC 104] [] []),.expr (pD 77 [] [80] [pT])]⟩
noncomputable def Zp:cC:=⟨[0],[],1,[.ret (some (.bS [.call (.av (.bi .isinstance)) [pC 31,.av (.cls 10)] [] [],pC 30,.call (.av (.bi .isinstance)) [.sub (pC 30) (pI 0),.av (.cls 11)] [] []]))]⟩
noncomputable def Zq:cC:=⟨[0],[],1,[.ret (some (.bS [.call (.av (.bi .isinstance)) [pC 31,.av (.cls 12)] [] [],pC 30,.call (.av (.bi .isinstance)) [.sub (pC 30) (pI 0),.av (.cls 13)] [] []]))]⟩
noncomputable def Zr:cC:=⟨[0],[],2,[.aG (.fJ [.cg (.call (.av (.bi .isinstance)) [pC 31,.av (.cls 6)] [] []),.cg (pC 30)]) [.ret (some pF)] [],pB 1 (.sub (pC 30) (pI 0)),.ret (some (.bS [.call (.av (.bi .isinstance)) [q1,.av (.cls 9)] [] [],.cmp (.aJ q1 3) [.Is] [pN],.cmp (.aJ q1 4) [.Is] [pN],.aJ q1 5,.cmp (.aJ q1 11) [.Eq] [pS []]]))]⟩
noncomputable def Zs:cC:=⟨[0],[],2,[pB 1 (pI 0),.aG (.bS [.call (.av (.bi .isinstance)) [pC 31,.av (.cls 1)] [] [],.cmp (.aJ (pC 31) 3) [.IsNot] [pN]]) [.aG (.cmp (pC 47) [.Is] [pN]) [pA 47 (pD 107 [.aJ (pC 31) 3] [] [])] [],.aug (.aH 1) .Add (.call (.av (.bi .len)) [pC 47] [] [])] [],.aG (.bS [.call (.av (.bi .isinstance)) [pC 31,.tuple [.av (.cls 9),.av (.cls 2)]] [] [],.cmp (.aJ (pC 31) 4) [.IsNot] [pN]]) [.aG (.cmp (pC 48) [.Is] [pN]) [pA 48 (pD 108 [.aJ (pC 31) 4] [] [])] [],.aug (.aH 1) .Add (.call (.av (.bi .len)) [pC 48] [] [])] [],.aG (.call (.av (.bi .isinstance)) [pC 31,.av (.cls 9)] [] []) [.aG (.cmp (pC 49) [.Is] [pN]) [pA 49 (pD 109 [.aJ (pC 31) 11] [] [])] [],.aug (.aH 1) .Add (.call (.av (.bi .len)) [.aJ (pC 49) 13] [] [])] [],.ret (some (.bS [.cmp q1 [.Lt] [pI 128],.fJ [.call (.av (.bi .isinstance)) [pC 31,.av (.cls 8)] [] [],.bS [.call (.av (.bi .isinstance)) [pC 31,.av (.cls 9)] [] [],.cg (.aJ (pC 49) 14),.cg (.aJ (pC 49) 15)],pD 86 [] [] [],pD 89 [] [] []]]))]⟩
noncomputable def Zt:cC:=⟨[0,110],[],2,[.aG (.cmp (.aJ (pC 31) 3) [.Is] [pN]) [pA 47 pN,.ret none] [],.aG (.cmp (pC 47) [.Is] [pN]) [pA 47 (pD 107 [.aJ (pC 31) 3] [] [])] [],.aG (pC 47) [.expr (pD 64 [.bin .Add q1 (pC 47),pT] [] [])] [],pA 47 pN]⟩
noncomputable def Zu:cC:=⟨[0],[],2,[pB 1 (.aJ (pC 31) 4),.aG (.call (.av (.bi .isinstance)) [pC 31,.av (.cls 9)] [] []) [.aG (.cmp (pC 12) [.Is] [pN]) [pA 12 (pD 111 [] [] [])] [],.aG (.bS [.fJ [.cg (pC 22),.cmp q1 [.Is] [pN]],.fJ [.bS [.cmp (pC 12) [.Eq] [pS []],.sub (.aJ (pC 31) 5) (pI 0)],.bS [.cmp (pC 12) [.NotEq] [pS []],.sub (.aJ (pC 31) 5) (pI 1)]]]) [pA 48 pN,.ret none] [],.aG (.bS [.sub (.aJ (pC 31) 5) (pI 0),.cmp q1 [.Is] [pN]]) [pB 1 (pS [33]),pA 48 pN] []] [.aG (.bS [.fJ [.cg (pC 22),.cmp q1 [.Is] [pN]],.aJ (pC 31) 5]) [pA 48 pN,.ret none] []],.aG (.cmp q1 [.Is] [pN]) [.fail] [],.aG (.cmp (pC 48) [.Is] [pN]) [pA 48 (pD 108 [q1] [] [])] [],.aG (pC 48) [.expr (pD 64 [pC 48,pT] [] [])] [],pA 48 pN]⟩
noncomputable def Zv:cC:=⟨[0],[],1,[.aG (.cmp (pC 49) [.Is] [pN]) [pA 49 (pD 109 [.aJ (pC 31) 11] [] [])] [],.aG (.fJ [.cmp (.aJ (pC 31) 12) [.Eq] [pS [34]],pC 22]) [.ret (some (pS [34]))] [],.aG (.bS [.cg (.aJ (pC 31) 12),.sub (.aJ (pC 31) 5) (pI 0)]) [.aG (.bS [.cg (.bS [pC 37,.fJ [.aJ (pC 49) 14,.aJ (pC 49) 15]]),.fJ [.bS [pC 33,.aJ (pC 49) 16],.bS [.cg (pC 33),.aJ (pC 49) 17]]]) [.ret (some (pS []))] []] [],.aG (.bS [.aJ (pC 31) 12,.cmp (.aJ (pC 31) 12) [.In] [pS [124,62]]]) [.aG (.bS [.cg (pC 33),.cg (pC 37),.aJ (pC 49) 20]) [.ret (some (.aJ (pC 31) 12))] []] [],.aG (.fJ [.cg (.aJ (pC 31) 12),.cmp (.aJ (pC 31) 12) [.Eq] [pS [39]]]) [.aG (.bS [.aJ (pC 49) 18,.cg (.bS [pC 37,.aJ (pC 49) 15])]) [.ret (some (pS [39]))] []] [],.ret (some (pS [34]))]⟩
noncomputable def Zw:cC:=⟨[0],[],2,[.aG (.cmp (pC 49) [.Is] [pN]) [pA 49 (pD 109 [.aJ (pC 31) 11] [] [])] [],.aG (.cmp (pC 12) [.Is] [pN]) [pA 12 (pD 111 [] [] [])] [],pB 1 (.cg (pC 37)),.aG (.cmp (pC 12) [.Eq] [pS [34]]) [.expr (pD 112 [.aJ (pC 49) 13,q1] [] [])] [.aG (.cmp (pC 12) [.Eq] [pS [39]]) [.expr (pD 113 [.aJ (pC 49) 13,q1] [] [])] [.aG (.cmp (pC 12) [.Eq] [pS [62]]) [.expr (pD 114 [.aJ (pC 49) 13] [] [])] [.aG (.cmp (pC 12) [.Eq] [pS [124]]) [.expr (pD 115 [.aJ (pC 49) 13] [] [])] [.expr (pD 116 [.aJ (pC 49) 13,q1] [] [])]]]],pA 49 pN,pA 12 pN]⟩
noncomputable def Zx:cC:=⟨[0,4],[],12,[.aG (.cg q1) [.fail] [],.aG (.cmp q1 [.Eq] [pS [33]]) [.ret (some q1)] [],pB 2 pN,pB 3 q1,.fail,.dW (.aH 5) (.val q4) [.aG (.bS [.ay q1 118 [q5] [] [],.fJ [.cmp q5 [.Eq] [pS [33]],.cmp (.call (.av (.bi .len)) [q5] [] []) [.Lt] [.call (.av (.bi .len)) [q1] [] []]]]) [pB 2 (.sub (pC 46) q5),pB 3 (.slice q1 (some (.call (.av (.bi .len)) [q5] [] [])) none)] []],pB 6 (.list false []),.assign [.aH 7,.aH 8] (pI 0),.cN (.cmp q8 [.Lt] [.call (.av (.bi .len)) [q3] [] []]) [pB 9 (.sub q3 q8),.aG (.fJ [.cmp (pS [48]) [.LtE,.LtE] [q9,pS [57]],.cmp (pS [65]) [.LtE,.LtE] [q9,pS [90]],.cmp (pS [97]) [.LtE,.LtE] [q9,pS [122]],.cmp q9 [.In] [pS [45,59,47,63,58,64,38,61,43,36,44,95,46,126,42,39,40,41,91,93]],.bS [.cmp q9 [.Eq] [pS [33]],.cmp q2 [.NotEq] [pS [33]]]]) [.aug (.aH 8) .Add (pI 1)] [.aG (.cmp q7 [.Lt] [q8]) [.expr (.ay q6 50 [.slice q3 (some q7) (some q8)] [] [])] [],.assign [.aH 7,.aH 8] (.bin .Add q8 (pI 1)),pB 10 (.ay q9 119 [pS [117,116,102,45,56]] [] []),.dW (.aH 9) (.val DY) [.expr (.ay q6 50 [.bin .Mod (pS [37,37,37,48,50,88]) q9] [] [])]]],.aG (.cmp q7 [.Lt] [q8]) [.expr (.ay q6 50 [.slice q3 (some q7) (some q8)] [] [])] [],pB 11 (.ay (pS []) 117 [q6] [] []),.aG q2 [.fail] [.ret (some (.bin .Mod (pS [33,60,37,115,62]) Ik))]]⟩
noncomputable def Zy:cC:=⟨[0,3],[],3,[.aG (.cg q1) [.fail] [],.dW (.aH 2) (.val q1) [.aG (.cg (.fJ [.cmp (pS [48]) [.LtE,.LtE] [q2,pS [57]],.cmp (pS [65]) [.LtE,.LtE] [q2,pS [90]],.cmp (pS [97]) [.LtE,.LtE] [q2,pS [122]],.cmp q2 [.In] [pS [45,95]]])) [.fail] []],.ret (some q1)]⟩
noncomputable def Zz:cC:=⟨[0,13],[],24,[.aG (.cg q1) [.ret (some (.call (.av (.cls 14)) [] [13,14,15,16,17,18,19,20] [q1,pT,pF,pF,pT,pT,pT,pF]))] [],pB 2 pF,pB 3 pF,pB 4 pF,pB 5 pF,pB 6 pF,pB 7 pF,pB 8 pF,pB 9 pF,pB 10 pF,pB 11 pF,.aG (.fJ [.ay q1 118 [pS [45,45,45]] [] [],.ay q1 118 [pS [46,46,46]] [] []]) [pB 2 pT,pB 3 pT] [],pB 12 pT,pB 13 (.fJ [.cmp (.call (.av (.bi .len)) [q1] [] []) [.Eq] [pI 1],.cmp (.sub q1 (pI 1)) [.In] [pS [0,32,9,13,10,133,8232,8233]]]),pB 14 pF,pB 15 pF,pB 16 (pI 0),.cN (.cmp Il [.Lt] [.call (.av (.bi .len)) [q1] [] []]) [pB 17 (.sub q1 Il),.aG (.cmp Il [.Eq] [pI 0]) [.aG (.cmp uM [.In] [pS [35,44,91,93,123,125,38,42,33,124,62,39,34,37,64,96]]) [pB 3 pT,pB 2 pT] [],.aG (.cmp uM [.In] [pS [63,58]]) [pB 3 pT,.aG UE [pB 2 pT] []] [],.aG (.bS [.cmp uM [.Eq] [pS [45]],UE]) [pB 3 pT,pB 2 pT] []] [.aG (.cmp uM [.In] [pS [44,63,91,93,123,125]]) [pB 3 pT] [],.aG (.cmp uM [.Eq] [pS [58]]) [pB 3 pT,.aG UE [pB 2 pT] []] [],.aG (.bS [.cmp uM [.Eq] [pS [35]],P1]) [pB 3 pT,pB 2 pT] []],.aG (.cmp uM [.In] [pS [10,133,8232,8233]]) [pB 4 pT] [],.aG (.cg (.fJ [.cmp uM [.Eq] [pS [10]],.cmp (pS [32]) [.LtE,.LtE] [uM,pS [126]]])) [.aG (.bS [.fJ [.cmp uM [.Eq] [pS [133]],.cmp (pS [160]) [.LtE,.LtE] [uM,pS [55295]],.cmp (pS [57344]) [.LtE,.LtE] [uM,pS [65533]],.cmp (pS [65536]) [.LtE,.Lt] [uM,pS [1114111]]],.cmp uM [.NotEq] [pS [65279]]]) [pB 18 pT,.aG (.cg (pC 25)) [pB 5 pT] []] [pB 5 pT]] [],.aG (.cmp uM [.Eq] [pS [32]]) [.aG (.cmp Il [.Eq] [pI 0]) [pB 6 pT] [],.aG (.cmp Il [.Eq] [.bin .Sub (.call (.av (.bi .len)) [q1] [] []) (pI 1)]) [pB 8 pT] [],.aG WK [pB 10 pT] [],pB 14 pT,pB 15 pF] [.aG (.cmp uM [.In] [pS [10,133,8232,8233]]) [.aG (.cmp Il [.Eq] [pI 0]) [pB 7 pT] [],.aG (.cmp Il [.Eq] [.bin .Sub (.call (.av (.bi .len)) [q1] [] []) (pI 1)]) [pB 9 pT] [],.aG YQ [pB 11 pT] [],pB 14 pF,pB 15 pT] [pB 14 pF,pB 15 pF]],.aug (.aH 16) .Add (pI 1),pB 12 (.cmp uM [.In] [pS [0,32,9,13,10,133,8232,8233]]),pB 13 (.fJ [.cmp (.bin .Add Il (pI 1)) [.GtE] [.call (.av (.bi .len)) [q1] [] []],.cmp (.sub q1 (.bin .Add Il (pI 1))) [.In] [pS [0,32,9,13,10,133,8232,8233]]])],pB 19 pT,pB 20 pT,pB 21 pT,pB 22 pT,pB 23 pT,.aG (.fJ [q6,q7,q8,q9]) [.assign [.aH 19,.aH 20] pF] [],.aG q8 [pB 23 pF] [],.aG DY [.assign [.aH 19,.aH 20,.aH 21] pF] [],.aG (.fJ [Ik,q5]) [.assign [.aH 19,.aH 20,.aH 21,.aH 23] pF] [],.aG q4 [.assign [.aH 19,.aH 20] pF] [],.aG q3 [pB 19 pF] [],.aG q2 [pB 20 pF] [],.ret (some (.call (.av (.cls 14)) [] [13,14,15,16,17,18,19,20] [q1,pF,q4,YR,YS,YT,YU,YV]))]⟩
noncomputable def ZA:cC:=⟨[0],[],1,[.pass]⟩
noncomputable def ZC:cC:=⟨[0],[],1,[.pass]⟩
noncomputable def ZD:cC:=⟨[0],[],1,[.expr (pD 75 [] [] [])]⟩
noncomputable def ZE:cC:=⟨[0,110,120,40,41],[.bool false,.bool false],6,[.aG (.fJ [pC 40,.cg q2]) [pB 5 q1] [pB 5 (.bin .Add (pS [32]) q1)],pA 40 q3,pA 41 (.bS [pC 41,q4]),.aug (.aJ q0 39) .Add (.call (.av (.bi .len)) [q5] [] []),pA 42 pF,.expr (.ay (pC 21) 121 [q5] [] [])]⟩
noncomputable def ZF:cC:=⟨[0],[],3,[pB 1 (.fJ [pC 23,pI 0]),.aG (.fJ [.cg (pC 41),.cmp (pC 39) [.Gt] [q1],.bS [.cmp (pC 39) [.Eq] [q1],.cg (pC 40)]]) [.expr (pD 122 [] [] [])] [],.aG (.cmp (pC 39) [.Lt] [q1]) [pA 40 pT,pB 2 (.bin .Mult (pS [32]) (.bin .Sub q1 (pC 39))),pA 39 q1,.expr (.ay (pC 21) 121 [q2] [] [])] []]⟩
noncomputable def ZG:cC:=⟨[0,123],[.none],2,[.aG (.cmp q1 [.Is] [pN]) [pB 1 (pC 45)] [],pA 40 pT,pA 41 pT,.aug (.aJ q0 38) .Add (pI 1),pA 39 (pI 0),.expr (.ay (pC 21) 121 [q1] [] [])]⟩
noncomputable def WL:cC:=⟨[0,124,125],[.bool true],10,[.expr (pD 64 [pS [39],pT] [] []),pB 3 pF,pB 4 pF,.assign [.aH 5,.aH 6] (pI 0),.cN (.cmp q6 [.LtE] [.call (.av (.bi .len)) [q1] [] []]) [pB 7 pN,.aG (.cmp q6 [.Lt] [.call (.av (.bi .len)) [q1] [] []]) [pB 7 (.sub q1 q6)] [],.aG q3 [.aG (.fJ [.cmp q7 [.Is] [pN],.cmp q7 [.NotEq] [pS [32]]]) [.aG (.bS [.cmp (.bin .Add q5 (pI 1)) [.Eq] [q6],.cmp (pC 39) [.Gt] [pC 44],q2,.cmp q5 [.NotEq] [pI 0],.cmp q6 [.NotEq] [.call (.av (.bi .len)) [q1] [] []]]) [.expr (pD 65 [] [] [])] [pB 8 (.slice q1 (some q5) (some q6)),.aug (.aJ q0 39) .Add (.call (.av (.bi .len)) [q8] [] []),.expr (.ay (pC 21) 121 [q8] [] [])],pB 5 q6] []] [.aG q4 [.aG (.fJ [.cmp q7 [.Is] [pN],.cmp q7 [.NotIn] [pS [10,133,8232,8233]]]) [.aG (.cmp (.sub q1 q5) [.Eq] [pS [10]]) [.expr (pD 122 [] [] [])] [],.dW (.aH 9) (.val (.slice q1 (some q5) (some q6))) [.aG (.cmp q9 [.Eq] [pS [10]]) [.expr (pD 122 [] [] [])] [.expr (pD 122 [q9] [] [])]],.expr (pD 65 [] [] []),pB 5 q6] []] [.aG (.fJ [.cmp q7 [.Is] [pN],.cmp q7 [.In] [pS [32,10,133,8232,8233]],.cmp q7 [.Eq] [pS [39]]]) [.aG (.cmp q5 [.Lt] [q6]) [pB 8 (.slice q1 (some q5) (some q6)),.aug (.aJ q0 39) .Add (.call (.av (.bi .len)) [q8] [] []),.expr (.ay (pC 21) 121 [q8] [] []),pB 5 q6] []] []]],.aG (.cmp q7 [.Eq] [pS [39]]) [pB 8 (pS [39,39]),.aug (.aJ q0 39) .Add (pI 2),.expr (.ay (pC 21) 121 [q8] [] []),pB 5 (.bin .Add q6 (pI 1))] [],.aG (.cmp q7 [.IsNot] [pN]) [pB 3 (.cmp q7 [.Eq] [pS [32]]),pB 4 (.cmp q7 [.In] [pS [10,133,8232,8233]])] [],.aug (.aH 6) .Add (pI 1)],.expr (pD 64 [pS [39],pF] [] [])]⟩
noncomputable def WM:cC:=⟨[0,124,125],[.bool true],7,[.expr (pD 64 [pS [34],pT] [] []),.assign [.aH 3,.aH 4] (pI 0),.cN (.cmp q4 [.LtE] [.call (.av (.bi .len)) [q1] [] []]) [pB 5 pN,.aG (.cmp q4 [.Lt] [.call (.av (.bi .len)) [q1] [] []]) [pB 5 (.sub q1 q4)] [],.aG (.fJ [.cmp q5 [.Is] [pN],.cmp q5 [.In] [pS [34,92,133,8232,8233,65279]],.cg (.fJ [.cmp (pS [32]) [.LtE,.LtE] [q5,pS [126]],.bS [pC 25,.fJ [.cmp (pS [160]) [.LtE,.LtE] [q5,pS [55295]],.cmp (pS [57344]) [.LtE,.LtE] [q5,pS [65533]]]]])]) [.aG (.cmp q3 [.Lt] [q4]) [pB 6 (.slice q1 (some q3) (some q4)),.aug (.aJ q0 39) .Add (.call (.av (.bi .len)) [q6] [] []),.expr (.ay (pC 21) 121 [q6] [] []),pB 3 q4] [],.aG (.cmp q5 [.IsNot] [pN]) [.aG (.cmp q5 [.In] [pC 126]) [pB 6 (.bin .Add (pS [92]) (.sub (pC 126) q5))] [.aG (.cmp q5 [.LtE] [pS [255]]) [pB 6 (.bin .Mod (pS [92,120,37,48,50,88]) (.call (.av (.bi .ord)) [q5] [] []))] [.aG (.cmp q5 [.LtE] [pS [65535]]) [pB 6 (.bin .Mod (pS [92,117,37,48,52,88]) (.call (.av (.bi .ord)) [q5] [] []))] [pB 6 (.bin .Mod (pS [92,85,37,48,56,88]) (.call (.av (.bi .ord)) [q5] [] []))]]],.aug (.aJ q0 39) .Add (.call (.av (.bi .len)) [q6] [] []),.expr (.ay (pC 21) 121 [q6] [] []),pB 3 (.bin .Add q4 (pI 1))] []] [],.aG (.bS [.cmp (pI 0) [.Lt,.Lt] [q4,.bin .Sub (.call (.av (.bi .len)) [q1] [] []) (pI 1)],.fJ [.cmp q5 [.Eq] [pS [32]],.cmp q3 [.GtE] [q4]],.cmp (.bin .Add (pC 39) (.bin .Sub q4 q3)) [.Gt] [pC 44],q2]) [pB 6 (.bin .Add (.slice q1 (some q3) (some q4)) (pS [92])),.aG (.cmp q3 [.Lt] [q4]) [pB 3 q4] [],.aug (.aJ q0 39) .Add (.call (.av (.bi .len)) [q6] [] []),.expr (.ay (pC 21) 121 [q6] [] []),.expr (pD 65 [] [] []),pA 40 pF,pA 41 pF,.aG (.cmp (.sub q1 q3) [.Eq] [pS [32]]) [pB 6 (pS [92]),.aug (.aJ q0 39) .Add (.call (.av (.bi .len)) [q6] [] []),.expr (.ay (pC 21) 121 [q6] [] [])] []] [],.aug (.aH 4) .Add (pI 1)],.expr (pD 64 [pS [34],pF] [] [])]⟩
noncomputable def ZH:cC:=⟨[0,124],[],3,[pB 2 (pS []),.aG q1 [.aG (.cmp (.sub q1 (pI 0)) [.In] [pS [32,10,133,8232,8233]]) [.aug (.aH 2) .Add (.call (.av (.bi .str)) [pC 43] [] [])] [],.aG (.cmp (.sub q1 (.neg (pI 1))) [.NotIn] [pS [10,133,8232,8233]]) [.aug (.aH 2) .Add (pS [45])] [.aG (.fJ [.cmp (.call (.av (.bi .len)) [q1] [] []) [.Eq] [pI 1],.cmp (.sub q1 (.neg (pI 2))) [.In] [pS [10,133,8232,8233]]]) [.aug (.aH 2) .Add (pS [43])] []]] [],.ret (some q2)]⟩
noncomputable def ZI:cC:=⟨[0,124],[],11,[pB 2 (pD 127 [q1] [] []),.expr (pD 64 [.bin .Add (pS [62]) q2,pT] [] []),.aG (.cmp (.slice q2 (some (.neg (pI 1))) none) [.Eq] [pS [43]]) [pA 42 pT] [],.expr (pD 122 [] [] []),pB 3 pT,pB 4 pF,pB 5 pT,.assign [.aH 6,.aH 7] (pI 0),.cN (.cmp q7 [.LtE] [.call (.av (.bi .len)) [q1] [] []]) [pB 8 pN,.aG (.cmp q7 [.Lt] [.call (.av (.bi .len)) [q1] [] []]) [pB 8 (.sub q1 q7)] [],.aG q5 [.aG (.fJ [.cmp q8 [.Is] [pN],.cmp q8 [.NotIn] [pS [10,133,8232,8233]]]) [.aG (.bS [.cg q3,.cmp q8 [.IsNot] [pN],.cmp q8 [.NotEq] [pS [32]],.cmp (.sub q1 q6) [.Eq] [pS [10]]]) [.expr (pD 122 [] [] [])] [],pB 3 (.cmp q8 [.Eq] [pS [32]]),.dW (.aH 9) (.val (.slice q1 (some q6) (some q7))) [.aG (.cmp q9 [.Eq] [pS [10]]) [.expr (pD 122 [] [] [])] [.expr (pD 122 [q9] [] [])]],.aG (.cmp q8 [.IsNot] [pN]) [.expr (pD 65 [] [] [])] [],pB 6 q7] []] [.aG q4 [.aG (.cmp q8 [.NotEq] [pS [32]]) [.aG (.bS [.cmp (.bin .Add q6 (pI 1)) [.Eq] [q7],.cmp (pC 39) [.Gt] [pC 44]]) [.expr (pD 65 [] [] [])] [pB 10 (.slice q1 (some q6) (some q7)),.aug (.aJ q0 39) .Add (.call (.av (.bi .len)) [DY] [] []),.expr (.ay (pC 21) 121 [DY] [] [])],pB 6 q7] []] [.aG (.fJ [.cmp q8 [.Is] [pN],.cmp q8 [.In] [pS [32,10,133,8232,8233]]]) [pB 10 (.slice q1 (some q6) (some q7)),.aug (.aJ q0 39) .Add (.call (.av (.bi .len)) [DY] [] []),.expr (.ay (pC 21) 121 [DY] [] []),.aG (.cmp q8 [.Is] [pN]) [.expr (pD 122 [] [] [])] [],pB 6 q7] []]],.aG (.cmp q8 [.IsNot] [pN]) [pB 5 (.cmp q8 [.In] [pS [10,133,8232,8233]]),pB 4 (.cmp q8 [.Eq] [pS [32]])] [],.aug (.aH 7) .Add (pI 1)]]⟩
noncomputable def ZJ:cC:=⟨[0,124],[],9,[pB 2 (pD 127 [q1] [] []),.expr (pD 64 [.bin .Add (pS [124]) q2,pT] [] []),.aG (.cmp (.slice q2 (some (.neg (pI 1))) none) [.Eq] [pS [43]]) [pA 42 pT] [],.expr (pD 122 [] [] []),pB 3 pT,.assign [.aH 4,.aH 5] (pI 0),.cN (.cmp q5 [.LtE] [.call (.av (.bi .len)) [q1] [] []]) [pB 6 pN,.aG (.cmp q5 [.Lt] [.call (.av (.bi .len)) [q1] [] []]) [pB 6 (.sub q1 q5)] [],.aG q3 [.aG (.fJ [.cmp q6 [.Is] [pN],.cmp q6 [.NotIn] [pS [10,133,8232,8233]]]) [.dW (.aH 7) (.val (.slice q1 (some q4) (some q5))) [.aG (.cmp q7 [.Eq] [pS [10]]) [.expr (pD 122 [] [] [])] [.expr (pD 122 [q7] [] [])]],.aG (.cmp q6 [.IsNot] [pN]) [.expr (pD 65 [] [] [])] [],pB 4 q5] []] [.aG (.fJ [.cmp q6 [.Is] [pN],.cmp q6 [.In] [pS [10,133,8232,8233]]]) [pB 8 (.slice q1 (some q4) (some q5)),.expr (.ay (pC 21) 121 [q8] [] []),.aG (.cmp q6 [.Is] [pN]) [.expr (pD 122 [] [] [])] [],pB 4 q5] []],.aG (.cmp q6 [.IsNot] [pN]) [pB 3 (.cmp q6 [.In] [pS [10,133,8232,8233]])] [],.aug (.aH 5) .Add (pI 1)]]⟩
noncomputable def WN:cC:=⟨[0,124,125],[.bool true],10,[.aG (pC 34) [pA 42 pT] [],.aG (.cg q1) [.ret none] [],.aG (.cg (pC 40)) [pB 3 (pS [32]),.aug (.aJ q0 39) .Add (.call (.av (.bi .len)) [q3] [] []),.expr (.ay (pC 21) 121 [q3] [] [])] [],pA 40 pF,pA 41 pF,pB 4 pF,pB 5 pF,.assign [.aH 6,.aH 7] (pI 0),.cN (.cmp q7 [.LtE] [.call (.av (.bi .len)) [q1] [] []]) [pB 8 pN,.aG (.cmp q7 [.Lt] [.call (.av (.bi .len)) [q1] [] []]) [pB 8 (.sub q1 q7)] [],.aG q4 [.aG (.cmp q8 [.NotEq] [pS [32]]) [.aG (.bS [.cmp (.bin .Add q6 (pI 1)) [.Eq] [q7],.cmp (pC 39) [.Gt] [pC 44],q2]) [.expr (pD 65 [] [] []),pA 40 pF,pA 41 pF] [pB 3 (.slice q1 (some q6) (some q7)),.aug (.aJ q0 39) .Add (.call (.av (.bi .len)) [q3] [] []),.expr (.ay (pC 21) 121 [q3] [] [])],pB 6 q7] []] [.aG q5 [.aG (.cmp q8 [.NotIn] [pS [10,133,8232,8233]]) [.aG (.cmp (.sub q1 q6) [.Eq] [pS [10]]) [.expr (pD 122 [] [] [])] [],.dW (.aH 9) (.val (.slice q1 (some q6) (some q7))) [.aG (.cmp q9 [.Eq] [pS [10]]) [.expr (pD 122 [] [] [])] [.expr (pD 122 [q9] [] [])]],.expr (pD 65 [] [] []),pA 40 pF,pA 41 pF,pB 6 q7] []] [.aG (.fJ [.cmp q8 [.Is] [pN],.cmp q8 [.In] [pS [32,10,133,8232,8233]]]) [pB 3 (.slice q1 (some q6) (some q7)),.aug (.aJ q0 39) .Add (.call (.av (.bi .len)) [q3] [] []),.expr (.ay (pC 21) 121 [q3] [] []),pB 6 q7] []]],.aG (.cmp q8 [.IsNot] [pN]) [pB 4 (.cmp q8 [.Eq] [pS [32]]),pB 5 (.cmp q8 [.In] [pS [10,133,8232,8233]])] [],.aug (.aH 7) .Add (pI 1)]]⟩
noncomputable def ZK:cC:=⟨[0],[],1,[pA 128 (.list true [])]⟩
noncomputable def ZL:cC:=⟨[0,123],[],2,[.expr (.ay (pC 128) 50 [q1] [] [])]⟩
noncomputable def ZM:cC:=⟨[0],[],1,[.ret (some (.ay (pS []) 117 [pC 128] [] []))]⟩
noncomputable def ZN:cC:=⟨[],[],0,[.ret (some (.dict [.str [34],.str [92],.str [9],.str [233]] [.str [92,34],.str [92,92],.str [92,116],.str [92,120,69,57]]))]⟩
noncomputable def ZO:cC:=⟨[129],[],1,[.ret (some (.aG q0 (pD 52 [pI 0] [] []) (pI 0)))]⟩
noncomputable def ZP:cC:=⟨[124,12],[],2,[.ret (some (.call (.av (.cls 9)) [pN,pN,.tuple [pT,pT],q0] [12] [q1]))]⟩
noncomputable def WO:cC:=⟨[130,131,132,133,134,24],[],7,[.aug (.sub q3 (.neg (pI 1))) .Add q2,.dW (.aH 6) (.range [.call (.av (.bi .len)) [q0] [] []]) [.aG (.bS [q6,.cmp (.sub q1 q6) [.Eq] [pI 1],.cmp (.call (.av (.bi .len)) [.sub q3 (.neg (pI 1))] [] []) [.Gt] [q5]]) [.expr (.ay q3 50 [.bin .Mult (pS [32]) q4] [] [])] [.aG q6 [.aug (.sub q3 (.neg (pI 1))) .Add (.bin .Mult (pS [32]) (.sub q1 q6))] []],.aug (.sub q3 (.neg (pI 1))) .Add (.ay (pS []) 117 [.comp false (.aG (.cmp q1 [.Eq] [q4]) (.bin .Add q1 q1) q1) 2 [1] false (.val (.sub q0 q6)) []] [] [])],.aug (.sub q3 (.neg (pI 1))) .Add q2]⟩
noncomputable def WQ:cC:=⟨[124,133,134,24],[],8,[.aug (.sub q1 (.neg (pI 1))) .Add (pS [34]),pB 4 pF,.dW (.aH 5) (.range [.call (.av (.bi .len)) [q0] [] []]) [pB 6 (.ay (.call (.av (.fn 64)) [] [] []) 135 [.sub q0 q5,pS []] [] []),pB 7 (.cmp (pI 0) [.Lt,.Lt] [q5,.bin .Sub (.call (.av (.bi .len)) [q0] [] []) (pI 1)]),.aG q6 [.aug (.sub q1 (.neg (pI 1))) .Add q6,.aG (.bS [q7,.cmp (.bin .Sub (.call (.av (.bi .len)) [.sub q1 (.neg (pI 1))] [] []) (pI 1)) [.Gt] [q3]]) [.aug (.sub q1 (.neg (pI 1))) .Add (pS [92]),.expr (.ay q1 50 [.bin .Add (.bin .Mult (pS [32]) q2) (.aG (.cmp (.sub q0 (.bin .Add q5 (pI 1))) [.Eq] [pS [32]]) (pS [92]) (pS []))] [] [])] []] [.aG (.bS [q7,.fJ [q4,.cmp (.sub q0 q5) [.Eq] [pS [32]]],.cmp (.call (.av (.bi .len)) [.sub q1 (.neg (pI 1))] [] []) [.Gt] [q3]]) [.aug (.sub q1 (.neg (pI 1))) .Add (pS [92]),.expr (.ay q1 50 [.bin .Add (.bin .Mult (pS [32]) q2) (.aG (.cmp (.sub q0 q5) [.Eq] [pS [32]]) (pS [92]) (pS []))] [] [])] [],.aug (.sub q1 (.neg (pI 1))) .Add (.sub q0 q5)],pB 4 (.cmp q6 [.NotEq] [pS []])],.aug (.sub q1 (.neg (pI 1))) .Add (pS [34])]⟩
noncomputable def ZQ:cC:=⟨[136,12,133,134,24,30],[],11,[pB 6 (.aG (.cmp q1 [.Eq] [pS [34]]) (.av (.lst [.str [97,98],.str [113,34,116],.str [99],.str [120,9,121],.str [233],.str [100,92],.str [100,101,102,103]])) (.av (.lst [.str [97,98],.str [99],.str [105,116,39,115],.str [100,101,102,103],.str [49,50],.str [104,45,105],.str [120,121,122]]))),pB 8 (.comp false (.sub q8 (.bin .Mod (.bin .Add q2 (.bin .Mult (pI 3) q1)) (pI 7))) 2 [1] false (.range [.bin .Add (pI 2) (.bin .Mod q0 (pI 4))]) []),pB 9 (.comp false (.aG (.cmp (.bin .Mod (.bin .Add (.bin .FloorDiv q2 (pI 2)) q1) (pI 4)) [.Eq] [pI 3]) (pI 2) (pI 1)) 2 [1] false (.range [.call (.av (.bi .len)) [q8] [] []]) []),pB 10 (.sub q8 (pI 0)),.dW (.aH 7) (.range [pI 1,.call (.av (.bi .len)) [q8] [] []]) [.aug (.aH 10) .Add (.bin .Add (.bin .Mult (pS [32]) (.sub q9 q7)) (.sub q8 q7))],.expr (.ay q5 50 [.call (.av (.fn 66)) [DY,q1] [] []] [] []),.aG (.cmp q1 [.Eq] [pS [34]]) [.expr (.call (.av (.fn 68)) [DY,q2,q3,q4] [] [])] [.expr (.call (.av (.fn 67)) [q8,q9,.fJ [q1,pS []],q2,q3,q4] [] [])]]⟩
noncomputable def WR:cC:=⟨[136,133,134,24,30],[],8,[pB 5 (.cmp (.bin .Mod q0 (pI 2)) [.Eq] [pI 1]),.expr (.ay q4 50 [.aG q5 (.call (.av (.cls 12)) [pN,pN,pT] [6] [pT]) (.call (.av (.cls 10)) [pN,pN,pT] [6] [pT])] [] []),.aug (.sub q1 (.neg (pI 1))) .Add (.aG q5 (pS [123]) (pS [91])),pB 6 (.bin .Mult (pS [97,98,99,100,101,102,103,104,105,106]) (.bin .Add (pI 1) (.bin .Mod (.bin .FloorDiv q0 (pI 2)) (pI 4)))),.dW (.aH 7) (.range [.aG q5 (.bin .Add (pI 2) (.bin .Mod (.bin .Mod q0 (pI 11)) (pI 2))) (.bin .Add (pI 3) (.bin .Mod (.bin .Mod q0 (pI 11)) (pI 3)))]) [.aG q7 [.aug (.sub q1 (.neg (pI 1))) .Add (pS [44])] [],.aG (.cmp (.call (.av (.bi .len)) [.sub q1 (.neg (pI 1))] [] []) [.Gt] [q3]) [.expr (.ay q1 50 [.bin .Mult (pS [32]) q2] [] [])] [.aG q7 [.aug (.sub q1 (.neg (pI 1))) .Add (pS [32])] []],.aG q5 [.expr (.ay q4 50 [.call (.av (.fn 66)) [pS [107],pN] [] []] [] []),.aug (.sub q1 (.neg (pI 1))) .Add (pS [107,58,32])] [],.aG (.cmp (.bin .Mod (.bin .Add q0 q7) (pI 3)) [.Eq] [pI 0]) [.expr (.ay q4 50 [.call (.av (.fn 66)) [.sub (.av (.lst [.str [97,98],.str [99],.str [105,116,39,115],.str [100,101,102,103],.str [49,50],.str [104,45,105],.str [120,121,122]])) (.bin .Mod (.bin .Add q0 q7) (pI 7)),pN] [] []] [] []),.aug (.sub q1 (.neg (pI 1))) .Add (.sub (.av (.lst [.str [97,98],.str [99],.str [105,116,39,115],.str [100,101,102,103],.str [49,50],.str [104,45,105],.str [120,121,122]])) (.bin .Mod (.bin .Add q0 q7) (pI 7)))] [.expr (.ay q4 50 [.call (.av (.cls 8)) [q6] [] []] [] []),.aug (.sub q1 (.neg (pI 1))) .Add (.bin .Add (pS [42]) q6)]],.expr (.ay q4 50 [.aG q5 (.call (.av (.cls 13)) [] [] []) (.call (.av (.cls 11)) [] [] [])] [] []),.aug (.sub q1 (.neg (pI 1))) .Add (.aG q5 (pS [125]) (pS [93]))]⟩
noncomputable def WS:cC:=⟨[136,137,39,138,133,139,24,129,30],[],13,[pB 9 (.cmp (.bin .Mod q0 (pI 2)) [.Eq] [pI 1]),.expr (.ay q8 50 [.aG q9 (.call (.av (.cls 12)) [pN,pN,pT] [] []) (.call (.av (.cls 10)) [pN,pN,pT] [] [])] [] []),.dW (.aH 10) (.range [.bin .Add (pI 1) (.bin .Mod (.bin .FloorDiv q0 (pI 2)) (.aG q1 (pI 3) (pI 2)))]) [.aG (.fJ [DY,.cg q3]) [.expr (.ay q4 50 [.bin .Mult (pS [32]) q2] [] [])] [],.aug (.sub q4 (.neg (pI 1))) .Add (.aG q9 (pS [107,58]) (pS [45])),.aG q9 [.expr (.ay q8 50 [.call (.av (.fn 66)) [pS [107],pN] [] []] [] [])] [],pB 11 (.call (.av (.fn 65)) [q7] [] []),.aG (.bS [.cmp (.bin .Mod Ik (pI 5)) [.Eq] [pI 4],q1]) [pB 12 (.call (.av (.fn 65)) [q7] [] []),.aG q9 [.expr (.call (.av (.fn 71)) [P1,pF,.bin .Add q2 (.aG (.cmp (.bin .Mod P1 (pI 2)) [.Eq] [pI 1]) q5 (pI 0)),pF,q4,q5,q6,q7,q8] [] [])] [.aug (.sub q4 (.neg (pI 1))) .Add (.bin .Mult (pS [32]) (.bin .Sub q5 (pI 1))),.expr (.call (.av (.fn 71)) [P1,pF,.bin .Add q2 q5,pT,q4,q5,q6,q7,q8] [] [])]] [.aug (.sub q4 (.neg (pI 1))) .Add (pS [32]),.aG (.cmp (.bin .Mod Ik (pI 5)) [.Eq] [pI 0]) [.expr (.call (.av (.fn 70)) [Ik,q4,.bin .Add q2 q5,q6,q8] [] [])] [.expr (.call (.av (.fn 69)) [Ik,.sub (.list false [pN,pN,pS [39],pS [34],pN]) (.bin .Mod Ik (pI 5)),q4,.bin .Add q2 q5,q6,q8] [] [])]]],.expr (.ay q8 50 [.aG q9 (.call (.av (.cls 13)) [] [] []) (.call (.av (.cls 11)) [] [] [])] [] [])]⟩
noncomputable def P4:cC:=⟨[140],[],14,[pB 0 (.slice q0 none (some (pI 8))),pB 1 pN,.aG (.cmp (.call (.av (.bi .len)) [q0] [] []) [.Gt] [pI 0]) [pB 1 (.aG (.cmp (.bin .Mod (.sub q0 (pI 0)) (pI 2)) [.Eq] [pI 0]) (.sub q0 (pI 0)) (.bin .Mod (.sub q0 (pI 0)) (pI 12)))] [],pB 2 pN,.aG (.cmp (.call (.av (.bi .len)) [q0] [] []) [.Gt] [pI 1]) [pB 2 (.aG (.cmp (.bin .Mod (.sub q0 (pI 1)) (pI 3)) [.Eq] [pI 0]) (.sub q0 (pI 1)) (.bin .Add (pI 5) (.bin .Mod (.bin .FloorDiv (.sub q0 (pI 1)) (pI 3)) (pI 24))))] [],pB 3 (.comp true (.bin .Mod q1 (pI 9240)) 2 [1] false (.val (.slice q0 (some (pI 2)) none)) []),pB 4 (.call (.av (.fn 65)) [q3] [] []),pB 5 (.sub (.list false [pN,pS [10],pS [13,10],pS [13],pS [120],pS []]) (.bin .Mod q4 (pI 6))),pB 6 (.cmp (.bin .Mod (.bin .FloorDiv q4 (pI 6)) (pI 2)) [.Eq] [pI 1]),pB 7 (.aG (.cmp q1 [.In] [.tuple [pI 2,pI 3,pI 4,pI 5,pI 6,pI 7,pI 8,pI 9]]) q1 (pI 2)),pB 8 (.aG (.bS [.cmp q2 [.IsNot] [pN],.cmp q2 [.Gt] [.bin .Mult (pI 2) q7]]) q2 (pI 80)),pB 9 (.list true []),pB 10 (.list true [.aG q6 (pS [45,45,45]) (pS [])]),.expr (.call (.av (.fn 71)) [.call (.av (.fn 65)) [q3] [] [],pT,pI 0,.cg q6,DY,q7,q8,q3,q9] [] []),pB 9 (.bin .Add (.bin .Add (.list false [.call (.av (.cls 4)) [] [] [],.call (.av (.cls 6)) [] [8] [q6]]) q9) (.list false [.call (.av (.cls 7)) [] [] [],.call (.av (.cls 5)) [] [] []])),pB 11 (.call (.av (.cls 15)) [.call (.av (.cls 16)) [] [] []] [23,24,26] [q1,q2,q5]),.dW (.aH 12) (.val q9) [.expr (.ay Ik 141 [P1] [] [])],pB 13 (.aG (.cmp q5 [.In] [.tuple [pS [13],pS [13,10]]]) q5 (pS [10])),.ret (some (.cmp (.ay (.aJ Ik 21) 124 [] [] []) [.Eq] [.ay (pS []) 117 [.comp false (.bin .Add q1 WK) 2 [1] false (.val DY) []] [] []]))]⟩
noncomputable def fns:List cC:=[f0,f1,f2,f3,f4,f5,f6,f7,f8,f9,Fw,J3,YW,YX,YY,YZ,Y0,Y3,Y4,Y5,Y7,Y8,Y9,Za,Zb,Zc,Zd,Ze,Zf,Zg,Zh,Zi,Zj,Zk,Zl,Zm,Zn,Zo,Zp,Zq,Zr,Zs,Zt,Zu,Zv,Zw,Zx,Zy,Zz,ZA,ZC,ZD,ZE,ZF,ZG,WL,WM,ZH,ZI,ZJ,WN,ZK,ZL,ZM,ZN,ZO,ZP,WO,WQ,ZQ,WR,WS,P4]
noncomputable def dM:List fZ:=[⟨true,0,[(1,1),(2,2)],[],[],[0]⟩,⟨true,1,[(3,1),(1,2),(2,3)],[],[],[1,0]⟩,⟨true,2,[(3,1),(4,2),(5,3),(1,4),(2,5),(6,6)],[],[],[2,1,0]⟩,⟨true,0,[(1,1),(2,2)],[],[],[3,0]⟩,⟨true,3,[(1,1),(2,2),(7,3)],[],[],[4,0]⟩,⟨true,0,[(1,1),(2,2)],[],[],[5,0]⟩,⟨true,4,[(1,1),(2,2),(8,3),(9,4),(10,5)],[],[],[6,0]⟩,⟨true,5,[(1,1),(2,2),(8,3)],[],[],[7,0]⟩,⟨true,1,[(3,1),(1,2),(2,3)],[],[],[8,1,0]⟩,⟨true,6,[(3,1),(4,2),(5,3),(11,4),(1,5),(2,6),(12,7)],[],[],[9,1,0]⟩,⟨true,2,[(3,1),(4,2),(5,3),(1,4),(2,5),(6,6)],[],[],[10,2,1,0]⟩,⟨true,0,[(1,1),(2,2)],[],[],[11,3,0]⟩,⟨true,2,[(3,1),(4,2),(5,3),(1,4),(2,5),(6,6)],[],[],[12,2,1,0]⟩,⟨true,0,[(1,1),(2,2)],[],[],[13,3,0]⟩,⟨true,7,[(13,1),(14,2),(15,3),(16,4),(17,5),(18,6),(19,7),(20,8)],[],[],[14]⟩,⟨false,8,[],[(142,8),(141,9),(51,10),(53,11),(92,12),(29,13),(63,14),(57,15),(59,16),(76,17),(61,18),(77,19),(82,20),(85,21),(87,22),(94,23),(95,24),(90,25),(96,26),(100,27),(98,28),(99,29),(88,30),(101,31),(102,32),(91,33),(103,34),(104,35),(105,36),(106,37),(86,38),(89,39),(74,40),(97,41),(83,42),(84,43),(111,44),(93,45),(108,46),(107,47),(109,48),(75,49),(58,50),(69,51),(64,52),(65,53),(122,54),(113,55),(112,56),(127,57),(114,58),(115,59),(116,60),(66,73),(67,74),(71,75),(72,76),(73,77)],[(68,.jk [.str [33],.str [116,97,103,58,121,97,109,108,46,111,114,103,44,50,48,48,50,58]] [.str [33],.str [33,33]]),(126,.jk [.str [0],.str [7],.str [8],.str [9],.str [10],.str [11],.str [12],.str [13],.str [27],.str [34],.str [92],.str [133],.str [160],.str [8232],.str [8233]] [.str [48],.str [97],.str [98],.str [116],.str [110],.str [118],.str [102],.str [114],.str [101],.str [34],.str [92],.str [78],.str [95],.str [76],.str [80]])],[15]⟩,⟨false,61,[],[(142,61),(121,62),(124,63)],[],[16]⟩]
noncomputable def prog:Prog:=⟨fns,dM,117,118,50,52,135,62⟩
end L2
end
section
open PySem PySem.W PyProof.Rows
noncomputable def jN:Nat→List Obj→Frag
 |_,[]=>[]
 |n,o::r=>(n,o)::jN (n+1) r
theorem sy{l:List Obj}:∀{n:Nat} {a:Nat} {o:Obj},(jN n l).lookup a=some o→n≤a∧l[a - n]? =some o:=by
 induction l with
 |nil=>exact λe=>no e
 |cons x r ih=>
  intro n a o e;have e:(match a==n with|true=>some x|false=>(jN (n+1) r).lookup a)=some o:=e
  cases q:a==n with
  |true=>rw [q] at e;rw [beq_iff_eq.mp q,Nat.sub_self];exact ⟨bf _,e⟩
  |false=>rw [q] at e;have k:=ih e;exact ⟨Nat.le_of_succ_le k.1,by rw [show a - n=(a - (n+1))+1 by have:=k.1;lia];exact k.2⟩
theorem uN{l:List Obj}{h:Heap}(e:∀b o,l[b]? =some o→o.isFreed=false→h.get? b=some o)(nf:(l.all λo=> !o.isFreed)=true):(jN 0 l).In h:=λa o q=>
 have k:l[a]? =some o:=(sy q).2
 e a o k ((Bool.not_eq_true' _).mp (List.all_eq_true.mp nf o (List.mem_of_getElem? k)))
noncomputable def je{α β:Type}(p:α→β→Bool):List α→List β→Bool
 |[],r=>r.isEmpty
 |a::l,r=>match r with
  |[]=>false
  |b::r=>p a b&&je p l r
theorem uO{α β:Type}{p:α→β→Bool}{l:List α}:∀{r:List β},je p l r=true→bV (λa b=>p a b=true) l r:=by
 induction l with
 |nil=>exact λ{r} e=>List.isEmpty_iff.mp e▸.nil
 |cons a l ih=>exact λ{r}=>match r with
  |[]=>λe=>(bR e).elim
  |b::r=>λe=>.cons (aZ.mp e).1 (ih (aZ.mp e).2)
theorem kQ{α β:Type}{p:α→β→Bool}{l:List α}{r:List β}(e:je p l r=true){i:Nat}{a:α}(h:l[i]? =some a):∃b,r[i]? =some b∧p a b=true:=(uO e).at h
noncomputable def DZ(s:List Nat):Value→Bool
 |.str t _=>t==toStr s
 |_=>false
theorem wX{s:List Nat}{v:Value}(e:DZ s v=true):∃t,v=.str (toStr s) t:=by cases v<;>first|exact (bR e).elim|exact ⟨_,by rw [eq_of_beq e]⟩
noncomputable def refOf:Value→Option Addr
 |.ref a=>some a
 |_=>none
theorem A3{v:Value}{a:Addr}(e:refOf v=some a):v=.ref a:=by cases v<;>first|exact no e|exact congrArg _ (aC e)
noncomputable def D0:Data→Option (Array Value×Nat)
 |.seq vs n=>some (vs,n)
 |_=>none
theorem qO{d:Data}{x:Array Value×Nat}(e:D0 d=some x):d=.seq x.1 x.2:=by cases d<;>first|exact no e|exact aC e▸rfl
noncomputable def fdOf:Data→Option FuncData
 |.func fd=>some fd
 |_=>none
theorem D3{d:Data}{x:FuncData}(e:fdOf d=some x):d=.func x:=by cases d<;>first|exact no e|exact congrArg _ (aC e)
noncomputable def bodyOf:FuncBody→Option (List Stmt)
 |.stmts b=>some b
 |_=>none
theorem wY{d:FuncBody}{x:List Stmt}(e:bodyOf d=some x):d=.stmts x:=by cases d<;>first|exact no e|exact congrArg _ (aC e)
noncomputable def wZ(D:bZ)(K:Frag):Nat→MV→Value→Bool
 |0,_,_=>false
 |n+1,m,v=>match m with
  |.none=>v==.none
  |.bool b=>v==.bool b
  |.str s=>decide (s.length≤az)&&DZ s v
  |.lst l=>decide (l.length≤az)&&(refOf v).any λa=>(K.lookup a).any λo=>o.cls==.type "list"&&(D0 o.data).any λx=>je (wZ D K n) l x.1.toList
  |.fn i=>(D.fa[i]?).any λa=>v==.ref a
  |.cls i=>(D.ca[i]?).any λa=>v==.ref a
  |.bi b=>v==b.val
  |_=>false
theorem yR{D:bZ}{G:Fz}{ρ:List PR}{p:MV→Value→Bool}(h:∀m v,p m v=true→VR D G ρ m v){l:List MV}{r:List Value}(e:je p l r=true):cB D G ρ l r:=by
 have k:=uO e;clear e
 induction k with
 |nil=>exact .nil
 |cons q _ ih=>exact .cons (h _ _ q) ih
theorem pU{D:bZ}{K:Frag}{G:Fz}{ρ:List PR}(hG:∀b o,K.lookup b=some o→G b o)(n:Nat):∀(m:MV) (v:Value),wZ D K n m v=true→VR D G ρ m v:=by
 induction n with
 |zero=>exact λm v e=>(bR e).elim
 |succ n ih=>
  intro m v e
  cases m with
  |none=>exact (eq_of_beq e:v=.none)
  |bool b=>exact (eq_of_beq e:v=.bool b)
  |str s=>exact ⟨bz (aZ.mp e).1,wX (aZ.mp e).2⟩
  |lst l=>have q:=aZ.mp e;obtain ⟨x,e1,e2⟩:=any_some q.2;obtain ⟨o,e3,e4⟩:=any_some e2;have q2:=aZ.mp e4;obtain ⟨y,e5,e6⟩:=any_some q2.2;exact ⟨bz q.1,x,o,y.1.toList,y.2,A3 e1,hG _ _ e3,eq_of_beq q2.1,(qO e5).trans (by rw [Array.toArray_toList]),yR ih e6⟩
  |fn i=>exact match any_some e with|⟨a,e1,e2⟩=>(⟨a,e1,eq_of_beq e2⟩:∃a,D.fa[i]? =some a∧v=.ref a)
  |cls i=>exact match any_some e with|⟨a,e1,e2⟩=>(⟨a,e1,eq_of_beq e2⟩:∃a,D.ca[i]? =some a∧v=.ref a)
  |bi b=>exact (eq_of_beq e:v=b.val)
  |_=>exact (bR e).elim
set_option tactic.hygienic true in
theorem kR{K:Frag}{h:Heap}{N:Addr}{mg:Str→Option Value}{n:Str}{v:Value}(X:K.In h)(G:h.Ns N mg)(e:nsIn K N n=some (some v)):mg n=some v:=by
 obtain ⟨o,es,ep,ho,hd,_,hf⟩:=G;unfold nsIn at e;split at e
 ·rename_i c d Fq n' sl q
  have:=X _ _ q;rw [ho] at this;cases this
  cases hd
  split at e
  ·rename_i en he
   cases e
   rw [← hf];unfold nsFind findBy;rw [← Array.find?_toList,he];rfl
  ·split at e<;>cases e
 ·cases e
noncomputable def D4(D:bZ)(K:Frag)(p:Str×MV):Bool:=match nsIn K mainGlobals p.1 with
 |some (some v)=>wZ D K 5 p.2 v
 |some none=>((nsIn K builtinsNs p.1).bind id).any λv=>wZ D K 5 p.2 v
 |none=>false
theorem D5{D:bZ}{K:Frag}{h:Heap}{mg mb:Str→Option Value}(X:K.In h)(g:h.Ns mainGlobals mg)(b:h.Ns builtinsNs mb){x:Str}{mv:MV}(q:D4 D K (x,mv)=true):
  ∃v,(mg x=some v∨(mg x=none∧mb x=some v))∧∀G ρ,(∀b o,h.get? b=some o→G b o)→VR D G ρ mv v:=by
 have q:(match nsIn K mainGlobals x with|some (some v)=>wZ D K 5 mv v|some none=>((nsIn K builtinsNs x).bind id).any λv=>wZ D K 5 mv v|none=>false)=true:=q
 cases h1:nsIn K mainGlobals x with
 |none=>rw [h1] at q;exact (bR q).elim
 |some o=>cases o with
  |some v=>rw [h1] at q;exact ⟨v,.inl (kR X g h1),λG ρ hG=>pU (λb o e=>hG b o (X _ _ e)) _ _ _ q⟩
  |none=>rw [h1] at q;obtain ⟨v,h2,q⟩:=any_some q;obtain ⟨o,h3,h4⟩:=aL.mp h2;exact ⟨v,.inr ⟨ns_none_of X g h1,kR X b (h3.trans (congrArg some h4))⟩,λG ρ hG=>pU (λb o e=>hG b o (X _ _ e)) _ _ _ q⟩
noncomputable def D6(K:Frag)(av:List (Str×MV))(nm:List Str)(ff:List (Nat×Nat))(a:Addr):Option cC:=(K.lookup a).bind λo=>(fdOf o.data).bind λfd=>(bodyOf fd.body).bind λb=>if (fd.globals==mainGlobals&&fd.closure.isEmpty&&(fd.builtins==builtinsNs&&codeIn K fd.code fd.qualname))=true then vG av nm ff fd.params b fd.scope else none
noncomputable def WT(D:bZ)(K:Frag)(fe:cC):Value→Bool
 |.none=>fe.defs.isEmpty
 |.ref T=>(K.lookup T).any λo=>(D0 o.data).any λx=>je (wZ D [] 1) fe.defs x.1.toList
 |_=>false
noncomputable def Mm(D:bZ)(K:Frag)(fe:cC)(a:Addr):Bool:=(K.lookup a).any λo=>(fdOf o.data).any λfd=>WT D K fe fd.defaults
theorem Im{D:bZ}{K:Frag}{fe:cC}{fd:FuncData}(e:WT D K fe fd.defaults=true):z5 D K fe fd:=by
 unfold z5
 cases h:fd.defaults with
 |none=>rw [h] at e;exact .inl ⟨List.isEmpty_iff.mp e,rfl⟩
 |ref T=>rw [h] at e;obtain ⟨o,e1,e2⟩:=any_some e;obtain ⟨x,e3,e4⟩:=any_some e2;exact .inr ⟨T,o,x.1,x.2,rfl,e1,qO e3,λG ρ=>yR (pU (K:=[]) (λ_ _ q=>no q) 1) e4⟩
 |_=>rw [h] at e;exact (bR e).elim
theorem Mn{D:bZ}{K:Frag}{a:Addr}{fe:cC}(e:D6 K D.av D.nm D.ff a=some fe)(d:Mm D K fe a=true):Wn D K a fe:=by
 obtain ⟨o,e1,e⟩:=aL.mp e;obtain ⟨fd,e2,e⟩:=aL.mp e;obtain ⟨b,e3,e⟩:=aL.mp e;obtain ⟨c,e4⟩:=aW e;unfold Mm at d;rw [e1,Option.any_some,e2,Option.any_some] at d;obtain ⟨oc,od,dat,z0⟩:=o
 cases D3 e2
 have c:=aZ.mp c;have c1:=aZ.mp c.1;have c2:=aZ.mp c.2;exact ⟨oc,od,z0,fd,b,e1,wY e3,e4,eq_of_beq c1.1,List.isEmpty_iff.mp c1.2,eq_of_beq c2.1,c2.2,Im d⟩
noncomputable def jf(r:Option (Option Value))(v:Value):Bool:=r==some (some v)
noncomputable def D7(D:bZ)(K:Frag)(ex:List Nat)(C:Addr)(ce:fZ)(a:Nat)(x:Str):Bool:=takerIn K C x==some none&&(ex.contains a||match fU ce.meths a with
 |some f=>(D.fa[f]?).any λfa=>jf (findIn K (.ref C) x) (.ref fa)&&(isFn K (.ref fa)&& !copiedNames.contains x)
 |none=>(aR ce.gI a).isNone&&findIn K (.ref C) x==some none)
noncomputable def yS{α:Type}(p:Nat→α→Bool):Nat→List α→Bool
 |_,[]=>true
 |n,x::r=>p n x&&yS p (n+1) r
theorem qP{α:Type}{p:Nat→α→Bool}{l:List α}:∀{n:Nat},yS p n l=true→∀{i:Nat} {x:α},l[i]? =some x→p (n+i) x=true:=by
 induction l with
 |nil=>exact λ_ _ _ e=>no e
 |cons y l ih=>
  intro n e i;have e:=aZ.mp e;exact match i with
  |0=>λ{_} h=>aC h▸e.1
  |i+1=>λ{_} h=>Nat.add_right_comm n 1 i▸ih e.2 h
noncomputable def namesOk(D:bZ)(K:Frag)(ex:List Nat)(C:Addr)(ce:fZ):Nat→List Str→Bool:=yS (D7 D K ex C ce)
noncomputable def P5(K:Frag)(C:Addr)(sup:List Nat):Nat→List Addr→Bool:=yS λn A=>kitOne K (.ref C) (.ref A)==some (sup.contains n)
noncomputable def J4(D:bZ)(K:Frag)(C:Addr)(ce:fZ):Bool:=
 jf (findIn K (.ref C) "__getattribute__") (.builtin "object.__getattribute__")&&(findIn K (.ref C) "__getattr__"==some none)&&hasDictIn K C&&makesIn K C&&
 ((D.fa[ce.init]?).any λfi=>jf (findIn K (.ref C) "__init__") (.ref fi)&&isFn K (.ref fi))&&
 jf (findIn K (.ref C) "__setattr__") (.builtin "object.__setattr__")&&plainOver K C&&keepIn K (.ref C)
noncomputable def w4(D:bZ)(ce:fZ)(fd:FuncData)(body:List Stmt):Bool:=body.mapM (nS D.nm (fd.params.args.map (·.arg)))==some ce.fields&&(fd.params.args.map (·.arg)).all (λy=>fd.scope.names.lookup y==some .local)&&decide (ce.fields.length< 900)&&decide (ce.fields.map (·.1)).Nodup
noncomputable def P6(D:bZ)(K:Frag)(C:Addr)(p:Nat×Nat):Bool:=p.2 !=0&&(D.nm[p.1]?).any λy=>findIn K (.ref C) y==some none&&takerIn K C y==some none
noncomputable def D8(D:bZ)(K:Frag)(C:Addr)(ce:fZ):Bool:=
 plainGet K C "__class__"&&jf (findIn K (.ref C) "__class__") (.builtin "object.__class__")&&jf (specialIn K (.builtin "object.__class__") "__get__") (.builtin "getset_descriptor.__get__")&&
 (takesIn K (.builtin "object.__class__")==some true)&&(mroIn K C (.type "object")==some true)&&P5 K C ce.rm 0 D.ca&&
 ((D.fa[ce.init]?).any λfi=>(K.lookup fi).any λo=>(fdOf o.data).any λfd=>(bodyOf fd.body).any λbody=>w4 D ce fd body)&&ce.fields.all (P6 D K C)
theorem w6{D:bZ}{ce:fZ}{fd:FuncData}{body:List Stmt}(e:w4 D ce fd body=true):B7 D ce fd body:=by have c:=aZ.mp e;have c1:=aZ.mp c.1;have c2:=aZ.mp c1.1;exact ⟨eq_of_beq c2.1,λy hy=>eq_of_beq (List.all_eq_true.mp c2.2 y hy),bz c1.2,bz c.2⟩
theorem w7{D:bZ}{K:Frag}{h₀:Heap}{ex:List Nat}{C:Addr}{ce:fZ}{a:Nat}{x:Str}(e:D7 D K ex C ce a x=true)(hex:ex.contains a=true→tU D K h₀ C ce a x):takerIn K C x=some none∧tU D K h₀ C ce a x:=by
 have c:=aZ.mp e;refine ⟨eq_of_beq c.1,?_⟩;rcases Bool.or_eq_true_iff.mp c.2 with h|h
 ·exact hex h
 cases hf:fU ce.meths a with
 |some f=>
  rw [hf] at h;refine ⟨λg e=>?_,λe=>no (e.symm.trans hf),λe=>no (e.symm.trans hf)⟩
  cases hf.symm.trans e
  obtain ⟨fa,tV,h⟩:=any_some h;have h:=aZ.mp h;have h1:=aZ.mp h.2;exact ⟨fa,tV,eq_of_beq h.1,h1.1,(Bool.not_eq_true' _).mp h1.2⟩
 |none=>rw [hf] at h;have h:=aZ.mp h;exact ⟨λg e=>no (hf.symm.trans e),λ_ mv e=>no ((Option.isNone_iff_eq_none.mp h.1).symm.trans e),λ_ _=>eq_of_beq h.2⟩
theorem Io{D:bZ}{K:Frag}{h₀:Heap}{C:Addr}{ce:fZ}{ex:List Nat}(e:J4 D K C ce=true)(er:ce.isRec=true→D8 D K C ce=true)(en:ce.isRec=false→namesOk D K ex C ce 0 D.nm=true)
  (ed:ce.isRec=false→∀(a:Nat) (x:Str),ex.contains a=true→D.nm[a]? =some x→tU D K h₀ C ce a x):B8 D K h₀ C ce:=by
 have e8:=aZ.mp e;have e7:=aZ.mp e8.1;have e6:=aZ.mp e7.1;have e5:=aZ.mp e6.1;have e4:=aZ.mp e5.1;have e3:=aZ.mp e4.1;have e2:=aZ.mp e3.1;have rc:=λq=>aZ.mp (er q)
 have r7:=λq=>aZ.mp (rc q).1
 have r6:=λq=>aZ.mp (r7 q).1
 have r5:=λq=>aZ.mp (r6 q).1
 have r4:=λq=>aZ.mp (r5 q).1
 have r3:=λq=>aZ.mp (r4 q).1
 have r2:=λq=>aZ.mp (r3 q).1
 have nm:=λq (a:Nat) (x:Str) hx=>w7 (Nat.zero_add a▸qP (en q) hx) λh=>ed q a x h hx
 have fl:=λq p hp=>aZ.mp (List.all_eq_true.mp (rc q).2 p hp)
 refine ⟨eq_of_beq e2.1,eq_of_beq e2.2,e3.2,e4.2,?_,eq_of_beq e6.2,e7.2,e8.2,λq a x hx=>(nm q a x hx).1,λq a x hx=>(nm q a x hx).2,λq=>⟨(r2 q).1,eq_of_beq (r2 q).2,eq_of_beq (r3 q).2,eq_of_beq (r4 q).2,eq_of_beq (r5 q).2⟩,λq i A hA=>eq_of_beq (Nat.zero_add i▸qP (r6 q).2 hA),λq fi fd oc od z0 body h1 h2 h3=>?_,λq p hp=>?_,λq p hp=>?_⟩
 ·obtain ⟨fi,h1,h2⟩:=any_some e5.2
  have h2:=aZ.mp h2;exact ⟨fi,eq_of_beq h2.1,h1,h2.2⟩
 ·have h:=(r7 q).2
  rw [h1,Option.any_some,h2,Option.any_some] at h;have h:(bodyOf fd.body).any (λbody=>w4 D ce fd body)=true:=h
  rw [h3] at h;exact w6 h
 ·exact bne_iff_ne.mp (fl q p hp).1
 ·obtain ⟨y,h1,h2⟩:=any_some (fl q p hp).2
  have h2:=aZ.mp h2;exact ⟨y,h1,eq_of_beq h2.1,eq_of_beq h2.2⟩
noncomputable def ZR:List (List Nat):=[[115,101,108,102],
 [115,116,97,114,116,95,109,97,114,107],
 [101,110,100,95,109,97,114,107],
 [97,110,99,104,111,114],
 [116,97,103],
 [105,109,112,108,105,99,105,116],
 [102,108,111,119,95,115,116,121,108,101],
 [101,110,99,111,100,105,110,103],
 [101,120,112,108,105,99,105,116],
 [118,101,114,115,105,111,110],
 [116,97,103,115],
 [118,97,108,117,101],
 [115,116,121,108,101],
 [115,99,97,108,97,114],
 [101,109,112,116,121],
 [109,117,108,116,105,108,105,110,101],
 [97,108,108,111,119,95,102,108,111,119,95,112,108,97,105,110],
 [97,108,108,111,119,95,98,108,111,99,107,95,112,108,97,105,110],
 [97,108,108,111,119,95,115,105,110,103,108,101,95,113,117,111,116,101,100],
 [97,108,108,111,119,95,100,111,117,98,108,101,95,113,117,111,116,101,100],
 [97,108,108,111,119,95,98,108,111,99,107],
 [115,116,114,101,97,109],
 [99,97,110,111,110,105,99,97,108],
 [105,110,100,101,110,116],
 [119,105,100,116,104],
 [97,108,108,111,119,95,117,110,105,99,111,100,101],
 [108,105,110,101,95,98,114,101,97,107],
 [115,116,97,116,101,115],
 [115,116,97,116,101],
 [101,120,112,101,99,116,95,115,116,114,101,97,109,95,115,116,97,114,116],
 [101,118,101,110,116,115],
 [101,118,101,110,116],
 [105,110,100,101,110,116,115],
 [102,108,111,119,95,108,101,118,101,108],
 [114,111,111,116,95,99,111,110,116,101,120,116],
 [115,101,113,117,101,110,99,101,95,99,111,110,116,101,120,116],
 [109,97,112,112,105,110,103,95,99,111,110,116,101,120,116],
 [115,105,109,112,108,101,95,107,101,121,95,99,111,110,116,101,120,116],
 [108,105,110,101],
 [99,111,108,117,109,110],
 [119,104,105,116,101,115,112,97,99,101],
 [105,110,100,101,110,116,105,111,110],
 [111,112,101,110,95,101,110,100,101,100],
 [98,101,115,116,95,105,110,100,101,110,116],
 [98,101,115,116,95,119,105,100,116,104],
 [98,101,115,116,95,108,105,110,101,95,98,114,101,97,107],
 [116,97,103,95,112,114,101,102,105,120,101,115],
 [112,114,101,112,97,114,101,100,95,97,110,99,104,111,114],
 [112,114,101,112,97,114,101,100,95,116,97,103],
 [97,110,97,108,121,115,105,115],
 [97,112,112,101,110,100],
 [110,101,101,100,95,109,111,114,101,95,101,118,101,110,116,115],
 [112,111,112],
 [110,101,101,100,95,101,118,101,110,116,115],
 [99,111,117,110,116],
 [102,108,111,119],
 [105,110,100,101,110,116,108,101,115,115],
 [101,120,112,101,99,116,95,102,105,114,115,116,95,100,111,99,117,109,101,110,116,95,115,116,97,114,116],
 [119,114,105,116,101,95,115,116,114,101,97,109,95,115,116,97,114,116],
 [101,120,112,101,99,116,95,100,111,99,117,109,101,110,116,95,115,116,97,114,116],
 [102,105,114,115,116],
 [101,120,112,101,99,116,95,100,111,99,117,109,101,110,116,95,114,111,111,116],
 [99,111,112,121],
 [101,120,112,101,99,116,95,110,111,116,104,105,110,103],
 [119,114,105,116,101,95,105,110,100,105,99,97,116,111,114],
 [119,114,105,116,101,95,105,110,100,101,110,116],
 [112,114,101,112,97,114,101,95,118,101,114,115,105,111,110],
 [119,114,105,116,101,95,118,101,114,115,105,111,110,95,100,105,114,101,99,116,105,118,101],
 [68,69,70,65,85,76,84,95,84,65,71,95,80,82,69,70,73,88,69,83],
 [119,114,105,116,101,95,115,116,114,101,97,109,95,101,110,100],
 [107,101,121,115],
 [112,114,101,112,97,114,101,95,116,97,103,95,104,97,110,100,108,101],
 [112,114,101,112,97,114,101,95,116,97,103,95,112,114,101,102,105,120],
 [119,114,105,116,101,95,116,97,103,95,100,105,114,101,99,116,105,118,101],
 [99,104,101,99,107,95,101,109,112,116,121,95,100,111,99,117,109,101,110,116],
 [102,108,117,115,104,95,115,116,114,101,97,109],
 [101,120,112,101,99,116,95,100,111,99,117,109,101,110,116,95,101,110,100],
 [101,120,112,101,99,116,95,110,111,100,101],
 [114,111,111,116],
 [115,101,113,117,101,110,99,101],
 [109,97,112,112,105,110,103],
 [115,105,109,112,108,101,95,107,101,121],
 [101,120,112,101,99,116,95,97,108,105,97,115],
 [112,114,111,99,101,115,115,95,97,110,99,104,111,114],
 [112,114,111,99,101,115,115,95,116,97,103],
 [101,120,112,101,99,116,95,115,99,97,108,97,114],
 [99,104,101,99,107,95,101,109,112,116,121,95,115,101,113,117,101,110,99,101],
 [101,120,112,101,99,116,95,102,108,111,119,95,115,101,113,117,101,110,99,101],
 [101,120,112,101,99,116,95,98,108,111,99,107,95,115,101,113,117,101,110,99,101],
 [99,104,101,99,107,95,101,109,112,116,121,95,109,97,112,112,105,110,103],
 [101,120,112,101,99,116,95,102,108,111,119,95,109,97,112,112,105,110,103],
 [101,120,112,101,99,116,95,98,108,111,99,107,95,109,97,112,112,105,110,103],
 [105,110,99,114,101,97,115,101,95,105,110,100,101,110,116],
 [112,114,111,99,101,115,115,95,115,99,97,108,97,114],
 [101,120,112,101,99,116,95,102,105,114,115,116,95,102,108,111,119,95,115,101,113,117,101,110,99,101,95,105,116,101,109],
 [101,120,112,101,99,116,95,102,108,111,119,95,115,101,113,117,101,110,99,101,95,105,116,101,109],
 [101,120,112,101,99,116,95,102,105,114,115,116,95,102,108,111,119,95,109,97,112,112,105,110,103,95,107,101,121],
 [99,104,101,99,107,95,115,105,109,112,108,101,95,107,101,121],
 [101,120,112,101,99,116,95,102,108,111,119,95,109,97,112,112,105,110,103,95,115,105,109,112,108,101,95,118,97,108,117,101],
 [101,120,112,101,99,116,95,102,108,111,119,95,109,97,112,112,105,110,103,95,118,97,108,117,101],
 [101,120,112,101,99,116,95,102,108,111,119,95,109,97,112,112,105,110,103,95,107,101,121],
 [101,120,112,101,99,116,95,102,105,114,115,116,95,98,108,111,99,107,95,115,101,113,117,101,110,99,101,95,105,116,101,109],
 [101,120,112,101,99,116,95,98,108,111,99,107,95,115,101,113,117,101,110,99,101,95,105,116,101,109],
 [101,120,112,101,99,116,95,102,105,114,115,116,95,98,108,111,99,107,95,109,97,112,112,105,110,103,95,107,101,121],
 [101,120,112,101,99,116,95,98,108,111,99,107,95,109,97,112,112,105,110,103,95,107,101,121],
 [101,120,112,101,99,116,95,98,108,111,99,107,95,109,97,112,112,105,110,103,95,115,105,109,112,108,101,95,118,97,108,117,101],
 [101,120,112,101,99,116,95,98,108,111,99,107,95,109,97,112,112,105,110,103,95,118,97,108,117,101],
 [112,114,101,112,97,114,101,95,97,110,99,104,111,114],
 [112,114,101,112,97,114,101,95,116,97,103],
 [97,110,97,108,121,122,101,95,115,99,97,108,97,114],
 [105,110,100,105,99,97,116,111,114],
 [99,104,111,111,115,101,95,115,99,97,108,97,114,95,115,116,121,108,101],
 [119,114,105,116,101,95,100,111,117,98,108,101,95,113,117,111,116,101,100],
 [119,114,105,116,101,95,115,105,110,103,108,101,95,113,117,111,116,101,100],
 [119,114,105,116,101,95,102,111,108,100,101,100],
 [119,114,105,116,101,95,108,105,116,101,114,97,108],
 [119,114,105,116,101,95,112,108,97,105,110],
 [106,111,105,110],
 [115,116,97,114,116,115,119,105,116,104],
 [101,110,99,111,100,101],
 [110,101,101,100,95,119,104,105,116,101,115,112,97,99,101],
 [119,114,105,116,101],
 [119,114,105,116,101,95,108,105,110,101,95,98,114,101,97,107],
 [100,97,116,97],
 [116,101,120,116],
 [115,112,108,105,116],
 [69,83,67,65,80,69,95,82,69,80,76,65,67,69,77,69,78,84,83],
 [100,101,116,101,114,109,105,110,101,95,98,108,111,99,107,95,104,105,110,116,115],
 [114,111,119,115],
 [116,97,112,101],
 [119,111,114,100,115],
 [103,97,112,115],
 [113,117,111,116,101],
 [112,97,103,101],
 [112,97,100],
 [103,101,116],
 [110],
 [100,101,101,112],
 [115,101,97,116,101,100],
 [115,116,101,112],
 [115,99,114,105,112,116],
 [101,109,105,116],
 [95,95,105,110,105,116,95,95]]
noncomputable def P7:List (List Nat×MV):=[([69,118,101,110,116],.cls 0),
 ([78,111,100,101,69,118,101,110,116],.cls 1),
 ([67,111,108,108,101,99,116,105,111,110,83,116,97,114,116,69,118,101,110,116],.cls 2),
 ([67,111,108,108,101,99,116,105,111,110,69,110,100,69,118,101,110,116],.cls 3),
 ([83,116,114,101,97,109,83,116,97,114,116,69,118,101,110,116],.cls 4),
 ([83,116,114,101,97,109,69,110,100,69,118,101,110,116],.cls 5),
 ([68,111,99,117,109,101,110,116,83,116,97,114,116,69,118,101,110,116],.cls 6),
 ([68,111,99,117,109,101,110,116,69,110,100,69,118,101,110,116],.cls 7),
 ([65,108,105,97,115,69,118,101,110,116],.cls 8),
 ([83,99,97,108,97,114,69,118,101,110,116],.cls 9),
 ([83,101,113,117,101,110,99,101,83,116,97,114,116,69,118,101,110,116],.cls 10),
 ([83,101,113,117,101,110,99,101,69,110,100,69,118,101,110,116],.cls 11),
 ([77,97,112,112,105,110,103,83,116,97,114,116,69,118,101,110,116],.cls 12),
 ([77,97,112,112,105,110,103,69,110,100,69,118,101,110,116],.cls 13),
 ([83,99,97,108,97,114,65,110,97,108,121,115,105,115],.cls 14),
 ([69,109,105,116,116,101,114],.cls 15),
 ([82,111,119,115],.cls 16),
 ([95,108,97,119,95,87,79,82,68,83],.lst [.str [97,98],.str [99],.str [105,116,39,115],.str [100,101,102,103],.str [49,50],.str [104,45,105],.str [120,121,122]]),
 ([95,108,97,119,95,83,72,65,82,80],.lst [.str [97,98],.str [113,34,116],.str [99],.str [120,9,121],.str [233],.str [100,92],.str [100,101,102,103]]),
 ([95,108,97,119,95,67,79,68,69,83],.fn 64),
 ([95,108,97,119,95,110,101,120,116],.fn 65),
 ([95,108,97,119,95,118,97,108,117,101],.fn 66),
 ([95,108,97,119,95,102,105,108,108,101,100],.fn 67),
 ([95,108,97,119,95,115,104,97,114,112],.fn 68),
 ([95,108,97,119,95,116,101,120,116],.fn 69),
 ([95,108,97,119,95,102,108,111,119],.fn 70),
 ([95,108,97,119,95,98,108,111,99,107],.fn 71),
 ([108,97,119],.fn 72),
 ([108,101,110],.bi .len),
 ([105,115,105,110,115,116,97,110,99,101],.bi .isinstance),
 ([111,114,100],.bi .ord),
 ([115,116,114],.bi .str)]
noncomputable def D9:List (Nat×Nat):=[(95,22),(97,22),(99,23),(966,20),(1076,11),(1082,13),(1083,11)]
noncomputable def toS(l:List Nat):Str:=⟨l.toArray⟩
noncomputable def Mp:List Str:=ZR.map toS
noncomputable def yT:List (Str×MV):=P7.map λp=>(toS p.1,p.2)
noncomputable def Ss:List Addr:=[49,78,98,130,162,182,214,293,316,330,337,344,352,359,366,373,381,388,395,403,410,417,424,431,438,445,452,459,466,473,480,487,495,502,509,517,524,531,538,545,552,559,566,573,580,587,615,622,629,636,643,650,658,665,673,695,704,711,718,725,733,754,761,768,784,791,798,803,810,815,822,829,834]
noncomputable def ZS:List Addr:=Ss++[594,680,601,608,687]
noncomputable def NX:List Addr:=[59,81,101,113,133,145,165,185,197,217,229,241,253,265,296,736,771]
noncomputable def K1(w:World):Frag:=jN 0 (Oo w)
noncomputable def D1(w:World):bZ:=⟨pw,w,L2.prog,Mp,yT,D9,ZS,NX⟩
theorem ZT(w:World):((Oo w).all λo=> !o.isFreed)=true:=by kernel_rfl
theorem Ip(w:World):yT.all (D4 (D1 w) (K1 w))=true:=by kernel_rfl
theorem Mq(w:World):je (Mm (D1 w) (K1 w)) L2.fns Ss=true:=by kernel_rfl
theorem Iq(w:World):je (λce C=>J4 (D1 w) (K1 w) C ce) L2.dM NX=true:=by kernel_rfl
theorem Mr(w:World):Ss.mapM (D6 (K1 w) yT Mp D9)=some L2.fns:=by kernel_rfl
theorem Ir(w:World):je (λce C=> !ce.isRec||D8 (D1 w) (K1 w) C ce) L2.dM NX=true:=by kernel_rfl
theorem Iu(w:World):(L2.dM[16]?).all (λce=>namesOk (D1 w) (K1 w) [] 771 ce 0 Mp)=true:=by kernel_rfl
theorem Iv(w:World):(L2.dM[15]?).all (λce=>namesOk (D1 w) (K1 w) [68,126] 736 ce 0 Mp)=true:=by kernel_rfl
noncomputable def uP(w:World):Nat→List MV→List MV→List DictEntry
 |t,.str k::ks,.str v::vs=>{hash:=hashStr w (toStr k),key:=.str (toStr k) t,val:=.str (toStr v) (t+1)}::uP w (t+2) ks vs
 |_,_,_=>[]
noncomputable def cP:List MV→Bool
 |[]=>true
 |.str s::r=>decide (s.length≤az)&&cP r
 |_=>false
theorem gG{a:MV}{r:List MV}(e:cP (a::r)=true):∃s,a=.str s∧s.length≤az∧cP r=true:=by
 cases a with
 |str s=>exact ⟨s,rfl,bz (aZ.mp e).1,(aZ.mp e).2⟩
 |_=>exact (bR e).elim
theorem Ea{w:World}{ks:List MV}:∀{vs:List MV} {t:Nat},cP ks=true→cP vs=true→ks.length=vs.length→ks.length=(uP w t ks vs).length:=by
 induction ks with
 |nil=>exact λ_ _ _=>rfl
 |cons k ks ih=>
  intro vs t a b e
  cases vs with
  |nil=>cases e
  |cons v vs=>obtain ⟨s,rfl,_,a⟩:=gG a;obtain ⟨u,rfl,_,b⟩:=gG b;exact congrArg Nat.succ (ih a b (Nat.succ.inj e))
theorem Eb{w:World}{ks:List MV}:∀{vs:List MV} {t:Nat},cP ks=true→cP vs=true→∀(j:Nat) (k:MV) (e:DictEntry),ks[j]? =some k→(uP w t ks vs)[j]? =some e→tN w k e:=by
 induction ks with
 |nil=>exact λ_ _ _ _ _ h=>no h
 |cons x ks ih=>
  intro vs t a b j k e;obtain ⟨s,rfl,_,a⟩:=gG a
  cases vs with
  |nil=>exact λ_ h=>no h
  |cons y vs=>
   obtain ⟨u,rfl,_,b⟩:=gG b;exact match j with
   |0=>λh h'=>aC h▸aC h'▸⟨_,rfl,rfl⟩
   |j+1=>λh h'=>ih a b j k e h h'
theorem Ec{D:bZ}{G:Fz}{ρ:List PR}{w:World}{ks:List MV}:∀{vs:List MV} {t:Nat},cP ks=true→cP vs=true→ks.length=vs.length→cB D G ρ vs ((uP w t ks vs).map (·.val)):=by
 induction ks with
 |nil=>exact λ{vs}=>match vs with
  |[]=>λ_ _ _=>.nil
  |_::_=>λ_ _ e=>(Nat.succ_ne_zero _ e.symm).elim
 |cons k ks ih=>
  intro vs t a b e
  cases vs with
  |nil=>cases e
  |cons v vs=>obtain ⟨s,rfl,_,a⟩:=gG a;obtain ⟨u,rfl,hu,b⟩:=gG b;exact .cons (VR.str hu) (ih a b (Nat.succ.inj e))
theorem yU{D:bZ}{K:Frag}{a:Addr}{t n:Nat}{ks vs:List MV}(ho:K.lookup a=some ⟨.type "dict",none,.dict (uP D.w t ks vs).toArray n,#[]⟩)(hs:a≠sysModules)(h:(cP ks&&cP vs&&strKeys ks&&ks.length==vs.length)=true)
  {G:Fz} {ρ:List PR} (hG:∀b o,K.lookup b=some o→G b o):VR D G ρ (.jk ks vs) (.ref a):=by
 simp only [Bool.and_eq_true] at h;obtain ⟨⟨⟨h1,h2⟩,h3⟩,h4⟩:=h;have h4:=beq_iff_eq.mp h4;exact ⟨a,_,uP D.w t ks vs,n,rfl,hs,.inl h3,hG _ _ ho,⟨rfl,rfl,rfl⟩,rfl,Ea h1 h2 h4,Eb h1 h2,Ec h1 h2 h4⟩
noncomputable def jt(ce:fZ)(a:Nat):List MV×List MV:=match aR ce.gI a with
 |some (.jk ks vs)=>(ks,vs)
 |_=>([],[])
noncomputable def e1:fZ:=(L2.dM[15]?).getD ⟨true,0,[],[],[],[]⟩
theorem P8(w:World):(K1 w).lookup 308=some ⟨.type "dict",none,.dict (uP w 633 (jt e1 68).1 (jt e1 68).2).toArray 2,#[]⟩:=by kernel_rfl
theorem P9(w:World):(K1 w).lookup 696=some ⟨.type "dict",none,.dict (uP w 1120 (jt e1 126).1 (jt e1 126).2).toArray 15,#[]⟩:=by kernel_rfl
noncomputable def Sw(K:Frag)(nm:List Str)(C:Addr)(ce:fZ)(a:Nat)(da:Addr):Bool:=match nm[a]? with
 |some x=>jf (findIn K (.ref C) x) (.ref da)&&specialIn K (.ref da) "__get__"==some none&& !copiedNames.contains x&&(fU ce.meths a).isNone
 |none=>false
theorem Qa(w:World):Sw (K1 w) Mp 736 e1 68 308=true:=by kernel_rfl
theorem Qc(w:World):Sw (K1 w) Mp 736 e1 126 696=true:=by kernel_rfl
theorem uQ{D:bZ}{K:Frag}{h₀:Heap}{C:Addr}{ce:fZ}{a:Nat}{x:Str}{da:Addr}{ks vs:List MV}(X:K.In h₀)(hx:D.nm[a]? =some x)(e:Sw K D.nm C ce a da=true)(hl:aR ce.gI a=some (.jk ks vs))
  (hv:∀(G:Fz) (ρ:List PR),(∀b o,K.lookup b=some o→G b o)→VR D G ρ (.jk ks vs) (.ref da)):tU D K h₀ C ce a x:=by
 unfold Sw at e;rw [hx] at e;have c:=aZ.mp e;have c1:=aZ.mp c.1;have c2:=aZ.mp c1.1;have hn:=Option.isNone_iff_eq_none.mp c.2;refine ⟨λf q=>no (hn.symm.trans q),λ_ mv q=>?_,λ_ q=>no (q.symm.trans hl)⟩
 cases hl.symm.trans q
 exact ⟨_,eq_of_beq c2.1,eq_of_beq c2.2,rfl,(Bool.not_eq_true' _).mp c1.2,λG ρ hG=>hv G ρ λb o q=>hG _ _ (X _ _ q)⟩
theorem z3(w:World):nsIn (K1 w) mainGlobals (Str.ofString "range")=some none:=by kernel_rfl
theorem z4(w:World):nsIn (K1 w) builtinsNs (Str.ofString "range")=some (some (.type "range")):=by kernel_rfl
theorem Qd:decide Mp.Nodup=true:=by kernel_rfl
theorem Qe(w:World):((K1 w).lookup sysModules).isSome=true:=by kernel_rfl
theorem Iw:(L2.dM.zipIdx.all λp=>p.1.isRec||(p.2==15||p.2==16))=true:=by kernel_rfl
theorem w9{α:Type}{P:α×Nat→Bool}{l:List α}(h:(l.zipIdx.all P)=true){c:Nat}{x:α}(e:l[c]? =some x):P (x,c)=true:=List.all_eq_true.mp h _ (by rw [List.mem_iff_getElem?];exact ⟨c,by rw [List.getElem?_zipIdx,e];simp⟩)
theorem uR:aR e1.gI 68=some (.jk (jt e1 68).1 (jt e1 68).2)∧aR e1.gI 126=some (.jk (jt e1 126).1 (jt e1 126).2):=⟨rfl,rfl⟩
theorem uS:(cP (jt e1 68).1&&cP (jt e1 68).2&&strKeys (jt e1 68).1&&(jt e1 68).1.length==(jt e1 68).2.length)=true∧(cP (jt e1 126).1&&cP (jt e1 126).2&&strKeys (jt e1 126).1&&(jt e1 126).1.length==(jt e1 126).2.length)=true:=⟨by kernel_rfl,by kernel_rfl⟩
set_option tactic.hygienic true in
theorem link2{w:World}{h:Heap}{mg mb:Str→Option Value}(Y:Sg w h)(g:h.Ns mainGlobals mg)(b:h.Ns builtinsNs mb)(nl:h.NoLimit):cD (D1 w) (K1 w) h mg mb:=by
 have X:(K1 w).In h:=uN Y (ZT w);refine ⟨X,g,b,nl,?_,λx mv hx=>?_,⟨ns_none_of X g (z3 w),kR X b (z4 w)⟩,λi fe hi=>?_,λc ce hc=>?_,bz Qd,by kernel_rfl,by kernel_rfl,by kernel_rfl,by kernel_rfl,by kernel_rfl,by kernel_rfl,by kernel_rfl,by kernel_rfl,by kernel_rfl⟩
 ·obtain ⟨o,ho⟩:=Option.isSome_iff_exists.mp (Qe w)
  exact ⟨o,X _ _ ho⟩
 ·exact D5 X g b (List.all_eq_true.mp (Ip w) _ (mem_of_lookup hx))
 ·obtain ⟨a,ha,e1⟩:=(xY (Mr w)).2 hi
  obtain ⟨a',Sk,hd⟩:=kQ (Mq w) hi
  cases ha.symm.trans Sk
  exact ⟨a,(List.getElem?_append_left (List.getElem?_eq_some_iff.mp ha).1).trans ha,Mn e1 hd⟩
 ·obtain ⟨C,hC,ok⟩:=kQ (Iq w) hc
  obtain ⟨C',WU,rk⟩:=kQ (Ir w) hc;have:C'=C:=by rw [hC] at WU;exact (bJ WU).symm
  subst this;refine ⟨C',hC,Io (ex:=if c=15 then [68,126] else []) ok (λe=>by rw [e] at rk;exact rk) (λe=>?_) λe a x ha hx=>?_⟩
  ·have:=w9 Iw hc
   dsimp only at this;rw [e,Bool.false_or,Bool.or_eq_true,beq_iff_eq,beq_iff_eq] at this;rcases this with rfl|rfl
   ·have k:=Iv w
    have Bu:L2.dM[15]? =some ce:=hc;rw [Bu,Option.all_some] at k;have:C'=736:=by have hC:NX[15]? =some C':=hC;exact (bJ hC).symm
    subst this;exact k
   ·have k:=Iu w
    have Bu:L2.dM[16]? =some ce:=hc;rw [Bu,Option.all_some] at k;have:C'=771:=by have hC:NX[16]? =some C':=hC;exact (bJ hC).symm
    subst this;exact k
  ·split at ha
   ·rename_i UG
    subst UG;have rF:ce=e1:=by have Bu:L2.dM[15]? =some ce:=hc;unfold e1;rw [Bu];rfl
    subst rF;have:C'=736:=by have hC:NX[15]? =some C':=hC;exact (bJ hC).symm
    subst this;have:a=68∨a=126:=by simpa using ha
    rcases this with rfl|rfl
    ·exact uQ X hx (Qa w) uR.1 λG ρ hG=>yU (D:=D1 w) (P8 w) (by decide+kernel) uS.1 hG
    ·exact uQ X hx (Qc w) uR.2 λG ρ hG=>yU (D:=D1 w) (P9 w) (by decide+kernel) uS.2 hG
   ·simp at ha
def Plain(P:Prog)(i:Nat):Prop:=∀l:List Int,l.length≤63→∃n h',n≤480∧(E P n).ca i [.lst (l.map .int)] []=some (.bool true,h')
theorem ints_of:∀{xs:List WData},WShape.hasItems [] xs .int=true→∃l:List Int,xs=l.map .int
 |[],_=>⟨[],rfl⟩
 |x::r,h=>by
  have h':WShape.has [] x .int=true∧WShape.hasItems [] r .int=true:=by simpa [WShape.hasItems] using h
  obtain ⟨i,rfl⟩:=hasW_int h'.1;obtain ⟨l,rfl⟩:=ints_of h'.2;exact ⟨i::l,rfl⟩
theorem pV{D:bZ}{G:Fz}{ρ:List PR}{R:WRecords}{cl:Str→Option Addr}{h:Heap}:∀{l:List Int} {vs:List Value} {as:List Addr},ReadsAllW R cl h vs (l.map WData.int) as→cB D G ρ (l.map .int) vs
 |[],vs,as,x=>by cases x;exact .nil
 |i::l,vs,as,x=>by
  cases x with
  |cons y z=>cases y;exact .cons ⟨_,rfl⟩ (pV z)
theorem Ed{D:bZ}{K:Frag}{h₀:Heap}{mg mb:Str→Option Value}(L:cD D K h₀ mg mb){i:Nat}{fe:cC}{fa:Addr}(hf:D.pm.fns[i]? =some fe)(ha:D.fa[i]? =some fa)(hb:∀mv,dz fe [mv] [] []=some [mv])
  {l:List Int} {n:Nat} {h':Hp} (hl:l.length≤63) (hn:n≤480) (e:(E D.pm n).ca i [.lst (l.map .int)] []=some (.bool true,h')) {s:Shared} (hs:s.heap=h₀) {R:WRecords} {cl:Str→Option Addr} {v:Value} {as:List Addr}
  (hr:ReadsW R cl h₀ v (.list (l.map .int)) as) {Q:Value→Shared→Prop} {E:Value→Shared→Prop} (k:∀s':Shared,(∀b o,h₀.get? b=some o→s'.heap.get? b=some o)→s'.gens=s.gens→s'.os=s.os→Q (.bool true) s'):wpAny (model D.prog D.w) callerA (PySem.call (.ref fa) [v]) Q E s:=by
 subst hs;refine wpAny_call ?_;have A:qk n callerA:=⟨by show 1+300+n< 1000;lia,by show 4+20 * n+20< 9900;lia,rfl⟩
 have Rp:Rep D s.heap (λb o=>s.heap.get? b=some o) [] [] s:=⟨λ_ _ e=>e,λ_ _ e=>e,λ_ _ _ q=>(fF q).elim,List.nodup_nil,rfl,λi p o q=>by cases q⟩
 have hv:VR D (λb o=>s.heap.get? b=some o) [] (.lst (l.map .int)) v:=by
  cases hr with
  |list h1 h2 h3 h4=>exact ⟨by rw [cL];unfold az;lia,_,_,_,_,rfl,h1,h2,by rw [Array.toArray_toList];exact h3,pV h4⟩
 refine (sound L n).2 callerA i fe fa [.lst (l.map .int)] [] [.lst (l.map .int)] [] [] [v] [] [] ⟨λb o=>s.heap.get? b=some o,[],s⟩ hf ha A Rp (.cons hv .nil) .nil rfl (hb _) (.bool true,h') e _ λW' w g r=>?_
 have hv:=r.2;subst hv;exact k W'.s (λb o q=>g.st.keep b o (by simp [bM]) q) g.st.gens g.st.os
theorem Iz:(d1.name==Str.ofString "law")=true:=by kernel_rfl
theorem UH:L2.fns[72]? =some L2.P4:=by kernel_rfl
theorem Ms(mv:MV):dz L2.P4 [mv] [] []=some [mv]:=by kernel_rfl
theorem Ef:yT.lookup (Str.ofString "law")=some (.fn 72):=by kernel_rfl
theorem IA{l:List Int}(h:WTm.holds [] (.and (.not (.lt (.lit (.int 63)) (.len (.arg 0)))) (.lit (.bool true))) {args:=[.list (l.map .int)]}=true):l.length≤63:=by
 have v:WTm.value [] (.and (.not (.lt (.lit (.int 63)) (.len (.arg 0)))) (.lit (.bool true))) {args:=[.list (l.map .int)]}=some (.bool (!decide ((63:Int)< (l.length:Int)))):=by
  simp only [WTm.value,List.getElem?_cons_zero,less?,Num.less?,cL,Option.map_some]
  cases decide ((63:Int)< (l.length:Int))<;>rfl
 have:=condW_of h v;simp at this
 lia
theorem A5{args:List WData}:(RowW.claim vB).post args (.bool true) args=true:=postW_of (X:=same (.bool true) (.bool true)) (show WShape.has _ (.bool true) .bool=true by simp [WShape.has,WShape.arms]) (show WTm.value _ (.eq .res (.lit (.bool true))) _=_ by simp [WTm.value]) (by simp [same])
theorem walk2(P:Plain L2.prog 72):WalkO q1 lO (λ_ _=>True) Sg vB d1 Gk λf vs=>PySem.call f vs:=by
 intro w vH cZ mg mb G Y a o pm cd doc dV kV ho hd hc hdf WV hg args vals as UI ZU ZV hwl Wi;have L:=link2 Y G.T.g G.T.b G.T.nolimit;have ea:a=834:=by
  rw [beq_iff_eq.mp Iz] at WV;obtain ⟨v,hv,hr⟩:=L.av _ _ Ef;have hr:=hr (λb o=>cZ.heap.get? b=some o) [] (λ_ _ e=>e)
  obtain ⟨x,hx,rfl⟩:=hr;have hx:some 834=some x:=hx;rw [WV] at hv;rcases hv with e|⟨e,_⟩
  ·cases hx;cases e;rfl
  ·cases e
 subst ea;obtain ⟨ZW,ZX⟩:=pre_splitW UI;obtain ⟨d,r,rfl,OS,hr⟩:=hasAllW_cons ZW;obtain rfl:=hasAllW_nil hr;obtain ⟨xs,rfl,hi⟩:=hasW_list OS;obtain ⟨l,rfl⟩:=ints_of hi;have hl:l.length≤63:=by exact IA (l:=l) ZX
 cases ZV with
 |cons h1 h2=>
  cases h2
  obtain ⟨n,h',hn,e⟩:=P l hl;exact Ed L (i:=72) (fe:=L2.P4) (fa:=834) UH rfl Ms hl hn e rfl h1 λs' hk ZY ZZ=>⟨.inl ⟨.bool true,.bool true,[],rfl,λ_=>rfl,.bool true,A5,λ_=>⟨.nil,λa h=>by cases h⟩⟩,.of_keep hk,ZZ,.of_eq (ZY.trans hg)⟩
end
section
open PySem
structure Em where
 state:MV
 event:MV
 indent:MV
 c6:MV
 root:MV
 seq:MV
 map:MV
 sk:MV
 line:MV
 col:MV
 ws:MV
 ind:MV
 oe:MV
 au:MV
 bi:MV
 tp:MV
 an:MV
 st:MV
 bw:MV
 lb:MV
noncomputable def Em.at(e:Em):List (Nat×MV):=[(21,.obj 3),(7,.none),(27,.obj 6),(28,e.state),(30,.obj 7),(31,e.event),(32,.obj 8),(23,e.indent),(33,e.c6),(34,e.root),(35,e.seq),(36,e.map),(37,e.sk),(38,e.line),(39,e.col),(40,e.ws),(41,e.ind),(42,e.oe),(22,.none),(25,e.au),(43,e.bi),(44,e.bw),(45,e.lb),(46,e.tp),(47,.none),(48,.none),(49,e.an),(12,e.st)]
noncomputable def hE(w0 w1 w2 rows bH events aX:List MV)(e:Em):Hp:=[.list w0,.list w1,.list w2,.inst 16 [(128,.obj 4)],.list rows,.inst 15 e.at,.list bH,.list events,.list aX]
noncomputable def sE(rp:Nat)(rows:List MV)(e:Em):aS:=[.list (some 0) [],.list (some 1) [],.list (some 2) [],.inst 16 [(128,.obj 4)],.list (some rp) rows,.inst 15 e.at,.list (some 4) [],.list (some 5) [],.list (some 6) []]
noncomputable abbrev X(i:Nat):MV:=.fn (1000+i)
noncomputable def tn(c:Nat):MV:=.str [c]
noncomputable def R(vs:List MV)(ls:List (List MV))(os:Nat→Option MV):d7:=⟨λi=>vs.getD i .none,λi=>ls.getD i [],os⟩
noncomputable def Qf:List Nat:=[97,98,32,45,99,58,35,100,233,63,44,39,10,8232,101,9,34,92,133,128512,7,37,8364,160]
noncomputable def brk:List Nat:=[10,133,8232,8233]
noncomputable def isB(c:Nat):Bool:=Nat.beq c 10||(Nat.beq c 133||(Nat.beq c 8232||Nat.beq c 8233))
noncomputable def bools:List Bool:=[true,false]
noncomputable def cos:List (Option Nat):=none::Qf.map some
noncomputable def imp(a b:Bool):Bool:=cond a b true
theorem UJ{a b:Bool}(h:imp a b=true)(q:a=true):b=true:=by subst q;exact h
theorem aj{α:Type}{l:List α}{p:α→Bool}(h:l.all p=true){a:α}(q:a∈l):p a=true:=List.all_eq_true.mp h a q
theorem ak(b:Bool):b∈bools:=by cases b<;>decide
theorem UK{c:Nat}(h:c∈Qf):some c∈cos:=bP _ (List.mem_map_of_mem h)
theorem Qg:none∈cos:=b7 ..
theorem gE:∀{a b:List MV} {x y:List Nat},aT a=some x→aT b=some y→aT (a++b)=some (x++y)
 |[],b,x,y,e1,e2=>by rw [← aC e1];exact e2
 |v::a,b,x,y,e1,e2=>by
  cases v<;>first|exact no e1|skip
  refine cj (x:=aT a) e1 λz e3 e4=>?_
  show (aT (a++b)).map _=_
  rw [gE e3 e2, ← e4,cU];rfl
theorem Eg:∀s:List Nat,aT (s.map tn)=some s
 |[]=>rfl
 |a::r=>by
  show (aT (r.map tn)).map _=_
  rw [Eg r];rfl
noncomputable def NY:aA→ai
 |.cN c _=>c
 |_=>.bE .none
noncomputable def NZ:aA→List aA
 |.cN _ b=>b
 |_=>[]
theorem aN{n:Nat}(h:n≤1000000000):aK (n:Int)=true:=by unfold aK;rw [Bool.and_eq_true];exact ⟨decide_eq_true (by lia),decide_eq_true (by lia)⟩
theorem Qh{a b:Nat}{r:Bool}(h:decide (a≤b)=r):cV .LtE (.int a) (.int b)=some r:=by
 show some (decide ((a:Int)≤(b:Int)))=_
 rw [← h];exact congrArg some (decide_eq_decide.mpr Int.ofNat_le)
theorem pW{a b:Nat}{r:Bool}(h:decide (a< b)=r):cV .Lt (.int a) (.int b)=some r:=by
 show some (decide ((a:Int)< (b:Int)))=_
 rw [← h];exact congrArg some (decide_eq_decide.mpr Int.ofNat_lt)
theorem Qi{a b:Nat}{r:Bool}(h:decide (b≤a)=r):cV .GtE (.int a) (.int b)=some r:=by
 show some (decide ((b:Int)≤(a:Int)))=_
 rw [← h];exact congrArg some (decide_eq_decide.mpr Int.ofNat_le)
theorem IB{a b:Nat}{r:Bool}(h:decide (b< a)=r):cV .Gt (.int a) (.int b)=some r:=by
 show some (decide ((b:Int)< (a:Int)))=_
 rw [← h];exact congrArg some (decide_eq_decide.mpr Int.ofNat_lt)
theorem A6{a b:Nat}{r:Bool}(h:decide (a=b)=r):cV .Eq (.int a) (.int b)=some r:=by
 show some (decide ((a:Int)=(b:Int)))=_
 rw [← h];exact congrArg some (decide_eq_decide.mpr Int.ofNat_inj)
theorem fm{f:Int→Int→Int}{x y z:Int}(hx:aK x=true)(hy:aK y=true)(h:f x y=z):arith f (.int x) (.int y)=some (.int z):=(if_pos (by rw [hx,hy];rfl)).trans (congrArg (λi=>some (MV.int i)) h)
theorem xd{x y z:Int}(hx:aK x=true)(hy:aK y=true)(h:x+y=z)(H:Hp):binOp .Add (.int x) (.int y) H=some (.int z):=congrArg (Option.or · _) (fm hx hy h)
theorem iQ{a b c:Nat}(h:a+b=c)(hc:c≤1000000000)(H:Hp):binOp .Add (.int a) (.int b) H=some (.int c):=xd (aN (by lia)) (aN (by lia)) (congrArg Int.ofNat h) H
theorem cQ{a b c:Nat}(h:a+b=c)(hc:c≤1000000000)(H:Hp):eF .Add (.int a) (.int b) H=some (.int c):=congrArg (Option.or · _) (fm (aN (by lia)) (aN (by lia)) (congrArg Int.ofNat h))
theorem qQ{a b c:Nat}(h:b+c=a)(hc:a≤1000000000)(H:Hp):binOp .Sub (.int a) (.int b) H=some (.int c):=fm (aN (by lia)) (aN (by lia)) (by lia)
theorem Mt{a b:Nat}(h:a+1=b)(hc:b≤1000000000)(H:Hp):binOp .Sub (.int a) (.int b) H=some (.int (-1)):=fm (aN (by lia)) (aN (by lia)) (by lia)
theorem Eh{a b:Nat}(h:b+1=a)(hc:a≤1000000000)(H:Hp):binOp .Add (.int a) (.int (-1)) H=some (.int b):=xd (aN (by lia)) rfl (by lia) H
theorem jn{P:Prog}{s:List Nat}{n:Nat}(h:s.length=n)(H:Hp):iB P .len [.str s] H=some (.int n):=by rw [← h];rfl
theorem yV{len i:Nat}(h:i< len):idx len (i:Int)=some i:=if_pos h
theorem UL{s:List Nat}{k:Int}{j c:Nat}(hk:aK k=true)(hi:idx s.length k=some j)(h:s[j]? =some c)(H:Hp):fG (.str s) (.int k) H=some (.str [c]):=by
 show ((if aK k=true then idx s.length k else none).bind λj=>(s[j]?).map λc=>MV.str [c]).or _=_
 rw [if_pos hk,hi];exact congrArg (λo:Option Nat=>(o.map λc=>MV.str [c]).or _) h
theorem qR{s:List Nat}{i c:Nat}(h:s[i]? =some c)(hi:i≤1000000000)(H:Hp):fG (.str s) (.int i) H=some (.str [c]):=UL (aN hi) (yV (List.getElem?_eq_some_iff.mp h).1) h H
theorem yW{α:Type}(l:List α)(a b:Nat):eX l (some (a:Int)) (some (b:Int))=(l.drop a).take (b - a):=by
 show (l.drop (min a _)).take (min b _ - min a _)=_
 by_cases h:l.length≤a
 ·rw [Nat.min_eq_right h,List.drop_length,List.drop_eq_nil_of_le h,List.take_nil,List.take_nil]
 ·rw [Nat.min_eq_left (Nat.le_of_not_le h), ← Nat.sub_min_sub_right, ← List.length_drop]
  exact List.take_eq_take_min.symm
theorem uT{α:Type}(l:List α)(a:Nat):eX l (some (a:Int)) none=l.drop a:=by
 show (l.drop (min a _)).take (l.length - min a _)=_
 rw [List.take_of_length_le (Nat.le_of_eq (List.length_drop ..))]
 by_cases h:l.length≤a
 ·rw [Nat.min_eq_right h,List.drop_length,List.drop_eq_nil_of_le h]
 ·rw [Nat.min_eq_left (Nat.le_of_not_le h)]
theorem Mu{α:Type}(l:List α)(b:Nat):eX l none (some (b:Int))=l.take b:=List.take_eq_take_min.symm
theorem Qj{α:Type}(l:List α)(k:Nat):eX l (some (-((k+1:Nat):Int))) none=l.drop (l.length - (k+1)):=List.take_of_length_le (Nat.le_of_eq (List.length_drop ..))
theorem nX{i:Int}(h:aK i=true):jB (some (.int i))=some (some i):=if_pos h
theorem Qk{s p:List Nat}{lo hi:Option MV}{x y:Option Int}(h1:jB lo=some x)(h2:jB hi=some y)(h:eX s x y=p)(H:Hp):g8 (.str s) lo hi H=some (.str p):=by
 show (jB lo).bind (λlo=>(jB hi).bind λhi=>BK (.str s) lo hi H)=_
 rw [h1,h2, ← h];rfl
theorem Mv{s:List Nat}{a b:Nat}{p:List Nat}(hab:a≤b)(hb:b≤s.length)(hs:s.length≤1000000000)(h:(s.drop a).take (b - a)=p)(H:Hp):g8 (.str s) (some (.int a)) (some (.int b)) H=some (.str p):=Qk (nX (aN (by lia))) (nX (aN (by lia))) ((yW s a b).trans h) H
theorem lH{n:Nat}(h:n≤1000)(H:Hp):binOp .Mult (.str [32]) (.int n) H=some (.str (List.replicate n 32)):=by
 show (if (decide ([32].length * (n:Int).toNat≤az)&&aK (n:Int))=true then some (MV.str (List.replicate (n:Int).toNat [32]).flatten) else none)=_
 rw [aN (by lia),if_pos (by simp [az];lia)]
 have:(List.replicate n [32]).flatten=List.replicate n 32:=by
  induction n with
  |zero=>rfl
  |succ n ih=>rw [List.replicate_succ,List.flatten_cons,ih (by lia)];rfl
 rw [show (n:Int).toNat=n from rfl,this]
noncomputable def dN(M:Nat):List Nat:=List.replicate M 32
theorem cG{M:Nat}:(dN M).length=M:=List.length_replicate
structure Tx where
 d:List (List Nat)
 l:List Nat
noncomputable def Tx.put(t:Tx)(s:List Nat):Tx:=⟨t.d,t.l++s⟩
noncomputable def Tx.brk(t:Tx):Tx:=⟨t.d++[t.l],[]⟩
noncomputable def Tx.nl(t:Tx)(p:Nat):Tx:=⟨t.d++[t.l],dN p⟩
noncomputable def Tx.text(lb:List Nat)(t:Tx):List Nat:=t.d.flatMap (·++lb)++t.l
noncomputable def nJ(d:List (List Nat)):Nat:=(d.map λs=>s.length+2).sum
noncomputable def Tx.sz(t:Tx):Nat:=nJ t.d+t.l.length
theorem Tx.iR{lb:List Nat}{t:Tx}{s:List Nat}:(t.put s).text lb=t.text lb++s:=(cU ..).symm
theorem Tx.uU{lb:List Nat}{t:Tx}:t.brk.text lb=t.text lb++lb:=by
 show (t.d++[t.l]).flatMap _++[]=(t.d.flatMap _++t.l)++lb
 rw [List.flatMap_append,cM,cU];exact congrArg _ (cM _)
theorem Tx.J5{t:Tx}{p:Nat}:t.nl p=t.brk.put (dN p):=rfl
theorem Tx.Sy{lb:List Nat}{t:Tx}{p:Nat}:(t.nl p).text lb=t.text lb++(lb++dN p):=by rw [Tx.J5,Tx.iR,Tx.uU,cU]
theorem ID{a b:List (List Nat)}:nJ (a++b)=nJ a+nJ b:=by unfold nJ;rw [List.map_append,List.sum_append]
theorem Tx.gR{t:Tx}{s:List Nat}:(t.put s).sz=t.sz+s.length:=by
 show nJ t.d+(t.l++s).length=_
 rw [aM, ← Nat.add_assoc];rfl
theorem Tx.kT{t:Tx}:t.brk.sz=t.sz+2:=by
 show nJ (t.d++[t.l])+0=nJ t.d+t.l.length+2
 rw [ID];rfl
theorem Tx.yX{t:Tx}{p:Nat}:(t.nl p).sz=t.sz+2+p:=by rw [Tx.J5,Tx.gR,Tx.kT,cG]
theorem Tx.dO{t:Tx}{a b:List Nat}:(t.put a).put b=t.put (a++b):=congrArg (Tx.mk t.d) (cU ..)
theorem Tx.sA{t:Tx}:t.l.length≤t.sz:=Nat.le_add_left ..
noncomputable def Ql(f:Bool):MV:=cond f (.bool true) .none
noncomputable def mq(v:List Nat)(s:MV):MV:=.d8 9 [.none,.none,.tup [.bool true,.bool true],.str v,.none,.none,s]
noncomputable def N2(n:List Nat):MV:=.d8 8 [.str n,.none,.none]
noncomputable def cK(m f:Bool):MV:=cond m (.d8 12 [.none,.none,.bool true,.none,.none,Ql f]) (.d8 10 [.none,.none,.bool true,.none,.none,Ql f])
noncomputable def nj(m:Bool):MV:=cond m (.d8 13 [.none,.none]) (.d8 11 [.none,.none])
noncomputable def ju:MV:=.d8 4 [.none,.none,.none]
noncomputable def fq(b:Bool):MV:=.d8 6 [.none,.none,.bool b,.none,.none]
noncomputable def j7:MV:=.d8 7 [.none,.none,.none]
noncomputable def gS:MV:=.d8 5 [.none,.none]
noncomputable def eH:MV→Nat
 |.d8 c _=>c
 |_=>0
structure Cx where
 aI:List MV
 events:List MV
 qo:List MV
 W:Int
 step:Nat
 lb:List Nat
structure lI(x:Cx):Prop where
 step:2≤x.step∧x.step≤9
 lb:x.lb.length≤2
structure Co where
 state:MV
 bH:List MV
 aX:List MV
 indent:MV
 c6:Nat
 ws:Bool
 ind:Bool
structure Ju where
 rows:List MV
 root:MV
 seq:MV
 map:MV
 sk:MV
 line:Nat
 tp:MV
 an:MV
 st:MV
noncomputable def Bv(x:Cx)(S:Co)(T:Tx)(J:Ju)(ev:MV):Em:={state:=S.state,event:=ev,indent:=S.indent,c6:=.int S.c6,root:=J.root,seq:=J.seq,map:=J.map,sk:=J.sk,line:=.int J.line,col:=.int T.l.length,ws:=.bool S.ws,ind:=.bool S.ind,oe:=.bool false,au:=.none,bi:=.int x.step,tp:=J.tp,an:=J.an,st:=J.st,bw:=.int x.W,lb:=.str x.lb}
noncomputable def hc(x:Cx)(S:Co)(T:Tx)(J:Ju)(q:List MV)(ev:MV):Hp:=hE x.aI x.events x.qo J.rows S.bH q S.aX (Bv x S T J ev)
structure JOw(x:Cx)(S:Co)(J:Ju)(T:Tx)(n:Nat):Prop where
 join:aT J.rows=some (T.text x.lb)
 rows:J.rows.length≤n
 line:J.line≤n
 sz:T.sz≤n
 bH:S.bH.length≤n
 aX:S.aX.length≤n
structure uV(x:Cx)(S:Co)(J:Ju)(T:Tx)(n:Nat):Prop extends JOw x S J T n where
 an:J.an=.none
 st:J.st=.none
noncomputable def big:Nat:=900000
theorem JOw.mono{x:Cx}{S:Co}{J:Ju}{T:Tx}{n m:Nat}(h:JOw x S J T n)(q:n≤m):JOw x S J T m:=⟨h.join,ah h.rows q,ah h.line q,ah h.sz q,ah h.bH q,ah h.aX q⟩
noncomputable def isStart(e:MV):Bool:=Nat.beq (eH e) 10||Nat.beq (eH e) 12
noncomputable def WW(e:MV):Bool:=Nat.beq (eH e) 11||Nat.beq (eH e) 13
def pX(e:MV)(q:List MV):Prop:=(isStart e=true→∃c vs r,q=.d8 c vs::r∧c∈[8,9,10,12])∧(eH e=6→∃m r,q=cK m false::r)
noncomputable def cost:Nat:=6000
def Do(x:Cx)(N f:Nat)(as:List MV)(e:MV)(c:Nat)(S:Co)(T:Tx)(S':Co)(T':Tx):Prop:=∀(q:List MV) (J:Ju) (n:Nat),pX e q→uV x S J T n→n+c≤big→∃(v:MV) (J':Ju),uV x S' J' T' (n+c)∧∀k,N≤k→(E L2.prog k).ca f as (hc x S T J q e)=some (v,hc x S' T' J' q e)
structure Fg where
 nz:Bool
 one:Bool
 b0:Bool
 b1:Bool
 s0:Bool
 g:Bool
 gq:Bool
 gk:Bool
 gl:Bool
 gp:Bool
 nx:Bool
noncomputable def Mw(col line:MV)(fl:Bool):Em:={state:=X 36,event:=X 37,indent:=X 10,c6:=X 38,root:=X 29,seq:=X 30,map:=X 31,sk:=X 32,line:=line,col:=col,ws:=.bool fl,ind:=.bool fl,oe:=.bool false,au:=.none,bi:=X 28,tp:=X 33,an:=X 34,st:=X 35,bw:=X 26,lb:=X 27}
noncomputable def cl:Nat→Nat
 |32=>32
 |39=>39
 |34=>34
 |92=>92
 |9=>9
 |233=>233
 |_=>0
noncomputable def xe:List Nat:=[32,97,98,99,105,116,115,39,100,101,102,103,49,50,104,45,120,121,122,107,113,34,9,233,92]
noncomputable def Mx(v:MV):List (CmpOp×MV×MV×Bool):=[(.Is,v,.none,false),(.IsNot,v,.none,true),(.Eq,v,.str [32],false),(.NotEq,v,.str [32],true),(.Eq,v,.str [39],false),(.In,v,.str [32,10,133,8232,8233],false),(.In,v,.str [10,133,8232,8233],false),(.NotIn,v,.str [10,133,8232,8233],true),(.In,v,.str [34,92,133,8232,8233,65279],false),(.LtE,.str [32],v,true),(.LtE,v,.str [126],true)]
noncomputable def kZ(c:Nat):MV:=cond (Nat.beq c 0) (X 42) (tn c)
noncomputable def xg(r:List Nat):Nat:=cond (Nat.beq (cl (r.headD 32)) 0) (r.headD 32) 97
theorem IE:(xe.all λc=> !Nat.beq (cl c) 0||(Mx (tn c)).all λe=>decide (cV e.1 e.2.1 e.2.2.1=some e.2.2.2))=true:=by kernel_rfl
theorem IF:(xe.all λc=>Nat.beq (cl c) 0||Nat.beq (cl c) c)=true:=by kernel_rfl
noncomputable def wF(f:Fg)(co:Option Nat)(k:Nat):Facts:={
 o6:=[(X 10,true)],
 cmp:=[(.LtE,X 3,X 1,true),(.Lt,X 3,X 1,co.isSome),(.NotEq,X 3,X 1,co.isSome),(.Lt,X 2,X 3,f.nz),(.GtE,X 2,X 3, !f.nz),(.GtE,X 4,X 3,true),(.Lt,X 4,X 3,false),(.Eq,X 9,X 3,f.one),(.NotEq,X 2,.int 0,f.s0),(.Lt,.int 0,X 3,f.b0),(.Lt,X 3,X 16,f.b1),(.Gt,X 7,X 26,f.g),(.Gt,X 8,X 26,f.gq),(.Gt,X 17,X 26,f.gk),(.Gt,X 18,X 26,f.gl),(.Gt,X 7,X 10,f.gp),(.Lt,.int 0,X 10,true),(.Eq,X 39,.str [32],f.nx)]++Mx (X 42),
 bin:=[(.Add,X 2,.int 1,X 9),(.Add,X 3,.int 1,X 4),(.Sub,X 1,.int 1,X 16),(.Sub,X 3,X 2,X 6),(.Sub,X 3,X 4,.int (-1)),(.Add,X 7,X 6,X 8),(.Add,X 14,.int (-1),X 17),(.Add,X 15,.int (-1),X 18),(.Sub,X 10,.int 0,X 10),(.Mult,.str [32],X 10,X 11),(.Add,X 5,.str [92],X 19)],
 sub:=(match co with|some c=>(X 0,X 3,kZ c)::cond f.nz [] [(X 0,X 2,kZ c)]|none=>[])++cond f.b1 [(X 0,X 4,X 39)] [],
 wG:=[(X 0,some (X 2),some (X 3),cond f.nz (X 5) (.str [])),(X 0,some (X 4),some (X 3),.str [])],
 bi:=[(.len,X 0,X 1),(.len,X 5,X 6),(.len,X 19,X 20)],
 room:=[3],
 aug:=[(.Add,X 3,.int 1,X 4),(.Add,X 7,X 6,X 8),(.Add,X 8,.int k,X 14),(.Add,X 7,.int k,X 15),(.Add,X 10,.int k,X 25),(.Add,X 10,.int 1,X 24),(.Add,X 12,.int 1,X 13),(.Add,X 7,X 20,X 21),(.Add,X 7,.int 1,X 40),(.Add,X 14,.int 1,X 22),(.Add,X 15,.int 1,X 23),(.Add,X 7,.int 0,X 7)]}
structure Wv where
 x:Cx
 S:Co
 q:List MV
 e:MV
 v:List Nat
 M:Nat
noncomputable def Co.fl(S:Co)(b:Bool):Co:={S with ws:=b,ind:=b}
noncomputable def A7(r:List Nat):Nat:=r.tail.headD 0
noncomputable def RW(w:Wv)(J:Ju)(Sx Ex:Nat)(pend:List Nat)(c k:Nat)(r:List Nat)(os:Nat→Option MV):d7:=
 R [.str w.v,.int (w.v.length:Nat),.int (Sx:Nat),.int (Ex:Nat),.int ((Ex+1:Nat):Int),.str pend,.int (pend.length:Nat),.int (c:Nat),.int ((c+pend.length:Nat):Int),.int ((Sx+1:Nat):Int),
  .int (w.M:Nat),.str (dN w.M),.int (J.line:Nat),.int ((J.line+1:Nat):Int),.int ((c+pend.length+k:Nat):Int),.int ((c+k:Nat):Int),.int ((w.v.length - 1:Nat):Int),.int ((c+pend.length+k - 1:Nat):Int),.int ((c+k - 1:Nat):Int),.str (pend++[92]),
  .int ((pend.length+1:Nat):Int),.int ((c+(pend.length+1):Nat):Int),.int ((c+pend.length+k+1:Nat):Int),.int ((c+k+1:Nat):Int),.int ((w.M+1:Nat):Int),.int ((w.M+k:Nat):Int),.int w.x.W,.str w.x.lb,.int (w.x.step:Nat),
  J.root,J.seq,J.map,J.sk,J.tp,J.an,J.st,w.S.state,w.e,.int (w.S.c6:Nat),tn (A7 r),.int ((c+1:Nat):Int),.none,tn (xg r)] [w.x.aI,w.x.events,w.x.qo,J.rows,w.S.bH,w.q,w.S.aX] os
noncomputable def cy(w:Wv)(Sx Ex:Nat)(pend:List Nat)(c k:Nat)(r:List Nat):Fg:=⟨!pend.isEmpty,decide (pend.length=1),decide (0< Ex),decide (Ex< w.v.length - 1), !decide (Sx=0),decide (w.x.W< (c:Nat)),decide (w.x.W< ((c+pend.length:Nat):Int)),decide (w.x.W< ((c+pend.length+k - 1:Nat):Int)),decide (w.x.W< ((c+k - 1:Nat):Int)),decide (w.M< c),Nat.beq (A7 r) 32⟩
structure xh(w:Wv):Prop where
 len:1≤w.v.length∧w.v.length≤28
 M:1≤w.M∧w.M≤27
 ind:w.S.indent=.int w.M
 x:lI w.x
structure vt(w:Wv)(J:Ju)(pre pend r:List Nat)(c k:Nat):Prop where
 W:xh w
 split:w.v=pre++(pend++r)
 k:1≤k∧k≤10
 c:c≤big
 line:J.line≤big
 rows:J.rows.length≤big
 cs:∀c∈r,c∈xe
theorem nk{a b:Nat}(h:a≤big)(hb:b≤1000):a+b≤1000000000:=ah (Nat.add_le_add h hb) (by decide)
theorem kq{a b:Int}:cV .Gt (.int a) (.int b)=some (decide (b< a)):=rfl
theorem Qm{a b:Nat}{r:Bool}(h:(!decide (a=b))=r):cV .NotEq (.int a) (.int b)=some r:=congrArg (Option.map (!·)) (A6 (r:=decide (a=b)) rfl)|>.trans (congrArg some h)
theorem xj{n:Nat}(h:n≤big):n+1000< az:=Nat.lt_of_le_of_lt (fE h 1000) (by decide)
section
variable {w:Wv}{J:Ju}{pre pend r:List Nat}{c k:Nat}(H:vt w J pre pend r c k)
include H
theorem vt.Qn:w.v.length=pre.length+pend.length+r.length:=by rw [H.split,aM,aM,Nat.add_assoc]
theorem vt.ap:pre.length+pend.length≤w.v.length:=ah (bI _ _) (Nat.le_of_eq H.Qn.symm)
theorem vt.Fy:pre.length+pend.length≤28:=ah H.ap H.W.len.2
theorem vt.N3:pend.length≤28:=ah (Nat.le_add_left _ _) H.Fy
theorem vt.Z0:pre.length≤28:=ah (bI _ _) H.Fy
theorem vt.pk:pend.length+k+1≤1000:=ah (Nat.succ_le_succ (Nat.add_le_add H.N3 H.k.2)) (by decide)
theorem vt.end:decide (pre.length+pend.length< w.v.length)=r.head?.isSome:=by
 rw [H.Qn]
 cases r with
 |nil=>exact decide_eq_false (Nat.lt_irrefl _)
 |cons _ _=>exact decide_eq_true (Nat.lt_add_of_pos_right (Nat.succ_pos _))
theorem vt.UM:(!decide (pre.length+pend.length=w.v.length))=r.head?.isSome:=by
 rw [H.Qn]
 cases r with
 |nil=>exact congrArg (!·) (decide_eq_true rfl)
 |cons _ _=>exact congrArg (!·) (decide_eq_false (Nat.ne_of_lt (Nat.lt_add_of_pos_right (Nat.succ_pos _))))
omit H in
theorem J6:decide (pre.length< pre.length+pend.length)= !pend.isEmpty:=by
 cases pend with
 |nil=>exact decide_eq_false (Nat.lt_irrefl _)
 |cons _ _=>exact decide_eq_true (Nat.lt_add_of_pos_right (Nat.succ_pos _))
omit H in
theorem Qo:decide (pre.length+pend.length≤pre.length)= !(!pend.isEmpty):=by rw [← J6 (pre:=pre), ← decide_not];exact decide_eq_decide.mpr Nat.not_lt.symm
theorem vt.UN:decide (pre.length+pend.length< w.v.length)=(r.head?.map cl).isSome:=H.end.trans (by cases r<;>rfl)
theorem vt.Qp:(!decide (pre.length+pend.length=w.v.length))=(r.head?.map cl).isSome:=H.UM.trans (by cases r<;>rfl)
theorem vt.ord:∀e∈Mx (tn (xg r)),cV e.1 e.2.1 e.2.2.1=some e.2.2.2:=by
 have h:xg r∈xe∧Nat.beq (cl (xg r)) 0=true:=by
  unfold xg
  cases q:Nat.beq (cl (r.headD 32)) 0 with
  |false=>exact ⟨show 97∈xe by decide,rfl⟩
  |true=>
   refine ⟨?_,q⟩
   cases r with
   |nil=>exact absurd q (by decide)
   |cons c r=>exact H.cs c (b7 ..)
 have g:=aj IE h.1;rw [h.2] at g;exact λe he=>bz (aj g he)
theorem vt.cv{d:Nat}(h:r.head? =some d)(ρ:d7)(lS:ρ.v 42=tn (xg r)):(kZ (cl d)).I ρ=tn d:=by
 have hc:d∈xe:=H.cs d (List.mem_of_head? h);have e:r.headD 32=d:=by rw [List.headD_eq_head?_getD,h];rfl
 unfold kZ
 cases q:Nat.beq (cl d) 0 with
 |true=>
  show ρ.v 42=_
  rw [lS];unfold xg;rw [e,q];rfl
 |false=>have g:=aj IF hc;rw [q] at g;rw [bQ g];rfl
theorem vt.at:w.v[pre.length+pend.length]? =r.head? :=by rw [H.split, ← cU,List.getElem?_append_right (Nat.le_of_eq aM),aM,Nat.sub_self,List.head?_eq_getElem?]
theorem vt.Z1(h:pre.length+pend.length< w.v.length - 1):w.v[pre.length+pend.length+1]? =some (A7 r):=by
 have e:=H.Qn;rw [H.split, ← cU,List.getElem?_append_right (by rw [aM];exact Nat.le_succ _),aM,Nat.add_sub_cancel_left]
 match r,e with
 |[],e=>exact absurd h (by rw [e];exact Nat.not_lt.mpr (Nat.sub_le _ _))
 |[a],e=>exact absurd h (by rw [e];exact Nat.lt_irrefl _)
 |a::b::r,e=>rfl
theorem Ei(os:Nat→Option MV):Holds L2.prog (RW w J pre.length (pre.length+pend.length) pend c k r os) (wF (cy w pre.length (pre.length+pend.length) pend c k r) (r.head?.map cl) k) where
 o6:=af (λh=>congrArg (λb=>some !b) (decide_eq_false λe=>Nat.ne_of_gt H.W.M.1 (Int.ofNat_inj.mp e))) aa
 cmp:=List.forall_mem_append.mpr ⟨af (Qh (decide_eq_true H.ap))<|af (pW H.UN)<|af (Qm H.Qp)<|af (pW J6)<|af (Qi Qo)<|af (Qi (decide_eq_true (Nat.le_succ _)))<|af (pW (decide_eq_false (Nat.not_lt.mpr (Nat.le_succ _))))<|af (A6 (decide_eq_decide.mpr ⟨λh=>(Nat.add_left_cancel h).symm,λh=>congrArg _ h.symm⟩))<|af (Qm (b:=0) rfl)<|af (pW (a:=0) rfl)<|af (pW rfl)<|af kq<|af kq<|af kq<|af kq<|af (IB rfl)<|af (pW (a:=0) (decide_eq_true H.W.M.1))<|af (show some (decide ([A7 r]=[32]))=_ from congrArg some (by
  show _=Nat.beq (A7 r) 32
  cases h:Nat.beq (A7 r) 32 with
  |true=>rw [bQ h];rfl
  |false=>exact decide_eq_false λe=>Nat.ne_of_beq_eq_false h (List.cons.inj e).1)) aa,λe he=>H.ord (e.1,e.2.1.I (RW w J pre.length (pre.length+pend.length) pend c k r os),e.2.2.1.I (RW w J pre.length (pre.length+pend.length) pend c k r os),e.2.2.2) (List.mem_map_of_mem (f:=λe:CmpOp×MV×MV×Bool=>(e.1,e.2.1.I (RW w J pre.length (pre.length+pend.length) pend c k r os),e.2.2.1.I (RW w J pre.length (pre.length+pend.length) pend c k r os),e.2.2.2)) he)⟩
 bin:=af (iQ rfl (ah (Nat.succ_le_succ H.Z0) (by decide)))<|af (iQ rfl (ah (Nat.succ_le_succ H.Fy) (by decide)))<|af (qQ (b:=1) (Nat.add_sub_cancel' H.W.len.1) (ah H.W.len.2 (by decide)))<|af (qQ rfl (ah H.Fy (by decide)))<|af (Mt rfl (ah (Nat.succ_le_succ H.Fy) (by decide)))<|af (iQ rfl (nk H.c (ah H.N3 (by decide))))<|af (Eh (Nat.sub_add_cancel (ah H.k.1 (Nat.le_add_left _ _))) (by rw [Nat.add_assoc];exact nk H.c (ah (Nat.le_succ _) H.pk)))<|af (Eh (Nat.sub_add_cancel (ah H.k.1 (Nat.le_add_left _ _))) (nk H.c (ah H.k.2 (by decide))))<|af (qQ (b:=0) (Nat.zero_add _) (ah H.W.M.2 (by decide)))<|af (lH (ah H.W.M.2 (by decide)))<|af (λh=>by
  show (qg (pend++[92])).or _=_
  rw [qg,if_pos (by rw [aM];exact ah (Nat.succ_le_succ H.N3) (by decide))];rfl) aa
 sub:=by
  refine List.forall_mem_append.mpr ⟨?_,?_⟩
  ·have h:=H.at
   have hp:=H.Fy;have hv:=λc hc ρ=>H.cv (d:=c) hc ρ
   revert h hv
   cases r.head? with
   |none=>exact λ_ _=>aa
   |some d=>
    refine λh hv=>af (λz=>(qR h (ah hp (by decide)) z).trans (congrArg some (hv d rfl _ rfl).symm)) ?_
    cases pend with
    |nil=>exact af (λz=>(qR (i:=pre.length) h (ah hp (by decide)) z).trans (congrArg some (hv d rfl _ rfl).symm)) aa
    |cons _ _=>exact aa
  ·have h:=H.Z1
   show ∀e∈cond (decide _) _ _,_
   by_cases q:pre.length+pend.length< w.v.length - 1
   ·rw [decide_eq_true q]
    exact af (qR (h q) (ah (Nat.succ_le_succ H.Fy) (by decide))) aa
   ·rw [decide_eq_false q];exact aa
 wG:=af (λh=>(Mv (bI _ _) H.ap (ah H.W.len.2 (by decide)) (by rw [H.split,List.drop_left,Nat.add_sub_cancel_left,List.take_left]) h).trans (by cases pend<;>rfl))<|af (Qk (nX (aN (ah (Nat.succ_le_succ H.Fy) (by decide)))) (nX (aN (ah H.Fy (by decide)))) ((yW _ _ _).trans (by rw [Nat.sub_eq_zero_of_le (Nat.le_succ _),List.take_zero]))) aa
 bi:=af (jn rfl)<|af (jn rfl)<|af (jn aM) aa
 join:=aa
 room:=af (xj H.rows) aa
 aug:=af (cQ rfl (ah (Nat.succ_le_succ H.Fy) (by decide)))<|af (cQ rfl (nk H.c (ah H.N3 (by decide))))<|af (cQ rfl (by rw [Nat.add_assoc];exact nk H.c (ah (Nat.le_succ _) H.pk)))<|af (cQ rfl (nk H.c (ah H.k.2 (by decide))))<|af (cQ rfl (ah (Nat.add_le_add H.W.M.2 H.k.2) (by decide)))<|af (cQ (b:=1) rfl (ah (fE H.W.M.2 1) (by decide)))<|af (cQ (b:=1) rfl (nk H.line (by decide)))<|af (cQ rfl (nk H.c (ah (Nat.succ_le_succ H.N3) (by decide))))<|af (cQ (b:=1) rfl (nk H.c (by decide)))<|af (cQ (b:=1) rfl (by rw [Nat.add_assoc,Nat.add_assoc];exact nk H.c H.pk))<|af (cQ (b:=1) rfl (by rw [Nat.add_assoc];exact nk H.c (ah (Nat.succ_le_succ H.k.2) (by decide))))<|af (cQ (b:=0) rfl (nk H.c (Nat.zero_le _))) aa
 starts:=aa
 st:=aa
 ev:=aa
 call:=aa
end
inductive Pk where|ext|new|emp
inductive Pc where|pend|pb|lb|nq|lit(s:List Nat)
inductive Cc where|keep|flush|mw|k|nq|Ej|mark
noncomputable def Pc.v:Pc→MV
 |.pend=>X 5
 |.pb=>X 19
 |.lb=>X 27
 |.nq=>X 11
 |.lit s=>.str s
noncomputable def Pc.s(lb:List Nat)(M:Nat)(pend:List Nat):Pc→List Nat
 |.pend=>pend
 |.pb=>pend++[92]
 |.lb=>lb
 |.nq=>dN M
 |.lit s=>s
noncomputable def Pc.op(M:Nat)(pend:List Nat)(T:Tx):Pc→Tx
 |.lb=>T.brk
 |p=>T.put (p.s [] M pend)
noncomputable def gH(M:Nat)(pend:List Nat)(ps:List Pc)(T:Tx):Tx:=ps.foldl (Pc.op M pend) T
noncomputable def UO(lb:List Nat)(M:Nat)(pend:List Nat)(ps:List Pc):List Nat:=ps.flatMap (Pc.s lb M pend)
noncomputable def Cc.v:Cc→MV
 |.keep=>X 7
 |.flush=>X 8
 |.mw=>X 14
 |.k=>X 15
 |.nq=>X 10
 |.Ej=>X 24
 |.mark=>X 25
noncomputable def Cc.n(c p M k:Nat):Cc→Nat
 |.keep=>c
 |.flush=>c+p
 |.mw=>c+p+k
 |.k=>c+k
 |.nq=>M
 |.Ej=>M+1
 |.mark=>M+k
structure Cv where
 fr:Bool
 p:Nat
 n:Nat
 m:Nat
noncomputable def Cv.val(c p M:Nat)(a:Cv):Nat:=cond a.fr 0 c+a.p * p+a.n+a.m * M
noncomputable def Pc.cv(a:Cv):Pc→Cv
 |.pend=>{a with p:=a.p+1}
 |.pb=>{a with p:=a.p+1,n:=a.n+1}
 |.lb=>⟨true,0,0,0⟩
 |.nq=>{a with m:=a.m+1}
 |.lit s=>{a with n:=a.n+s.length}
noncomputable def Cc.cv(k:Nat):Cc→Cv
 |.keep=>⟨false,0,0,0⟩
 |.flush=>⟨false,1,0,0⟩
 |.mw=>⟨false,1,k,0⟩
 |.k=>⟨false,0,k,0⟩
 |.nq=>⟨true,0,0,1⟩
 |.Ej=>⟨true,0,1,1⟩
 |.mark=>⟨true,0,k,1⟩
noncomputable def Cv.eq(a b:Cv):Bool:=(a.fr==b.fr)&&Nat.beq a.p b.p&&Nat.beq a.n b.n&&Nat.beq a.m b.m
theorem Cv.of_eq{a b:Cv}(h:a.eq b=true):a=b:=by obtain ⟨a1,a2,a3,a4⟩:=a;obtain ⟨b1,b2,b3,b4⟩:=b;unfold Cv.eq at h;rw [Bool.and_eq_true,Bool.and_eq_true,Bool.and_eq_true] at h;have h1:=eq_of_beq h.1.1.1;have h2:=bQ h.1.1.2;have h3:=bQ h.1.2;have h4:=bQ h.2;simp only at h1 h2 h3 h4;rw [h1,h2,h3,h4]
theorem Cc.My(cc:Cc)(c p M k:Nat):(cc.cv k).val c p M=cc.n c p M k:=by cases cc<;>show cond _ _ _+_ * p+_+_ * M=_<;>simp only [Cc.n,Cc.cv,cond,Nat.zero_mul,Nat.one_mul,Nat.add_zero,Nat.zero_add,Nat.add_comm]
theorem Pc.Mz{M:Nat}{pend:List Nat}{T:Tx}{c:Nat}{a:Cv}(x:Pc)(h:T.l.length=a.val c pend.length M):(x.op M pend T).l.length=(x.cv a).val c pend.length M:=by
 unfold Cv.val at h⊢
 cases x with
 |pend=>show (T.l++pend).length=_;rw [aM,h];simp only [Pc.cv,Nat.succ_mul];lia
 |pb=>show (T.l++(pend++[92])).length=_;rw [aM,h,aM];simp only [Pc.cv,Nat.succ_mul];show _+(_+1)=_;lia
 |lb=>show 0=_;simp only [Pc.cv,cond,Nat.zero_mul]
 |nq=>show (T.l++dN M).length=_;rw [aM,h,cG];simp only [Pc.cv,Nat.succ_mul];lia
 |lit s=>show (T.l++s).length=_;rw [aM,h];simp only [Pc.cv];lia
theorem yY{M:Nat}{pend:List Nat}{c:Nat}:∀(ps:List Pc) (T:Tx) (a:Cv),T.l.length=a.val c pend.length M→(gH M pend ps T).l.length=(ps.foldl Pc.cv a).val c pend.length M
 |[],T,a,h=>h
 |x::ps,T,a,h=>yY ps (x.op M pend T) (x.cv a) (x.Mz h)
theorem pY{lb:List Nat}{M:Nat}{pend:List Nat}:∀(ps:List Pc) (T:Tx),(gH M pend ps T).text lb=T.text lb++UO lb M pend ps
 |[],T=>(cM _).symm
 |x::ps,T=>by
  show (gH M pend ps (x.op M pend T)).text lb=_++(x.s lb M pend++UO lb M pend ps)
  rw [pY ps, ← cU];refine congrArg (·++_) ?_
  cases x with
  |lb=>exact Tx.uU
  |pend=>exact Tx.iR
  |pb=>exact Tx.iR
  |nq=>exact Tx.iR
  |lit s=>exact Tx.iR
noncomputable def Pc.ok:Pc→Bool
 |.lit s=>Nat.ble s.length 30
 |_=>true
theorem Pc.Qq{M:Nat}{pend:List Nat}{T:Tx}{x:Pc}(h:x.ok=true)(hM:M≤27)(hp:pend.length≤28):(x.op M pend T).sz≤T.sz+30:=by
 cases x with
 |lb=>exact ah (Nat.le_of_eq Tx.kT) (bx (by decide) _)
 |pend=>exact ah (Nat.le_of_eq Tx.gR) (bx (ah hp (by decide)) _)
 |pb=>exact ah (Nat.le_of_eq Tx.gR) (bx (ah (Nat.le_of_eq aM) (ah (Nat.succ_le_succ hp) (by decide))) _)
 |nq=>exact ah (Nat.le_of_eq Tx.gR) (bx (ah (Nat.le_of_eq cG) (ah hM (by decide))) _)
 |lit s=>exact ah (Nat.le_of_eq Tx.gR) (bx (c8 h) _)
theorem Ek{M:Nat}{pend:List Nat}(hM:M≤27)(hp:pend.length≤28):∀(ps:List Pc) (T:Tx),ps.all Pc.ok=true→(gH M pend ps T).sz≤T.sz+30 * ps.length
 |[],T,_=>bf _
 |x::ps,T,h=>by have h:=aZ.mp h;exact ah (Ek hM hp ps _ h.2) (ah (fE (Pc.Qq h.1 hM hp) _) (Nat.le_of_eq (by rw [List.length_cons,Nat.mul_succ,Nat.add_assoc,Nat.add_comm 30])))
structure Tr where
 s:Nat
 kd:Pk
 ps:List Pc:=[]
 col:Cc:=.keep
 nl:Bool:=false
 os:List SL
noncomputable def Pk.sv:Pk→MV
 |.ext=>X 2
 |.new=>X 3
 |.emp=>X 4
noncomputable def Pk.pend(pend:List Nat)(c:Nat):Pk→List Nat
 |.ext=>pend++[c]
 |.new=>[c]
 |.emp=>[]
noncomputable def Pk.pre(pre pend:List Nat)(c:Nat):Pk→List Nat
 |.ext=>pre
 |.new=>pre++pend
 |.emp=>pre++(pend++[c])
noncomputable def Pk.S(a b:Nat):Pk→Nat
 |.ext=>a
 |.new=>a+b
 |.emp=>a+b+1
theorem Pk.parts(kd:Pk){pre pend r:List Nat}{c:Nat}:pre++(pend++c::r)=kd.pre pre pend c++(kd.pend pend c++r):=by
 cases kd with
 |ext=>exact congrArg (pre++·) (cU pend [c] r).symm
 |new=>exact (cU ..).symm
 |emp=>exact (congrArg (pre++·) (cU pend [c] r).symm).trans (cU ..).symm
theorem Pk.UP(kd:Pk){pre pend:List Nat}{c:Nat}:kd.S pre.length pend.length=(kd.pre pre pend c).length:=by
 cases kd with
 |ext=>rfl
 |new=>exact aM.symm
 |emp=>exact (show (pre++(pend++[c])).length=pre.length+pend.length+1 by rw [aM,aM];rfl).symm
theorem Pk.UQ(kd:Pk){pre pend:List Nat}{c:Nat}:pre.length+pend.length+1=(kd.pre pre pend c).length+(kd.pend pend c).length:=by
 cases kd with
 |ext=>exact (show pre.length+(pend++[c]).length=_ by rw [aM];rfl).symm
 |new=>exact congrArg (·+1) aM.symm
 |emp=>exact (show (pre++(pend++[c])).length=pre.length+pend.length+1 by rw [aM,aM];rfl).symm
structure kB where
 c:ai
 b:List aA
 n:Nat
 aH:Nat→MV→MV→(Nat→SL)→aV
 tr:Nat→Fg→Option Nat→Tr
 fl:Nat→Bool
 k:Option Nat→Nat
 cs:List Nat
 inv:Nat→Nat→Nat→List Nat→Prop
noncomputable def kB.yZ(w:kB)(fg:Fg)(σ:Nat)(co:Option Nat):Bool:=yQ L2.prog (wF fg co (w.k co)) 60 w.c w.b (w.aH σ (X 2) (X 3) .o) (sE 3 [] (Mw (X 7) (X 12) (w.fl σ))) (w.aH (w.tr σ fg co).s (w.tr σ fg co).kd.sv (X 4) (λi=>(w.tr σ fg co).os.getD i .u)) (sE 3 ((w.tr σ fg co).ps.map Pc.v) (Mw (w.tr σ fg co).col.v (cond (w.tr σ fg co).nl (X 13) (X 12)) (w.fl (w.tr σ fg co).s)))
noncomputable def kB.fit(w:kB)(fg:Fg)(σ:Nat)(co:Option Nat):Bool:=((w.tr σ fg co).ps.foldl Pc.cv ⟨false,0,0,0⟩).eq ((w.tr σ fg co).col.cv (w.k co))&&Nat.ble (w.tr σ fg co).ps.length 6&&(w.tr σ fg co).ps.all Pc.ok
noncomputable def kB.go(w:kB)(V:Wv):Nat→Nat→Nat→Tx→List Nat→List Nat→Tx
 |σ,S,E,T,pend,[]=>gH V.M pend (w.tr σ (cy V S E pend T.l.length (w.k none) []) none).ps T
 |σ,S,E,T,pend,c::r=>
  let t:=w.tr σ (cy V S E pend T.l.length (w.k (some (cl c))) (c::r)) (some (cl c))
  w.go V t.s (t.kd.S S pend.length) (E+1) (gH V.M pend t.ps T) (t.kd.pend pend c) r
noncomputable def fin(a:Nat→Option MV)(n:Nat):Loc:=some (.obj 5)::(List.range n).map a
noncomputable def fl(n:Nat):aV:=.v (.obj 5)::(List.range n).map .o
theorem y9{ρ:d7}{n:Nat}:bq ρ (fl n)=fin ρ.o n:=by
 show some (MV.obj 5)::((List.range n).map SL.o).map (SL.I ρ)=_
 rw [List.map_map];rfl
structure nt(w:kB):Prop where
 k:∀co,1≤w.k co∧w.k co≤10
 yZ:∀(V:Wv) (S E:Nat) (T:Tx) (pend r:List Nat) (σ:Nat),w.inv σ V.M T.l.length pend→(∀c∈r,cl c∈w.cs)→(E< V.v.length - 1→r≠[])→(w.yZ (cy V S E pend T.l.length (w.k (r.head?.map cl)) r) σ (r.head?.map cl)&&w.fit (cy V S E pend T.l.length (w.k (r.head?.map cl)) r) σ (r.head?.map cl))=true
 inv:∀(V:Wv) (S E:Nat) (T:Tx) (pend r:List Nat) (σ c:Nat),1≤V.M→w.inv σ V.M T.l.length pend→w.inv (w.tr σ (cy V S E pend T.l.length (w.k (some (cl c))) (c::r)) (some (cl c))).s V.M (gH V.M pend (w.tr σ (cy V S E pend T.l.length (w.k (some (cl c))) (c::r)) (some (cl c))).ps T).l.length ((w.tr σ (cy V S E pend T.l.length (w.k (some (cl c))) (c::r)) (some (cl c))).kd.pend pend c)
 aH:∀(ρ cA:d7) (σ:Nat) (s e s' e':MV) (os Qs:Nat→SL),ρ.v 0=cA.v 0→s.I ρ=s'.I cA→e.I ρ=e'.I cA→(∀i,(os i).I ρ=(Qs i).I cA)→bq ρ (w.aH σ s e os)=bq cA (w.aH σ s' e' Qs)
 last:∀(σ:Nat) (b:Bool),Ml L2.prog {cmp:=[(.LtE,X 3,X 1,false)],bi:=[(.len,X 0,X 1)]} 60 w.c (w.aH σ (X 2) (X 3) .o) (sE 3 [] (Mw (X 7) (X 12) b)) false (sE 3 [] (Mw (X 7) (X 12) b))=true
 fin:∀(ρ:d7) (σ:Nat),∃a,bq ρ (w.aH σ (X 2) (X 3) .o)=fin a w.n
noncomputable def RL(V:Wv)(S E:Nat)(a:Nat→Option MV):d7:=R [.str V.v,.none,.int (S:Nat),.int (E:Nat)] [] a
noncomputable def kB.L(w:kB)(V:Wv)(σ S E:Nat)(a:Nat→Option MV):Loc:=bq (RL V S E a) (w.aH σ (X 2) (X 3) .o)
noncomputable abbrev kB.W(w:kB)(k j:Nat)(l:Loc)(h:Hp):Option (Fl×Loc×Hp):=eZ (E L2.prog k) w.c w.b j l h
noncomputable def Bw(V:Wv)(T:Tx)(J:Ju)(b:Bool):Hp:=hc V.x (V.S.fl b) T J V.q V.e
theorem J7{V:Wv}(hi:V.S.indent=.int V.M){T:Tx}{J:Ju}{b:Bool}{S E k:Nat}{r pend:List Nat}{os:Nat→Option MV}:aQ (RW V J S E pend T.l.length k r os) (sE 3 [] (Mw (X 7) (X 12) b))=Bw V T J b:=by unfold Bw hc Bv Co.fl;rw [hi];rfl
noncomputable def sC(lb:List Nat)(M:Nat)(pend:List Nat)(l:List Pc):List MV:=l.map λp=>.str (p.s lb M pend)
theorem sD{lb:List Nat}{M:Nat}{pend:List Nat}:∀l:List Pc,aT (sC lb M pend l)=some (UO lb M pend l)
 |[]=>rfl
 |p::l=>by
  show (aT (sC lb M pend l)).map _=_
  rw [sD l];rfl
theorem Qt{V:Wv}{J:Ju}{S E c k:Nat}{r pend:List Nat}{os:Nat→Option MV}:∀l:List Pc,MV.Is (RW V J S E pend c k r os) (l.map Pc.v)=sC V.x.lb V.M pend l
 |[]=>rfl
 |p::l=>by
  show _::MV.Is _ (l.map Pc.v)=_::sC V.x.lb V.M pend l
  rw [Qt l];cases p<;>rfl
noncomputable def Ju.wr(J:Ju)(rs:List MV)(l:Nat):Ju:={J with rows:=J.rows++rs,line:=l}
theorem MA{V:Wv}(hi:V.S.indent=.int V.M){T T':Tx}{J:Ju}{b nl:Bool}{S E k:Nat}{r pend:List Nat}{os:Nat→Option MV}{ps:List Pc}{cc:Cc}(hl:T'.l.length=cc.n T.l.length pend.length V.M k):aQ (RW V J S E pend T.l.length k r os) (sE 3 (ps.map Pc.v) (Mw cc.v (cond nl (X 13) (X 12)) b))=Bw V T' (J.wr (sC V.x.lb V.M pend ps) (J.line+cond nl 1 0)) b:=by
 unfold Bw hc Bv Co.fl;rw [hi,hl];show hE V.x.aI V.x.events V.x.qo (cat _ (some 3) (MV.Is _ (ps.map Pc.v))) V.S.bH V.q V.S.aX {Bv V.x (V.S.fl b) T J V.e with indent:=.int V.M,col:=cc.v.I _,line:=MV.I _ (cond nl (X 13) (X 12)),ws:=.bool b,ind:=.bool b}=_
 rw [gh,Qt,show cc.v.I (RW V J S E pend T.l.length k r os)=.int (cc.n T.l.length pend.length V.M k:Nat) by cases cc<;>rfl]
 cases nl<;>rfl
noncomputable def Ju.set(J:Ju)(rs:List MV)(l:Nat):Ju:={J with rows:=rs,line:=l}
def kB.Fin(w:kB)(V:Wv)(J:Ju)(T:Tx)(n:Nat)(out:Nat→Option (Fl×Loc×Hp)):Prop:=∃(rs:List MV) (l σ:Nat) (a:Nat→Option MV),JOw V.x V.S (J.set rs l) T n∧∀k,60≤k→out k=some (.next,fin a w.n,Bw V T (J.set rs l) (w.fl σ))
section
variable {w:kB}{V:Wv}{J:Ju}{T:Tx}{n:Nat}
theorem kB.done(W:nt w){j σ S E:Nat}{a:Nat→Option MV}(h:E=V.v.length+1)(hJ:JOw V.x V.S J T n)(hi:V.S.indent=.int V.M):w.Fin V J T n (λk=>w.W k (j+1) (w.L V σ S E a) (Bw V T J (w.fl σ))):=by
 have K:Holds L2.prog (RW V J S E [] T.l.length 0 [] a) {cmp:=[(.LtE,X 3,X 1,false)],bi:=[(.len,X 0,X 1)]}:=⟨aa,af (Qh (decide_eq_false (by rw [h];exact Nat.not_succ_le_self _))) aa,aa,aa,aa,af (jn rfl) aa,aa,aa,aa,aa,aa,aa,aa⟩
 have e:=λk (hk:60≤k)=>A2 K (b:=w.b) (W.last σ (w.fl σ)) hk j
 have el:bq (RW V J S E [] T.l.length 0 [] a) (w.aH σ (X 2) (X 3) .o)=w.L V σ S E a:=W.aH _ (RL V S E a) σ _ _ _ _ _ _ rfl rfl rfl λ_=>rfl
 rw [el,J7 hi] at e;obtain ⟨a',ha⟩:=W.fin (RL V S E a) σ;refine ⟨J.rows,J.line,σ,a',hJ,λk hk=>(e k hk).trans ?_⟩
 rw [show w.L V σ S E a=fin a' w.n from ha];rfl
theorem JOw.wr(h:JOw V.x V.S J T n){pend:List Nat}{ps:List Pc}{b:Bool}(hp:pend.length≤28)(hM:V.M≤27)(h5:ps.length≤6)(ho:ps.all Pc.ok=true):JOw V.x V.S (J.wr (sC V.x.lb V.M pend ps) (J.line+cond b 1 0)) (gH V.M pend ps T) (n+180) where
 join:=by rw [pY];exact gE h.join (sD ps)
 rows:=by
  show (J.rows++ps.map _).length≤_
  rw [aM,cL];exact Nat.add_le_add h.rows (ah h5 (by decide))
 line:=Nat.add_le_add h.line (by cases b<;>decide)
 sz:=ah (Ek hM hp ps T ho) (Nat.add_le_add h.sz (Nat.mul_le_mul_left 30 h5))
 bH:=ah h.bH (bI _ _)
 aX:=ah h.aX (bI _ _)
structure kB.One(w:kB)(V:Wv)(J:Ju)(T:Tx)(n:Nat)(pre pend r:List Nat)(σ:Nat)(a:Nat→Option MV)(t:Tr):Prop where
 jw:JOw V.x V.S (J.wr (sC V.x.lb V.M pend t.ps) (J.line+cond t.nl 1 0)) (gH V.M pend t.ps T) (n+180)
 run:∃a',∀k,60≤k→∀j,w.W k (j+1) (w.L V σ pre.length (pre.length+pend.length) a) (Bw V T J (w.fl σ))=w.W k j (w.L V t.s (t.kd.S pre.length pend.length) (pre.length+pend.length+1) a') (Bw V (gH V.M pend t.ps T) (J.wr (sC V.x.lb V.M pend t.ps) (J.line+cond t.nl 1 0)) (w.fl t.s))
theorem kB.step(W:nt w)(hV:xh V){pre pend r:List Nat}{σ:Nat}{a:Nat→Option MV}(hs:V.v=pre++(pend++r))(hi:w.inv σ V.M T.l.length pend)(hc:∀c∈r,cl c∈w.cs)(hA:∀c∈r,c∈xe)(hJ:JOw V.x V.S J T n)(hn:n≤big):w.One V J T n pre pend r σ a (w.tr σ (cy V pre.length (pre.length+pend.length) pend T.l.length (w.k (r.head?.map cl)) r) (r.head?.map cl)):=by
 have H:vt V J pre pend r T.l.length (w.k (r.head?.map cl)):=⟨hV,hs,W.k _,ah Tx.sA (ah hJ.sz hn),ah hJ.line hn,ah hJ.rows hn,hA⟩;have hr:pre.length+pend.length< V.v.length - 1→r≠[]:=λq e=>by have e2:=H.Qn;rw [e] at e2;exact absurd q (by rw [e2];exact Nat.not_lt.mpr (Nat.sub_le _ _))
 have N4:=aZ.mp (W.yZ V pre.length (pre.length+pend.length) T pend r σ hi hc hr);generalize ht:w.tr σ (cy V pre.length (pre.length+pend.length) pend T.l.length (w.k (r.head?.map cl)) r) (r.head?.map cl)=t;have hf:w.fit _ σ (r.head?.map cl)=true:=N4.2;unfold kB.fit at hf;rw [ht,Bool.and_eq_true,Bool.and_eq_true] at hf;have N4:=N4.1;unfold kB.yZ at N4;rw [ht] at N4;have hl:(gH V.M pend t.ps T).l.length=t.col.n T.l.length pend.length V.M (w.k (r.head?.map cl)):=(yY t.ps T ⟨false,0,0,0⟩ (by show _=T.l.length+0 * _+0+0 * _;rw [Nat.zero_mul,Nat.zero_mul];rfl)).trans (by rw [Cv.of_eq hf.1.1];exact Cc.My ..)
 have e1:bq (RW V J pre.length (pre.length+pend.length) pend T.l.length (w.k (r.head?.map cl)) r a) (w.aH σ (X 2) (X 3) .o)=w.L V σ pre.length (pre.length+pend.length) a:=W.aH _ _ σ _ _ _ _ _ _ rfl rfl rfl λ_=>rfl
 have e2:bq (RW V J pre.length (pre.length+pend.length) pend T.l.length (w.k (r.head?.map cl)) r a) (w.aH t.s t.kd.sv (X 4) (λi=>t.os.getD i .u))=w.L V t.s (t.kd.S pre.length pend.length) (pre.length+pend.length+1) (λi=>(t.os.getD i .u).I (RW V J pre.length (pre.length+pend.length) pend T.l.length (w.k (r.head?.map cl)) r a)):=W.aH _ _ _ _ _ _ _ _ _ rfl (by cases t.kd<;>rfl) rfl λ_=>rfl
 have e:=λk (hk:60≤k) j=>wW (Ei H a) N4 hk j
 rw [e1,e2,J7 hV.ind,MA hV.ind hl] at e;exact ⟨hJ.wr H.N3 hV.M.2 (c8 hf.1.2) hf.2,⟨_,e⟩⟩
theorem kB.loop(W:nt w)(hV:xh V)(r:List Nat):∀(pre pend:List Nat) (σ:Nat) (T:Tx) (J:Ju) (n:Nat) (a:Nat→Option MV) (j:Nat),V.v=pre++(pend++r)→w.inv σ V.M T.l.length pend→(∀c∈r,cl c∈w.cs)→(∀c∈r,c∈xe)→JOw V.x V.S J T n→n+180 * (r.length+1)≤big→
  w.Fin V J (w.go V σ pre.length (pre.length+pend.length) T pend r) (n+180 * (r.length+1)) (λk=>w.W k (j+2+r.length) (w.L V σ pre.length (pre.length+pend.length) a) (Bw V T J (w.fl σ))):=by
 induction r with
 |nil=>
  intro pre pend σ T J n a j hs hi hc hA hJ hn;have o:=kB.step W hV (a:=a) hs hi hc hA hJ (ah (bI _ _) hn);have hE:pre.length+pend.length+1=V.v.length+1:=by rw [hs,cM,aM]
  show w.Fin V J (gH V.M pend (w.tr σ (cy V pre.length (pre.length+pend.length) pend T.l.length (w.k none) []) none).ps T) _ _
  revert o;show w.One V J T n pre pend [] σ a (w.tr σ (cy V pre.length (pre.length+pend.length) pend T.l.length (w.k none) []) none)→_
  generalize w.tr σ (cy V pre.length (pre.length+pend.length) pend T.l.length (w.k none) []) none=t;intro o;obtain ⟨a',e⟩:=o.run;have d:=kB.done (j:=j) (σ:=t.s) (S:=t.kd.S pre.length pend.length) (a:=a') W hE o.jw hV.ind;exact d.imp λrs d=>d.imp λl d=>d.imp λs d=>d.imp λb d=>⟨d.1,λk hk=>(e k hk (j+1)).trans (d.2 k hk)⟩
 |cons c r ih=>
  intro pre pend σ T J n a j hs hi hc hA hJ hn;have o:=kB.step W hV (a:=a) hs hi hc hA hJ (ah (bI _ _) hn);have UR:=W.inv V pre.length (pre.length+pend.length) T pend r σ c hV.M.1 hi;show w.Fin V J (w.go V (w.tr σ (cy V pre.length (pre.length+pend.length) pend T.l.length (w.k (some (cl c))) (c::r)) (some (cl c))).s ((w.tr σ (cy V pre.length (pre.length+pend.length) pend T.l.length (w.k (some (cl c))) (c::r)) (some (cl c))).kd.S pre.length pend.length) (pre.length+pend.length+1) (gH V.M pend (w.tr σ (cy V pre.length (pre.length+pend.length) pend T.l.length (w.k (some (cl c))) (c::r)) (some (cl c))).ps T) ((w.tr σ (cy V pre.length (pre.length+pend.length) pend T.l.length (w.k (some (cl c))) (c::r)) (some (cl c))).kd.pend pend c) r) _ _
  revert o UR;show w.One V J T n pre pend (c::r) σ a (w.tr σ (cy V pre.length (pre.length+pend.length) pend T.l.length (w.k (some (cl c))) (c::r)) (some (cl c)))→_
  generalize w.tr σ (cy V pre.length (pre.length+pend.length) pend T.l.length (w.k (some (cl c))) (c::r)) (some (cl c))=t;intro o UR;obtain ⟨a',e⟩:=o.run;rw [t.kd.UP (c:=c),t.kd.UQ (c:=c)] at e⊢;have NR:n+180+180 * (r.length+1)≤big:=by rw [List.length_cons] at hn;lia
  have d:=ih _ _ t.s _ _ (n+180) a' j (hs.trans t.kd.parts) UR (λd hd=>hc d (bP _ hd)) (λd hd=>hA d (bP _ hd)) o.jw NR
  exact d.imp λrs d=>d.imp λl d=>d.imp λs d=>d.imp λb d=>⟨d.1.mono (by rw [List.length_cons];lia),λk hk=>(e k hk (j+2+r.length)).trans (d.2 k hk)⟩
theorem kB.J8(W:nt w)(hV:xh V)(a:Nat→Option MV)(hi:w.inv 0 V.M T.l.length [])(hc:∀c∈V.v,cl c∈w.cs)(hA:∀c∈V.v,c∈xe)(hJ:JOw V.x V.S J T n)(hn:n+5300≤big):
  w.Fin V J (w.go V 0 0 0 T [] V.v) (n+5300) (λk=>w.W k fc (w.L V 0 0 0 a) (Bw V T J (w.fl 0))):=by
 have hl:180 * (V.v.length+1)≤5300:=ah (Nat.mul_le_mul_left 180 (Nat.succ_le_succ hV.len.2)) (by decide)
 have d:=kB.loop W hV V.v [] [] 0 T J n a (fc - (2+V.v.length)) rfl hi hc hA hJ (ah (bx hl n) hn);rw [Nat.add_assoc,Nat.sub_add_cancel (ah (bx hV.len.2 2) (by decide))] at d
 exact d.imp λrs d=>d.imp λl d=>d.imp λs d=>d.imp λb d=>⟨d.1.mono (bx hl n),d.2⟩
end
noncomputable def nu(l:List Nat):List (Option Nat):=none::l.map some
theorem gT{cs r:List Nat}(h:∀c∈r,cl c∈cs):r.head?.map cl∈nu cs:=by
 cases r with
 |nil=>exact b7 ..
 |cons c r=>exact bP _ (List.mem_map_of_mem (h c (b7 ..)))
noncomputable def xm:List Nat:=[32,39,0]
noncomputable def MB:aA:=L2.WN.body.getD 8 .pass
noncomputable def FA(fg:Fg)(s:Nat)(ch:MV):Tr:=cond (fg.one&&fg.g) {s:=s,kd:=.new,ps:=[.lb,.nq],col:=.nq,nl:=true,os:=[.o 0,.v ch,.o 2]} {s:=s,kd:=.new,ps:=[.pend],col:=.flush,os:=[.v (X 5),.v ch,.o 2]}
noncomputable def qp(fg:Fg)(s:Nat)(ch:MV):Tr:=cond fg.nz {s:=s,kd:=.new,ps:=[.pend],col:=.flush,os:=[.v (X 5),.v ch,.o 2]} {s:=s,kd:=.new,ps:=[.lit []],os:=[.v (.str []),.v ch,.o 2]}
noncomputable def jO(σ:Nat)(fg:Fg)(c:Nat):Tr:=cond (Nat.beq c 32)
  (match σ with
  |0=>qp fg 1 (kZ c)
  |_=>{s:=1,kd:=.ext,os:=[.o 0,.v (kZ c),.o 2]})
  (match σ with
  |0=>{s:=0,kd:=.ext,os:=[.o 0,.v (kZ c),.o 2]}
  |_=>FA fg 0 (kZ c))
noncomputable def US(σ:Nat)(fg:Fg):Option Nat→Tr
 |none=>(match σ with
  |0=>qp fg 0 .none
  |_=>FA fg 1 .none)
 |some c=>jO σ fg c
noncomputable def qS:kB where
 c:=NY MB
 b:=NZ MB
 n:=9
 aH:=λσ s e os=>[.v (.obj 5),.v (X 0),.v (.bool true),os 0,.v (.bool (Nat.beq σ 1)),.v (.bool false),.v s,.v e,os 1,os 2]
 tr:=US
 fl:=λ_=>false
 k:=λ_=>2
 cs:=xm
 inv:=λσ M c pend=>σ=0∨(σ=1∧pend≠[])
theorem Qu(one b0 b1 s0 g gq gk gl gp nx:Bool):(bools.all λnz=>(nu xm).all λco=>qS.yZ ⟨nz,one,b0,b1,s0,g,gq,gk,gl,gp,nx⟩ 0 co&&qS.fit ⟨nz,one,b0,b1,s0,g,gq,gk,gl,gp,nx⟩ 0 co)=true:=by kernel_rfl
theorem Qv(b0 b1 s0 gq gk gl gp nx:Bool):(bools.all λone=>bools.all λg=>(nu xm).all λco=>qS.yZ ⟨true,one,b0,b1,s0,g,gq,gk,gl,gp,nx⟩ 1 co&&qS.fit ⟨true,one,b0,b1,s0,g,gq,gk,gl,gp,nx⟩ 1 co)=true:=by kernel_rfl
noncomputable def IG:aA:=L2.WL.body.getD 4 .pass
noncomputable def q2:List Nat:=[39,39]
noncomputable def jg(σ:Nat)(fg:Fg)(c:Nat):Tr:=cond (Nat.beq c 39)
  (cond fg.nz {s:=σ,kd:=.emp,ps:=[.pend,.lit q2],col:=.mw,os:=[.v (kZ c),.v (.str q2),.o 2]} {s:=σ,kd:=.emp,ps:=[.lit q2],col:=.k,os:=[.v (kZ c),.v (.str q2),.o 2]})
  (cond (Nat.beq c 32) (cond fg.nz {s:=σ+1,kd:=.new,ps:=[.pend],col:=.flush,os:=[.v (kZ c),.v (X 5),.o 2]} {s:=σ+1,kd:=.ext,os:=[.v (kZ c),.o 1,.o 2]})
   {s:=σ,kd:=.ext,os:=[.v (kZ c),.o 1,.o 2]})
noncomputable def Qw(σ:Nat)(fg:Fg):Option Nat→Tr
 |none=>cond fg.nz {s:=σ,kd:=.new,ps:=[.pend],col:=.flush,os:=[.v .none,.v (X 5),.o 2]} {s:=σ,kd:=.ext,os:=[.v .none,.o 1,.o 2]}
 |some c=>jg σ fg c
noncomputable def jP(σ:Nat)(fg:Fg)(c:Nat):Tr:=cond (Nat.beq c 32) {s:=σ+1,kd:=.ext,os:=[.v (kZ c),.o 1,.o 2]} (cond (Nat.beq c 39)
  (cond (fg.one&&fg.g&&fg.s0) {s:=2,kd:=.emp,ps:=[.lb,.nq,.lit q2],col:=.mark,nl:=true,os:=[.v (kZ c),.v (.str q2),.o 2]} {s:=σ,kd:=.emp,ps:=[.pend,.lit q2],col:=.mw,os:=[.v (kZ c),.v (.str q2),.o 2]})
  (cond (fg.one&&fg.g&&fg.s0) {s:=2,kd:=.new,ps:=[.lb,.nq],col:=.nq,nl:=true,os:=[.v (kZ c),.o 1,.o 2]} {s:=σ,kd:=.new,ps:=[.pend],col:=.flush,os:=[.v (kZ c),.v (X 5),.o 2]}))
noncomputable def Qx(σ:Nat)(fg:Fg):Option Nat→Tr
 |none=>{s:=σ+1,kd:=.new,ps:=[.pend],col:=.flush,os:=[.v .none,.v (X 5),.o 2]}
 |some c=>jP σ fg c
noncomputable def UT(σ:Nat)(fg:Fg)(co:Option Nat):Tr:=match σ with
 |0=>Qw 0 fg co
 |1=>Qx 0 fg co
 |2=>Qw 2 fg co
 |_=>Qx 2 fg co
noncomputable def pZ:kB where
 c:=NY IG
 b:=NZ IG
 n:=9
 aH:=λσ s e os=>[.v (.obj 5),.v (X 0),.v (.bool true),.v (.bool (Nat.beq σ 1||Nat.beq σ 3)),.v (.bool false),.v s,.v e,os 0,os 1,os 2]
 tr:=UT
 fl:=λσ=>Nat.ble 2 σ
 k:=λ_=>2
 cs:=xm
 inv:=λσ M c pend=>σ=0∨(σ=1∧pend≠[])∨(σ=2∧M< c+pend.length)∨(σ=3∧pend≠[]∧M< c)
theorem Qy(one b0 b1 s0 g gq gk gl gp nx:Bool):(bools.all λnz=>(nu xm).all λco=>pZ.yZ ⟨nz,one,b0,b1,s0,g,gq,gk,gl,gp,nx⟩ 0 co&&pZ.fit ⟨nz,one,b0,b1,s0,g,gq,gk,gl,gp,nx⟩ 0 co)=true:=by kernel_rfl
theorem Qz(b0 b1 gq gk gl gp nx:Bool):(bools.all λone=>bools.all λs0=>bools.all λg=>(nu xm).all λco=>pZ.yZ ⟨true,one,b0,b1,s0,g,gq,gk,gl,gp,nx⟩ 1 co&&pZ.fit ⟨true,one,b0,b1,s0,g,gq,gk,gl,gp,nx⟩ 1 co)=true:=by kernel_rfl
theorem QA(one b0 b1 s0 g gq gk gl gp nx:Bool):(bools.all λnz=>(nu xm).all λco=>pZ.yZ ⟨nz,one,b0,b1,s0,g,gq,gk,gl,gp,nx⟩ 2 co&&pZ.fit ⟨nz,one,b0,b1,s0,g,gq,gk,gl,gp,nx⟩ 2 co)=true:=by kernel_rfl
theorem QB(b0 b1 gq gk gl nx:Bool):(bools.all λone=>bools.all λs0=>bools.all λg=>(nu xm).all λco=>pZ.yZ ⟨true,one,b0,b1,s0,g,gq,gk,gl,true,nx⟩ 3 co&&pZ.fit ⟨true,one,b0,b1,s0,g,gq,gk,gl,true,nx⟩ 3 co)=true:=by kernel_rfl
noncomputable def II:aA:=L2.WM.body.getD 2 .pass
noncomputable def Sz:List Nat:=[32,0,34,9,233,92]
noncomputable def eu(c:Nat):List Nat:=match c with
 |34=>[92,34]
 |92=>[92,92]
 |9=>[92,116]
 |233=>[92,120,69,57]
 |_=>[]
noncomputable def jy:List Nat:=[92]
noncomputable def jQ(fg:Fg)(c:Nat):Tr:=cond (eu c).isEmpty
  (cond (fg.b0&&fg.b1&&(Nat.beq c 32|| !fg.nz)&&fg.gq)
   {s:=0,kd:=cond fg.nz .new .ext,ps:=cond fg.nz .pb (.lit jy)::.lb::.nq::cond (Nat.beq c 32) [.lit jy] [],col:=cond (Nat.beq c 32) .Ej .nq,nl:=true,os:=[.v (kZ c),.v (cond (Nat.beq c 32) (.str jy) (cond fg.nz (X 19) (.str jy)))]}
   {s:=0,kd:=.ext,os:=[.v (kZ c),.o 1]})
  (cond (fg.b0&&fg.b1&&cond fg.nz fg.gk fg.gl)
   {s:=0,kd:=.emp,ps:=cond fg.nz [.pend] []++.lit (eu c)::.lit jy::.lb::.nq::cond fg.nx [.lit jy] [],col:=cond fg.nx .Ej .nq,nl:=true,os:=[.v (kZ c),.v (.str jy)]}
   {s:=0,kd:=.emp,ps:=cond fg.nz [.pend] []++[.lit (eu c)],col:=cond fg.nz .mw .k,os:=[.v (kZ c),.v (.str (eu c))]})
noncomputable def UU(σ:Nat)(fg:Fg):Option Nat→Tr
 |none=>cond fg.nz {s:=0,kd:=.new,ps:=[.pend],col:=.flush,os:=[.v .none,.v (X 5)]} {s:=0,kd:=.ext,os:=[.v .none,.o 1]}
 |some c=>jQ fg c
noncomputable def FE:Option Nat→Nat
 |none=>2
 |some c=>cond (eu c).isEmpty 2 (eu c).length
noncomputable def IJ:kB where
 c:=NY II
 b:=NZ II
 n:=6
 aH:=λσ s e os=>[.v (.obj 5),.v (X 0),.v (.bool true),.v s,.v e,os 0,os 1]
 tr:=UU
 fl:=λ_=>false
 k:=FE
 cs:=Sz
 inv:=λσ M c pend=>σ=0
noncomputable def IK(fg:Fg)(co:Option Nat):Bool:=IJ.yZ fg 0 co&&IJ.fit fg 0 co
noncomputable def SA:List Nat:=[32,0]
noncomputable def QC:List Nat:=[34,9,233,92]
theorem QD(one s0 g gq gk gl gp nx:Bool):(bools.all λnz=>bools.all λb0=>IK ⟨nz,one,b0,false,s0,g,gq,gk,gl,gp,nx⟩ none)=true:=by kernel_rfl
theorem MC(b1 one s0 g gq gk gl gp nx:Bool):(bools.all λnz=>SA.all λc=>IK ⟨nz,one,false,b1,s0,g,gq,gk,gl,gp,nx⟩ (some c))=true:=by kernel_rfl
theorem MD(one s0 g gq gk gl gp nx:Bool):(bools.all λnz=>SA.all λc=>IK ⟨nz,one,true,false,s0,g,gq,gk,gl,gp,nx⟩ (some c))=true:=by kernel_rfl
theorem ME(one s0 g gk gl gp nx:Bool):(bools.all λnz=>bools.all λgq=>SA.all λc=>IK ⟨nz,one,true,true,s0,g,gq,gk,gl,gp,nx⟩ (some c))=true:=by kernel_rfl
theorem MF(b1 one s0 g gq gk gl gp nx:Bool):(bools.all λnz=>QC.all λc=>IK ⟨nz,one,false,b1,s0,g,gq,gk,gl,gp,nx⟩ (some c))=true:=by kernel_rfl
theorem MG(one s0 g gq gk gl gp nx:Bool):(bools.all λnz=>QC.all λc=>IK ⟨nz,one,true,false,s0,g,gq,gk,gl,gp,nx⟩ (some c))=true:=by kernel_rfl
theorem MH(one s0 g gq gl gp:Bool):(bools.all λgk=>bools.all λnx=>QC.all λc=>IK ⟨true,one,true,true,s0,g,gq,gk,gl,gp,nx⟩ (some c))=true:=by kernel_rfl
theorem MI(one s0 g gq gk gp:Bool):(bools.all λgl=>bools.all λnx=>QC.all λc=>IK ⟨false,one,true,true,s0,g,gq,gk,gl,gp,nx⟩ (some c))=true:=by kernel_rfl
theorem QE(fg:Fg)(co:Option Nat)(h:co∈nu Sz)(hb:co=none→fg.b1=false):IK fg co=true:=by
 obtain ⟨nz,one,b0,b1,s0,g,gq,gk,gl,gp,nx⟩:=fg
 cases co with
 |none=>
  cases (hb rfl:b1=false)
  exact aj (aj (QD one s0 g gq gk gl gp nx) (ak nz)) (ak b0)
 |some c=>
  have hc:c∈SA∨c∈QC:=by
   obtain ⟨d,h1,h2⟩:=List.mem_map.mp ((bO.mp h).elim (λh=>nomatch h) id)
   cases h2
   exact List.mem_append.mp h1
  cases b0 with
  |false=>exact hc.elim (λhc=>aj (aj (MC b1 one s0 g gq gk gl gp nx) (ak nz)) hc) λhc=>aj (aj (MF b1 one s0 g gq gk gl gp nx) (ak nz)) hc
  |true=>cases b1 with
   |false=>exact hc.elim (λhc=>aj (aj (MD one s0 g gq gk gl gp nx) (ak nz)) hc) λhc=>aj (aj (MG one s0 g gq gk gl gp nx) (ak nz)) hc
   |true=>exact hc.elim (λhc=>aj (aj (aj (ME one s0 g gk gl gp nx) (ak nz)) (ak gq)) hc) λhc=>(match nz with
    |true=>aj (aj (aj (MH one s0 g gq gl gp) (ak gk)) (ak nx)) hc
    |false=>aj (aj (aj (MI one s0 g gq gk gp) (ak gl)) (ak nx)) hc)
theorem sF{a:List Nat}{c:Nat}:a++[c]≠[]:=by cases a<;>exact nofun
theorem QF:nt qS where
 k:=λ_=>⟨(by decide:1≤2),(by decide:2≤10)⟩
 yZ:=λV S E T pend r σ hi hc _=>by
  rcases hi with rfl|⟨rfl,hp⟩
  ·exact aj (aj (Qu ..) (ak (!pend.isEmpty))) (gT hc)
  ·cases pend with
   |nil=>exact absurd rfl hp
   |cons a b=>exact aj (aj (aj (Qv ..) (ak _)) (ak _)) (gT hc)
 inv:=λV S E T pend r σ c hM hi=>by
  show _∨_
  generalize cy V S E pend T.l.length (qS.k (some (cl c))) (c::r)=fg;rcases hi with rfl|⟨rfl,hp⟩
  ·show (jO 0 fg (cl c)).s=0∨((jO 0 fg (cl c)).s=1∧(jO 0 fg (cl c)).kd.pend pend c≠[])
   unfold jO
   cases Nat.beq (cl c) 32 with
   |true=>refine .inr ?_;unfold qp;cases fg.nz<;>exact ⟨rfl,nofun⟩
   |false=>exact .inl rfl
  ·show (jO 1 fg (cl c)).s=0∨((jO 1 fg (cl c)).s=1∧(jO 1 fg (cl c)).kd.pend pend c≠[])
   unfold jO
   cases Nat.beq (cl c) 32 with
   |true=>exact .inr ⟨rfl,sF⟩
   |false=>refine .inl ?_;unfold FA;cases fg.one&&fg.g<;>rfl
 aH:=λρ cA σ s e s' e' os Qs h0 hs he ho=>by
  show [some (MV.obj 5),some (ρ.v 0),_,(os 0).I ρ,_,_,some (s.I ρ),some (e.I ρ),(os 1).I ρ,(os 2).I ρ]=_
  rw [h0,hs,he,ho,ho,ho];rfl
 last:=λσ b=>by cases b<;>kernel_rfl
 fin:=λρ σ=>⟨λi=>(bq ρ (qS.aH σ (X 2) (X 3) .o)).getD (i+1) none,rfl⟩
theorem UW:nt pZ where
 k:=λ_=>⟨(by decide:1≤2),(by decide:2≤10)⟩
 yZ:=λV S E T pend r σ hi hc _=>by
  rcases hi with rfl|⟨rfl,hp⟩|⟨rfl,hp⟩|⟨rfl,hp,hM⟩
  ·exact aj (aj (Qy ..) (ak (!pend.isEmpty))) (gT hc)
  ·cases pend with
   |nil=>exact absurd rfl hp
   |cons a b=>exact aj (aj (aj (aj (Qz ..) (ak _)) (ak _)) (ak _)) (gT hc)
  ·exact aj (aj (QA ..) (ak (!pend.isEmpty))) (gT hc)
  ·cases pend with
   |nil=>exact absurd rfl hp
   |cons a b=>unfold cy;rw [decide_eq_true hM];exact aj (aj (aj (aj (QB ..) (ak _)) (ak _)) (ak _)) (gT hc)
 inv:=λV S E T pend r σ c hM hi=>by
  show _∨_
  have UX:(cy V S E pend T.l.length (pZ.k (some (cl c))) (c::r)).nz= !pend.isEmpty:=rfl;revert UX;generalize cy V S E pend T.l.length (pZ.k (some (cl c))) (c::r)=fg;intro UX;have wd:∀σ,(σ=2→V.M< T.l.length+pend.length)→(σ=0∨σ=2)→pZ.inv (jg σ fg (cl c)).s V.M (gH V.M pend (jg σ fg (cl c)).ps T).l.length ((jg σ fg (cl c)).kd.pend pend c):=λσ h2 p7=>by
   unfold jg;rw [UX]
   cases Nat.beq (cl c) 39 with
   |true=>
    cases pend with
    |nil=>exact p7.elim .inl λq=>.inr (.inr (.inl ⟨q,by have:=h2 q;show _< (T.l++q2).length+0;rw [aM];exact Nat.lt_of_lt_of_le this (bI _ _)⟩))
    |cons a b=>exact p7.elim .inl λq=>.inr (.inr (.inl ⟨q,by have:=h2 q;show _< ((T.l++(a::b))++q2).length+0;rw [aM,aM];exact Nat.lt_of_lt_of_le this (bI _ _)⟩))
   |false=>cases Nat.beq (cl c) 32 with
    |true=>
     cases pend with
     |nil=>exact p7.elim (λq=>.inr (.inl ⟨congrArg (·+1) q,nofun⟩)) λq=>.inr (.inr (.inr ⟨congrArg (·+1) q,nofun,h2 q⟩))
     |cons a b=>exact p7.elim (λq=>.inr (.inl ⟨congrArg (·+1) q,nofun⟩)) λq=>.inr (.inr (.inr ⟨congrArg (·+1) q,nofun,by have:=h2 q;show _< (T.l++(a::b)).length;rw [aM];exact this⟩))
    |false=>exact p7.elim .inl λq=>.inr (.inr (.inl ⟨q,by have:=h2 q;show _< T.l.length+(pend++[c]).length;rw [aM];exact Nat.lt_succ_of_lt this⟩))
  have bl:∀σ,(σ=2→V.M< T.l.length)→(σ=0∨σ=2)→pend≠[]→pZ.inv (jP σ fg (cl c)).s V.M (gH V.M pend (jP σ fg (cl c)).ps T).l.length ((jP σ fg (cl c)).kd.pend pend c):=λσ h2 p7 hp=>by
   unfold jP
   cases Nat.beq (cl c) 32 with
   |true=>exact p7.elim (λq=>.inr (.inl ⟨congrArg (·+1) q,sF⟩)) λq=>.inr (.inr (.inr ⟨congrArg (·+1) q,sF,h2 q⟩))
   |false=>cases Nat.beq (cl c) 39 with
    |true=>cases fg.one&&fg.g&&fg.s0 with
     |true=>exact .inr (.inr (.inl ⟨rfl,by show _< (([]++dN V.M)++q2).length+0;rw [aM,List.nil_append,cG];exact Nat.lt_add_of_pos_right (by decide)⟩))
     |false=>exact p7.elim .inl λq=>.inr (.inr (.inl ⟨q,by have:=h2 q;show _< ((T.l++pend)++q2).length+0;rw [aM,aM];exact Nat.lt_of_lt_of_le this (ah (bI _ _) (bI _ _))⟩))
    |false=>cases fg.one&&fg.g&&fg.s0 with
     |true=>exact .inr (.inr (.inl ⟨rfl,by show _< ([]++dN V.M).length+1;rw [List.nil_append,cG];exact Nat.lt_succ_self _⟩))
     |false=>exact p7.elim .inl λq=>.inr (.inr (.inl ⟨q,by have:=h2 q;show _< (T.l++pend).length+1;rw [aM];exact Nat.lt_of_lt_of_le this (ah (bI _ _) (Nat.le_succ _))⟩))
  rcases hi with rfl|⟨rfl,hp⟩|⟨rfl,hp⟩|⟨rfl,hp,hM⟩
  ·exact wd 0 nofun (.inl rfl)
  ·exact bl 0 nofun (.inl rfl) hp
  ·exact wd 2 (λ_=>hp) (.inr rfl)
  ·exact bl 2 (λ_=>hM) (.inr rfl) hp
 aH:=λρ cA σ s e s' e' os Qs h0 hs he ho=>by
  show [some (MV.obj 5),some (ρ.v 0),_,_,_,some (s.I ρ),some (e.I ρ),(os 0).I ρ,(os 1).I ρ,(os 2).I ρ]=_
  rw [h0,hs,he,ho,ho,ho];rfl
 last:=λσ b=>by cases b<;>kernel_rfl
 fin:=λρ σ=>⟨λi=>(bq ρ (pZ.aH σ (X 2) (X 3) .o)).getD (i+1) none,rfl⟩
theorem MJ{fg:Fg}{c:Nat}:(jQ fg c).s=0:=by
 unfold jQ
 cases (eu c).isEmpty with
 |true=>cases fg.b0&&fg.b1&&(Nat.beq c 32|| !fg.nz)&&fg.gq<;>rfl
 |false=>cases fg.b0&&fg.b1&&cond fg.nz fg.gk fg.gl<;>rfl
theorem UY:nt IJ where
 k:=λco=>by
  cases co with
  |none=>exact ⟨by decide,by decide⟩
  |some c=>
   show 1≤cond (eu c).isEmpty 2 (eu c).length∧cond (eu c).isEmpty 2 (eu c).length≤10
   unfold eu;split<;>decide
 yZ:=λV S E T pend r σ hi hc hb=>by
  cases hi
  exact QE _ _ (gT hc) λh=>by
   cases r with
   |nil=>exact decide_eq_false λq=>hb q rfl
   |cons _ _=>cases h
 inv:=λV S E T pend r σ c hM hi=>by
  cases hi
  exact MJ
 aH:=λρ cA σ s e s' e' os Qs h0 hs he ho=>by
  show [some (MV.obj 5),some (ρ.v 0),_,some (s.I ρ),some (e.I ρ),(os 0).I ρ,(os 1).I ρ]=_
  rw [h0,hs,he,ho,ho];rfl
 last:=λσ b=>by cases b<;>kernel_rfl
 fin:=λρ σ=>⟨λi=>(bq ρ (IJ.aH σ (X 2) (X 3) .o)).getD (i+1) none,rfl⟩
noncomputable def vz(col line:MV)(ws ind:Bool):Em:={Mw col line false with root:=.bool false,ws:=.bool ws,ind:=.bool ind}
noncomputable def sep(ws:Bool):List Nat:=cond ws [] [32]
noncomputable def RC(V:Wv)(J:Ju)(c l0 c2 l2:Nat)(rs:List MV)(os:Nat→Option MV):d7:=
 R [.str V.v,.none,.none,.none,.none,.none,.none,.int (c:Nat),.int ((c+1:Nat):Int),.int ((c+2:Nat):Int),
  .int (V.M:Nat),.none,.int (l0:Nat),.none,.none,.none,.none,.none,.none,.none,
  .none,.none,.none,.none,.none,.none,.int V.x.W,.str V.x.lb,.int (V.x.step:Nat),
  J.root,J.seq,J.map,J.sk,J.tp,J.an,J.st,V.S.state,V.e,.int (V.S.c6:Nat),.none,.none,.none,.none,.int (c2:Nat),.int (l2:Nat),.int ((c2+1:Nat):Int)] [V.x.aI,V.x.events,V.x.qo,J.rows,V.S.bH,V.q,V.S.aX,rs] os
noncomputable def cF(st:List JQ):Facts:={o6:=[(X 0,true)],aug:=[(.Add,X 7,.int 1,X 8),(.Add,X 7,.int 2,X 9),(.Add,X 43,.int 1,X 45)],room:=[3,7],st:=st}
noncomputable def MK(ws:Bool):Nat→SL:=λi=>cond (Nat.beq i 0) (cond ws .u (.v (.str [32]))) .u
noncomputable def QG(ws:Bool):JQ:={n:=60,s:=MB,l:=qS.aH 0 (.int 0) (.int 0) (MK ws),h:=sE 3 (cond ws [] [.str [32]]) (vz (cond ws (X 7) (X 8)) (X 12) false false),l':=fl 9,h':=sE 7 [] (vz (X 43) (X 44) false false)}
theorem Z2:(bools.all λws=>bools.all λind=>cX L2.prog (cF [QG ws]) 75 60 [.obj 5,X 0,.bool true] (sE 3 [] (vz (X 7) (X 12) ws ind)) .none (sE 7 [] (vz (X 43) (X 44) false false)))=true:=by kernel_rfl
noncomputable def SG(q:Nat)(s:aA)(l:aV)(n:Nat)(ws fb:Bool):JQ:={n:=60,s:=s,l:=l,h:=sE 3 [.str (sep ws++[q])] (vz (cond ws (X 8) (X 9)) (X 12) false false),l':=fl n,h':=sE 7 [] (vz (X 43) (X 44) fb fb)}
theorem Z3:(bools.all λws=>bools.all λind=>bools.all λfb=>cX L2.prog (cF [SG 39 IG (pZ.aH 0 (.int 0) (.int 0) λ_=>.u) 9 ws fb]) 75 55 [.obj 5,X 0,.bool true] (sE 3 [] (vz (X 7) (X 12) ws ind)) .none (sE 7 [.str [39]] (vz (X 45) (X 44) false false)))=true:=by kernel_rfl
theorem Z4:(bools.all λws=>bools.all λind=>bools.all λfb=>cX L2.prog (cF [SG 34 II (IJ.aH 0 (.int 0) (.int 0) λ_=>.u) 6 ws fb]) 75 56 [.obj 5,X 0,.bool true] (sE 3 [] (vz (X 7) (X 12) ws ind)) .none (sE 7 [.str [34]] (vz (X 45) (X 44) false false)))=true:=by kernel_rfl
theorem iy{x:Cx}{S:Co}{T:Tx}{J:Ju}{q:List MV}{e:MV}(h:J.root=.bool false):hc x S T J q e=hE x.aI x.events x.qo J.rows S.bH q S.aX {Bv x S T J e with root:=.bool false}:=by rw [← h];rfl
def qT(x:Cx)(f:Nat)(v:List Nat)(S:Co)(T:Tx)(J:Ju)(q:List MV)(e:MV)(T':Tx)(n:Nat):Prop:=∃(rs:List MV) (l:Nat),JOw x S (J.set rs l) T' n∧∀k,75≤k→(E L2.prog k).ca f [.obj 5,.str v,.bool true] (hc x S T J q e)=some (.none,hc x (S.fl false) T' (J.set rs l) q e)
theorem xh.ne{V:Wv}(hV:xh V):V.v.isEmpty=false:=by
 have:=hV.len.1
 cases h:V.v with
 |nil=>rw [h] at this;exact absurd this (by decide)
 |cons _ _=>rfl
section
variable {V:Wv}{J:Ju}{T:Tx}{n:Nat}
theorem xq{ws:Bool}:(sep ws).length≤1:=by cases ws<;>decide
theorem JOw.put(h:JOw V.x V.S J T n){s:List Nat}{m:Nat}(hs:s.length≤m)(hm:1≤m):JOw V.x V.S (J.set (J.rows++[.str s]) J.line) (T.put s) (n+m) where
 join:=by rw [Tx.iR];exact gE h.join (congrArg some (cM s))
 rows:=ah (Nat.le_of_eq aM) (Nat.add_le_add h.rows hm)
 line:=ah h.line (bI _ _)
 sz:=ah (Nat.le_of_eq Tx.gR) (Nat.add_le_add h.sz hs)
 bH:=ah h.bH (bI _ _)
 aX:=ah h.aX (bI _ _)
noncomputable def ML(ws:Bool)(J:Ju):Ju:=cond ws J (J.set (J.rows++[.str [32]]) J.line)
theorem JOw.sep(h:JOw V.x V.S J T n)(ws:Bool):JOw V.x V.S (ML ws J) (T.put (Mine.sep ws)) (n+1):=by
 cases ws with
 |true=>rw [show T.put (Mine.sep true)=T from congrArg (Tx.mk T.d) (cM _)];exact h.mono (Nat.le_succ _)
 |false=>exact h.put (m:=1) (bf _) (bf _)
variable (hV:xh V)(hr:J.root=.bool false)(hA:∀c∈V.v,c∈xe)
include hV hr hA
theorem MM(hc:∀c∈V.v,cl c∈xm)(hJ:JOw V.x V.S J T n)(hn:n+5400≤big):qT V.x 60 V.v V.S T J V.q V.e (qS.go V 0 0 0 (T.put (sep V.S.ws)) [] V.v) (n+5400):=by
 have mT:n+1+5300≤big:=ah (by rw [Nat.add_assoc];exact bx (by decide) n) hn
 obtain ⟨rs,l,σ,a,h1,h2⟩:=kB.J8 QF hV (λi=>cond (Nat.beq i 0) (cond V.S.ws none (some (.str [32]))) none) (.inl rfl) hc hA (hJ.sep V.S.ws) mT
 have hs:(ML V.S.ws J).set rs l=J.set rs l:=by cases V.S.ws<;>rfl
 rw [hs] at h1 h2;have QH:T.l.length≤big:=ah Tx.sA (ah hJ.sz (ah (bI _ _) hn));have K:Holds L2.prog (RC V J T.l.length J.line (qS.go V 0 0 0 (T.put (sep V.S.ws)) [] V.v).l.length l rs a) (cF [QG V.S.ws]):=by
  refine ⟨af (λ_=>congrArg (λb=>some !b) hV.ne) aa,aa,aa,aa,aa,aa,aa,af (xj (ah hJ.rows (ah (bI _ _) hn))) (af (xj (ah h1.rows mT)) aa),af (cQ (b:=1) rfl (nk QH (by decide))) (af (cQ (b:=2) rfl (nk QH (by decide))) (af (cQ (b:=1) rfl (nk (ah Tx.sA (ah h1.sz mT)) (by decide))) aa)),aa,af (λk hk=>?_) aa,aa,aa⟩
  have e:=h2 k hk;show eZ (E L2.prog k) qS.c qS.b fc (bq _ (qS.aH 0 (.int 0) (.int 0) (MK V.S.ws))) (aQ _ (sE 3 (cond V.S.ws [] [.str [32]]) (vz (cond V.S.ws (X 7) (X 8)) (X 12) false false)))=some (.next,bq _ (fl 9),aQ _ (sE 7 [] (vz (X 43) (X 44) false false)))
  unfold Bw at e;rw [iy (x:=V.x) (J:=ML V.S.ws J) (by rw [← hr];cases V.S.ws<;>rfl),iy (x:=V.x) (J:=J.set rs l) hr] at e
  rw [y9,QF.aH (RC V J T.l.length J.line (qS.go V 0 0 0 (T.put (sep V.S.ws)) [] V.v).l.length l rs a) (RL V 0 0 λi=>cond (Nat.beq i 0) (cond V.S.ws none (some (.str [32]))) none) 0 (.int 0) (.int 0) (X 2) (X 3) (MK V.S.ws) .o rfl rfl rfl λi=>by
   show (cond (Nat.beq i 0) (cond V.S.ws SL.u (.v (.str [32]))) .u).I _=cond (Nat.beq i 0) (cond V.S.ws none (some (.str [32]))) none
   cases Nat.beq i 0<;>cases V.S.ws<;>rfl]
  revert e;have hl:(T.put (sep V.S.ws)).l.length=T.l.length+cond V.S.ws 0 1:=by
   show (T.l++_).length=_
   rw [aM];cases V.S.ws<;>rfl
  unfold Bv Co.fl;rw [hV.ind,hl]
  cases V.S.ws<;>exact id
 refine ⟨rs,l,h1.mono (by rw [Nat.add_assoc];exact bx (by decide) n),λk hk=>?_⟩
 have e:=fR K (aj (aj Z2 (ak V.S.ws)) (ak V.S.ind)) hk;rw [iy hr,iy (x:=V.x) (S:=V.S.fl false) (J:=J.set rs l) hr];revert e;unfold Bv Co.fl;rw [hV.ind];exact id
theorem J9{w:kB}{q f:Nat}{s:aA}(W:nt w)(hq:q< 128)(hs:NY s=w.c∧NZ s=w.b)(hw:s=.cN (NY s) (NZ s))(hf:w.fl 0=false)(p:∀ws ind fb,cX L2.prog (cF [SG q s (w.aH 0 (.int 0) (.int 0) λ_=>.u) w.n ws fb]) 75 f [.obj 5,X 0,.bool true] (sE 3 [] (vz (X 7) (X 12) ws ind)) .none (sE 7 [.str [q]] (vz (X 45) (X 44) false false))=true)(hi:w.inv 0 V.M (T.put (sep V.S.ws++[q])).l.length [])(hc:∀c∈V.v,cl c∈w.cs)(hJ:JOw V.x V.S J T n)(hn:n+5400≤big):qT V.x f V.v V.S T J V.q V.e ((w.go V 0 0 0 (T.put (sep V.S.ws++[q])) [] V.v).put [q]) (n+5400):=by
 have mT:n+2+5300≤big:=ah (by rw [Nat.add_assoc];exact bx (by decide) n) hn
 have Z5:(sep V.S.ws++[q]).length≤2:=ah (Nat.le_of_eq aM) (Nat.add_le_add xq (bf 1));obtain ⟨rs,l,σ,a,h1,h2⟩:=kB.J8 W hV (λ_=>none) hi hc hA (hJ.put Z5 (by decide)) mT
 have h1:JOw V.x V.S (J.set rs l) _ _:=h1;have h3:=h1.put (V:=V) (s:=[q]) (m:=1) (bf _) (bf _);have QH:T.l.length≤big:=ah Tx.sA (ah hJ.sz (ah (bI _ _) hn));have K:Holds L2.prog (RC V J T.l.length J.line (w.go V 0 0 0 (T.put (sep V.S.ws++[q])) [] V.v).l.length l rs a) (cF [SG q s (w.aH 0 (.int 0) (.int 0) λ_=>.u) w.n V.S.ws (w.fl σ)]):=by
  refine ⟨af (λ_=>congrArg (λb=>some !b) hV.ne) aa,aa,aa,aa,aa,aa,aa,af (xj (ah hJ.rows (ah (bI _ _) hn))) (af (xj (ah h1.rows mT)) aa),af (cQ (b:=1) rfl (nk QH (by decide))) (af (cQ (b:=2) rfl (nk QH (by decide))) (af (cQ (b:=1) rfl (nk (ah Tx.sA (ah h1.sz mT)) (by decide))) aa)),aa,af (λk hk=>?_) aa,aa,aa⟩
  have e:=h2 k hk;show bU L2.prog (E L2.prog k) s (bq _ (w.aH 0 (.int 0) (.int 0) λ_=>.u)) (aQ _ (sE 3 [.str (sep V.S.ws++[q])] (vz (cond V.S.ws (X 8) (X 9)) (X 12) false false)))=some (.next,bq _ (fl w.n),aQ _ (sE 7 [] (vz (X 43) (X 44) (w.fl σ) (w.fl σ))))
  rw [hw,hs.1,hs.2];show eZ (E L2.prog k) w.c w.b fc _ _=_
  unfold Bw at e;rw [iy (x:=V.x) (J:=J.set (J.rows++[MV.str (sep V.S.ws++[q])]) J.line) hr,iy (x:=V.x) (J:=(J.set (J.rows++[MV.str (sep V.S.ws++[q])]) J.line).set rs l) hr] at e;rw [y9,W.aH (RC V J T.l.length J.line (w.go V 0 0 0 (T.put (sep V.S.ws++[q])) [] V.v).l.length l rs a) (RL V 0 0 λ_=>none) 0 (.int 0) (.int 0) (X 2) (X 3) (λ_=>.u) .o rfl rfl rfl λ_=>rfl]
  revert e;unfold Bv Co.fl;rw [hV.ind,hf];have hl:(T.put (sep V.S.ws++[q])).l.length=T.l.length+cond V.S.ws 1 2:=by
   show (T.l++_).length=_
   rw [aM];cases V.S.ws<;>rfl
  rw [hl]
  cases V.S.ws<;>exact id
 have h3:JOw V.x V.S (J.set (rs++[MV.str [q]]) l) _ _:=h3;refine ⟨rs++[MV.str [q]],l,h3.mono (by rw [Nat.add_assoc,Nat.add_assoc];exact bx (by decide) n),λk hk=>?_⟩
 have e:=fR K (p V.S.ws V.S.ind (w.fl σ)) hk;rw [iy hr,iy (x:=V.x) (S:=V.S.fl false) (J:=J.set (rs++[MV.str [q]]) l) hr];revert e;have hl:((w.go V 0 0 0 (T.put (sep V.S.ws++[q])) [] V.v).put [q]).l.length=(w.go V 0 0 0 (T.put (sep V.S.ws++[q])) [] V.v).l.length+1:=aM;unfold Bv Co.fl;rw [hV.ind,hl];exact id
theorem MN(hc:∀c∈V.v,cl c∈xm)(hJ:JOw V.x V.S J T n)(hn:n+5400≤big):qT V.x 55 V.v V.S T J V.q V.e ((pZ.go V 0 0 0 (T.put (sep V.S.ws++[39])) [] V.v).put [39]) (n+5400):=J9 hV hr hA UW (s:=IG) (by decide) ⟨rfl,rfl⟩ rfl rfl (λws ind fb=>aj (aj (aj Z3 (ak ws)) (ak ind)) (ak fb)) (.inl rfl) hc hJ hn
theorem MO(hc:∀c∈V.v,cl c∈Sz)(hJ:JOw V.x V.S J T n)(hn:n+5400≤big):qT V.x 56 V.v V.S T J V.q V.e ((IJ.go V 0 0 0 (T.put (sep V.S.ws++[34])) [] V.v).put [34]) (n+5400):=J9 hV hr hA UY (s:=II) (by decide) ⟨rfl,rfl⟩ rfl rfl (λws ind fb=>aj (aj (aj Z4 (ak ws)) (ak ind)) (ak fb)) rfl hc hJ hn
end
noncomputable def qq(W:Int)(M:Nat)(T:Tx)(g:List Nat):Tx:=cond (decide (g.length=1)&&decide (W< (T.l.length:Nat))) (T.nl M) (T.put g)
noncomputable def sH(q:List Nat)(c:Nat):List Nat:=cond (nG [c] q) [c,c] [c]
noncomputable def dbl(q w:List Nat):List Nat:=w.flatMap (sH q)
noncomputable def kU(W:Int)(M:Nat)(q:List Nat)(T:Tx)(p:Nat×List Nat):Tx:=(qq W M T (dN p.1)).put (dbl q p.2)
noncomputable def IL(w:List Nat)(prs:List (Nat×List Nat)):List Nat:=w++prs.flatMap λp=>dN p.1++p.2
theorem cR{T:Tx}:T.put []=T:=congrArg (Tx.mk T.d) (cM _)
theorem Ka{a b:Nat}(h:a≠b):Nat.beq a b=false:=by
 cases q:Nat.beq a b with
 |true=>exact absurd (bQ q) h
 |false=>rfl
theorem IM{c:Nat}(h:c≠32):Nat.beq (cl c) 32=false:=by
 refine Ka λe=>h ?_
 unfold cl at e;split at e<;>first|rfl|cases e
set_option tactic.hygienic true in
theorem QI{c:Nat}:Nat.beq (cl c) 39=Nat.beq c 39:=by
 unfold cl;split<;>first|rfl|skip
 rename_i h1 h2 h3 h4 h5 h6;exact (Ka h2).symm
noncomputable def sg(W:Int)(M:Nat)(q:Bool):Bool→Tx→List Nat→List Nat→Tx
 |false,T,p,[]=>T.put p
 |true,T,p,[]=>cond q (T.put p) (qq W M T p)
 |false,T,p,c::r=>cond (q&&Nat.beq c 39) (sg W M q false ((T.put p).put q2) [] r) (cond (Nat.beq (cl c) 32) (sg W M q true (T.put p) [c] r) (sg W M q false T (p++[c]) r))
 |true,T,p,c::r=>cond (Nat.beq (cl c) 32) (sg W M q true T (p++[c]) r) (cond (q&&Nat.beq c 39) (sg W M q false ((qq W M T p).put q2) [] r) (sg W M q false (qq W M T p) [c] r))
section
variable {V:Wv}
theorem El{p:List Nat}{T:Tx}{a b:Tx}(ha:p≠[]→a=T.put p)(hb:b=T):cond (!p.isEmpty) a b=T.put p:=by
 cases p with
 |nil=>exact hb.trans cR.symm
 |cons _ _=>exact ha nofun
theorem Kc{fg:Fg}{s:Nat}{ch:MV}{p:List Nat}{M:Nat}{T:Tx}{W:Int}(h1:fg.one=decide (p.length=1))(h2:fg.g=decide (W< (T.l.length:Nat))):gH M p (FA fg s ch).ps T=qq W M T p∧(FA fg s ch).s=s∧(FA fg s ch).kd=.new:=by
 unfold FA qq;rw [h1,h2]
 cases decide (p.length=1)&&decide (W< (T.l.length:Nat))<;>exact ⟨rfl,rfl,rfl⟩
theorem Ke{fg:Fg}{s:Nat}{ch:MV}{p:List Nat}{M:Nat}{T:Tx}(h1:fg.nz= !p.isEmpty):gH M p (qp fg s ch).ps T=T.put p∧(qp fg s ch).s=s∧(qp fg s ch).kd=.new:=by
 unfold qp;rw [h1]
 cases p<;>exact ⟨rfl,rfl,rfl⟩
noncomputable def QJ(b:Bool):Nat:=cond b 1 0
theorem UZ(r:List Nat):∀(b:Bool) (S E:Nat) (T:Tx) (p:List Nat),qS.go V (QJ b) S E T p r=sg V.x.W V.M false b T p r:=by
 induction r with
 |nil=>
  intro b S E T p
  cases b with
  |false=>exact (Ke (s:=0) (ch:=.none) (fg:=cy V S E p T.l.length 2 []) rfl).1
  |true=>exact (Kc (s:=1) (ch:=.none) (W:=V.x.W) (fg:=cy V S E p T.l.length 2 []) rfl rfl).1
 |cons c r ih=>
  intro b S E T p
  cases b with
  |false=>
   show qS.go V (jO 0 (cy V S E p T.l.length 2 (c::r)) (cl c)).s _ _ (gH V.M p (jO 0 (cy V S E p T.l.length 2 (c::r)) (cl c)).ps T) ((jO 0 (cy V S E p T.l.length 2 (c::r)) (cl c)).kd.pend p c) r=cond (Nat.beq (cl c) 32) (sg V.x.W V.M false true (T.put p) [c] r) (sg V.x.W V.M false false T (p++[c]) r)
   unfold jO
   cases Nat.beq (cl c) 32 with
   |true=>
    have h:=Ke (s:=1) (ch:=kZ (cl c)) (M:=V.M) (T:=T) (fg:=cy V S E p T.l.length 2 (c::r)) rfl;show qS.go V (qp _ 1 (kZ (cl c))).s _ _ (gH V.M p (qp _ 1 (kZ (cl c))).ps T) ((qp _ 1 (kZ (cl c))).kd.pend p c) r=_
    rw [h.1,h.2.1,h.2.2];exact ih true _ _ _ _
   |false=>exact ih false _ _ _ _
  |true=>
   show qS.go V (jO 1 (cy V S E p T.l.length 2 (c::r)) (cl c)).s _ _ (gH V.M p (jO 1 (cy V S E p T.l.length 2 (c::r)) (cl c)).ps T) ((jO 1 (cy V S E p T.l.length 2 (c::r)) (cl c)).kd.pend p c) r=cond (Nat.beq (cl c) 32) (sg V.x.W V.M false true T (p++[c]) r) (sg V.x.W V.M false false (qq V.x.W V.M T p) [c] r)
   unfold jO
   cases Nat.beq (cl c) 32 with
   |true=>exact ih true _ _ _ _
   |false=>
    have h:=Kc (s:=0) (ch:=kZ (cl c)) (M:=V.M) (T:=T) (W:=V.x.W) (fg:=cy V S E p T.l.length 2 (c::r)) rfl rfl;show qS.go V (FA _ 0 (kZ (cl c))).s _ _ (gH V.M p (FA _ 0 (kZ (cl c))).ps T) ((FA _ 0 (kZ (cl c))).kd.pend p c) r=_
    rw [h.1,h.2.1,h.2.2];exact ih false _ _ _ _
theorem U0{fg:Fg}{σ c:Nat}{p:List Nat}{M:Nat}{T:Tx}(h1:fg.nz= !p.isEmpty):(Nat.beq c 39=true→gH M p (jg σ fg c).ps T=(T.put p).put q2∧(jg σ fg c).s=σ∧(jg σ fg c).kd=.emp)∧(Nat.beq c 39=false→Nat.beq c 32=true→gH M p (jg σ fg c).ps T=T.put p∧(jg σ fg c).s=σ+1∧(jg σ fg c).kd=cond fg.nz .new .ext)∧(Nat.beq c 39=false→Nat.beq c 32=false→gH M p (jg σ fg c).ps T=T∧(jg σ fg c).s=σ∧(jg σ fg c).kd=.ext):=by
 unfold jg;rw [h1];refine ⟨λh=>?_,λh h'=>?_,λh h'=>?_⟩<;>rw [h]
 ·cases p with
  |nil=>exact ⟨congrArg (Tx.put · q2) cR.symm,rfl,rfl⟩
  |cons _ _=>exact ⟨rfl,rfl,rfl⟩
 ·rw [h']
  cases p with
  |nil=>exact ⟨cR.symm,rfl,rfl⟩
  |cons _ _=>exact ⟨rfl,rfl,rfl⟩
 ·rw [h'];exact ⟨rfl,rfl,rfl⟩
theorem U1{fg:Fg}{σ c:Nat}{p:List Nat}{M:Nat}{T:Tx}{W:Int}(h1:fg.one=decide (p.length=1))(h2:fg.g=decide (W< (T.l.length:Nat)))(h3:fg.s0=true)(p7:σ=0∨σ=2):(Nat.beq c 32=true→gH M p (jP σ fg c).ps T=T∧(jP σ fg c).s=σ+1∧(jP σ fg c).kd=.ext)∧(Nat.beq c 32=false→((jP σ fg c).s=0∨(jP σ fg c).s=2)∧gH M p (jP σ fg c).ps T=cond (Nat.beq c 39) ((qq W M T p).put q2) (qq W M T p)∧(jP σ fg c).kd=cond (Nat.beq c 39) .emp .new):=by
 unfold jP qq;rw [h1,h2,h3,Bool.and_true];refine ⟨λh=>?_,λh=>?_⟩<;>rw [h]
 ·exact ⟨rfl,rfl,rfl⟩
 ·cases Nat.beq c 39<;>cases decide (p.length=1)&&decide (W< (T.l.length:Nat))<;>first|exact ⟨p7,rfl,rfl⟩|exact ⟨.inr rfl,rfl,rfl⟩
theorem QK{c:Nat}(h:Nat.beq (cl c) 32=true):c=32:=by
 refine Decidable.byContradiction λq=>?_
 rw [IM q] at h;cases h
theorem U3(r:List Nat):∀(b:Bool) (σ S E:Nat) (T:Tx) (p:List Nat),(σ=0∨σ=2)→E=S+p.length→(b=true→1≤S)→(1≤E∨r.head? ≠some 32)→pZ.go V (σ+QJ b) S E T p r=sg V.x.W V.M true b T p r:=by
 induction r with
 |nil=>
  intro b σ S E T p p7 hE hS h0
  cases b with
  |false=>
   refine Eq.trans ?_ (El (p:=p) (T:=T) (a:=T.put p) (λ_=>rfl) rfl)
   rcases p7 with rfl|rfl<;>cases p<;>rfl
  |true=>rcases p7 with rfl|rfl<;>rfl
 |cons c r ih=>
  intro b σ S E T p p7 hE hS h0;have MP:1≤E+1∨r.head? ≠some 32:=.inl (Nat.le_add_left _ _)
  cases b with
  |false=>
   have h:=U0 (σ:=σ) (c:=cl c) (p:=p) (M:=V.M) (T:=T) (fg:=cy V S E p T.l.length 2 (c::r)) rfl;have Pq:pZ.go V (σ+QJ false) S E T p (c::r)=pZ.go V (jg σ (cy V S E p T.l.length 2 (c::r)) (cl c)).s ((jg σ (cy V S E p T.l.length 2 (c::r)) (cl c)).kd.S S p.length) (E+1) (gH V.M p (jg σ (cy V S E p T.l.length 2 (c::r)) (cl c)).ps T) ((jg σ (cy V S E p T.l.length 2 (c::r)) (cl c)).kd.pend p c) r:=by rcases p7 with rfl|rfl<;>rfl
   rw [Pq];show _=cond (true&&Nat.beq c 39) _ (cond (Nat.beq (cl c) 32) _ _)
   rw [Bool.true_and, ← QI]
   cases q1:Nat.beq (cl c) 39 with
   |true=>have h:=h.1 q1;rw [h.1,h.2.1,h.2.2];exact ih false σ _ _ _ [] p7 (by show E+1=S+p.length+1+0;rw [hE]) nofun MP
   |false=>cases q2:Nat.beq (cl c) 32 with
    |true=>
     have h:=h.2.1 q1 q2;have WX:1≤E:=h0.resolve_right λz=>z (congrArg some (QK q2))
     rw [h.1,h.2.1,h.2.2];show pZ.go V (σ+QJ true) ((cond (!p.isEmpty) Pk.new Pk.ext).S S p.length) (E+1) (T.put p) ((cond (!p.isEmpty) Pk.new Pk.ext).pend p c) r=sg V.x.W V.M true true (T.put p) [c] r
     cases p with
     |nil=>exact ih true σ S _ _ [c] p7 (by rw [hE];rfl) (λ_=>by rw [hE] at WX;exact WX) MP
     |cons x y=>exact ih true σ _ _ _ [c] p7 (by show _=S+(x::y).length+1;rw [hE]) (λ_=>ah (Nat.succ_le_succ (Nat.zero_le _)) (Nat.le_add_left _ _)) MP
    |false=>have h:=h.2.2 q1 q2;rw [h.1,h.2.1,h.2.2];exact ih false σ _ _ _ _ p7 (by show _=S+(p++[c]).length;rw [hE,aM];rfl) nofun MP
  |true=>
   have h3:(!decide (S=0))=true:=by rw [decide_eq_false (Nat.ne_of_gt (hS rfl))];rfl
   have h:=U1 (c:=cl c) (p:=p) (M:=V.M) (T:=T) (W:=V.x.W) (fg:=cy V S E p T.l.length 2 (c::r)) rfl rfl h3 p7;have Pq:pZ.go V (σ+QJ true) S E T p (c::r)=pZ.go V (jP σ (cy V S E p T.l.length 2 (c::r)) (cl c)).s ((jP σ (cy V S E p T.l.length 2 (c::r)) (cl c)).kd.S S p.length) (E+1) (gH V.M p (jP σ (cy V S E p T.l.length 2 (c::r)) (cl c)).ps T) ((jP σ (cy V S E p T.l.length 2 (c::r)) (cl c)).kd.pend p c) r:=by rcases p7 with rfl|rfl<;>rfl
   rw [Pq];show _=cond (Nat.beq (cl c) 32) _ (cond (true&&Nat.beq c 39) _ _)
   rw [Bool.true_and, ← QI]
   cases q2:Nat.beq (cl c) 32 with
   |true=>have h:=h.1 q2;rw [h.1,h.2.1,h.2.2];exact ih true σ _ _ _ _ p7 (by show _=S+(p++[c]).length;rw [hE,aM];rfl) (λ_=>hS rfl) MP
   |false=>
    have h:=h.2 q2;rw [h.2.1,h.2.2]
    cases Nat.beq (cl c) 39 with
    |true=>exact ih false _ _ _ _ [] h.1 (by show E+1=S+p.length+1+0;rw [hE]) nofun MP
    |false=>exact ih false _ _ _ _ [c] h.1 (by show E+1=S+p.length+1;rw [hE]) nofun MP
end
def IP(w:List Nat):Prop:=∀c∈w,c≠32
noncomputable def qs(q:Bool):List Nat:=cond q [39] []
theorem IQ{q:Bool}{c:Nat}:sH (qs q) c=cond (q&&Nat.beq c 39) q2 [c]:=by
 cases q with
 |false=>rfl
 |true=>
  show cond (Nat.beq c 39&&true) [c,c] [c]=cond (Nat.beq c 39) q2 [c]
  rw [Bool.and_true]
  cases h:Nat.beq c 39 with
  |true=>rw [bQ h];rfl
  |false=>rfl
section
variable {W:Int}{M:Nat}{q:Bool}
theorem nY{r:List Nat}:∀(w:List Nat) (T:Tx) (p:List Nat),IP w→∃T' p',sg W M q false T p (w++r)=sg W M q false T' p' r∧T'.put p'=(T.put p).put (dbl (qs q) w)
 |[],T,p,_=>⟨T,p,rfl,cR.symm⟩
 |c::w,T,p,h=>by
  have hb:Nat.beq (cl c) 32=false:=IM (h c (b7 ..));have hw:IP w:=λd hd=>h d (bP _ hd)
  show ∃T' p',cond (q&&Nat.beq c 39) (sg W M q false ((T.put p).put q2) [] (w++r)) (cond (Nat.beq (cl c) 32) _ (sg W M q false T (p++[c]) (w++r)))=_∧_=(T.put p).put (sH (qs q) c++dbl (qs q) w)
  rw [hb,IQ, ← Tx.dO]
  cases q&&Nat.beq c 39 with
  |true=>obtain ⟨T',p',e1,e2⟩:=nY w ((T.put p).put q2) [] hw;exact ⟨T',p',e1,e2.trans (congrArg (Tx.put · _) cR)⟩
  |false=>obtain ⟨T',p',e1,e2⟩:=nY w T (p++[c]) hw;exact ⟨T',p',e1,e2.trans (congrArg (Tx.put · _) Tx.dO.symm)⟩
theorem En{r:List Nat}{T:Tx}:∀(g:Nat) (p:List Nat),sg W M q true T p (dN g++r)=sg W M q true T (p++dN g) r
 |0,p=>by rw [show dN 0=[] from rfl,cM];rfl
 |g+1,p=>by
  show sg W M q true T (p++[32]) (dN g++r)=sg W M q true T (p++32::dN g) r
  rw [En g (p++[32]),cU];rfl
theorem MQ{r:List Nat}{T:Tx}{p:List Nat}{c:Nat}(h:c≠32):sg W M q true T p (c::r)=sg W M q false (qq W M T p) [] (c::r):=by
 show cond (Nat.beq (cl c) 32) _ (cond (q&&Nat.beq c 39) (sg W M q false ((qq W M T p).put q2) [] r) (sg W M q false (qq W M T p) [c] r))=cond (q&&Nat.beq c 39) (sg W M q false (((qq W M T p).put []).put q2) [] r) (cond (Nat.beq (cl c) 32) _ (sg W M q false (qq W M T p) [c] r))
 rw [IM h,cR];rfl
theorem Eo:∀(prs:List (Nat×List Nat)) (T:Tx) (p:List Nat),(∀a∈prs,1≤a.1∧a.2≠[]∧IP a.2)→sg W M q false T p (prs.flatMap λa=>dN a.1++a.2)=prs.foldl (kU W M (qs q)) (T.put p)
 |[],T,p,_=>rfl
 |(g,w)::prs,T,p,h=>by
  obtain ⟨hg,hw,hn⟩:=h _ (b7 ..);obtain ⟨g,rfl⟩:=Nat.exists_eq_add_of_le' hg;have ih:=λT p=>Eo prs T p λa ha=>h a (bP _ ha)
  cases w with
  |nil=>exact absurd rfl hw
  |cons c w=>
   show sg W M q false T p ((32::dN g++c::w)++prs.flatMap λa=>dN a.1++a.2)=prs.foldl (kU W M (qs q)) ((qq W M (T.put p) (dN (g+1))).put (dbl (qs q) (c::w)))
   have e1:sg W M q false T p ((32::dN g++c::w)++prs.flatMap λa=>dN a.1++a.2)=sg W M q true (T.put p) [32] (dN g++(c::w++prs.flatMap λa=>dN a.1++a.2)):=by
    rw [cU];show cond (q&&Nat.beq 32 39) _ (sg W M q true (T.put p) [32] _)=_
    rw [show Nat.beq 32 39=false from rfl,Bool.and_false];rfl
   rw [e1,En];refine (MQ (r:=w++prs.flatMap λa=>dN a.1++a.2) (hn c (b7 ..))).trans ?_
   obtain ⟨T',p',e2,e3⟩:=nY (W:=W) (M:=M) (q:=q) (r:=prs.flatMap λa=>dN a.1++a.2) (c::w) (qq W M (T.put p) ([32]++dN g)) [] hn
   refine e2.trans ?_;rw [ih,e3,cR];rfl
theorem sI{w:List Nat}{prs:List (Nat×List Nat)}{T:Tx}(hw:IP w)(h:∀a∈prs,1≤a.1∧a.2≠[]∧IP a.2):sg W M q false T [] (IL w prs)=prs.foldl (kU W M (qs q)) (T.put (dbl (qs q) w)):=by
 obtain ⟨T',p',e2,e3⟩:=nY (W:=W) (M:=M) (q:=q) (r:=prs.flatMap λa=>dN a.1++a.2) w T [] hw
 unfold IL;rw [e2,Eo _ _ _ h,e3,cR]
end
noncomputable def bN(n i:Nat):Bool:=decide (0< i)&&decide (i< n - 1)
noncomputable def QL(b:Bool):List Nat:=cond b jy []
noncomputable def Kf(M:Nat)(T:Tx)(b:Bool):Tx:=((T.put jy).nl M).put (QL b)
noncomputable def Kg(W:Int)(M:Nat)(inner nx:Bool)(T:Tx)(c:Nat):Tx:=cond (inner&&decide (W< ((T.put (eu c)).l.length:Nat) - 1)) (Kf M (T.put (eu c)) nx) (T.put (eu c))
noncomputable def U4(W:Int)(M:Nat)(inner es:Bool)(T:Tx)(c:Nat):Tx:=(cond (inner&&(es||Nat.beq c 32)&&decide (W< (T.l.length:Nat))) (Kf M T (Nat.beq c 32)) T).put [c]
noncomputable def IU(W:Int)(M n i:Nat)(es:Bool)(T:Tx)(r:List Nat)(c:Nat):Tx:=cond (eu c).isEmpty (U4 W M (bN n i) es T c) (Kg W M (bN n i) (Nat.beq (A7 r) 32) T c)
noncomputable def vA(W:Int)(M n:Nat):Nat→Bool→Tx→List Nat→Tx
 |_,_,T,[]=>T
 |i,es,T,c::r=>vA W M n (i+1) (!(eu c).isEmpty) (IU W M n i es T (c::r) c) r
theorem IW{c:Nat}(h1:c≠34)(h2:c≠92)(h3:c≠9)(h4:c≠233):eu c=[]:=by unfold eu;split<;>first|rfl|contradiction
set_option tactic.hygienic true in
theorem sJ{c:Nat}:eu (cl c)=eu c:=by
 unfold cl;split<;>first|rfl|skip
 rename_i h1 h2 h3 h4 h5 h6;exact (IW h3 h4 h5 h6).symm
theorem QM{c:Nat}:Nat.beq (cl c) 32=Nat.beq c 32:=by
 cases h:Nat.beq c 32 with
 |true=>rw [bQ h];rfl
 |false=>exact IM (Nat.ne_of_beq_eq_false h)
theorem MR{a:List Nat}{c:Nat}:(a++[c]).isEmpty=false:=by cases a<;>rfl
section
variable {V:Wv}
theorem Z6{fg:Fg}{c:Nat}{p:List Nat}{M:Nat}{T:Tx}{W:Int}{inner:Bool}(he:(eu c).isEmpty=false)(h1:fg.nz= !p.isEmpty)(hi:(fg.b0&&fg.b1)=inner)(hk:fg.gk=decide (W< ((T.l.length+p.length+(eu c).length - 1:Nat):Int)))(hl:fg.gl=decide (W< ((T.l.length+(eu c).length - 1:Nat):Int))):gH M p (jQ fg c).ps T=Kg W M inner fg.nx (T.put p) c∧(jQ fg c).kd=.emp∧(jQ fg c).s=0:=by
 have Pb:1≤(eu c).length:=by
  revert he
  cases eu c with
  |nil=>exact nofun
  |cons _ _=>exact λ_=>Nat.succ_le_succ (Nat.zero_le _)
 have hd:cond fg.nz fg.gk fg.gl=decide (W< ((((T.put p).put (eu c)).l.length:Nat):Int) - 1):=by
  have e:((((T.put p).put (eu c)).l.length:Nat):Int) - 1=((T.l.length+p.length+(eu c).length - 1:Nat):Int):=by
   show (((T.l++p)++eu c).length:Int) - 1=_
   rw [aM,aM];lia
  rw [e,h1,hk,hl]
  cases p with
  |nil=>rfl
  |cons _ _=>rfl
 unfold jQ Kg;rw [he,hi,hd,h1]
 cases inner&&decide (W< ((((T.put p).put (eu c)).l.length:Nat):Int) - 1) with
 |false=>
  cases p with
  |nil=>exact ⟨congrArg (Tx.put · _) cR.symm,rfl,rfl⟩
  |cons _ _=>exact ⟨rfl,rfl,rfl⟩
 |true=>
  have e:Kf M ((T.put p).put (eu c)) fg.nx=gH M p (.lit jy::.lb::.nq::cond fg.nx [.lit jy] []) ((T.put p).put (eu c)):=by
   cases fg.nx with
   |true=>rfl
   |false=>exact cR
  refine ⟨?_,rfl,rfl⟩;show _=Kf M ((T.put p).put (eu c)) fg.nx
  rw [e]
  cases p with
  |nil=>exact congrArg (λz=>gH M [] _ (Tx.put z (eu c))) cR.symm
  |cons _ _=>rfl
theorem Z7{fg:Fg}{c d:Nat}{p:List Nat}{M:Nat}{T:Tx}{W:Int}{inner es:Bool}(he:(eu c).isEmpty=true)(h1:fg.nz= !p.isEmpty)(hi:(fg.b0&&fg.b1)=inner)(hq:fg.gq=decide (W< ((T.l.length+p.length:Nat):Int)))(U5:inner=true→es=p.isEmpty):(gH M p (jQ fg c).ps T).put ((jQ fg c).kd.pend p d)=(cond (inner&&(es||Nat.beq c 32)&&decide (W< ((T.put p).l.length:Nat))) (Kf M (T.put p) (Nat.beq c 32)) (T.put p)).put [d]∧(jQ fg c).s=0∧(jQ fg c).kd≠.emp:=by
 have hb:(fg.b0&&fg.b1&&(Nat.beq c 32|| !fg.nz)&&fg.gq)=(inner&&(es||Nat.beq c 32)&&decide (W< ((T.put p).l.length:Nat))):=by
  rw [hi,h1,hq,show ((T.put p).l.length:Int)=((T.l.length+p.length:Nat):Int) from congrArg Int.ofNat aM,Bool.not_not]
  cases inner with
  |false=>rfl
  |true=>rw [U5 rfl,Bool.or_comm]
 unfold jQ;rw [he,hb,h1]
 cases inner&&(es||Nat.beq c 32)&&decide (W< ((T.put p).l.length:Nat)) with
 |false=>exact ⟨Tx.dO.symm,rfl,nofun⟩
 |true=>
  have e:∀b,Kf M (T.put p) b=gH M p (cond (!p.isEmpty) .pb (.lit jy)::.lb::.nq::cond b [.lit jy] []) T:=λb=>by
   have h0:gH M p [cond (!p.isEmpty) .pb (.lit jy)] T=(T.put p).put jy:=by
    cases p with
    |nil=>exact congrArg (Tx.put · jy) cR.symm
    |cons x y=>exact Tx.dO.symm
   show ((((T.put p).put jy).brk).put (dN M)).put (QL b)=gH M p (.lb::.nq::cond b [.lit jy] []) (gH M p [cond (!p.isEmpty) .pb (.lit jy)] T)
   rw [h0]
   cases b with
   |true=>rfl
   |false=>exact cR
  refine ⟨?_,rfl,?_⟩
  ·show (gH M p (cond (!p.isEmpty) .pb (.lit jy)::.lb::.nq::cond (Nat.beq c 32) [.lit jy] []) T).put ((cond (!p.isEmpty) Pk.new Pk.ext).pend p d)=(Kf M (T.put p) (Nat.beq c 32)).put [d]
   rw [e];cases p<;>rfl
  ·cases p<;>exact nofun
theorem U6(r:List Nat):∀(S E:Nat) (T:Tx) (p:List Nat) (es:Bool),(1≤E→es=p.isEmpty)→IJ.go V 0 S E T p r=vA V.x.W V.M V.v.length E es (T.put p) r:=by
 induction r with
 |nil=>intro S E T p es he;exact El (p:=p) (a:=T.put p) (b:=T) (λ_=>rfl) rfl|>.symm▸(by cases p<;>rfl)
 |cons c r ih=>
  intro S E T p es U5;show IJ.go V (jQ (cy V S E p T.l.length (FE (some (cl c))) (c::r)) (cl c)).s _ _ (gH V.M p (jQ (cy V S E p T.l.length (FE (some (cl c))) (c::r)) (cl c)).ps T) ((jQ (cy V S E p T.l.length (FE (some (cl c))) (c::r)) (cl c)).kd.pend p c) r=vA V.x.W V.M V.v.length (E+1) (!(eu c).isEmpty) (IU V.x.W V.M V.v.length E es (T.put p) (c::r) c) r
  have IY:bN V.v.length E=true→es=p.isEmpty:=λh=>U5 (bz (aZ.mp h).1)
  unfold IU
  cases q:(eu c).isEmpty with
  |true=>
   have h:=Z7 (c:=cl c) (d:=c) (p:=p) (M:=V.M) (T:=T) (W:=V.x.W) (inner:=bN V.v.length E) (es:=es) (fg:=cy V S E p T.l.length (FE (some (cl c))) (c::r)) (by rw [sJ];exact q) rfl rfl rfl IY
   revert h;generalize jQ (cy V S E p T.l.length (FE (some (cl c))) (c::r)) (cl c)=t;intro h;rw [h.2.1,ih _ _ _ _ false λ_=>by cases hk:t.kd with
    |emp=>exact absurd hk h.2.2
    |new=>rfl
    |ext=>exact MR.symm,h.1,QM]
   rfl
  |false=>
   have hk:FE (some (cl c))=(eu (cl c)).length:=by
    show cond (eu (cl c)).isEmpty 2 _=_
    rw [sJ,q];rfl
   have h:=Z6 (c:=cl c) (p:=p) (M:=V.M) (T:=T) (W:=V.x.W) (inner:=bN V.v.length E) (fg:=cy V S E p T.l.length (FE (some (cl c))) (c::r)) (by rw [sJ];exact q) rfl rfl (by rw [hk];rfl) (by rw [hk];rfl)
   have Z8:(cy V S E p T.l.length (FE (some (cl c))) (c::r)).nx=Nat.beq (A7 (c::r)) 32:=rfl;revert h;rw [Z8];generalize jQ (cy V S E p T.l.length (FE (some (cl c))) (c::r)) (cl c)=t;intro h;rw [h.2.2,h.2.1,ih _ _ _ _ true λ_=>rfl,h.1]
   show vA _ _ _ _ _ ((Kg _ _ _ _ (T.put p) (cl c)).put []) r=vA _ _ _ _ _ (Kg _ _ _ _ (T.put p) c) r
   rw [cR];unfold Kg;rw [sJ];rfl
end
noncomputable def Z9(ws ind indent col line c6:MV):Em:={state:=X 27,event:=X 60,indent:=indent,c6:=c6,root:=X 15,seq:=X 16,map:=X 17,sk:=X 18,line:=line,col:=col,ws:=ws,ind:=ind,oe:=.bool false,au:=.none,bi:=X 3,tp:=X 19,an:=.none,st:=.none,bw:=X 1,lb:=X 5}
noncomputable def sG(rp:Nat)(rows:List MV)(sp:Nat)(sL:List MV)(ip:Nat)(ids:List MV)(e:Em):aS:=[.list (some 0) [],.list (some 1) [],.list (some 2) [],.inst 16 [(128,.obj 4)],.list (some rp) rows,.inst 15 e.at,.list (some sp) sL,.list (some 5) [],.list (some ip) ids]
noncomputable def RD(x:Cx)(S:Co)(T:Tx)(J:Ju)(q:List MV)(e:MV)(p:Nat)(aP cT:List MV)(lst bL:MV)(nm v:List Nat)(mp:Bool)(ex:List MV)(S':Co)(T':Tx)(J':Ju):d7:=
 R ([.int (T.l.length:Nat),.int x.W,.int (p:Nat),.int (x.step:Nat),.int ((p+x.step:Nat):Int),.str x.lb,.int (J.line:Nat),.int ((J.line+1:Nat):Int),.int ((T.l.length+1:Nat):Int),.int ((T.l.length+2:Nat):Int),
  .str (dN p),.int ((p - T.l.length:Nat):Int),.str (dN (p - T.l.length)),.int ((p+1:Nat):Int),.int ((p+2:Nat):Int),J.root,J.seq,J.map,J.sk,J.tp,
  .str nm,.str (42::nm),.str (32::42::nm),.int ((nm.length+1:Nat):Int),.int ((nm.length+2:Nat):Int),.int ((T.l.length+(nm.length+1):Nat):Int),.int ((T.l.length+(nm.length+2):Nat):Int),S.state,lst,bL,
  .int (S.c6:Nat),.str v,.int ((T.l.length+3:Nat):Int),.none,.none,.none,.none,.none,.none,.none,
  S'.state,S'.indent,.int (S'.c6:Nat),.int (T'.l.length:Nat),.int (J'.line:Nat),J'.root,.bool (!mp),.bool mp,J'.sk,J'.tp,
  .bool S.ws,.bool S.ind,.bool S'.ws,.bool S'.ind,J'.seq,J'.map,.int ((p+(nm.length+1):Nat):Int),.none,.none,.none,e]++ex)
  [x.aI,x.events,x.qo,J.rows,aP,q,cT,J'.rows,S'.bH,S'.aX] (λ_=>none)
structure Bo where
 g:Bool
 g1:Bool
 cp:Bool
 ce:Bool
 cl:Bool
 pz:Bool
noncomputable def FD(b:Bo)(cs:List gr):Facts:={
 o6:=[(X 2, !b.pz),(X 20,true)],
 cmp:=[(.Gt,X 0,X 1,b.g),(.Gt,X 8,X 1,b.g1),(.Gt,X 0,X 2,b.cp),(.Eq,X 0,X 2,b.ce),(.Lt,X 0,X 2,b.cl),(.Lt,.int 0,X 2, !b.pz),(.Is,X 2,.none,false),(.Is,X 20,.none,false)],
 bin:=[(.Sub,X 2,.int 0,X 2),(.Mult,.str [32],X 2,X 10),(.Mult,.str [32],X 11,X 12),(.Add,.str [42],X 20,X 21),(.Add,.str [32],X 21,X 22)]++cond b.cl [(.Sub,X 2,X 0,X 11)] [],
 bi:=[(.len,X 21,X 23),(.len,X 22,X 24)],
 room:=[3,4,6],
 aug:=[(.Add,X 0,.int 1,X 8),(.Add,X 0,.int 2,X 9),(.Add,X 8,.int 1,X 9),(.Add,X 2,.int 1,X 13),(.Add,X 13,.int 1,X 14),(.Add,X 2,X 3,X 4),(.Add,X 6,.int 1,X 7),(.Add,X 0,X 23,X 25),(.Add,X 0,X 24,X 26),(.Add,X 2,X 23,X 56),(.Add,X 9,.int 1,X 32),(.Add,.int 0,X 3,X 3)],
 call:=cs}
noncomputable def gY(x:Cx)(T:Tx)(p:Nat):Bo:=⟨decide (x.W< (T.l.length:Nat)),decide (x.W< ((T.l.length+1:Nat):Int)),decide (p< T.l.length),decide (T.l.length=p),decide (T.l.length< p),decide (p=0)⟩
structure MS(x:Cx)(S:Co)(T:Tx)(J:Ju)(p:Nat)(aP cT:List MV)(nm:List Nat)(n:Nat):Prop where
 xo:lI x
 jw:JOw x S J T n
 nb:n≤big
 p:p≤100
 aP:aP.length≤n
 cT:cT.length≤n
 nm:nm.length≤100∧nm.isEmpty=false
theorem Holds.calls{P:Prog}{ρ:d7}{F:Facts}(K:Holds P ρ {F with call:=[]}){cs:List gr}(h:∀e∈cs,∀k,e.n≤k→(E P k).ca e.f (MV.Is ρ e.as) (aQ ρ e.h)=some (e.r.I ρ,aQ ρ e.h')):Holds P ρ {F with call:=cs}:={K with call:=h}
theorem HD{x:Cx}{S:Co}{T:Tx}{J:Ju}{q:List MV}{e:MV}{p:Nat}{aP cT:List MV}{lst bL:MV}{nm v:List Nat}{mp:Bool}{ex:List MV}{S':Co}{T':Tx}{J':Ju}{n:Nat}(H:MS x S T J p aP cT nm n):Holds L2.prog (RD x S T J q e p aP cT lst bL nm v mp ex S' T' J') (FD (gY x T p) []):=
 have hc:T.l.length≤big:=ah Tx.sA (ah H.jw.sz H.nb);have hpz:decide (0< p)= !decide (p=0):=by rw [← decide_not];exact decide_eq_decide.mpr Nat.pos_iff_ne_zero
 have hp:p≤1000:=ah H.p (by decide)
 have uW:nm.length+2≤1000:=ah (fE H.nm.1 2) (by decide)
 {o6:=af (λh=>congrArg (λb=>some !b) (decide_eq_decide.mpr Int.ofNat_eq_zero))<|af (λh=>congrArg (λb=>some !b) H.nm.2) aa
  cmp:=af kq<|af kq<|af (IB rfl)<|af (A6 rfl)<|af (pW rfl)<|af (pW (a:=0) hpz)<|af rfl<|af rfl aa
  bin:=by
   refine List.forall_mem_append.mpr ⟨af (qQ (b:=0) (Nat.zero_add _) (ah hp (by decide)))<|af (lH hp)<|af (lH (ah (Nat.sub_le _ _) hp))<|af (λh=>?_)<|af (λh=>?_) aa,?_⟩
   ·show (qg (42::nm)).or _=_
    rw [qg,if_pos (show (42::nm).length≤az from ah (ah (Nat.le_succ _) uW) (by decide))];rfl
   ·show (qg (32::42::nm)).or _=_
    rw [qg,if_pos (show (32::42::nm).length≤az from ah uW (by decide))];rfl
   ·show ∀e∈cond (decide _) _ _,_
    by_cases q:T.l.length< p
    ·rw [decide_eq_true q]
     exact af (qQ (Nat.add_sub_cancel' (Nat.le_of_lt q)) (ah hp (by decide))) aa
    ·rw [decide_eq_false q];exact aa
  sub:=aa
  wG:=aa
  bi:=af (jn rfl)<|af (jn rfl) aa
  join:=aa
  room:=af (xj (ah H.jw.rows H.nb))<|af (xj (ah H.aP H.nb))<|af (xj (ah H.cT H.nb)) aa
  aug:=af (cQ (b:=1) rfl (nk hc (by decide)))<|af (cQ (b:=2) rfl (nk hc (by decide)))<|af (cQ (b:=1) rfl (nk hc (by decide)))<|af (cQ (b:=1) rfl (ah (Nat.succ_le_succ hp) (by decide)))<|af (cQ (b:=1) rfl (ah (Nat.succ_le_succ (Nat.succ_le_succ hp)) (by decide)))<|af (cQ rfl (ah (Nat.add_le_add hp H.xo.step.2) (by decide)))<|af (cQ (b:=1) rfl (nk (ah H.jw.line H.nb) (by decide)))<|af (cQ rfl (nk hc (ah (Nat.le_succ _) uW)))<|af (cQ rfl (nk hc uW))<|af (cQ rfl (ah (Nat.add_le_add hp (ah (Nat.le_succ _) uW)) (by decide)))<|af (cQ (b:=1) rfl (nk hc (by decide:3≤1000)))<|af (cQ (a:=0) (Nat.zero_add _) (ah H.xo.step.2 (by decide))) aa
  starts:=aa
  st:=aa
  ev:=aa
  call:=aa}
noncomputable def A8(v:MV):MV:=.d8 14 [v,.bool false,.bool false,.bool true,.bool true,.bool true,.bool true,.bool true]
noncomputable def MT(v a b c d e f g:MV):MV:=.d8 14 [v,a,b,c,d,e,f,g]
def MU(v:List Nat)(r:MV):Prop:=∀(x:Cx) (S:Co) (T:Tx) (J:Ju) (q:List MV) (e:MV) (k:Nat),75≤k→(E L2.prog k).ca 48 [.obj 5,.str v] (hc x S T J q e)=some (r,hc x S T J q e)
noncomputable def N5(r:MV)(st:MV)(indent col line fl ws ind:MV)(s:MV):Em:={Z9 ws ind indent col line fl with event:=.d8 9 [.none,.none,.tup [.bool true,.bool true],X 31,.none,.none,s],root:=.bool false,seq:=X 46,map:=X 47,sk:=.bool false,an:=r,st:=st}
noncomputable def WY(r:MV)(s:MV)(fl:MV):gr:={n:=75,f:=48,as:=[.obj 5,X 31],h:=sG 3 [] 4 [X 28] 6 [] (N5 .none .none (X 2) (X 0) (X 6) fl (X 50) (X 51) s),r:=r,h':=sG 3 [] 4 [X 28] 6 [] (N5 .none .none (X 2) (X 0) (X 6) fl (X 50) (X 51) s)}
noncomputable def WZ(f:Nat)(r st:MV)(s:MV)(fl:MV):gr:={n:=75,f:=f,as:=[.obj 5,X 31,.bool true],h:=sG 3 [] 4 [X 28] 6 [X 2] (N5 r st (X 4) (X 0) (X 6) fl (X 50) (X 51) s),r:=.none,h':=sG 7 [] 4 [X 28] 6 [X 2] (N5 r st (X 4) (X 43) (X 44) fl (.bool false) (.bool false) s)}
noncomputable def scK(b:Bo)(f:Nat)(r st s fl:MV):Bool:=cX L2.prog (FD b [WY r s fl,WZ f r st s fl]) 110 19 [.obj 5,.bool false,X 46,X 47,.bool false] (sG 3 [] 4 [X 28] 6 [] {N5 .none .none (X 2) (X 0) (X 6) fl (X 50) (X 51) s with root:=X 15,seq:=X 16,map:=X 17,sk:=X 18}) .none (sG 7 [] 4 [] 6 [] {N5 .none .none (X 2) (X 43) (X 44) fl (.bool false) (.bool false) s with state:=X 28})
inductive Kd where|pl|pf|sq|dq
noncomputable def Kd.f:Kd→Nat
 |.pl=>60
 |.pf=>60
 |.sq=>55
 |.dq=>56
noncomputable def Kd.fl:Kd→Nat
 |.pf=>1
 |_=>0
noncomputable def Kd.s:Kd→MV
 |.pl=>.none
 |.pf=>.none
 |.sq=>.str [39]
 |.dq=>.str [34]
noncomputable def Kd.st:Kd→MV
 |.pl=>.str []
 |.pf=>.str []
 |.sq=>.str [39]
 |.dq=>.str [34]
noncomputable def Kd.r:Kd→MV
 |.dq=>MT (X 31) (X 61) (X 62) (X 63) (X 64) (X 65) (X 66) (X 67)
 |_=>A8 (X 31)
noncomputable def Kd.A(kd:Kd)(v:List Nat)(ex:List MV):MV:=match kd with
 |.dq=>MT (.str v) (ex.getD 0 .none) (ex.getD 1 .none) (ex.getD 2 .none) (ex.getD 3 .none) (ex.getD 4 .none) (ex.getD 5 .none) (ex.getD 6 .none)
 |_=>A8 (.str v)
theorem U7(b:Bo):∀kd:Kd,scK b kd.f kd.r kd.st kd.s (.int (kd.fl:Nat))=true
 |.pl=>by kernel_rfl
 |.pf=>by kernel_rfl
 |.sq=>by kernel_rfl
 |.dq=>by kernel_rfl
theorem nZ{x:Cx}(hx:lI x)(kd:Kd){v:List Nat}{ex:List MV}(hA:MU v (kd.A v ex)){p:Nat}(hp:p≤100){out:Bool→Tx→Tx}
  (hw:∀(S:Co) (T:Tx) (J:Ju) (q:List MV) (e:MV) (n:Nat),S.indent=.int ((p+x.step:Nat):Int)→J.root=.bool false→JOw x S J T n→n+5400≤big→qT x kd.f v S T J q e (out S.ws T) (n+5400))
  (mp:Bool) (state lst:MV) (aP ids:List MV) (ws ind:Bool) (T:Tx):
  Do x 110 19 [.obj 5,.bool false,.bool (!mp),.bool mp,.bool false] (mq v kd.s) 5500 ⟨state,aP++[lst],ids,.int p,kd.fl,ws,ind⟩ T ⟨lst,aP,ids,.int p,kd.fl,false,false⟩ (out ws T):=λq J n _ hJ hn=>by
 have mT:n+1+5400≤big:=ah (by rw [Nat.add_assoc];exact bx (by decide) n) hn
 obtain ⟨rs,l,h1,h2⟩:=hw ⟨state,aP++[lst],ids++[.int p],.int ((p+x.step:Nat):Int),kd.fl,ws,ind⟩ T {J with root:=.bool false,seq:=.bool (!mp),map:=.bool mp,sk:=.bool false,an:=kd.A v ex,st:=kd.st} q (mq v kd.s) (n+1) rfl rfl ⟨hJ.join,ah hJ.rows (Nat.le_succ n),ah hJ.line (Nat.le_succ n),ah hJ.sz (Nat.le_succ n),ah hJ.bH (Nat.le_succ n),ah (Nat.le_of_eq aM) (Nat.succ_le_succ hJ.aX)⟩ mT
 have So:aP.length≤n:=ah (by rw [aM];exact bI _ _) (show (aP++[lst]).length≤n from hJ.bH)
 have hD:MS x ⟨state,aP++[lst],ids,.int p,kd.fl,ws,ind⟩ T J p aP ids [97] n:=⟨hx,hJ.toJOw,ah (bI _ _) hn,hp,So,hJ.aX,(by decide:[97].length≤100),rfl⟩
 have K:Holds L2.prog (RD x ⟨state,aP++[lst],ids,.int p,kd.fl,ws,ind⟩ T J q (mq v kd.s) p aP ids lst .none [97] v mp ex ⟨state,aP++[lst],ids,.int p,kd.fl,ws,ind⟩ (out ws T) (J.set rs l)) (FD (gY x T p) [WY kd.r kd.s (.int (kd.fl:Nat)),WZ kd.f kd.r kd.st kd.s (.int (kd.fl:Nat))]):=Holds.calls (F:=FD (gY x T p) []) (HD hD) (af (λk hk=>by
  have e:=hA x ⟨state,aP++[lst],ids,.int p,kd.fl,ws,ind⟩ T {J with root:=.bool false,seq:=.bool (!mp),map:=.bool mp,sk:=.bool false,an:=.none,st:=.none} q (mq v kd.s) k hk
  cases kd<;>exact e)<|af (λk hk=>by
  have e:=h2 k hk
  cases kd<;>exact e) aa)
 refine ⟨.none,{J with rows:=rs,line:=l,root:=.bool false,seq:=.bool (!mp),map:=.bool mp,sk:=.bool false,an:=.none,st:=.none},⟨⟨h1.join,?_,?_,?_,?_,?_⟩,rfl,rfl⟩,λk hk=>?_⟩
 ·exact ah h1.rows (by rw [Nat.add_assoc];exact bx (by decide) n)
 ·exact ah h1.line (by rw [Nat.add_assoc];exact bx (by decide) n)
 ·exact ah h1.sz (by rw [Nat.add_assoc];exact bx (by decide) n)
 ·exact ah So (bI _ _)
 ·exact ah hJ.aX (bI _ _)
 ·have e:=fR K (U7 (gY x T p) kd) hk
  obtain ⟨rows,root,seq,map,sk,line,tp,an,st⟩:=J;cases (hJ.an:an=.none)
  cases (hJ.st:st=.none)
  cases kd<;>exact e
noncomputable def Pc.w(M:Nat)(pend:List Nat):Pc→Nat
 |.lb=>2
 |p=>(p.s [] M pend).length
theorem za{M:Nat}{pend:List Nat}:∀(ps:List Pc) (T:Tx),(gH M pend ps T).sz=T.sz+(ps.map (Pc.w M pend)).sum
 |[],T=>rfl
 |x::ps,T=>by
  show (gH M pend ps (x.op M pend T)).sz=T.sz+(x.w M pend+(ps.map (Pc.w M pend)).sum)
  rw [za ps, ← Nat.add_assoc];refine congrArg (·+_) ?_
  cases x with
  |lb=>exact Tx.kT
  |pend=>exact Tx.gR
  |pb=>exact Tx.gR
  |nq=>exact Tx.gR
  |lit s=>exact Tx.gR
noncomputable def wsum(M:Nat)(ps:List Pc):Nat:=(ps.map (Pc.w M [])).sum
structure Pz where
 state:MV
 sp:Nat
 sL:List MV
 ip:Nat
 ids:List MV
 indent:MV
 c6:MV
 col:MV
 line:MV
 ws:MV
 ind:MV
 root:MV
 seq:MV
 map:MV
 sk:MV
 tp:MV
noncomputable def Pz.h(z:Pz)(rp:Nat)(rows:List MV)(e:MV):aS:=sG rp rows z.sp z.sL z.ip z.ids {state:=z.state,event:=e,indent:=z.indent,c6:=z.c6,root:=z.root,seq:=z.seq,map:=z.map,sk:=z.sk,line:=z.line,col:=z.col,ws:=z.ws,ind:=z.ind,oe:=.bool false,au:=.none,bi:=X 3,tp:=z.tp,an:=.none,st:=.none,bw:=X 1,lb:=X 5}
noncomputable def xr:Pz:=⟨X 27,4,[],6,[],X 2,X 30,X 0,X 6,X 50,X 51,X 15,X 16,X 17,X 18,X 19⟩
structure Pz.Is(z:Pz)(ρ:d7)(S:Co)(T:Tx)(line:Nat):Prop where
 state:z.state.I ρ=S.state
 sL:cat ρ (some z.sp) (MV.Is ρ z.sL)=S.bH
 ids:cat ρ (some z.ip) (MV.Is ρ z.ids)=S.aX
 indent:z.indent.I ρ=S.indent
 c6:z.c6.I ρ=.int (S.c6:Nat)
 col:z.col.I ρ=.int (T.l.length:Nat)
 line:z.line.I ρ=.int (line:Nat)
 ws:z.ws.I ρ=.bool S.ws
 ind:z.ind.I ρ=.bool S.ind
noncomputable def Pz.J(z:Pz)(ρ:d7)(rows:List MV)(line:Nat):Ju:=⟨rows,z.root.I ρ,z.seq.I ρ,z.map.I ρ,z.sk.I ρ,line,z.tp.I ρ,.none,.none⟩
structure U8(ρ:d7)(x:Cx)(q:List MV):Prop where
 h0:ρ.l 0=x.aI
 h1:ρ.l 1=x.events
 h2:ρ.l 2=x.qo
 h5:ρ.l 5=q
 w1:ρ.v 1=.int x.W
 w3:ρ.v 3=.int (x.step:Nat)
 w5:ρ.v 5=.str x.lb
theorem Pz.Is.eq{z:Pz}{ρ:d7}{x:Cx}{S:Co}{T:Tx}{line:Nat}(h:z.Is ρ S T line){rp:Nat}{rows R:List MV}{e e':MV}{q:List MV}(V:U8 ρ x q)(he:e.I ρ=e')(hr:cat ρ (some rp) (MV.Is ρ rows)=R):aQ ρ (z.h rp rows e)=hc x S T (z.J ρ R line) q e':=by
 show hE (ρ.l 0) (ρ.l 1) (ρ.l 2) (cat ρ (some rp) (MV.Is ρ rows)) (cat ρ (some z.sp) (MV.Is ρ z.sL)) (ρ.l 5) (cat ρ (some z.ip) (MV.Is ρ z.ids)) {state:=z.state.I ρ,event:=e.I ρ,indent:=z.indent.I ρ,c6:=z.c6.I ρ,root:=z.root.I ρ,seq:=z.seq.I ρ,map:=z.map.I ρ,sk:=z.sk.I ρ,line:=z.line.I ρ,col:=z.col.I ρ,ws:=z.ws.I ρ,ind:=z.ind.I ρ,oe:=.bool false,au:=.none,bi:=ρ.v 3,tp:=z.tp.I ρ,an:=.none,st:=.none,bw:=ρ.v 1,lb:=ρ.v 5}=_
 rw [h.state,h.sL,h.ids,h.indent,h.c6,h.col,h.line,h.ws,h.ind,he,hr,V.h0,V.h1,V.h2,V.h5,V.w1,V.w3,V.w5];rfl
theorem uV.row{x:Cx}{S:Co}{J:Ju}{T:Tx}{n:Nat}(h:uV x S J T n){S':Co}{J':Ju}{T':Tx}{p m:Nat}{ps:List Pc}(hr:J'.rows=J.rows++sC x.lb p [] ps)(hT:T'=gH p [] ps T)(hl:J'.line≤J.line+1)(ha:J'.an=.none)(hs:J'.st=.none)(h1:S'.bH.length≤S.bH.length+1)(h2:S'.aX.length≤S.aX.length+1)(hw:wsum p ps≤m)(hm:1≤m)(hp:ps.length≤m):uV x S' J' T' (n+m) where
 join:=by rw [hr,hT,pY];exact gE h.join (sD ps)
 rows:=by rw [hr,aM];exact Nat.add_le_add h.rows (ah (Nat.le_of_eq (cL ..)) hp)
 line:=ah hl (Nat.add_le_add h.line hm)
 sz:=by rw [hT,za];exact Nat.add_le_add h.sz hw
 bH:=ah h1 (Nat.add_le_add h.bH hm)
 aX:=ah h2 (Nat.add_le_add h.aX hm)
 an:=ha
 st:=hs
section
variable {x:Cx}{S:Co}{T:Tx}{p:Nat}{aP cT:List MV}{lst bL:MV}{nm:List Nat}{e:MV}
structure SH(x:Cx)(S:Co)(p:Nat)(aP cT:List MV)(nm:List Nat):Prop where
 xo:lI x
 p:p≤60
 aP:aP.length≤S.bH.length
 cT:cT.length≤S.aX.length
 nm:nm.length≤100∧nm.isEmpty=false
theorem SH.D(G:SH x S p aP cT nm){J:Ju}{n:Nat}(hJ:uV x S J T n)(hn:n≤big):MS x S T J p aP cT nm n:=⟨G.xo,hJ.toJOw,hn,ah G.p (by decide),ah G.aP hJ.bH,ah G.cT hJ.aX,G.nm⟩
theorem Ju.z{J:Ju}(ha:J.an=.none)(hs:J.st=.none){z:Pz}{ρ:d7}{line:Nat}(h0:J.line=line)(h1:z.root.I ρ=J.root)(h2:z.seq.I ρ=J.seq)(h3:z.map.I ρ=J.map)(h4:z.sk.I ρ=J.sk)(h5:z.tp.I ρ=J.tp):z.J ρ J.rows line=J:=by
 obtain ⟨rows,root,seq,map,sk,l,tp,an,st⟩:=J
 cases ha;cases hs;cases h0;cases h1;cases h2;cases h3;cases h4;cases h5;rfl
structure Pz.Var(z:Pz):Prop where
 root:z.root=X 15
 seq:z.seq=X 16
 map:z.map=X 17
 sk:z.sk=X 18
 tp:z.tp=X 19
noncomputable def RJ(x:Cx)(S:Co)(T:Tx)(J:Ju)(q:List MV)(e:MV)(p:Nat)(aP cT:List MV)(lst bL:MV)(nm:List Nat):d7:=RD x S T J q e p aP cT lst bL nm [] true [] S T J
theorem gi(G:SH x S p aP cT nm){N f:Nat}{as:List MV}{v ev:MV}{z z':Pz}{ps:List Pc}{pv:List MV}{cs:List gr}{m:Nat}{S':Co}{T':Tx}{nl:Bool}
  (K:cX L2.prog (FD (gY x T p) cs) N f as (z.h 3 [] ev) v (z'.h 3 pv ev)=true)
  (U9:∀J q,pX e q→∀c∈cs,∀k,c.n≤k→(E L2.prog k).ca c.f (MV.Is (RJ x S T J q e p aP cT lst bL nm) c.as) (aQ (RJ x S T J q e p aP cT lst bL nm) c.h)=some (c.r.I (RJ x S T J q e p aP cT lst bL nm),aQ (RJ x S T J q e p aP cT lst bL nm) c.h'))
  (he:∀J q,ev.I (RJ x S T J q e p aP cT lst bL nm)=e) (has:∀J q,MV.Is (RJ x S T J q e p aP cT lst bL nm) as=as) (hv:z.Var)
  (hz:∀J q,z.Is (RJ x S T J q e p aP cT lst bL nm) S T J.line) (hz':∀J q,z'.Is (RJ x S T J q e p aP cT lst bL nm) S' T' (J.line+cond nl 1 0))
  (Va:∀J q,MV.Is (RJ x S T J q e p aP cT lst bL nm) pv=sC x.lb p [] ps)
  (hT:T'=gH p [] ps T) (h1:S'.bH.length≤S.bH.length+1) (h2:S'.aX.length≤S.aX.length+1) (hw:wsum p ps≤m) (hm:1≤m) (hl:ps.length≤m):Do x N f as e m S T S' T':=λq J n hq hJ hn=>by
 have K1:=Holds.calls (F:=FD (gY x T p) []) (HD (q:=q) (e:=e) (lst:=lst) (bL:=bL) (v:=[]) (mp:=true) (ex:=[]) (S':=S) (T':=T) (J':=J) (G.D hJ (ah (bI _ _) hn))) (U9 J q hq);refine ⟨v.I (RJ x S T J q e p aP cT lst bL nm),z'.J (RJ x S T J q e p aP cT lst bL nm) (J.rows++sC x.lb p [] ps) (J.line+cond nl 1 0),uV.row hJ (ps:=ps) (p:=p) rfl hT (bx (by cases nl<;>decide) _) rfl rfl h1 h2 hw hm hl,λk hk=>?_⟩
 have e0:=fR K1 K hk;have V:U8 (RJ x S T J q e p aP cT lst bL nm) x q:=⟨rfl,rfl,rfl,rfl,rfl,rfl,rfl⟩;have a1:=(hz J q).eq (rp:=3) (rows:=[]) V (he J q) rfl;have a2:=(hz' J q).eq (rp:=3) (rows:=pv) V (he J q) (gh ..);rw [show pI (RJ x S T J q e p aP cT lst bL nm) (some 3)=J.rows from rfl,Va J q] at a2
 have a3:z.J (RJ x S T J q e p aP cT lst bL nm) J.rows J.line=J:=Ju.z hJ.an hJ.st rfl (by rw [hv.root];rfl) (by rw [hv.seq];rfl) (by rw [hv.map];rfl) (by rw [hv.sk];rfl) (by rw [hv.tp];rfl)
 rw [show cat (RJ x S T J q e p aP cT lst bL nm) (some 3) (MV.Is (RJ x S T J q e p aP cT lst bL nm) [])=J.rows from rfl,a3] at a1
 show (E L2.prog k).ca f as _=_
 rw [← a1, ← a2];exact (congrArg (λl=>(E L2.prog k).ca f l (aQ (RJ x S T J q e p aP cT lst bL nm) (z.h 3 [] ev))) (has J q)).symm.trans e0
end
theorem QN{x:Cx}{S:Co}{T:Tx}{J:Ju}{q:List MV}{m f:Bool}(h:pX (cK m f) q){k:Nat}(hk:40≤k):(E L2.prog k).ca (cond m 39 38) [.obj 5] (hc x S T J q (cK m f))=some (.bool false,hc x S T J q (cK m f)):=by
 obtain ⟨c,vs,r,rfl,hc⟩:=h.1 (by cases m<;>rfl)
 obtain ⟨j,rfl⟩:=Nat.exists_eq_add_of_le' hk;simp only [bO,fF,or_false] at hc;rcases hc with rfl|rfl|rfl|rfl<;>cases m<;>rfl
noncomputable def jR(mp:Bool):List MV:=[.obj 5,.bool false,.bool (!mp),.bool mp,.bool false]
noncomputable def SI(m:Bool)(h:aS):gr:={n:=40,f:=cond m 39 38,as:=[.obj 5],h:=h,r:=.bool false,h':=h}
noncomputable def ctx(mp:Bool)(z:Pz):Pz:={z with root:=.bool false,seq:=.bool (!mp),map:=.bool mp,sk:=.bool false}
noncomputable def zF(ind:Bool):Pz:={xr with ws:=.bool false,ind:=.bool ind,c6:=.int 0}
noncomputable def MW(m:Bool):List Nat:=cond m [32,123] [32,91]
noncomputable def W7(mp m:Bool):Pz:=ctx mp {xr with state:=.bm 5 (cond m 26 23),ids:=[X 2],indent:=X 4,c6:=.int 1,col:=X 9,ws:=.bool true,ind:=.bool false}
theorem Vb(b:Bo):(bools.all λmp=>bools.all λm=>bools.all λind=>cX L2.prog (FD b []) 110 19 (jR mp) ((zF ind).h 3 [] (cK m true)) .none ((W7 mp m).h 3 [.str (MW m)] (cK m true)))=true:=by kernel_rfl
noncomputable def W8(mp m:Bool):Pz:=ctx mp {xr with state:=.bm 5 (cond m 34 31),ids:=[X 2],indent:=cond (mp&& !m) (X 2) (X 4),c6:=.int 0,ws:=.bool false,ind:=.bool (!mp)}
theorem Vc(b:Bo):(bools.all λmp=>bools.all λm=>cX L2.prog (FD b [SI m ((ctx mp (zF (!mp))).h 3 [] (cK m false))]) 110 19 (jR mp) ((zF (!mp)).h 3 [] (cK m false)) .none ((W8 mp m).h 3 [] (cK m false)))=true:=by kernel_rfl
noncomputable def uX:List (List Nat):=[1,2,3,4].map λi=>(List.replicate i [97,98,99,100,101,102,103,104,105,106]).flatten
noncomputable def IZ:Em:={state:=X 0,event:=X 1,indent:=X 2,c6:=X 3,root:=X 4,seq:=X 5,map:=X 6,sk:=X 7,line:=X 8,col:=X 9,ws:=X 10,ind:=X 11,oe:=X 12,au:=.none,bi:=X 13,tp:=X 14,an:=X 15,st:=X 16,bw:=X 17,lb:=X 18}
noncomputable def RZ(w0 w1 w2 rows bH events aX:List MV)(e:Em):d7:=R [e.state,e.event,e.indent,e.c6,e.root,e.seq,e.map,e.sk,e.line,e.col,e.ws,e.ind,e.oe,e.bi,e.tp,e.an,e.st,e.bw,e.lb] [w0,w1,w2,rows,bH,events,aX] λ_=>none
theorem k47:(uX.all λnm=>cX L2.prog {} 70 47 [.obj 5,.str nm] (sE 3 [] IZ) (.str nm) (sE 3 [] IZ))=true:=by kernel_rfl
theorem MX{nm:List Nat}(h:nm∈uX){x:Cx}{S:Co}{T:Tx}{J:Ju}{q:List MV}{e:MV}{k:Nat}(hk:70≤k):(E L2.prog k).ca 47 [.obj 5,.str nm] (hc x S T J q e)=some (.str nm,hc x S T J q e):=fR (uL (P:=L2.prog) (ρ:=RZ x.aI x.events x.qo J.rows S.bH q S.aX (Bv x S T J e))) (aj k47 h) hk
noncomputable def A9:MV:=.d8 8 [X 20,.none,.none]
noncomputable def zA(ws ind:Bool):Pz:={xr with sL:=[X 28],ws:=.bool ws,ind:=.bool ind,c6:=.int 1}
noncomputable def Xa(mp ws:Bool):Pz:=ctx mp {xr with state:=X 28,c6:=.int 1,col:=cond ws (X 25) (X 26),ws:=.bool false,ind:=.bool false}
noncomputable def Xb(h:aS):gr:={n:=70,f:=47,as:=[.obj 5,X 20],h:=h,r:=X 20,h':=h}
theorem Vd(b:Bo):(bools.all λmp=>bools.all λws=>bools.all λind=>cX L2.prog (FD b [Xb ((ctx mp (zA ws ind)).h 3 [] A9)]) 110 19 (jR mp) ((zA ws ind).h 3 [] A9) .none ((Xa mp ws).h 3 [cond ws (X 21) (X 22)] A9))=true:=by kernel_rfl
theorem sM{T:Tx}{s:List Nat}{n:Nat}(h:s.length=n):T.l.length+n=(T.put s).l.length:=by subst h;exact aM.symm
theorem w_lit{p:Nat}{s:List Nat}{m:Nat}(h:s.length≤m):wsum p [.lit s]≤m:=h
theorem lJ{n:Nat}(h:n≤60:=by decide):n≤300:=ah h (by decide)
section
variable {x:Cx}(hx:lI x){p:Nat}(hp:p≤60)(state lst:MV)(aP ids:List MV)(ind:Bool)(T:Tx)
include hx hp
theorem I1(mp m:Bool):Do x 110 19 (jR mp) (cK m true) 300 ⟨state,aP,ids,.int p,0,false,ind⟩ T ⟨.bm 5 (cond m 26 23),aP,ids++[.int p],.int ((p+x.step:Nat):Int),1,true,false⟩ (T.put (MW m)):=
 gi (p:=p) (aP:=aP) (cT:=ids) (lst:=.none) (bL:=.none) (nm:=[97]) (ps:=[.lit (MW m)]) (nl:=false) (pv:=[.str (MW m)]) (ev:=cK m true) (z:=zF ind) (z':=W7 mp m) (cs:=[]) (v:=.none)
  ⟨hx,hp,bf _,bf _,by decide,rfl⟩ (aj (aj (aj (Vb (gY x T p)) (ak mp)) (ak m)) (ak ind))
  (λ_ _ _=>aa) (λ_ _=>by cases m<;>rfl) (λ_ _=>by cases mp<;>rfl) ⟨rfl,rfl,rfl,rfl,rfl⟩
  (λ_ _=>⟨rfl,rfl,rfl,rfl,rfl,rfl,rfl,rfl,rfl⟩)
  (λ_ _=>⟨by cases m<;>rfl,rfl,rfl,rfl,rfl,congrArg (λn:Nat=>MV.int n) (sM (by cases m<;>rfl)),rfl,rfl,rfl⟩)
  (λ_ _=>rfl) rfl (Nat.le_succ _) (Nat.le_of_eq aM) (w_lit (by cases m<;>decide)) (by decide) (lJ (n:=1))
theorem I2(mp m:Bool):Do x 110 19 (jR mp) (cK m false) 300 ⟨state,aP,ids,.int p,0,false, !mp⟩ T ⟨.bm 5 (cond m 34 31),aP,ids++[.int p],.int ((cond (mp&& !m) p (p+x.step):Nat):Int),0,false, !mp⟩ T:=
 gi (p:=p) (aP:=aP) (cT:=ids) (lst:=.none) (bL:=.none) (nm:=[97]) (ps:=[]) (nl:=false) (pv:=[]) (ev:=cK m false) (z:=zF (!mp)) (z':=W8 mp m) (cs:=[SI m ((ctx mp (zF (!mp))).h 3 [] (cK m false))]) (v:=.none)
  ⟨hx,hp,bf _,bf _,by decide,rfl⟩ (aj (aj (Vc (gY x T p)) (ak mp)) (ak m))
  (λJ q hq=>af (λk hk=>by
   have e:=QN (x:=x) (S:=⟨state,aP,ids,.int p,0,false, !mp⟩) (T:=T) (J:=⟨J.rows,.bool false,.bool (!mp),.bool mp,.bool false,J.line,J.tp,.none,.none⟩) hq hk
   cases mp<;>cases m<;>exact e) aa) (λ_ _=>by cases m<;>rfl) (λ_ _=>by cases mp<;>rfl) ⟨rfl,rfl,rfl,rfl,rfl⟩
  (λ_ _=>⟨rfl,rfl,rfl,rfl,rfl,rfl,rfl,rfl,rfl⟩)
  (λ_ _=>⟨by cases m<;>rfl,rfl,rfl,by cases mp<;>cases m<;>rfl,rfl,rfl,rfl,rfl,rfl⟩)
  (λ_ _=>rfl) rfl (Nat.le_succ _) (Nat.le_of_eq aM) (Nat.zero_le _) (by decide) (Nat.zero_le _)
noncomputable def SJ(ws:Bool)(nm:List Nat):List Nat:=sep ws++42::nm
theorem I3{nm:List Nat}(hn:nm∈uX)(mp ws:Bool):Do x 110 19 (jR mp) (N2 nm) 300 ⟨state,aP++[lst],ids,.int p,1,ws,ind⟩ T ⟨lst,aP,ids,.int p,1,false,false⟩ (T.put (SJ ws nm)):=
 have hl:nm.length≤40∧nm.isEmpty=false:=by
  have h:(uX.all λnm=>Nat.ble nm.length 40&& !nm.isEmpty)=true:=by decide
  have h:=aZ.mp (aj h hn);exact ⟨c8 h.1,(Bool.not_eq_true' _).mp h.2⟩
 have Sn:(SJ ws nm).length≤300:=by
  cases ws with
  |true=>exact ah (Nat.succ_le_succ hl.1) (by decide)
  |false=>exact ah (Nat.succ_le_succ (Nat.succ_le_succ hl.1)) (by decide)
 gi (p:=p) (aP:=aP) (cT:=ids) (lst:=lst) (bL:=.none) (nm:=nm) (ps:=[.lit (SJ ws nm)]) (nl:=false) (pv:=[cond ws (X 21) (X 22)]) (ev:=A9) (z:=zA ws ind) (z':=Xa mp ws) (cs:=[Xb ((ctx mp (zA ws ind)).h 3 [] A9)]) (v:=.none)
  ⟨hx,hp,by show _≤(aP++[lst]).length;rw [aM];exact bI _ _,bf _,ah hl.1 (by decide),hl.2⟩ (aj (aj (aj (Vd (gY x T p)) (ak mp)) (ak ws)) (ak ind))
  (λJ q hq=>af (λk hk=>by
   have e:=MX hn (x:=x) (S:=⟨state,aP++[lst],ids,.int p,1,ws,ind⟩) (T:=T) (J:=⟨J.rows,.bool false,.bool (!mp),.bool mp,.bool false,J.line,J.tp,.none,.none⟩) (q:=q) (e:=N2 nm) hk
   cases mp<;>exact e) aa) (λ_ _=>rfl) (λ_ _=>by cases mp<;>rfl) ⟨rfl,rfl,rfl,rfl,rfl⟩
  (λ_ _=>⟨rfl,rfl,rfl,rfl,rfl,rfl,rfl,rfl,rfl⟩)
  (λ_ _=>⟨rfl,rfl,rfl,rfl,rfl,by refine Eq.trans (b:=MV.int ((T.l.length+(SJ ws nm).length:Nat):Int)) (by cases ws<;>rfl) (congrArg (λn:Nat=>MV.int n) aM.symm),rfl,rfl,rfl⟩)
  (λ_ _=>by cases ws<;>rfl) rfl (ah (ah (bI _ _) (Nat.le_of_eq (aM (as:=aP) (bs:=[lst])).symm)) (Nat.le_succ _)) (Nat.le_succ _) (w_lit Sn) (by decide) (lJ (n:=1))
end
noncomputable def uY:Nat→MV
 |0=>.d8 9 [.none,.none,.tup [.bool true,.bool true],X 62,.none,.none,X 63]
 |1=>cK false false
 |2=>cK true false
 |3=>cK false true
 |4=>cK true true
 |_=>A9
structure sN(y:Nat)(e a b:MV)(nm:List Nat):Prop where
 I:∀ρ:d7,ρ.v 20=.str nm→ρ.v 62=a→ρ.v 63=b→(uY y).I ρ=e
theorem Ep{v:List Nat}{s:MV}{nm:List Nat}:sN 0 (mq v s) (.str v) s nm:=⟨λρ _ h1 h2=>by
 show MV.d8 9 [.none,.none,.tup [.bool true,.bool true],ρ.v 62,.none,.none,ρ.v 63]=_
 rw [h1,h2];rfl⟩
theorem MY{nm:List Nat}:sN 5 (N2 nm) .none .none nm:=⟨λρ h _ _=>by
 show MV.d8 8 [ρ.v 20,.none,.none]=_
 rw [h];rfl⟩
noncomputable def yB(m f:Bool):Nat:=cond m (cond f 4 2) (cond f 3 1)
theorem Er{m f:Bool}{nm:List Nat}:sN (yB m f) (cK m f) .none .none nm:=⟨λρ _ _ _=>by cases m<;>cases f<;>rfl⟩
noncomputable def qh(f:Nat):List MV:=cond (Nat.beq f 32||Nat.beq f 35||Nat.beq f 16) [.obj 5,.bool false] [.obj 5]
noncomputable def zN:Pz:=⟨X 40,8,[],9,[],X 41,X 42,X 43,X 44,X 52,X 53,X 45,X 54,X 55,X 48,X 49⟩
noncomputable def QO(mp:Bool)(z1:Pz)(pv:List MV)(ev:MV):gr:={n:=110,f:=19,as:=jR mp,h:=z1.h 3 pv ev,r:=X 61,h':=zN.h 7 [] ev}
noncomputable def RP(x:Cx)(S:Co)(T:Tx)(J:Ju)(q:List MV)(e:MV)(p:Nat)(aP cT:List MV)(nm:List Nat)(ex:List MV)(S':Co)(T':Tx)(J':Ju):d7:=RD x S T J q e p aP cT .none .none nm [] true ex S' T' J'
section
variable {x:Cx}{S:Co}{T:Tx}{p:Nat}{aP cT:List MV}{nm:List Nat}{e:MV}
theorem xu(G:SH x S p aP cT nm){f:Nat}{z z1:Pz}{ps:List Pc}{pv:List MV}{c y:Nat}{S1 S':Co}{T1 T':Tx}{nl mp:Bool}{a b:MV}(hy:sN y e a b nm)
  (K:cX L2.prog (FD (gY x T p) [QO mp z1 pv (uY y)]) 130 f (qh f) (z.h 3 [] (uY y)) .none (zN.h 7 [] (uY y))=true) (hv:z.Var) (Cf:z1.Var)
  (hz:∀J q ex J',z.Is (RP x S T J q e p aP cT nm ex S' T' J') S T J.line) (Sj:∀J q ex J',z1.Is (RP x S T J q e p aP cT nm ex S' T' J') S1 T1 (J.line+cond nl 1 0))
  (Va:∀J q ex J',MV.Is (RP x S T J q e p aP cT nm ex S' T' J') pv=sC x.lb p [] ps)
  (hT:T1=gH p [] ps T) (h1:S1.bH.length≤S.bH.length+1) (h2:S1.aX.length≤S.aX.length+1) (hw:wsum p ps≤300) (hl:ps.length≤300)
  (node:Do x 110 19 (jR mp) e c S1 T1 S' T'):Do x 130 f (qh f) e (300+c) S T S' T':=λq J n hq hJ hn=>by
 have QS:n+300+c≤big:=by rw [Nat.add_assoc];exact hn
 have Ve:uV x S1 (J.set (J.rows++sC x.lb p [] ps) (J.line+cond nl 1 0)) T1 (n+300):=uV.row hJ (ps:=ps) (p:=p) rfl hT (bx (by cases nl<;>decide) _) hJ.an hJ.st h1 h2 hw (by decide) hl
 obtain ⟨v,J',Vf,e1⟩:=node q _ (n+300) hq Ve QS;have V:U8 (RP x S T J q e p aP cT nm [v,a,b] S' T' J') x q:=⟨rfl,rfl,rfl,rfl,rfl,rfl,rfl⟩;have he:(uY y).I (RP x S T J q e p aP cT nm [v,a,b] S' T' J')=e:=hy.I _ rfl rfl rfl;have a2:=(Sj J q [v,a,b] J').eq (rp:=3) (rows:=pv) V he (gh ..);rw [show pI (RP x S T J q e p aP cT nm [v,a,b] S' T' J') (some 3)=J.rows from rfl,Va J q [v,a,b] J'] at a2
 have b2:z1.J (RP x S T J q e p aP cT nm [v,a,b] S' T' J') (J.rows++sC x.lb p [] ps) (J.line+cond nl 1 0)=J.set (J.rows++sC x.lb p [] ps) (J.line+cond nl 1 0):=Ju.z (J:=J.set (J.rows++sC x.lb p [] ps) (J.line+cond nl 1 0)) hJ.an hJ.st rfl (by rw [Cf.root];rfl) (by rw [Cf.seq];rfl) (by rw [Cf.map];rfl) (by rw [Cf.sk];rfl) (by rw [Cf.tp];rfl)
 rw [b2] at a2;have hN:zN.Is (RP x S T J q e p aP cT nm [v,a,b] S' T' J') S' T' J'.line:=⟨rfl,rfl,rfl,rfl,rfl,rfl,rfl,rfl,rfl⟩;have a3:=hN.eq (rp:=7) (rows:=[]) V he (show _=J'.rows from rfl)
 have b3:zN.J (RP x S T J q e p aP cT nm [v,a,b] S' T' J') J'.rows J'.line=J':=Ju.z Vf.an Vf.st rfl rfl rfl rfl rfl rfl;rw [b3] at a3;have K1:=Holds.calls (F:=FD (gY x T p) []) (cs:=[QO mp z1 pv (uY y)]) (HD (q:=q) (e:=e) (lst:=.none) (bL:=.none) (v:=[]) (mp:=true) (ex:=[v,a,b]) (S':=S') (T':=T') (J':=J') (G.D hJ (ah (bI _ _) hn))) (af (λk hk=>by
  show (E L2.prog k).ca 19 (MV.Is _ (jR mp)) (aQ (RP x S T J q e p aP cT nm [v,a,b] S' T' J') (z1.h 3 pv (uY y)))=some (v,aQ (RP x S T J q e p aP cT nm [v,a,b] S' T' J') (zN.h 7 [] (uY y)))
  rw [a2,a3,show MV.Is (RD x S T J q e p aP cT .none .none nm [] true [v,a,b] S' T' J') (jR mp)=jR mp by cases mp<;>rfl]
  exact e1 k hk) aa)
 refine ⟨.none,J',by rw [← Nat.add_assoc];exact Vf,λk hk=>?_⟩
 have e0:=fR K1 K hk;have a1:=(hz J q [v,a,b] J').eq (rp:=3) (rows:=[]) V he (show _=J.rows from rfl)
 have b1:z.J (RP x S T J q e p aP cT nm [v,a,b] S' T' J') J.rows J.line=J:=Ju.z hJ.an hJ.st rfl (by rw [hv.root];rfl) (by rw [hv.seq];rfl) (by rw [hv.map];rfl) (by rw [hv.sk];rfl) (by rw [hv.tp];rfl)
 rw [b1] at a1;have ha:MV.Is (RP x S T J q e p aP cT nm [v,a,b] S' T' J') (qh f)=qh f:=by unfold qh;cases (Nat.beq f 32||Nat.beq f 35||Nat.beq f 16)<;>rfl
 show (E L2.prog k).ca f _ _=_
 rw [← a1, ← a3, ← ha];exact e0
end
inductive Pw where|a|b|c|d
noncomputable def Pw.z:Pw→Pz
 |.a=>{xr with indent:=.int 0,col:=.int 0,ws:=.bool true,ind:=.bool true,c6:=.int 0}
 |.b=>{xr with ws:=.bool false,ind:=.bool true,c6:=.int 0}
 |_=>{xr with ws:=.bool false,ind:=.bool false,c6:=.int 0}
noncomputable def Pw.rw:Pw→List MV
 |.a=>[]
 |.b=>[X 12]
 |.c=>[X 5,X 10]
 |.d=>[X 5]
noncomputable def Pw.ps(p c:Nat):Pw→List Pc
 |.a=>[]
 |.b=>[.lit (dN (p - c))]
 |.c=>[.lb,.nq]
 |.d=>[.lb]
noncomputable def Pw.col:Pw→MV
 |.a=>.int 1
 |.d=>.int 1
 |_=>X 13
noncomputable def Pw.nl:Pw→Bool
 |.a=>false
 |.b=>false
 |_=>true
noncomputable def Pw.ws:Pw→Bool
 |.a=>true
 |_=>false
noncomputable def Pw.ind:Pw→Bool
 |.a=>true
 |.b=>true
 |_=>false
noncomputable def Pw.Ok(p:Nat)(T:Tx):Pw→Prop
 |.a=>p=0∧T.l=[]
 |.b=>T.l.length< p
 |.c=>0< p
 |.d=>p=0
noncomputable def Pw.B(b:Bo):Pw→Prop
 |.a=>True
 |.b=>b.cp=false∧b.ce=false∧b.cl=true∧b.pz=false
 |.c=>b.pz=false
 |.d=>b.pz=true
theorem Pw.Ok.B{p:Nat}{T:Tx}{x:Cx}:∀{w:Pw},w.Ok p T→w.B (gY x T p)
 |.a,_=>trivial
 |.b,h=>⟨decide_eq_false (Nat.not_lt.mpr (Nat.le_of_lt h)),decide_eq_false (Nat.ne_of_lt h),decide_eq_true h,decide_eq_false (Nat.ne_of_gt (Nat.lt_of_le_of_lt (Nat.zero_le _) h))⟩
 |.c,h=>decide_eq_false (Nat.ne_of_gt h)
 |.d,h=>decide_eq_true h
noncomputable def Pw.T(w:Pw)(p:Nat)(T:Tx):Tx:=gH p [] (w.ps p T.l.length) T
theorem Pw.len{p:Nat}{T:Tx}{s:List Nat}:∀{w:Pw},w.Ok p T→((w.T p T).put s).l.length=p+s.length
 |.a,h=>by
  show (T.l++s).length=_
  rw [h.1,h.2];exact (Nat.zero_add _).symm
 |.b,h=>by
  show ((T.l++dN (p - T.l.length))++s).length=_
  rw [aM,aM,cG,Nat.add_sub_cancel' (Nat.le_of_lt h)]
 |.c,_=>by
  show (([]++dN p)++s).length=_
  rw [aM,List.nil_append,cG]
 |.d,h=>by
  show ([]++s).length=_
  rw [h,List.nil_append,Nat.zero_add]
theorem Pw.w{p:Nat}{T:Tx}{s:List Nat}(hp:p≤60)(hs:s.length≤60)(w:Pw):wsum p (w.ps p T.l.length++[.lit s])≤300:=by
 have h:∀k,k≤62→k+(s.length+0)≤300:=λk hk=>ah (Nat.add_le_add hk hs) (by decide)
 cases w with
 |a=>exact ah hs (by decide)
 |b=>exact h _ (ah (Nat.le_of_eq cG) (ah (Nat.sub_le _ _) (ah hp (by decide))))
 |c=>
  show 2+((dN p).length+(s.length+0))≤300
  rw [← Nat.add_assoc];exact h _ (by rw [cG];exact ah (bx hp 2) (by decide))
 |d=>exact h 2 (by decide)
theorem Pw.pl{p c:Nat}{s:List Nat}(w:Pw):(w.ps p c++[Pc.lit s]).length≤300:=by cases w<;>exact lJ (c8 rfl)
noncomputable def dash:List Nat:=[45]
noncomputable def key:List Nat:=[107]
noncomputable def Pw.z1(w:Pw):Pz:={w.z with sL:=[.bm 5 32],col:=w.col,line:=cond w.nl (X 7) (X 6),ws:=.bool false,ind:=.bool true}
noncomputable def Ba(b:Bo)(w:Pw)(f y:Nat):Bool:=cX L2.prog (FD b [QO false w.z1 (w.rw++[.str dash]) (uY y)]) 130 f (qh f) (w.z.h 3 [] (uY y)) .none (zN.h 7 [] (uY y))
noncomputable def I4:List Nat:=[0,1,2,3,4]
noncomputable def QT:List Nat:=[0,5]
theorem Vg(b:Bo):(I4.all (Ba b .a 31))=true:=by kernel_rfl
theorem Vh(g g1:Bool):(I4.all (Ba ⟨g,g1,false,false,true,false⟩ .b 31))=true:=by kernel_rfl
theorem Vi(g g1 cp ce cl:Bool):([31,32].all λf=>I4.all (Ba ⟨g,g1,cp,ce,cl,false⟩ .c f))=true:=by kernel_rfl
theorem Vj(g g1 cp ce cl:Bool):([31,32].all λf=>I4.all (Ba ⟨g,g1,cp,ce,cl,true⟩ .d f))=true:=by kernel_rfl
noncomputable def Pw.fs(f0 f1:Nat):Pw→List Nat
 |.a=>[f0]
 |.b=>[f0]
 |_=>[f0,f1]
theorem in1{f a:Nat}(h:f∈[a]):f=a:=ez.mp h
theorem k_i{b:Bo}{w:Pw}{f y:Nat}(hf:f∈w.fs 31 32)(hy:y∈I4)(h:w.B b):Ba b w f y=true:=by
 obtain ⟨g,g1,cp,ce,cl,pz⟩:=b
 cases w with
 |a=>cases in1 hf;exact aj (Vg _) hy
 |b=>
  cases in1 hf
  obtain ⟨h1,h2,h3,h4⟩:=h
  cases h1;cases h2;cases h3;cases h4
  exact aj (Vh ..) hy
 |c=>cases (h:pz=false);exact aj (aj (Vi ..) hf) hy
 |d=>cases (h:pz=true);exact aj (aj (Vj ..) hf) hy
noncomputable def FF:MV:=mq key .none
noncomputable def Pw.zk(w:Pw):Pz:={w.z with state:=.bm 5 36,col:=w.col,line:=cond w.nl (X 7) (X 6),ws:=.bool false,ind:=.bool false,root:=.bool false,seq:=.bool false,map:=.bool true,sk:=.bool true}
noncomputable def Bb(b:Bo)(w:Pw)(f:Nat):Bool:=cX L2.prog (FD b []) 130 f (qh f) (w.z.h 3 [] FF) .none (w.zk.h 3 (w.rw++[.str key]) FF)
theorem Vk(b:Bo):Bb b .a 34=true:=by kernel_rfl
theorem Vl(g g1:Bool):Bb ⟨g,g1,false,false,true,false⟩ .b 34=true:=by kernel_rfl
theorem Vm(g g1 cp ce cl:Bool):([34,35].all λf=>Bb ⟨g,g1,cp,ce,cl,false⟩ .c f)=true:=by kernel_rfl
theorem Vn(g g1 cp ce cl:Bool):([34,35].all λf=>Bb ⟨g,g1,cp,ce,cl,true⟩ .d f)=true:=by kernel_rfl
theorem k_k{b:Bo}{w:Pw}{f:Nat}(hf:f∈w.fs 34 35)(h:w.B b):Bb b w f=true:=by
 obtain ⟨g,g1,cp,ce,cl,pz⟩:=b
 cases w with
 |a=>cases in1 hf;exact Vk _
 |b=>
  cases in1 hf
  obtain ⟨h1,h2,h3,h4⟩:=h
  cases h1;cases h2;cases h3;cases h4
  exact Vl ..
 |c=>cases (h:pz=false);exact aj (Vm ..) hf
 |d=>cases (h:pz=true);exact aj (Vn ..) hf
theorem Pw.QU{p c:Nat}{s:List Nat}{lb:List Nat}{ρ:d7}(h5:ρ.v 5=.str lb)(MZ:ρ.v 10=.str (dN p))(FG:ρ.v 12=.str (dN (p - c)))(w:Pw):MV.Is ρ (w.rw++[.str s])=sC lb p [] (w.ps p c++[.lit s]):=by
 cases w with
 |a=>rfl
 |b=>show [ρ.v 12,_]=_;rw [FG];rfl
 |c=>show [ρ.v 5,ρ.v 10,_]=_;rw [h5,MZ];rfl
 |d=>show [ρ.v 5,_]=_;rw [h5];rfl
theorem Pw.uZ{x:Cx}{p:Nat}{T:Tx}(w:Pw)(hw:w.Ok p T){state:MV}{aP ids:List MV}{J:Ju}{q:List MV}{e lst bL:MV}{nm v:List Nat}{mp:Bool}{ex:List MV}{S':Co}{T':Tx}{J':Ju}:w.z.Is (RD x ⟨state,aP,ids,.int p,0,w.ws,w.ind⟩ T J q e p aP ids lst bL nm v mp ex S' T' J') ⟨state,aP,ids,.int p,0,w.ws,w.ind⟩ T J.line:=by
 cases w with
 |a=>exact ⟨rfl,rfl,rfl,congrArg (λn:Nat=>MV.int n) hw.1.symm,rfl,congrArg (λl:List Nat=>MV.int l.length) hw.2.symm,rfl,rfl,rfl⟩
 |b=>exact ⟨rfl,rfl,rfl,rfl,rfl,rfl,rfl,rfl,rfl⟩
 |c=>exact ⟨rfl,rfl,rfl,rfl,rfl,rfl,rfl,rfl,rfl⟩
 |d=>exact ⟨rfl,rfl,rfl,rfl,rfl,rfl,rfl,rfl,rfl⟩
theorem Pw.Kh{p:Nat}{T:Tx}{s:List Nat}(hs:s.length=1){w:Pw}(hw:w.Ok p T){ρ:d7}(h:ρ.v 13=.int ((p+1:Nat):Int)):w.col.I ρ=.int (((w.T p T).put s).l.length:Nat):=by
 rw [Pw.len hw,hs]
 cases w with
 |a=>rw [hw.1];rfl
 |b=>exact h
 |c=>exact h
 |d=>rw [show p=0 from hw];rfl
theorem Pw.Kl{p:Nat}{T:Tx}{s:List Nat}(w:Pw):(w.T p T).put s=gH p [] (w.ps p T.l.length++[.lit s]) T:=(List.foldl_append (f:=Pc.op p []) (l:=w.ps p T.l.length) (l':=[.lit s]) (b:=T)).symm
theorem Pw.li{w:Pw}{ρ:d7}{l:Nat}(h6:ρ.v 6=.int (l:Nat))(h7:ρ.v 7=.int ((l+1:Nat):Int)):(cond w.nl (X 7) (X 6)).I ρ=.int ((l+cond w.nl 1 0:Nat):Int):=by
 cases w.nl with
 |true=>exact h7
 |false=>exact h6
theorem gF{l:List MV}{a:MV}:l.length≤(l++[a]).length:=by rw [aM];exact bI _ _
section
variable {x:Cx}(hx:lI x){p:Nat}(hp:p≤60){T:Tx}(state:MV)(aP ids:List MV)
include hx hp
theorem Bc{w:Pw}(hw:w.Ok p T){f y:Nat}(hf:f∈w.fs 31 32)(N6:y∈I4){e a b:MV}(hy:sN y e a b [97]){c:Nat}{S':Co}{T':Tx}(node:Do x 110 19 (jR false) e c ⟨state,aP++[.bm 5 32],ids,.int p,0,false,true⟩ ((w.T p T).put dash) S' T'):Do x 130 f (qh f) e (300+c) ⟨state,aP,ids,.int p,0,w.ws,w.ind⟩ T S' T':=
 xu (x:=x) (S:=⟨state,aP,ids,.int p,0,w.ws,w.ind⟩) (S1:=⟨state,aP++[.bm 5 32],ids,.int p,0,false,true⟩) (T1:=(w.T p T).put dash) (mp:=false) (y:=y) (p:=p) (aP:=aP) (cT:=ids) (nm:=[97]) (ps:=w.ps p T.l.length++[Pc.lit dash]) (nl:=w.nl) (pv:=w.rw++[MV.str dash]) (z:=w.z) (z1:=w.z1)
  ⟨hx,hp,bf _,bf _,by decide,rfl⟩ hy (show Ba (gY x T p) w f y=true from k_i hf N6 hw.B) (by cases w<;>exact ⟨rfl,rfl,rfl,rfl,rfl⟩) (by cases w<;>exact ⟨rfl,rfl,rfl,rfl,rfl⟩)
  (λ_ _ _ _=>w.uZ hw)
  (λ_ _ _ _=>⟨by cases w<;>rfl,by cases w<;>rfl,by cases w<;>rfl,(w.uZ hw).indent,(w.uZ hw).c6,Pw.Kh rfl hw rfl,Pw.li rfl rfl,rfl,rfl⟩)
  (λ_ _ _ _=>Pw.QU rfl rfl rfl w) w.Kl (Nat.le_of_eq aM) (Nat.le_succ _) (Pw.w hp (by decide) w) w.pl node
theorem Es{w:Pw}(hw:w.Ok p T){f:Nat}(hf:f∈w.fs 34 35):Do x 130 f (qh f) FF 300 ⟨state,aP,ids,.int p,0,w.ws,w.ind⟩ T ⟨.bm 5 36,aP,ids,.int p,0,false,false⟩ ((w.T p T).put key):=
 gi (p:=p) (aP:=aP) (cT:=ids) (lst:=.none) (bL:=.none) (nm:=[97]) (ps:=w.ps p T.l.length++[Pc.lit key]) (nl:=w.nl) (pv:=w.rw++[MV.str key]) (ev:=FF) (z:=w.z) (z':=w.zk) (cs:=[]) (v:=.none)
  ⟨hx,hp,bf _,bf _,by decide,rfl⟩ (show Bb (gY x T p) w f=true from k_k hf hw.B) (λ_ _ _=>aa) (λ_ _=>rfl) (λ_ _=>by unfold qh;cases (Nat.beq f 32||Nat.beq f 35||Nat.beq f 16)<;>rfl) (by cases w<;>exact ⟨rfl,rfl,rfl,rfl,rfl⟩)
  (λ_ _=>w.uZ hw)
  (λ_ _=>⟨rfl,(w.uZ hw).sL,(w.uZ hw).ids,(w.uZ hw).indent,(w.uZ hw).c6,Pw.Kh rfl hw rfl,Pw.li rfl rfl,rfl,rfl⟩)
  (λ_ _=>Pw.QU rfl rfl rfl w) w.Kl (Nat.le_succ _) (Nat.le_succ _) (Pw.w hp (by decide) w) (by decide) w.pl
end
noncomputable def colon:List Nat:=[58]
noncomputable def zV(fl:Nat):Pz:={xr with ws:=.bool false,ind:=.bool false,c6:=.int (fl:Nat)}
noncomputable def Xc(fl:Nat):Pz:={zV fl with sL:=[.bm 5 (cond (Nat.beq fl 0) 35 27)],col:=X 8}
noncomputable def M0(b:Bo)(fl y:Nat):Bool:=cX L2.prog (FD b [QO true (Xc fl) [MV.str colon] (uY y)]) 130 (cond (Nat.beq fl 0) 36 28) [.obj 5] ((zV fl).h 3 [] (uY y)) .none (zN.h 7 [] (uY y))
theorem Vo(b:Bo):(I4.all (M0 b 0))=true:=by kernel_rfl
theorem Vp(b:Bo):(QT.all (M0 b 1))=true:=by kernel_rfl
noncomputable def Vq(fl:Nat):List Nat:=cond (Nat.beq fl 0) I4 QT
noncomputable def nK(m:Bool):List Nat:=cond m [125] [93]
noncomputable def zE:Pz:={xr with sL:=[X 28],ids:=[X 29],ws:=.bool false,ind:=.bool false,c6:=.int 0}
noncomputable def Vr:Pz:={xr with state:=X 28,indent:=X 29,ws:=.bool false,ind:=.bool false,c6:=.int 0}
theorem k_e(b:Bo):(bools.all λm=>cX L2.prog (FD b []) 130 (cond m 35 32) (qh (cond m 35 32)) (zE.h 3 [] (nj m)) .none (Vr.h 3 [] (nj m)))=true:=by kernel_rfl
noncomputable def Xd:Pz:={zE with c6:=.int 1}
noncomputable def QV:Pz:={Vr with col:=X 8}
theorem Vt(b:Bo):(bools.all λm=>cX L2.prog (FD b []) 130 (cond m 27 24) [.obj 5] (Xd.h 3 [] (nj m)) .none (QV.h 3 [.str (nK m)] (nj m)))=true:=by kernel_rfl
section
variable {x:Cx}(hx:lI x){p:Nat}(hp:p≤60)(T:Tx)(state:MV)(aP ids:List MV)
include hx hp
theorem u0{fl:Nat}(Lp:fl=0∨fl=1){y:Nat}(N6:y∈Vq fl){e a b:MV}{nm:List Nat}(uW:nm.length≤100∧nm.isEmpty=false)(hy:sN y e a b nm){c:Nat}{S':Co}{T':Tx}(node:Do x 110 19 (jR true) e c ⟨state,aP++[.bm 5 (cond (Nat.beq fl 0) 35 27)],ids,.int p,fl,false,false⟩ (T.put colon) S' T'):Do x 130 (cond (Nat.beq fl 0) 36 28) [.obj 5] e (300+c) ⟨state,aP,ids,.int p,fl,false,false⟩ T S' T':=by
 have K:M0 (gY x T p) fl y=true:=by
  rcases Lp with rfl|rfl
  ·exact aj (Vo _) N6
  ·exact aj (Vp _) N6
 have hf:qh (cond (Nat.beq fl 0) 36 28)=[.obj 5]:=by rcases Lp with rfl|rfl<;>rfl
 have h:=xu (x:=x) (T:=T) (S:=⟨state,aP,ids,.int p,fl,false,false⟩) (S1:=⟨state,aP++[.bm 5 (cond (Nat.beq fl 0) 35 27)],ids,.int p,fl,false,false⟩) (T1:=T.put colon) (f:=cond (Nat.beq fl 0) 36 28) (p:=p) (aP:=aP) (cT:=ids) (nm:=nm) (ps:=[Pc.lit colon]) (nl:=false) (pv:=[MV.str colon]) (z:=zV fl) (z1:=Xc fl)
  ⟨hx,hp,bf _,bf _,uW⟩ hy (by rw [hf];exact K) ⟨rfl,rfl,rfl,rfl,rfl⟩ ⟨rfl,rfl,rfl,rfl,rfl⟩
  (λ_ _ _ _=>⟨rfl,rfl,rfl,rfl,rfl,rfl,rfl,rfl,rfl⟩)
  (λ_ _ _ _=>⟨rfl,rfl,rfl,rfl,rfl,congrArg (λn:Nat=>MV.int n) (sM rfl),rfl,rfl,rfl⟩)
  (λ_ _ _ _=>rfl) rfl (Nat.le_of_eq aM) (Nat.le_succ _) (w_lit (by decide)) (lJ (n:=1)) node
 rw [hf] at h;exact h
variable (lst bL:MV)(cT:List MV)
theorem Et(m:Bool):Do x 130 (cond m 35 32) (qh (cond m 35 32)) (nj m) 300 ⟨state,aP++[lst],cT++[bL],.int p,0,false,false⟩ T ⟨lst,aP,cT,bL,0,false,false⟩ T:=
 gi (p:=p) (aP:=aP) (cT:=cT) (lst:=lst) (bL:=bL) (nm:=[97]) (ps:=[]) (nl:=false) (pv:=[]) (ev:=nj m) (z:=zE) (z':=Vr) (cs:=[]) (v:=.none)
  ⟨hx,hp,gF,gF,by decide,rfl⟩ (aj (k_e (gY x T p)) (ak m)) (λ_ _ _=>aa) (λ_ _=>by cases m<;>rfl) (λ_ _=>by cases m<;>rfl) ⟨rfl,rfl,rfl,rfl,rfl⟩
  (λ_ _=>⟨rfl,rfl,rfl,rfl,rfl,rfl,rfl,rfl,rfl⟩) (λ_ _=>⟨rfl,rfl,rfl,rfl,rfl,rfl,rfl,rfl,rfl⟩)
  (λ_ _=>rfl) rfl (ah (gF) (Nat.le_succ _)) (ah (gF) (Nat.le_succ _)) (Nat.zero_le _) (by decide) (Nat.zero_le _)
theorem Be(m:Bool):Do x 130 (cond m 27 24) [.obj 5] (nj m) 300 ⟨state,aP++[lst],cT++[bL],.int p,1,false,false⟩ T ⟨lst,aP,cT,bL,0,false,false⟩ (T.put (nK m)):=
 gi (p:=p) (aP:=aP) (cT:=cT) (lst:=lst) (bL:=bL) (nm:=[97]) (ps:=[.lit (nK m)]) (nl:=false) (pv:=[.str (nK m)]) (ev:=nj m) (z:=Xd) (z':=QV) (cs:=[]) (v:=.none)
  ⟨hx,hp,gF,gF,by decide,rfl⟩ (aj (Vt (gY x T p)) (ak m)) (λ_ _ _=>aa) (λ_ _=>by cases m<;>rfl) (λ_ _=>rfl) ⟨rfl,rfl,rfl,rfl,rfl⟩
  (λ_ _=>⟨rfl,rfl,rfl,rfl,rfl,rfl,rfl,rfl,rfl⟩) (λ_ _=>⟨rfl,rfl,rfl,rfl,rfl,congrArg (λn:Nat=>MV.int n) (sM (by cases m<;>rfl)),rfl,rfl,rfl⟩)
  (λ_ _=>rfl) rfl (ah (gF) (Nat.le_succ _)) (ah (gF) (Nat.le_succ _)) (w_lit (by cases m<;>decide)) (by decide) (lJ (n:=1))
end
noncomputable def comma:List Nat:=[44]
noncomputable def xw(fst:Bool)(T:Tx):Tx:=cond fst T (T.put comma)
noncomputable def n5(W:Int)(fst:Bool)(T:Tx):Bool:=decide (W< ((xw fst T).l.length:Nat))
noncomputable def nL(W:Int)(p:Nat)(fst:Bool)(T:Tx):Tx:=cond (n5 W fst T) ((xw fst T).nl p) (xw fst T)
noncomputable def N7(fst br:Bool):List Pc:=cond fst [] [.lit comma]++cond br [.lb,.nq] []
noncomputable def SM(fst br:Bool):List MV:=cond fst [] [.str comma]++cond br [X 5,X 10] []
theorem Eu{W:Int}{p:Nat}{fst br:Bool}{T:Tx}(h:n5 W fst T=br):nL W p fst T=gH p [] (N7 fst br) T:=by
 unfold nL;rw [h]
 cases fst<;>cases br<;>rfl
noncomputable def Vu(fst br:Bool):MV:=cond br (X 2) (cond fst (X 0) (X 8))
noncomputable def zI(fst:Bool):Pz:={xr with ws:=.bool fst,ind:=.bool false,c6:=.int 1}
noncomputable def Xe(fst br:Bool):Pz:={zI fst with sL:=[.bm 5 24],col:=Vu fst br,line:=cond br (X 7) (X 6),ws:=.bool (fst||br),ind:=.bool br}
noncomputable def Km(b:Bo)(fst br:Bool)(y:Nat):Bool:=cX L2.prog (FD b [QO false (Xe fst br) (SM fst br) (uY y)]) 130 (cond fst 23 24) [.obj 5] ((zI fst).h 3 [] (uY y)) .none (zN.h 7 [] (uY y))
noncomputable def Xf(fst br:Bool):Pz:={zI fst with state:=.bm 5 28,col:=cond br (X 13) (cond fst (X 8) (X 32)),line:=cond br (X 7) (X 6),ws:=.bool false,ind:=.bool false,root:=.bool false,seq:=.bool false,map:=.bool true,sk:=.bool true}
noncomputable def N8(fst br:Bool):List Pc:=N7 fst br++(cond (fst||br) [] [.lit [32]]++[.lit key])
noncomputable def Vv(fst br:Bool):List MV:=SM fst br++(cond (fst||br) [] [.str [32]]++[.str key])
noncomputable def Ew(b:Bo)(fst br:Bool):Bool:=cX L2.prog (FD b []) 130 (cond fst 26 27) [.obj 5] ((zI fst).h 3 [] FF) .none ((Xf fst br).h 3 (Vv fst br) FF)
noncomputable def Vw(fst br g cp ce cl:Bool):Bo:=cond fst ⟨br,g,cp,ce,cl,false⟩ ⟨g,br,cp,ce,cl,false⟩
theorem Vx(g cp ce cl:Bool):(bools.all λfst=>bools.all λbr=>QT.all (Km (Vw fst br g cp ce cl) fst br))=true:=by kernel_rfl
theorem Vy(g cp ce cl:Bool):(bools.all λfst=>bools.all λbr=>Ew (Vw fst br g cp ce cl) fst br)=true:=by kernel_rfl
theorem Ey{x:Cx}{T:Tx}{p:Nat}(hp:0< p){fst br:Bool}(h:n5 x.W fst T=br):∃g cp ce cl,gY x T p=Vw fst br g cp ce cl:=by
 have hz:decide (p=0)=false:=decide_eq_false (Nat.ne_of_gt hp);subst h;unfold gY;rw [hz]
 cases fst with
 |true=>exact ⟨_,_,_,_,rfl⟩
 |false=>
  refine ⟨decide (x.W< (T.l.length:Nat)),decide (p< T.l.length),decide (T.l.length=p),decide (T.l.length< p),?_⟩;show _=Bo.mk _ (decide (x.W< ((T.l++comma).length:Nat))) _ _ _ _
  rw [aM];rfl
theorem QW{W:Int}{p:Nat}{fst br:Bool}{T:Tx}(h:n5 W fst T=br):(nL W p fst T).l.length=cond br p (cond fst T.l.length (T.l.length+1)):=by
 unfold nL;rw [h]
 cases br with
 |true=>exact cG
 |false=>cases fst with
  |true=>rfl
  |false=>exact aM
theorem QX{ρ:d7}{lb:List Nat}{p:Nat}(h5:ρ.v 5=.str lb)(MZ:ρ.v 10=.str (dN p))(fst br:Bool):MV.Is ρ (SM fst br)=sC lb p [] (N7 fst br):=by cases fst<;>cases br<;>first|rfl|(show [ρ.v 5,ρ.v 10]=_;rw [h5,MZ];rfl)|(show [_,ρ.v 5,ρ.v 10]=_;rw [h5,MZ];rfl)
theorem QY{ρ:d7}{lb:List Nat}{p:Nat}(h5:ρ.v 5=.str lb)(MZ:ρ.v 10=.str (dN p))(fst br:Bool):MV.Is ρ (Vv fst br)=sC lb p [] (N8 fst br):=by cases fst<;>cases br<;>first|rfl|(show [ρ.v 5,ρ.v 10,_]=_;rw [h5,MZ];rfl)|(show [_,ρ.v 5,ρ.v 10,_]=_;rw [h5,MZ];rfl)
theorem fW{p:Nat}(hp:p≤60)(fst br:Bool):wsum p (N8 fst br)≤300∧wsum p (N7 fst br)≤300:=by
 have h1:∀a k,a+k≤200→a+((dN p).length+k)≤300:=λa k hk=>by rw [cG];lia
 cases fst<;>cases br
 ·exact ⟨c8 rfl,c8 rfl⟩
 ·exact ⟨ah (Nat.le_of_eq (Nat.add_assoc 1 2 _).symm) (h1 3 1 (by decide)),ah (Nat.le_of_eq (Nat.add_assoc 1 2 _).symm) (h1 3 0 (by decide))⟩
 ·exact ⟨c8 rfl,c8 rfl⟩
 ·exact ⟨h1 2 1 (by decide),h1 2 0 (by decide)⟩
theorem fL(fst br:Bool):(N8 fst br).length≤300∧(N7 fst br).length≤300:=by cases fst<;>cases br<;>exact ⟨lJ (c8 rfl),lJ (c8 rfl)⟩
section
variable {x:Cx}(hx:lI x){p:Nat}(hp:p≤60)(Vz:0< p)(T:Tx)(state:MV)(aP ids:List MV)
include hx hp Vz
theorem I5{fst br:Bool}(hb:n5 x.W fst T=br){y:Nat}(N6:y∈QT){e a b:MV}{nm:List Nat}(uW:nm.length≤100∧nm.isEmpty=false)(hy:sN y e a b nm){c:Nat}{S':Co}{T':Tx}(node:Do x 110 19 (jR false) e c ⟨state,aP++[.bm 5 24],ids,.int p,1,fst||br,br⟩ (nL x.W p fst T) S' T'):Do x 130 (cond fst 23 24) [.obj 5] e (300+c) ⟨state,aP,ids,.int p,1,fst,false⟩ T S' T':=by
 have K:Km (gY x T p) fst br y=true:=by obtain ⟨g,cp,ce,cl,e⟩:=Ey (x:=x) (T:=T) Vz hb;rw [e];exact aj (aj (aj (Vx g cp ce cl) (ak fst)) (ak br)) N6
 have hf:qh (cond fst 23 24)=[.obj 5]:=by cases fst<;>rfl
 have h:=xu (x:=x) (T:=T) (S:=⟨state,aP,ids,.int p,1,fst,false⟩) (S1:=⟨state,aP++[.bm 5 24],ids,.int p,1,fst||br,br⟩) (T1:=nL x.W p fst T) (f:=cond fst 23 24) (p:=p) (aP:=aP) (cT:=ids) (nm:=nm) (ps:=N7 fst br) (nl:=br) (pv:=SM fst br) (z:=zI fst) (z1:=Xe fst br)
  ⟨hx,hp,bf _,bf _,uW⟩ hy (by rw [hf];exact K) ⟨rfl,rfl,rfl,rfl,rfl⟩ ⟨rfl,rfl,rfl,rfl,rfl⟩
  (λ_ _ _ _=>⟨rfl,rfl,rfl,rfl,rfl,rfl,rfl,rfl,rfl⟩)
  (λ_ _ _ _=>⟨rfl,rfl,rfl,rfl,rfl,by rw [QW hb];cases br<;>cases fst<;>rfl,by cases br<;>rfl,rfl,rfl⟩)
  (λ_ _ _ _=>QX rfl rfl fst br) (Eu hb) (Nat.le_of_eq aM) (Nat.le_succ _) (fW hp fst br).2 (fL fst br).2 node
 rw [hf] at h;exact h
theorem I6{fst br:Bool}(hb:n5 x.W fst T=br):Do x 130 (cond fst 26 27) [.obj 5] FF 300 ⟨state,aP,ids,.int p,1,fst,false⟩ T ⟨.bm 5 28,aP,ids,.int p,1,false,false⟩ (((nL x.W p fst T).put (sep (fst||br))).put key):=by
 have K:Ew (gY x T p) fst br=true:=by obtain ⟨g,cp,ce,cl,e⟩:=Ey (x:=x) (T:=T) Vz hb;rw [e];exact aj (aj (Vy g cp ce cl) (ak fst)) (ak br)
 have hT:((nL x.W p fst T).put (sep (fst||br))).put key=gH p [] (N8 fst br) T:=by
  rw [Eu hb];unfold N8 gH;rw [List.foldl_append]
  cases fst<;>cases br<;>first|rfl|exact congrArg (Tx.put · key) cR
 refine gi (p:=p) (aP:=aP) (cT:=ids) (lst:=.none) (bL:=.none) (nm:=[97]) (ps:=N8 fst br) (nl:=br) (pv:=Vv fst br) (ev:=FF) (z:=zI fst) (z':=Xf fst br) (cs:=[]) (v:=.none)
  ⟨hx,hp,bf _,bf _,by decide,rfl⟩ (show Ew (gY x T p) fst br=true from K) (λ_ _ _=>aa) (λ_ _=>rfl) (λ_ _=>rfl) ⟨rfl,rfl,rfl,rfl,rfl⟩
  (λ_ _=>⟨rfl,rfl,rfl,rfl,rfl,rfl,rfl,rfl,rfl⟩)
  (λ_ _=>⟨rfl,rfl,rfl,rfl,rfl,?_,by cases br<;>rfl,rfl,rfl⟩)
  (λ_ _=>QY rfl rfl fst br) hT (Nat.le_succ _) (Nat.le_succ _) (fW hp fst br).1 (by decide) (fL fst br).1
 have hl:(((nL x.W p fst T).put (sep (fst||br))).put key).l.length=cond br (p+1) (cond fst (T.l.length+1) (T.l.length+3)):=by
  show (((nL x.W p fst T).l++sep (fst||br))++key).length=_
  rw [aM,aM,QW hb]
  cases fst<;>cases br<;>rfl
 rw [hl]
 cases fst<;>cases br<;>rfl
end
noncomputable def Xg:MV:=.jk [.str [33],.str [116,97,103,58,121,97,109,108,46,111,114,103,44,50,48,48,50,58]] [.str [33],.str [33,33]]
noncomputable def zD(state:MV):Pz:={xr with state:=state,sL:=[],ids:=[],indent:=.none,c6:=.int 0,ws:=.bool true,ind:=.bool true,col:=.int 0}
theorem VA(b:Bo):cX L2.prog (FD b []) 130 13 [.obj 5] ((zD (X 27)).h 3 [] ju) .none ((zD (.bm 5 15)).h 3 [] ju)=true:=by kernel_rfl
noncomputable def QZ:Pz:={zD (X 27) with tp:=Xg}
noncomputable def Xh(ex:Bool):Pz:={zD (.bm 5 18) with ws:=.bool (!ex),ind:=.bool (!ex),col:=cond ex (.int 3) (.int 0),tp:=Xg}
noncomputable def Xi(h:aS):gr:={n:=40,f:=40,as:=[.obj 5],h:=h,r:=.bool false,h':=h}
noncomputable def FH:List Nat:=[45,45,45]
theorem VB(b:Bo):(bools.all λex=>cX L2.prog (FD b [Xi (QZ.h 3 [] (fq ex))]) 130 15 [.obj 5] ((zD (X 27)).h 3 [] (fq ex)) .none ((Xh ex).h 3 (cond ex [.str FH] []) (fq ex)))=true:=by kernel_rfl
noncomputable def I7:Pz:={xr with indent:=.none,c6:=.int 0}
noncomputable def Q0:Pz:={I7 with sL:=[.bm 5 17],root:=.bool true,seq:=.bool false,map:=.bool false,sk:=.bool false}
noncomputable def Xj(m:Bool):Pz:={xr with state:=.bm 5 (cond m 34 31),sL:=[.bm 5 17],ids:=[.none],indent:=.int 0,c6:=.int 0,root:=.bool true,seq:=.bool false,map:=.bool false,sk:=.bool false}
theorem VC(b:Bo):(bools.all λm=>cX L2.prog (FD b [SI m (Q0.h 3 [] (cK m false))]) 130 18 [.obj 5] (I7.h 3 [] (cK m false)) .none ((Xj m).h 3 [] (cK m false)))=true:=by kernel_rfl
noncomputable def Xk:Pz:={I7 with ws:=.bool false,ind:=.bool false}
noncomputable def Q2:Pz:={I7 with state:=.bm 5 16,col:=.int 0,line:=X 7,ws:=.bool true,ind:=.bool true}
theorem VD(b:Bo):cX L2.prog (FD b []) 130 17 [.obj 5] (Xk.h 3 [] j7) .none (Q2.h 3 [X 5] j7)=true:=by kernel_rfl
theorem VE(b:Bo):cX L2.prog (FD b []) 130 16 [.obj 5,.bool false] (I7.h 3 [] gS) .none ({I7 with state:=.bm 5 14}.h 3 [] gS)=true:=by kernel_rfl
theorem VF{x:Cx}{S:Co}{T:Tx}{J:Ju}{q:List MV}{b:Bool}(h:pX (fq b) q){k:Nat}(hk:40≤k):(E L2.prog k).ca 40 [.obj 5] (hc x S T J q (fq b))=some (.bool false,hc x S T J q (fq b)):=by obtain ⟨m,r,rfl⟩:=h.2 rfl;obtain ⟨j,rfl⟩:=Nat.exists_eq_add_of_le' hk;cases m<;>rfl
section
variable {x:Cx}(hx:lI x)(T:Tx)(state:MV)(aP ids:List MV)(ws ind:Bool)
include hx
theorem I8(d:List (List Nat)):Do x 130 13 [.obj 5] ju 300 ⟨state,aP,ids,.none,0,true,true⟩ ⟨d,[]⟩ ⟨.bm 5 15,aP,ids,.none,0,true,true⟩ ⟨d,[]⟩:=
 gi (p:=0) (aP:=aP) (cT:=ids) (lst:=.none) (bL:=.none) (nm:=[97]) (ps:=[]) (nl:=false) (pv:=[]) (ev:=ju) (z:=zD (X 27)) (z':=zD (.bm 5 15)) (cs:=[]) (v:=.none)
  ⟨hx,by decide,bf _,bf _,by decide,rfl⟩ (VA _) (λ_ _ _=>aa) (λ_ _=>rfl) (λ_ _=>rfl) ⟨rfl,rfl,rfl,rfl,rfl⟩
  (λ_ _=>⟨rfl,rfl,rfl,rfl,rfl,rfl,rfl,rfl,rfl⟩) (λ_ _=>⟨rfl,rfl,rfl,rfl,rfl,rfl,rfl,rfl,rfl⟩)
  (λ_ _=>rfl) rfl (Nat.le_succ _) (Nat.le_succ _) (Nat.zero_le _) (by decide) (Nat.zero_le _)
theorem I9(d:List (List Nat))(b:Bool):Do x 130 15 [.obj 5] (fq b) 300 ⟨state,aP,ids,.none,0,true,true⟩ ⟨d,[]⟩ ⟨.bm 5 18,aP,ids,.none,0, !b, !b⟩ ⟨d,cond b FH []⟩:=
 gi (x:=x) (S:=⟨state,aP,ids,.none,0,true,true⟩) (T:=⟨d,[]⟩) (e:=fq b) (p:=0) (aP:=aP) (cT:=ids) (lst:=.none) (bL:=.none) (nm:=[97]) (ps:=cond b [Pc.lit FH] []) (nl:=false) (pv:=cond b [MV.str FH] []) (ev:=fq b) (z:=zD (X 27)) (z':=Xh b) (cs:=[Xi (QZ.h 3 [] (fq b))]) (v:=.none)
  ⟨hx,by decide,bf _,bf _,by decide,rfl⟩ (aj (VB _) (ak b)) (λJ q hq=>af (λk hk=>by
   have h1:Pz.Is QZ (RJ x ⟨state,aP,ids,.none,0,true,true⟩ ⟨d,[]⟩ J q (fq b) 0 aP ids .none .none [97]) ⟨state,aP,ids,.none,0,true,true⟩ ⟨d,[]⟩ J.line:=⟨rfl,rfl,rfl,rfl,rfl,rfl,rfl,rfl,rfl⟩;have h2:=h1.eq (x:=x) (q:=q) (rp:=3) (rows:=[]) (e:=fq b) (R:=J.rows) (e':=fq b) ⟨rfl,rfl,rfl,rfl,rfl,rfl,rfl⟩ rfl rfl;show (E L2.prog k).ca 40 [.obj 5] (aQ _ (Pz.h QZ 3 [] (fq b)))=some (.bool false,aQ _ (Pz.h QZ 3 [] (fq b)))
   rw [h2];exact VF hq hk) aa) (λ_ _=>rfl) (λ_ _=>rfl) ⟨rfl,rfl,rfl,rfl,rfl⟩
  (λ_ _=>⟨rfl,rfl,rfl,rfl,rfl,rfl,rfl,rfl,rfl⟩) (λ_ _=>⟨rfl,rfl,rfl,rfl,rfl,by cases b<;>rfl,rfl,rfl,rfl⟩)
  (λ_ _=>by cases b<;>rfl) (by cases b<;>rfl) (Nat.le_succ _) (Nat.le_succ _) (by cases b<;>exact c8 rfl) (by decide) (by cases b<;>exact lJ (c8 rfl))
theorem Ja(m:Bool):Do x 130 18 [.obj 5] (cK m false) 300 ⟨state,aP,ids,.none,0,ws,ind⟩ T ⟨.bm 5 (cond m 34 31),aP++[.bm 5 17],ids++[.none],.int 0,0,ws,ind⟩ T:=
 gi (x:=x) (S:=⟨state,aP,ids,.none,0,ws,ind⟩) (T:=T) (e:=cK m false) (p:=0) (aP:=aP) (cT:=ids) (lst:=.none) (bL:=.none) (nm:=[97]) (ps:=[]) (nl:=false) (pv:=[]) (ev:=cK m false) (z:=I7) (z':=Xj m) (cs:=[SI m (Q0.h 3 [] (cK m false))]) (v:=.none)
  ⟨hx,by decide,bf _,bf _,by decide,rfl⟩ (aj (VC _) (ak m)) (λJ q hq=>af (λk hk=>by
   have h1:Pz.Is (Q0) (RJ x ⟨state,aP,ids,.none,0,ws,ind⟩ T J q (cK m false) 0 aP ids .none .none [97]) ⟨state,aP++[.bm 5 17],ids,.none,0,ws,ind⟩ T J.line:=⟨rfl,rfl,rfl,rfl,rfl,rfl,rfl,rfl,rfl⟩;have h2:=h1.eq (x:=x) (q:=q) (rp:=3) (rows:=[]) (e:=cK m false) (R:=J.rows) (e':=cK m false) ⟨rfl,rfl,rfl,rfl,rfl,rfl,rfl⟩ (by cases m<;>rfl) rfl
   show (E L2.prog k).ca (cond m 39 38) [.obj 5] (aQ _ (Q0.h 3 [] (cK m false)))=some (.bool false,aQ _ (Q0.h 3 [] (cK m false)))
   rw [h2];exact QN hq hk) aa) (λ_ _=>by cases m<;>rfl) (λ_ _=>rfl) ⟨rfl,rfl,rfl,rfl,rfl⟩
  (λ_ _=>⟨rfl,rfl,rfl,rfl,rfl,rfl,rfl,rfl,rfl⟩) (λ_ _=>⟨by cases m<;>rfl,rfl,rfl,rfl,rfl,rfl,rfl,rfl,rfl⟩)
  (λ_ _=>rfl) rfl (Nat.le_of_eq aM) (Nat.le_of_eq aM) (Nat.zero_le _) (by decide) (Nat.zero_le _)
theorem Jb:Do x 130 17 [.obj 5] j7 300 ⟨state,aP,ids,.none,0,false,false⟩ T ⟨.bm 5 16,aP,ids,.none,0,true,true⟩ T.brk:=
 gi (p:=0) (aP:=aP) (cT:=ids) (lst:=.none) (bL:=.none) (nm:=[97]) (ps:=[.lb]) (nl:=true) (pv:=[X 5]) (ev:=j7) (z:=Xk) (z':=Q2) (cs:=[]) (v:=.none)
  ⟨hx,by decide,bf _,bf _,by decide,rfl⟩ (VD _) (λ_ _ _=>aa) (λ_ _=>rfl) (λ_ _=>rfl) ⟨rfl,rfl,rfl,rfl,rfl⟩
  (λ_ _=>⟨rfl,rfl,rfl,rfl,rfl,rfl,rfl,rfl,rfl⟩) (λ_ _=>⟨rfl,rfl,rfl,rfl,rfl,rfl,rfl,rfl,rfl⟩)
  (λ_ _=>rfl) rfl (Nat.le_succ _) (Nat.le_succ _) (by decide) (by decide) (lJ (c8 rfl))
theorem Jc:Do x 130 16 [.obj 5,.bool false] gS 300 ⟨state,aP,ids,.none,0,ws,ind⟩ T ⟨.bm 5 14,aP,ids,.none,0,ws,ind⟩ T:=
 gi (p:=0) (aP:=aP) (cT:=ids) (lst:=.none) (bL:=.none) (nm:=[97]) (ps:=[]) (nl:=false) (pv:=[]) (ev:=gS) (z:=I7) (z':={I7 with state:=.bm 5 14}) (cs:=[]) (v:=.none)
  ⟨hx,by decide,bf _,bf _,by decide,rfl⟩ (VE _) (λ_ _ _=>aa) (λ_ _=>rfl) (λ_ _=>rfl) ⟨rfl,rfl,rfl,rfl,rfl⟩
  (λ_ _=>⟨rfl,rfl,rfl,rfl,rfl,rfl,rfl,rfl,rfl⟩) (λ_ _=>⟨rfl,rfl,rfl,rfl,rfl,rfl,rfl,rfl,rfl⟩)
  (λ_ _=>rfl) rfl (Nat.le_succ _) (Nat.le_succ _) (Nat.zero_le _) (by decide) (Nat.zero_le _)
end
noncomputable def kinds:List Nat:=[4,5,6,7,8,9,10,11,12,13]
def mz(e:MV):Prop:=∃c vs,e=.d8 c vs∧c∈kinds
noncomputable def up(c:Nat):Bool:=Nat.beq c 6||Nat.beq c 10||Nat.beq c 12
noncomputable def dn(c:Nat):Bool:=Nat.beq c 7||Nat.beq c 11||Nat.beq c 13
noncomputable def Bg:List MV→Nat→Bool
 |[],_=>false
 |e::r,l=>cond (Nat.beq (eH e) 5||(dn (eH e)&&decide (l=0))) true (Bg r (cond (up (eH e)) (l+1) (cond (dn (eH e)) (l - 1) l)))
noncomputable def Jd:aA:=L2.J3.body.getD 1 .pass
noncomputable def SN:List aA:=match Jd with
 |.dW _ _ b=>b
 |_=>[]
noncomputable def Xl(z:Bool):Facts:={cmp:=[(.Lt,X 30,.int 0,false),(.Lt,X 31,.int 0,false),(.Lt,X 32,.int 0,z)],aug:=[(.Add,X 30,.int 1,X 31),(.Sub,X 30,.int 1,X 32)]}
noncomputable def SO(cn v:MV)(e:SL):aV:=[.v (.obj 5),.v cn,.v v,e]
noncomputable def Ez(c:Nat):MV:=cond (up c) (X 31) (cond (dn c) (X 32) (X 30))
noncomputable def EA(c:Nat)(z:Bool):Bool:=Nat.beq c 5||(dn c&&z)
theorem r11(vs:List MV)(n:Int)(h:aS)(z:Bool):∀c∈kinds,(SE L2.prog (Xl z) 30).ex SN (SO (.int n) (X 30) (.v (.d8 c vs))) h=some (cond (EA c z) (.ret (.bool false)) .next,SO (.int n) (cond (Nat.beq c 5) (.int (-1)) (Ez c)) (.v (.d8 c vs)),h):=by intro c hc;simp only [kinds,bO,fF,or_false] at hc;rcases hc with rfl|rfl|rfl|rfl|rfl|rfl|rfl|rfl|rfl|rfl<;>cases z<;>kernel_rfl
noncomputable def RQ(x:Cx)(S:Co)(T:Tx)(J:Ju)(q:List MV)(e:MV)(l:Nat)(a:Option MV):d7:=R [S.state,e,S.indent,.int (S.c6:Nat),J.root,J.seq,J.map,J.sk,.int (J.line:Nat),.int (T.l.length:Nat),.bool S.ws,.bool S.ind,.bool false,.int (x.step:Nat),J.tp,J.an,J.st,.int x.W,.str x.lb,.none,.none,.none,.none,.none,.none,.none,.none,.none,.none,.none,.int (l:Nat),.int ((l+1:Nat):Int),.int ((l:Int) - 1)] [x.aI,x.events,x.qo,J.rows,S.bH,q,S.aX] λ_=>a
theorem VG{ρ:d7}{e:MV}(h:∀ρ,e.I ρ=e):e.I ρ=e:=h ρ
def Cl(e:MV):Prop:=∀ρ:d7,e.I ρ=e
noncomputable def Xm{α:Type}(f:Fl)(a:α)(g:MV→α):α:=match f with
 |.next=>a
 |.ret v=>g v
theorem iS{P:Prog}{k t:Nat}{b:List aA}{x:MV}{r:List MV}{l l1:Loc}{h h1:Hp}{f:Fl}(e:(E P k).ex b (gV l t x) h=some (f,l1,h1)):bT (E P k) (.aH t) b (x::r) l h=Xm f (bT (E P k) (.aH t) b r l1 h1) (λv=>some (.ret v,l1,h1)):=by
 show ((E P k).ex b (gV l t x) h).bind _=_
 rw [e];cases f<;>rfl
theorem EB{x:Cx}{S:Co}{T:Tx}{J:Ju}{q:List MV}{e0:MV}{n:Int}{k:Nat}(hk:30≤k):∀(r:List MV) (l:Nat) (a:Option MV),(∀e∈r,mz e∧Cl e)→l+r.length≤big→
  ∃l',bT (E L2.prog k) (.aH 3) SN r [some (.obj 5),some (.int n),some (.int (l:Nat)),a] (hc x S T J q e0)=some (cond (Bg r l) (.ret (.bool false)) .next,some (.obj 5)::some (.int n)::l',hc x S T J q e0)
 |[],l,a,_,_=>⟨_,rfl⟩
 |e::r,l,a,he,hl=>by
  obtain ⟨⟨c,vs,rfl,Bx⟩,OZ⟩:=he _ (b7 ..);have Q3:l≤big:=ah (bI _ _) hl;have K:Holds L2.prog (RQ x S T J q e0 l none) (Xl (decide (l=0))):=⟨aa,af (pW (b:=0) (decide_eq_false (Nat.not_lt_zero _)))<|af (pW (b:=0) (decide_eq_false (Nat.not_lt_zero _)))<|af (show some (decide ((l:Int) - 1< 0))=_ from congrArg some (decide_eq_decide.mpr (by lia))) aa,aa,aa,aa,aa,aa,aa,af (cQ (b:=1) rfl (nk Q3 (by decide)))<|af (λh=>by
   show arith _ _ _=_
   exact fm (aN (ah Q3 (by decide))) rfl rfl) aa,aa,aa,aa,aa⟩
  have e1:=(uJ K 30 k hk).ex _ _ _ _ (r11 vs n (sE 3 [] IZ) (decide (l=0)) c Bx);have eh:aQ (RQ x S T J q e0 l none) (sE 3 [] IZ)=hc x S T J q e0:=rfl;have el:∀v:MV,bq (RQ x S T J q e0 l none) (SO (.int n) v (.v (.d8 c vs)))=[some (.obj 5),some (.int n),some (v.I (RQ x S T J q e0 l none)),some (.d8 c vs)]:=λv=>by
   show [_,_,_,some ((MV.d8 c vs).I _)]=_
   rw [OZ];rfl
  unfold JY at e1;rw [el,eh] at e1;have e2:=iS (t:=3) (r:=r) (l:=[some (.obj 5),some (.int n),some (.int (l:Nat)),a]) (x:=.d8 c vs) e1;rw [e2];show ∃l',_=some (cond (cond (EA c (decide (l=0))) true (Bg r (cond (up c) (l+1) (cond (dn c) (l - 1) l)))) _ _,_)
  cases hz:EA c (decide (l=0)) with
  |true=>exact ⟨_,rfl⟩
  |false=>
   have h5:Nat.beq c 5=false:=by
    cases h:Nat.beq c 5 with
    |false=>rfl
    |true=>unfold EA at hz;rw [h] at hz;cases hz
   show ∃l',bT (E L2.prog k) (.aH 3) SN r (bq (RQ x S T J q e0 l none) (SO (.int n) (cond (Nat.beq c 5) (.int (-1)) (Ez c)) (.v (.d8 c vs)))) (hc x S T J q e0)=some (cond (Bg r (cond (up c) (l+1) (cond (dn c) (l - 1) l))) (.ret (.bool false)) .next,some (.obj 5)::some (.int n)::l',hc x S T J q e0)
   rw [el,h5];have hv:(Ez c).I (RQ x S T J q e0 l none)=.int ((cond (up c) (l+1) (cond (dn c) (l - 1) l):Nat):Int):=by
    unfold Ez
    cases up c with
    |true=>rfl
    |false=>cases hd:dn c with
     |false=>rfl
     |true=>
      have hl0:l≠0:=λe=>by unfold EA at hz;rw [h5,hd,e] at hz;cases hz
      show MV.int ((l:Int) - 1)=MV.int ((l - 1:Nat):Int)
      exact congrArg MV.int (by lia)
   show ∃l',bT (E L2.prog k) (.aH 3) SN r [some (.obj 5),some (.int n),some ((Ez c).I (RQ x S T J q e0 l none)),some (.d8 c vs)] (hc x S T J q e0)=some (cond (Bg r (cond (up c) (l+1) (cond (dn c) (l - 1) l))) (.ret (.bool false)) .next,some (.obj 5)::some (.int n)::l',hc x S T J q e0)
   rw [hv];exact EB hk r _ _ (λe h=>he e (bP _ h)) (by
    rw [List.length_cons] at hl
    cases up c with
    |true=>show l+1+_≤_;lia
    |false=>cases dn c with
     |true=>show l - 1+_≤_;lia
     |false=>show l+_≤_;lia)
noncomputable def need(c:Nat)(q:List MV):Bool:= !(Bg q.tail 0)&&decide (q.length< c+1)
theorem cu{P:Prog}{k:Nat}{s:aA}{r:List aA}{l l':Loc}{h h':Hp}{f:Fl}(e:bU P (E P k) s l h=some (f,l',h')):(E P (k+1)).ex (s::r) l h=Xm f ((E P k).ex r l' h') (λv=>some (.ret v,l',h')):=by
 show (bU P (E P k) s l h).bind _=_
 rw [e];cases f<;>rfl
theorem mC{P:Prog}{k:Nat}{t:dI}{it:dm}{b:List aA}{l:Loc}{h:Hp}{xs:List MV}{R:Option (Fl×Loc×Hp)}(h1:dB (E P k) it l h=some (.items xs,h))(h2:bT (E P k) t b xs l h=R):bU P (E P k) (.dW t it b) l h=R:=by
 show (dB (E P k) it l h).bind _=_
 rw [h1];exact h2
theorem M1{x:Cx}{S:Co}{T:Tx}{J:Ju}{e:MV}{r:List MV}{e0:MV}(he:∀e∈r,mz e∧Cl e)(hr:r.length≤big){n:Nat}(hn:n∈[1,2,3]){k:Nat}(hk:60≤k):(E L2.prog k).ca 11 [.obj 5,.int (n:Nat)] (hc x S T J (e::r) e0)=some (.bool (need n (e::r)),hc x S T J (e::r) e0):=by
 obtain ⟨j,rfl⟩:=Nat.exists_eq_add_of_le' hk;obtain ⟨l',e1⟩:=EB (x:=x) (S:=S) (T:=T) (J:=J) (q:=e::r) (e0:=e0) (n:=(n:Nat)) (k:=j+57) (ah (by decide) (Nat.le_add_left 57 j)) r 0 none he (by rw [Nat.zero_add];exact hr)
 have s1:bU L2.prog (E L2.prog (j+58)) (L2.J3.body.getD 0 .pass) [some (.obj 5),some (.int (n:Nat)),none,none] (hc x S T J (e::r) e0)=some (.next,[some (.obj 5),some (.int (n:Nat)),some (.int (0:Nat)),none],hc x S T J (e::r) e0):=rfl
 have s2:bU L2.prog (E L2.prog (j+57)) Jd [some (.obj 5),some (.int (n:Nat)),some (.int (0:Nat)),none] (hc x S T J (e::r) e0)=some (cond (Bg r 0) (.ret (.bool false)) .next,some (.obj 5)::some (.int (n:Nat))::l',hc x S T J (e::r) e0):=by
  have it:dB (E L2.prog (j+57)) (.val (.slice (.aJ (.aH 0) 30) (some (.bE (.int 1))) none)) [some (.obj 5),some (.int (n:Nat)),some (.int (0:Nat)),none] (hc x S T J (e::r) e0)=some (.items r,hc x S T J (e::r) e0):=by refine Eq.trans (b:=some (It.items (eX (e::r) (some (1:Nat)) none),hc x S T J (e::r) e0)) rfl ?_;rw [uT];rfl
  exact mC it e1
 have s3:bU L2.prog (E L2.prog (j+56)) (L2.J3.body.getD 2 .pass) (some (.obj 5)::some (.int (n:Nat))::l') (hc x S T J (e::r) e0)=some (.ret (.bool (decide ((e::r).length< n+1))),some (.obj 5)::some (.int (n:Nat))::l',hc x S T J (e::r) e0):=by have hd:decide (((e::r).length:Int)< ((n+1:Nat):Int))=decide ((e::r).length< n+1):=decide_eq_decide.mpr Int.ofNat_lt;rw [← hd];simp only [bO,fF,or_false] at hn;rcases hn with rfl|rfl|rfl<;>rfl
 show ((E L2.prog (j+59)).ex [L2.J3.body.getD 0 .pass,Jd,L2.J3.body.getD 2 .pass] [some (.obj 5),some (.int (n:Nat)),none,none] _).bind _=_
 rw [cu s1];show ((E L2.prog (j+58)).ex [Jd,L2.J3.body.getD 2 .pass] [some (.obj 5),some (.int (n:Nat)),some (.int (0:Nat)),none] _).bind _=_
 rw [cu s2];unfold need;show _=some (MV.bool (!Bg r 0&&_),_)
 cases Bg r 0 with
 |true=>rfl
 |false=>
  show ((E L2.prog (j+57)).ex [L2.J3.body.getD 2 .pass] (some (.obj 5)::some (.int (n:Nat))::l') _).bind _=_
  rw [cu s3];rfl
noncomputable def nm(q:List MV):Bool:=match q with
 |[]=>true
 |e::_=>cond (Nat.beq (eH e) 6) (need 1 q) (cond (Nat.beq (eH e) 10) (need 2 q) (cond (Nat.beq (eH e) 12) (need 3 q) false))
theorem Q4{k:Nat}{n:Int}{l:Loc}{H:Hp}{b:Bool}(hf:bK L2.prog (.obj 5) 53 H=some (.fn 11 (.obj 5)))(h:(E L2.prog (k+1)).ca 11 [.obj 5,.int n] H=some (.bool b,H)):(E L2.prog (k+3)).ex [.ret (some (.ay (.aH 0) 53 [.bE (.int n)] [] []))] (some (.obj 5)::l) H=some (.ret (.bool b),some (.obj 5)::l,H):=by
 have e:(E L2.prog (k+2)).ev (.ay (.aH 0) 53 [.bE (.int n)] [] []) (some (.obj 5)::l) H=some (.bool b,H):=by
  show ((bK L2.prog (.obj 5) 53 H).bind _:Option (MV×Hp))=_
  rw [hf];exact h
 have s:bU L2.prog (E L2.prog (k+2)) (.ret (some (.ay (.aH 0) 53 [.bE (.int n)] [] []))) (some (.obj 5)::l) H=some (.ret (.bool b),some (.obj 5)::l,H):=by
  show ((E L2.prog (k+2)).ev (.ay (.aH 0) 53 [.bE (.int n)] [] []) (some (.obj 5)::l) H).bind _=_
  rw [e];rfl
 rw [cu s];rfl
theorem EC{k:Nat}{c:ai}{a b:List aA}{l:Loc}{h:Hp}{R:Option (Fl×Loc×Hp)}(ht:test (E L2.prog k) c l h=some (true,h))(e:(E L2.prog k).ex a l h=R):bU L2.prog (E L2.prog k) (.aG c a b) l h=R:=by
 show (test (E L2.prog k) c l h).bind _=_
 rw [ht];exact e
theorem ED{k:Nat}{c:ai}{a b:List aA}{l:Loc}{h:Hp}{R:Option (Fl×Loc×Hp)}(ht:test (E L2.prog k) c l h=some (false,h))(e:(E L2.prog k).ex b l h=R):bU L2.prog (E L2.prog k) (.aG c a b) l h=R:=by
 show (test (E L2.prog k) c l h).bind _=_
 rw [ht];exact e
theorem xx{k:Nat}{s:aA}{l:Loc}{h:Hp}{v:MV}(e:bU L2.prog (E L2.prog k) s l h=some (.ret v,l,h)):(E L2.prog (k+1)).ex [s] l h=some (.ret v,l,h):=by rw [cu e];rfl
theorem M3{x:Cx}{S:Co}{T:Tx}{J:Ju}{q:List MV}{e0:MV}(he:∀e∈q,mz e∧Cl e)(hr:q.length≤big){k:Nat}(hk:90≤k):(E L2.prog k).ca 10 [.obj 5] (hc x S T J q e0)=some (.bool (nm q),hc x S T J q e0):=by
 obtain ⟨j,rfl⟩:=Nat.exists_eq_add_of_le' hk
 cases q with
 |nil=>rfl
 |cons e r=>
  have FI:∀n∈[1,2,3],∀k,60≤k→(E L2.prog (k+3)).ex [.ret (some (.ay (.aH 0) 53 [.bE (.int (n:Nat))] [] []))] [some (.obj 5),some e] (hc x S T J (e::r) e0)=some (.ret (.bool (need n (e::r))),[some (.obj 5),some e],hc x S T J (e::r) e0):=λn hn k hk=>Q4 rfl (M1 (x:=x) (S:=S) (T:=T) (J:=J) (e:=e) (e0:=e0) (λa h=>he a (bP _ h)) (ah (Nat.le_succ _) hr) hn (Nat.le_succ_of_le hk))
  obtain ⟨⟨c,vs,rfl,Bx⟩,_⟩:=he _ (b7 ..);have s1:bU L2.prog (E L2.prog (j+88)) (L2.Fw.body.getD 0 .pass) [some (.obj 5),none] (hc x S T J (.d8 c vs::r) e0)=some (.next,[some (.obj 5),none],hc x S T J (.d8 c vs::r) e0):=rfl
  have s2:bU L2.prog (E L2.prog (j+87)) (L2.Fw.body.getD 1 .pass) [some (.obj 5),none] (hc x S T J (.d8 c vs::r) e0)=some (.next,[some (.obj 5),some (.d8 c vs)],hc x S T J (.d8 c vs::r) e0):=rfl
  have s3:bU L2.prog (E L2.prog (j+86)) (L2.Fw.body.getD 2 .pass) [some (.obj 5),some (.d8 c vs)] (hc x S T J (.d8 c vs::r) e0)=some (.ret (.bool (nm (.d8 c vs::r))),[some (.obj 5),some (.d8 c vs)],hc x S T J (.d8 c vs::r) e0):=by
   have h1:=FI 1 (by decide) (j+83) (ah (by decide) (Nat.le_add_left 83 j))
   have h2:=FI 2 (by decide) (j+82) (ah (by decide) (Nat.le_add_left 82 j))
   have h3:=FI 3 (by decide) (j+81) (ah (by decide) (Nat.le_add_left 81 j))
   simp only [kinds,bO,fF,or_false] at Bx;rcases Bx with rfl|rfl|rfl|rfl|rfl|rfl|rfl|rfl|rfl|rfl
   ·rfl
   ·rfl
   ·exact EC rfl h1
   ·rfl
   ·rfl
   ·rfl
   ·exact ED rfl (xx (EC rfl h2))
   ·rfl
   ·exact ED rfl (xx (ED rfl (xx (EC rfl h3))))
   ·rfl
  show ((E L2.prog (j+89)).ex [L2.Fw.body.getD 0 .pass,L2.Fw.body.getD 1 .pass,L2.Fw.body.getD 2 .pass] [some (.obj 5),none] _).bind _=_
  rw [cu s1];show ((E L2.prog (j+88)).ex [L2.Fw.body.getD 1 .pass,L2.Fw.body.getD 2 .pass] [some (.obj 5),none] _).bind _=_
  rw [cu s2];show ((E L2.prog (j+87)).ex [L2.Fw.body.getD 2 .pass] [some (.obj 5),some (.d8 c vs)] _).bind _=_
  rw [cu s3];rfl
noncomputable def M4:List Nat:=[13,15,16,17,18,23,24,26,27,28,31,32,34,35,36]
theorem Q5:∀f∈M4,((L2.prog.fns[f]?).bind λfe=>dz fe [.obj 5] [] [])=some (qh f):=by intro f hf;simp only [M4,bO,fF,or_false] at hf;rcases hf with rfl|rfl|rfl|rfl|rfl|rfl|rfl|rfl|rfl|rfl|rfl|rfl|rfl|rfl|rfl<;>rfl
def nM(x:Cx)(e:MV)(S:Co)(T:Tx)(S':Co)(T':Tx):Prop:=∃f,S.state=.bm 5 f∧f∈M4∧Do x 130 f (qh f) e cost S T S' T'
noncomputable def Runs(x:Cx):List MV→Co→Tx→Co→Tx→Prop
 |[],S,T,S',T'=>S=S'∧T=T'
 |e::r,S,T,S',T'=>∃S1 T1,nM x e S T S1 T1∧Runs x r S1 T1 S' T'
theorem Runs.app{x:Cx}:∀{a b:List MV} {S S1 S2:Co} {T T1 T2:Tx},Runs x a S T S1 T1→Runs x b S1 T1 S2 T2→Runs x (a++b) S T S2 T2
 |[],b,S,S1,S2,T,T1,T2,h,k=>by obtain ⟨rfl,rfl⟩:=h;exact k
 |e::a,b,S,S1,S2,T,T1,T2,h,k=>h.imp λ_ h=>h.imp λ_ h=>⟨h.1,Runs.app h.2 k⟩
noncomputable def Good:List MV→Prop
 |[]=>True
 |e::r=>(∀a q,r=a::q→(isStart e=true→∃c vs,a=.d8 c vs∧c∈[8,9,10,12])∧(eH e=6→∃m,a=cK m false))∧Good r
def Xn(l:List MV):Prop:=l=[]∨∃p,l=p++[gS]
structure Je(l:List MV):Prop where
 good:Good l
 ev:∀e∈l,mz e∧Cl e
 Xo:Xn l
theorem Je.tail{e:MV}{l:List MV}(h:Je (e::l)):Je l:=⟨h.good.2,λa q=>h.ev a (bP _ q),by
 rcases h.Xo with q|⟨p,q⟩
 ·cases q
 ·cases p with
  |nil=>cases q;exact .inl rfl
  |cons a p=>cases q;exact .inr ⟨p,rfl⟩⟩
theorem EE:∀{r:List MV} {l:Nat},gS∈r→Bg r l=true
 |e::r,l,h=>by
  show cond (Nat.beq (eH e) 5||(dn (eH e)&&decide (l=0))) true (Bg r _)=true
  rcases bO.mp h with rfl|h
  ·rfl
  ·rw [EE h];cases Nat.beq (eH e) 5||(dn (eH e)&&decide (l=0))<;>rfl
theorem M5{q:List MV}(h:Xn q)(hn:nm q=true):q=[]:=by
 rcases h with rfl|⟨p,rfl⟩
 ·rfl
 ·cases p with
  |nil=>cases hn
  |cons e p=>
   have hs:Bg (p++[gS]) 0=true:=EE (List.mem_append_right _ (ez.mpr rfl));have hN:∀c,need c (e::(p++[gS]))=false:=λc=>by
    show (!Bg (p++[gS]) 0&&_)=false
    rw [hs];rfl
   have hn:cond (Nat.beq (eH e) 6) (need 1 (e::(p++[gS]))) (cond (Nat.beq (eH e) 10) (need 2 (e::(p++[gS]))) (cond (Nat.beq (eH e) 12) (need 3 (e::(p++[gS]))) false))=true:=hn;rw [hN,hN,hN] at hn;revert hn
   cases Nat.beq (eH e) 6<;>cases Nat.beq (eH e) 10<;>cases Nat.beq (eH e) 12<;>exact nofun
theorem Jf{e:MV}{q rest:List MV}(h:Good (e::q++rest))(hn:nm (e::q)=false):pX e q:=by
 cases q with
 |nil=>
  have hn:cond (Nat.beq (eH e) 6) true (cond (Nat.beq (eH e) 10) true (cond (Nat.beq (eH e) 12) true false))=false:=hn;refine ⟨λhs=>?_,λh6=>?_⟩
  ·have hs:(Nat.beq (eH e) 10||Nat.beq (eH e) 12)=true:=hs
   revert hn hs
   cases Nat.beq (eH e) 6<;>cases Nat.beq (eH e) 10<;>cases Nat.beq (eH e) 12<;>exact nofun
  ·rw [h6] at hn;cases hn
 |cons a q=>have g:=h.1 a (q++rest) rfl;exact ⟨λhs=>by obtain ⟨c,vs,rfl,hc⟩:=g.1 hs;exact ⟨c,vs,q,rfl,hc⟩,λh6=>by obtain ⟨m,rfl⟩:=g.2 h6;exact ⟨m,q,rfl⟩⟩
noncomputable def Q6:aA:=L2.f9.body.getD 1 .pass
noncomputable def c9:ai:=NY Q6
noncomputable def b9:List aA:=NZ Q6
section
variable {x:Cx}
theorem test9{S:Co}{T:Tx}{J:Ju}{q:List MV}(he:∀e∈q,mz e∧Cl e)(hq:q.length≤big){k:Nat}(hk:100≤k){l:Loc}:test (E L2.prog k) c9 (some (.obj 5)::l) (hc x S T J q .none)=some (!nm q,hc x S T J q .none):=by
 obtain ⟨j,rfl⟩:=Nat.exists_eq_add_of_le' hk;have e1:(E L2.prog (j+99)).ev (.ay (.aH 0) 51 [] [] []) (some (.obj 5)::l) (hc x S T J q .none)=some (.bool (nm q),hc x S T J q .none):=by
  have h:=M3 (x:=x) (S:=S) (T:=T) (J:=J) (q:=q) (e0:=.none) he hq (k:=j+98) (ah (by decide) (Nat.le_add_left 98 j))
  have hf:bK L2.prog (.obj 5) 51 (hc x S T J q .none)=some (.fn 10 (.obj 5)):=rfl;show ((bK L2.prog (.obj 5) 51 (hc x S T J q .none)).bind λc=>d9 L2.prog (E L2.prog (j+98)) c [] [] [] (hc x S T J q .none))=_
  rw [hf];exact h
 have e2:(E L2.prog (j+100)).ev c9 (some (.obj 5)::l) (hc x S T J q .none)=some (.bool (!nm q),hc x S T J q .none):=by
  show (((E L2.prog (j+99)).ev (.ay (.aH 0) 51 [] [] []) (some (.obj 5)::l) (hc x S T J q .none)).bind _).bind _=_
  rw [e1];rfl
 show ((E L2.prog (j+100)).ev c9 (some (.obj 5)::l) (hc x S T J q .none)).bind _=_
 rw [e2];rfl
theorem Q7{S:Co}{T:Tx}{J:Ju}{e:MV}{q:List MV}{f:Nat}{v:MV}{S':Co}{T':Tx}{J':Ju}(hS:S.state=.bm 5 f)(hf:f∈M4)(h:∀k,130≤k→(E L2.prog k).ca f (qh f) (hc x S T J q e)=some (v,hc x S' T' J' q e)){k:Nat}(hk:140≤k){l:Loc}:(E L2.prog k).ex b9 (some (.obj 5)::l) (hc x S T J (e::q) .none)=some (.next,some (.obj 5)::l,hc x S' T' J' q .none):=by
 obtain ⟨j,rfl⟩:=Nat.exists_eq_add_of_le' hk;have s1:bU L2.prog (E L2.prog (j+139)) (b9.getD 0 .pass) (some (.obj 5)::l) (hc x S T J (e::q) .none)=some (.next,some (.obj 5)::l,hc x S T J q e):=rfl
 have e2:(E L2.prog (j+138)).ev (.ay (.aH 0) 28 [] [] []) (some (.obj 5)::l) (hc x S T J q e)=some (v,hc x S' T' J' q e):=by
  have h:=h (j+137) (ah (by decide) (Nat.le_add_left 137 j))
  have hm:bK L2.prog (.obj 5) 28 (hc x S T J q e)=some (.fn f (.obj 5)):=by
   show ((match some S.state with|some m=>(vC m).map λb=>kY.fn b.2 (.obj b.1)|none=>none):Option kY).or _=_
   rw [hS];rfl
  have hb:=Q5 f hf;show ((bK L2.prog (.obj 5) 28 (hc x S T J q e)).bind λc=>d9 L2.prog (E L2.prog (j+137)) c [] [] [] (hc x S T J q e))=_
  rw [hm];show ((L2.prog.fns[f]?).bind λfe=>(dz fe [.obj 5] [] []).bind λbs=>(E L2.prog (j+137)).ca f bs (hc x S T J q e))=_
  cases hp:L2.prog.fns[f]? with
  |none=>rw [hp] at hb;cases hb
  |some fe=>
   rw [hp] at hb;have hb:dz fe [.obj 5] [] []=some (qh f):=hb;show ((dz fe [.obj 5] [] []).bind λbs=>(E L2.prog (j+137)).ca f bs (hc x S T J q e))=_
   rw [hb];exact h
 have s2:bU L2.prog (E L2.prog (j+138)) (b9.getD 1 .pass) (some (.obj 5)::l) (hc x S T J q e)=some (.next,some (.obj 5)::l,hc x S' T' J' q e):=by
  show ((E L2.prog (j+138)).ev (.ay (.aH 0) 28 [] [] []) (some (.obj 5)::l) (hc x S T J q e)).bind _=_
  rw [e2];rfl
 have s3:bU L2.prog (E L2.prog (j+137)) (b9.getD 2 .pass) (some (.obj 5)::l) (hc x S' T' J' q e)=some (.next,some (.obj 5)::l,hc x S' T' J' q .none):=rfl
 show (E L2.prog (j+140)).ex [b9.getD 0 .pass,b9.getD 1 .pass,b9.getD 2 .pass] _ _=_
 rw [cu s1];show (E L2.prog (j+139)).ex [b9.getD 1 .pass,b9.getD 2 .pass] _ _=_
 rw [cu s2];show (E L2.prog (j+138)).ex [b9.getD 2 .pass] _ _=_
 rw [cu s3];rfl
theorem drain{rest:List MV}{Sf:Co}{Tf:Tx}:∀(q:List MV) (S:Co) (T:Tx) (J:Ju) (n:Nat),Runs x (q++rest) S T Sf Tf→Je (q++rest)→uV x S J T n→n+cost * (q.length+rest.length)≤big→
  ∃q' S1 T1 J1 n1,Runs x (q'++rest) S1 T1 Sf Tf∧Je (q'++rest)∧nm q'=true∧uV x S1 J1 T1 n1∧n1+cost * (q'.length+rest.length)≤big∧∀k,140≤k→∀(l:Loc) (j:Nat),eZ (E L2.prog k) c9 b9 (j+q.length+1) (some (.obj 5)::l) (hc x S T J q .none)=some (.next,some (.obj 5)::l,hc x S1 T1 J1 q' .none)
 |[],S,T,J,n,hr,hq,hJ,hn=>⟨[],S,T,J,n,hr,hq,rfl,hJ,hn,λk hk l j=>by
  have ht:=test9 (x:=x) (S:=S) (T:=T) (J:=J) (q:=[]) nofun (Nat.zero_le _) (ah (by decide) hk) (l:=l)
  show (test (E L2.prog k) c9 (some (.obj 5)::l) (hc x S T J [] .none)).bind _=_
  rw [ht];rfl⟩
 |e::q,S,T,J,n,hr,hq,hJ,hn=>by
  have C7:∀a∈e::q,mz a∧Cl a:=λa h=>hq.ev a (List.mem_append_left _ h)
  have hlen:(e::q).length≤big:=ah (ah (bI _ rest.length) (Nat.le_mul_of_pos_left _ (by decide:0< cost))) (ah (Nat.le_add_left _ n) hn)
  have ht:=λk (hk:140≤k) (l:Loc)=>test9 (x:=x) (S:=S) (T:=T) (J:=J) C7 hlen (ah (by decide:100≤140) hk) (l:=l)
  cases uW:nm (e::q) with
  |true=>
   refine ⟨e::q,S,T,J,n,hr,hq,uW,hJ,hn,λk hk l j=>?_⟩
   show (test (E L2.prog k) c9 (some (.obj 5)::l) (hc x S T J (e::q) .none)).bind _=_
   rw [ht k hk,uW];rfl
  |false=>
   obtain ⟨S1,T1,⟨f,hS,hf,d⟩,hr⟩:=hr;have hc1:n+cost≤big:=ah (bx (by rw [List.length_cons,Nat.add_right_comm,Nat.mul_succ];exact Nat.le_add_left _ _) n) hn
   obtain ⟨v,J1,Ve,hd⟩:=d q J n (Jf hq.good uW) hJ hc1;obtain ⟨q',S2,T2,J2,n2,h1,h2,h3,h4,h5,h6⟩:=drain q S1 T1 J1 (n+cost) hr hq.tail Ve (by rw [List.length_cons,Nat.add_right_comm,Nat.mul_succ] at hn;rw [Nat.add_assoc,Nat.add_comm cost];exact hn)
   refine ⟨q',S2,T2,J2,n2,h1,h2,h3,h4,h5,λk hk l j=>?_⟩
   have hb:=Q7 hS hf hd hk (l:=l);show (test (E L2.prog k) c9 (some (.obj 5)::l) (hc x S T J (e::q) .none)).bind (λt=>if t.1=true then ((E L2.prog k).ex b9 _ t.2).bind (λw=>match w.1 with|.next=>eZ (E L2.prog k) c9 b9 (j+(e::q).length) w.2.1 w.2.2|.ret v=>some (.ret v,w.2.1,w.2.2)) else some (.next,_,t.2))=_
   rw [ht k hk,uW];show ((E L2.prog k).ex b9 _ _).bind _=_
   rw [hb];exact h6 k hk l j
theorem VH{S:Co}{T:Tx}{J:Ju}{q:List MV}{e:MV}(hq:q.length≤big){k:Nat}(hk:40≤k):bU L2.prog (E L2.prog k) (L2.f9.body.getD 0 .pass) [some (.obj 5),some e] (hc x S T J q .none)=some (.next,[some (.obj 5),some e],hc x S T J (q++[e]) .none):=by
 obtain ⟨j,rfl⟩:=Nat.exists_eq_add_of_le' hk;have hl:q.length< az:=Nat.lt_of_le_of_lt hq (by decide)
 have e1:oj (.append 7) [e] (hc x S T J q .none)=some (.none,hc x S T J (q++[e]) .none):=by
  show (if q.length< az then some (MV.none,_) else none)=_
  rw [if_pos hl];rfl
 have e2:(E L2.prog (j+40)).ev (.ay (.aJ (.aH 0) 30) 50 [.aH 1] [] []) [some (.obj 5),some e] (hc x S T J q .none)=some (.none,hc x S T J (q++[e]) .none):=by
  show oj (.append 7) [e] (hc x S T J q .none)=_
  exact e1
 show ((E L2.prog (j+40)).ev (.ay (.aJ (.aH 0) 30) 50 [.aH 1] [] []) [some (.obj 5),some e] (hc x S T J q .none)).bind _=_
 rw [e2];rfl
theorem Q8{rest:List MV}{Sf:Co}{Tf:Tx}{e:MV}{q:List MV}{S:Co}{T:Tx}{J:Ju}{n:Nat}(hr:Runs x (q++e::rest) S T Sf Tf)(hq:Je (q++e::rest))(hJ:uV x S J T n)(hn:n+cost * (q.length+(e::rest).length)≤big):
  ∃q' S1 T1 J1 n1,Runs x (q'++rest) S1 T1 Sf Tf∧Je (q'++rest)∧nm q'=true∧uV x S1 J1 T1 n1∧n1+cost * (q'.length+rest.length)≤big∧∀k,145≤k→(E L2.prog k).ca 9 [.obj 5,e] (hc x S T J q .none)=some (.none,hc x S1 T1 J1 q' .none):=by
 rw [show q++e::rest=(q++[e])++rest by rw [cU];rfl] at hr hq
 have QS:n+cost * ((q++[e]).length+rest.length)≤big:=by rw [aM,Nat.add_assoc,Nat.add_comm [e].length];exact hn
 obtain ⟨q',S1,T1,J1,n1,h1,h2,h3,h4,h5,h6⟩:=drain (q++[e]) S T J n hr hq hJ QS;have hlen:(q++[e]).length≤big:=ah (ah (bI _ rest.length) (Nat.le_mul_of_pos_left _ (by decide:0< cost))) (ah (Nat.le_add_left _ n) QS)
 refine ⟨q',S1,T1,J1,n1,h1,h2,h3,h4,h5,λk hk=>?_⟩
 obtain ⟨j,rfl⟩:=Nat.exists_eq_add_of_le' hk;have s1:=VH (x:=x) (S:=S) (T:=T) (J:=J) (q:=q) (e:=e) (ah gF hlen) (k:=j+143) (ah (by decide) (Nat.le_add_left 143 j))
 have s2:bU L2.prog (E L2.prog (j+142)) Q6 [some (.obj 5),some e] (hc x S T J (q++[e]) .none)=some (.next,[some (.obj 5),some e],hc x S1 T1 J1 q' .none):=by
  have h:=h6 (j+142) (ah (by decide) (Nat.le_add_left 142 j)) [some e] (fc - ((q++[e]).length+1))
  have hf:(q++[e]).length+1≤fc:=by
   have h1:(q++[e]).length * cost≤big:=ah (Nat.le_of_eq (Nat.mul_comm _ _)) (ah (ah (Nat.mul_le_mul_left cost (bI _ rest.length)) (Nat.le_add_left _ n)) QS);have h2:(q++[e]).length≤150:=by
    refine Nat.le_of_not_lt λh=>?_
    have h3:=Nat.mul_le_mul_right cost h;exact absurd (ah h3 h1) (by decide)
   exact ah (Nat.succ_le_succ h2) (by decide)
  rw [Nat.add_assoc,Nat.sub_add_cancel hf] at h;exact h
 show ((E L2.prog (j+144)).ex [L2.f9.body.getD 0 .pass,Q6] [some (.obj 5),some e] _).bind _=_
 rw [cu s1];show ((E L2.prog (j+143)).ex [Q6] [some (.obj 5),some e] _).bind _=_
 rw [cu s2];rfl
noncomputable def SP:List aA:=[.expr (.ay (.aH 11) 141 [.aH 12] [] [])]
theorem u5{Sf:Co}{Tf:Tx}{Lf:Option MV→Loc}(hL:∀a v,gV (Lf a) 12 v=Lf (some v))(FI:∀a,(Lf a)[11]? =some (some (.obj 5)))(FG:∀v,(Lf (some v))[12]? =some (some v)):∀(rest q:List MV) (S:Co) (T:Tx) (J:Ju) (n:Nat) (a:Option MV),Runs x (q++rest) S T Sf Tf→Je (q++rest)→(rest=[]→nm q=true)→uV x S J T n→n+cost * (q.length+rest.length)≤big→
  ∃J' a',uV x Sf J' Tf big∧∀k,150≤k→bT (E L2.prog k) (.aH 12) SP rest (Lf a) (hc x S T J q .none)=some (.next,Lf a',hc x Sf Tf J' [] .none)
 |[],q,S,T,J,n,a,hr,hq,h0,hJ,hn=>by
  rw [cM] at hr hq
  cases M5 hq.Xo (h0 rfl)
  obtain ⟨rfl,rfl⟩:=hr;exact ⟨J,a,⟨hJ.toJOw.mono (ah (bI _ _) hn),hJ.an,hJ.st⟩,λk hk=>rfl⟩
 |e::rest,q,S,T,J,n,a,hr,hq,h0,hJ,hn=>by
  obtain ⟨q',S1,T1,J1,n1,h1,h2,h3,h4,h5,h6⟩:=Q8 hr hq hJ hn;obtain ⟨J',a',g1,g2⟩:=u5 hL FI FG rest q' S1 T1 J1 n1 (some e) h1 h2 (λ_=>h3) h4 h5
  refine ⟨J',a',g1,λk hk=>?_⟩
  obtain ⟨j,rfl⟩:=Nat.exists_eq_add_of_le' hk;have hca:=h6 (j+148) (ah (by decide) (Nat.le_add_left 148 j))
  have e1:(E L2.prog (j+149)).ev (.ay (.aH 11) 141 [.aH 12] [] []) (Lf (some e)) (hc x S T J q .none)=some (.none,hc x S1 T1 J1 q' .none):=by
   have o1:(E L2.prog (j+148)).ev (.aH 11) (Lf (some e)) (hc x S T J q .none)=some (.obj 5,hc x S T J q .none):=by
    show (match (Lf (some e))[11]? with|some (some v)=>some (v,hc x S T J q .none)|_=>none)=_
    rw [FI]
   have o2:(E L2.prog (j+148)).ev (.aH 12) (Lf (some e)) (hc x S T J q .none)=some (e,hc x S T J q .none):=by
    show (match (Lf (some e))[12]? with|some (some v)=>some (v,hc x S T J q .none)|_=>none)=_
    rw [FG]
   have hf:bK L2.prog (.obj 5) 141 (hc x S T J q .none)=some (.fn 9 (.obj 5)):=rfl;rw [show (E L2.prog (j+149)).ev (.ay (.aH 11) 141 [.aH 12] [] []) (Lf (some e)) (hc x S T J q .none)=fK L2.prog (E L2.prog (j+148)) (.ay (.aH 11) 141 [.aH 12] [] []) (Lf (some e)) (hc x S T J q .none) from rfl,pR]
   rw [o1];show ((bK L2.prog (.obj 5) 141 (hc x S T J q .none)).bind λc=>(aE (E L2.prog (j+148)) [.aH 12] (Lf (some e)) (hc x S T J q .none)).bind λas=>(aE (E L2.prog (j+148)) [] (Lf (some e)) as.2).bind λks=>d9 L2.prog (E L2.prog (j+148)) c as.1 [] ks.1 ks.2)=_
   rw [hf];show (((E L2.prog (j+148)).ev (.aH 12) (Lf (some e)) (hc x S T J q .none)).bind λa=>some ([a.1],a.2)).bind (λas=>d9 L2.prog (E L2.prog (j+148)) (.fn 9 (.obj 5)) as.1 [] [] as.2)=_
   rw [o2];exact hca
  have s1:(E L2.prog (j+150)).ex SP (Lf (some e)) (hc x S T J q .none)=some (.next,Lf (some e),hc x S1 T1 J1 q' .none):=by
   have s:bU L2.prog (E L2.prog (j+149)) (.expr (.ay (.aH 11) 141 [.aH 12] [] [])) (Lf (some e)) (hc x S T J q .none)=some (.next,Lf (some e),hc x S1 T1 J1 q' .none):=by
    show ((E L2.prog (j+149)).ev (.ay (.aH 11) 141 [.aH 12] [] []) (Lf (some e)) (hc x S T J q .none)).bind _=_
    rw [e1];rfl
   show (E L2.prog (j+150)).ex [_] _ _=_
   rw [cu s];rfl
  have s2:=iS (t:=12) (r:=rest) (l:=Lf a) (x:=e) (by rw [hL];exact s1)
  rw [s2];exact g2 _ (Nat.le_add_left _ _)
end
noncomputable def aF:List (List Nat):=[[97,98],[99],[105,116,39,115],[100,101,102,103],[49,50],[104,45,105],[120,121,122]]
noncomputable def cz:List (List Nat):=[[97,98],[113,34,116],[99],[120,9,121],[233],[100,92],[100,101,102,103]]
noncomputable def EF(n i:Nat):Nat:=cond (Nat.beq ((n / 2+i) % 4) 3) 2 1
noncomputable def nN(tb:List (List Nat))(n i:Nat):List Nat:=tb.getD ((n+3 * i) % 7) []
noncomputable def jS(tb:List (List Nat))(n:Nat):List (Nat×List Nat):=(List.range (1+n % 4)).map λi=>(EF n (i+1),nN tb n (i+1))
noncomputable def txt(tb:List (List Nat))(n:Nat):List Nat:=IL (nN tb n 0) (jS tb n)
noncomputable def res:List Nat:=List.range 56
noncomputable def VI(t:List Nat):Option (MV×aS):=(SE L2.prog {} 75).ca 48 [.obj 5,.str t] (sE 3 [] IZ)
noncomputable def Jg(t:List Nat):Bool:=gP (VI t) λx=>Fv x.2 (sE 3 [] IZ)&&nH x.1 (A8 (.str t))
noncomputable def M6(t:List Nat):Bool:=gP (VI t) λx=>Fv x.2 (sE 3 [] IZ)&&gP (xK x.1) λr=>Nat.beq r.1 14&&(Nat.beq r.2.length 8&&(wD r.2&&gP r.2.head? λs=>nH s (.str t)))
theorem Xp:((aF++(List.range 18).map (txt aF)).all Jg)=true:=by kernel_rfl
theorem kA2:(((List.range 19).map λi=>txt aF (18+i)).all Jg)=true:=by kernel_rfl
theorem kA3:(((List.range 19).map λi=>txt aF (37+i)).all Jg)=true:=by kernel_rfl
theorem kB1:(((List.range 28).map (txt cz)).all M6)=true:=by kernel_rfl
theorem kB2:(((List.range 28).map λi=>txt cz (28+i)).all M6)=true:=by kernel_rfl
theorem zb{t:List Nat}{r:MV}(e:VI t=some (r,sE 3 [] IZ))(hr:∀ρ:d7,r.I ρ=r):MU t r:=λx S T J q e0 k hk=>by have h:=(uJ (uL (P:=L2.prog) (ρ:=RZ x.aI x.events x.qo J.rows S.bH q S.aX (Bv x S T J e0))) 75 k hk).ca 48 [.obj 5,.str t] (sE 3 [] IZ) _ e;refine Eq.trans h ?_;unfold vh;rw [hr];rfl
theorem zc{t:List Nat}(h:Jg t=true):MU t (A8 (.str t)):=bF h λa e1 e2=>ao e2 λe2 e3=>zb (by rw [e1, ← cE e3, ← i9 e2]) λρ=>rfl
theorem EG(l:List MV):l=(List.range l.length).map λi=>l.getD i .none:=List.ext_getElem (by rw [cL,List.length_range]) λi h1 h2=>by rw [List.getElem_map,List.getElem_range];exact (List.getElem_eq_getD _)
theorem Kn{t:List Nat}(h:M6 t=true):∃ex,MU t (Kd.dq.A t ex):=bF h λa e1 e2=>ao e2 λe2 e3=>bF e3 λr e4 e5=>ao e5 λe5 e6=>ao e6 λe6 e7=>ao e7 λe7 e8=>bF e8 λs Xq e8=>by
 have hl:=bQ e6;have hv:r.2=[r.2.getD 0 .none,r.2.getD 1 .none,r.2.getD 2 .none,r.2.getD 3 .none,r.2.getD 4 .none,r.2.getD 5 .none,r.2.getD 6 .none,r.2.getD 7 .none]:=(EG r.2).trans (by rw [hl];rfl)
 have hs:r.2.getD 0 .none=.str t:=by rw [hv] at Xq;exact (bJ Xq).trans (cE e8)
 rw [hs] at hv;refine ⟨[r.2.getD 1 .none,r.2.getD 2 .none,r.2.getD 3 .none,r.2.getD 4 .none,r.2.getD 5 .none,r.2.getD 6 .none,r.2.getD 7 .none],zb (r:=MT (.str t) (r.2.getD 1 .none) (r.2.getD 2 .none) (r.2.getD 3 .none) (r.2.getD 4 .none) (r.2.getD 5 .none) (r.2.getD 6 .none) (r.2.getD 7 .none)) ?_ λρ=>?_⟩
 ·rw [e1, ← i9 e2]
  refine congrArg (λv=>some (v,a.2)) ((jU e4).trans ?_)
  rw [bQ e5];exact congrArg (MV.d8 14) hv
 ·exact congrArg (MV.d8 14) ((congrArg (MV.Is ρ) hv).symm.trans ((mh e7).trans hv))
theorem eS{n r:Nat}(h:r< n):r∈List.range n:=List.mem_range.mpr h
theorem Ko{r:Nat}(h:r< 56):MU (txt aF r) (A8 (.str (txt aF r))):=by
 by_cases h1:r< 18
 ·exact zc (aj Xp (List.mem_append_right _ (List.mem_map_of_mem (eS h1))))
 ·by_cases h2:r< 37
  ·obtain ⟨i,rfl⟩:=Nat.exists_eq_add_of_le (Nat.le_of_not_lt h1)
   exact zc (aj kA2 (List.mem_map_of_mem (f:=λi=>txt aF (18+i)) (eS (by lia))))
  ·obtain ⟨i,rfl⟩:=Nat.exists_eq_add_of_le (Nat.le_of_not_lt h2)
   exact zc (aj kA3 (List.mem_map_of_mem (f:=λi=>txt aF (37+i)) (eS (by lia))))
theorem Q9{w:List Nat}(h:w∈aF):MU w (A8 (.str w)):=zc (aj Xp (List.mem_append_left _ h))
theorem Ra{r:Nat}(h:r< 56):∃ex,MU (txt cz r) (Kd.dq.A (txt cz r) ex):=by
 by_cases h1:r< 28
 ·exact Kn (aj kB1 (List.mem_map_of_mem (eS h1)))
 ·obtain ⟨i,rfl⟩:=Nat.exists_eq_add_of_le (Nat.le_of_not_lt h1)
  exact Kn (aj kB2 (List.mem_map_of_mem (f:=λi=>txt cz (28+i)) (eS (by lia))))
noncomputable def SQ(w:List Nat):Bool:=w.all λc=> !Nat.beq c 32
noncomputable def Jh(cs:List Nat)(t:List Nat):Bool:=Nat.ble 1 t.length&&(Nat.ble t.length 28&&t.all λc=>xe.contains c&&cs.contains (cl c))
noncomputable def okP(p:Nat×List Nat):Bool:=Nat.ble 1 p.1&&(!p.2.isEmpty&&SQ p.2)
theorem Xr:(res.all λr=>Jh xm (txt aF r)&&(SQ (nN aF r 0)&&(jS aF r).all okP))=true:=by kernel_rfl
theorem VJ:(res.all λr=>Jh Sz (txt cz r))=true:=by kernel_rfl
theorem VK:(aF.all λw=>Jh xm w&&SQ w)=true:=by kernel_rfl
theorem xy{w:List Nat}(h:SQ w=true):IP w:=λc hc e=>by have:=aj h hc;rw [e] at this;cases this
structure Ji(cs t:List Nat):Prop where
 len:1≤t.length∧t.length≤28
 a:∀c∈t,c∈xe
 c:∀c∈t,cl c∈cs
theorem j5{cs t:List Nat}(h:Jh cs t=true):Ji cs t:=ao h λh1 h=>ao h λh2 h3=>⟨⟨c8 h1,c8 h2⟩,λc hc=>ao (aj h3 hc) λq _=>List.contains_iff_mem.mp q,λc hc=>ao (aj h3 hc) λ_ q=>List.contains_iff_mem.mp q⟩
theorem Rb:(res.all λr=> !((txt aF r).head? ==some 32))=true:=by kernel_rfl
theorem EH{r:Nat}(h:r< 56):(txt aF r).head? ≠some 32:=λe=>by have:=aj Rb (eS h);rw [e] at this;cases this
noncomputable def iz(kd:Kd)(W:Int)(M r:Nat)(T:Tx):Tx:=match kd with
 |.dq=>(vA W M (txt cz r).length 0 false (T.put [34]) (txt cz r)).put [34]
 |.sq=>((jS aF r).foldl (kU W M [39]) ((T.put [39]).put (dbl [39] (nN aF r 0)))).put [39]
 |_=>(jS aF r).foldl (kU W M []) (T.put (dbl [] (nN aF r 0)))
noncomputable def fy(kd:Kd)(r:Nat):List Nat:=match kd with
 |.dq=>txt cz r
 |_=>txt aF r
section
variable {x:Cx}(hx:lI x)
include hx
theorem zd{v:List Nat}(hv:Ji xm v){M:Nat}(hM:1≤M∧M≤27){S:Co}{T:Tx}{J:Ju}{q:List MV}{e:MV}{n:Nat}(hi:S.indent=.int (M:Nat))(hr:J.root=.bool false)(hJ:JOw x S J T n)(hn:n+5400≤big):qT x 60 v S T J q e (sg x.W M false false (T.put (sep S.ws)) [] v) (n+5400):=by
 have h:=MM (V:=⟨x,S,q,e,v,M⟩) ⟨hv.len,hM,hi,hx⟩ hr hv.a hv.c hJ hn;rw [show qS.go ⟨x,S,q,e,v,M⟩ 0 0 0 (T.put (sep S.ws)) [] v=sg x.W M false false (T.put (sep S.ws)) [] v from UZ (V:=⟨x,S,q,e,v,M⟩) v false 0 0 _ _] at h
 exact h
theorem Bh{r:Nat}(hr:r< 56)(kd:Kd)(Bx:kd.fl=0){p:Nat}(hp:p+x.step≤18)(mp:Bool)(state lst:MV)(aP ids:List MV)(ind:Bool)(T:Tx):
  Do x 110 19 (jR mp) (mq (fy kd r) kd.s) 5500 ⟨state,aP++[lst],ids,.int p,0,false,ind⟩ T ⟨lst,aP,ids,.int p,0,false,false⟩ (iz kd x.W (p+x.step) r (T.put [32])):=by
 have hM:1≤p+x.step∧p+x.step≤27:=⟨ah (ah (by decide) hx.step.1) (Nat.le_add_left _ _),ah hp (by decide)⟩
 have OU:p≤100:=ah (bI _ _) (ah hp (by decide))
 have hw:=ao (aj Xr (eS hr)) λa b=>ao b λb c=>(⟨j5 a,xy b,λp hp=>ao (aj c hp) λx y=>ao y λy z=>⟨c8 x,(λe=>by rw [e] at y;cases y),xy z⟩⟩:Ji xm (txt aF r)∧IP (nN aF r 0)∧∀a∈jS aF r,1≤a.1∧a.2≠[]∧IP a.2)
 cases kd with
 |pl=>
  have h:=nZ hx .pl (ex:=[]) (Ko hr) OU (out:=λws T=>sg x.W (p+x.step) false false (T.put (sep ws)) [] (txt aF r)) (λS T J q e n hi p8 hJ hn=>zd hx hw.1 hM hi p8 hJ hn) mp state lst aP ids false ind T
  rw [show sg x.W (p+x.step) false false (T.put (sep false)) [] (txt aF r)=iz .pl x.W (p+x.step) r (T.put [32]) from sI hw.2.1 hw.2.2] at h
  exact h
 |pf=>cases Bx
 |sq=>
  have h:=nZ hx .sq (ex:=[]) (Ko hr) OU (out:=λws T=>(sg x.W (p+x.step) true false (T.put (sep ws++[39])) [] (txt aF r)).put [39]) (λS T J q e n hi p8 hJ hn=>by
   have h:=MN (V:=⟨x,S,q,e,txt aF r,p+x.step⟩) ⟨hw.1.len,hM,hi,hx⟩ p8 hw.1.a hw.1.c hJ hn;rw [show pZ.go ⟨x,S,q,e,txt aF r,p+x.step⟩ 0 0 0 (T.put (sep S.ws++[39])) [] (txt aF r)=sg x.W (p+x.step) true false (T.put (sep S.ws++[39])) [] (txt aF r) from U3 (V:=⟨x,S,q,e,txt aF r,p+x.step⟩) _ false 0 0 0 _ [] (.inl rfl) rfl nofun (.inr (EH hr))] at h
   exact h) mp state lst aP ids false ind T
  rw [show (sg x.W (p+x.step) true false (T.put (sep false++[39])) [] (txt aF r)).put [39]=iz .sq x.W (p+x.step) r (T.put [32]) by refine Eq.trans (congrArg (Tx.put · [39]) (sI hw.2.1 hw.2.2)) ?_;rw [← Tx.dO];rfl] at h
  exact h
 |dq=>
  have hd:=j5 (aj VJ (eS hr));obtain ⟨ex,ha⟩:=Ra hr;have h:=nZ hx .dq (ex:=ex) ha OU (out:=λws T=>(vA x.W (p+x.step) (txt cz r).length 0 false (T.put (sep ws++[34])) (txt cz r)).put [34]) (λS T J q e n hi p8 hJ hn=>by
   have h:=MO (V:=⟨x,S,q,e,txt cz r,p+x.step⟩) ⟨hd.len,hM,hi,hx⟩ p8 hd.a hd.c hJ hn;rw [show IJ.go ⟨x,S,q,e,txt cz r,p+x.step⟩ 0 0 0 (T.put (sep S.ws++[34])) [] (txt cz r)=vA x.W (p+x.step) (txt cz r).length 0 false (T.put (sep S.ws++[34])) (txt cz r) from (U6 (V:=⟨x,S,q,e,txt cz r,p+x.step⟩) _ 0 0 _ [] false λh=>absurd h (by decide)).trans (by rw [cR])] at h
   exact h) mp state lst aP ids false ind T
  rw [show (vA x.W (p+x.step) (txt cz r).length 0 false (T.put (sep false++[34])) (txt cz r)).put [34]=iz .dq x.W (p+x.step) r (T.put [32]) by
   show (vA _ _ _ 0 false (T.put ([32]++[34])) _).put [34]=_
   rw [← Tx.dO];rfl] at h
  exact h
end
theorem Do.mono{x:Cx}{N f:Nat}{as:List MV}{e:MV}{c c':Nat}{S S':Co}{T T':Tx}(h:Do x N f as e c S T S' T')(hc:c≤c'):Do x N f as e c' S T S' T':=λq J n hq hJ hn=>(h q J n hq hJ (ah (bx hc n) hn)).imp λv d=>d.imp λJ' d=>⟨⟨d.1.toJOw.mono (bx hc n),d.1.an,d.1.st⟩,d.2⟩
structure Gd(l:List MV):Prop where
 good:∀r,Good r→Good (l++r)
 ev:∀e∈l,mz e∧Cl e
theorem Gd.nil:Gd []:=⟨λ_ h=>h,nofun⟩
theorem Gd.app{a b:List MV}(h:Gd a)(k:Gd b):Gd (a++b):=⟨λr hr=>by rw [cU];exact h.good _ (k.good r hr),λe he=>(List.mem_append.mp he).elim (h.ev e) (k.ev e)⟩
theorem Gd.one{e:MV}(h:mz e∧Cl e)(h1:isStart e=false)(h2:eH e≠6):Gd [e]:=⟨λr hr=>⟨λa q _=>⟨λh=>(bR (h1.symm.trans h)).elim,λh=>absurd h h2⟩,hr⟩,λa ha=>ez.mp ha▸h⟩
theorem Gd.flat{α:Type}{f:α→List MV}:∀{l:List α},(∀a∈l,Gd (f a))→Gd (l.flatMap f)
 |[],_=>Gd.nil
 |a::l,h=>(h a (b7 ..)).app (Gd.flat λb hb=>h b (bP _ hb))
def Hd(e:MV):Prop:=∃c vs,e=.d8 c vs∧c∈[8,9,10,12]
theorem xA(m f:Bool):mz (cK m f)∧Cl (cK m f):=⟨by cases m<;>exact ⟨_,_,rfl,by decide⟩,λρ=>by cases m<;>cases f<;>rfl⟩
theorem Gd.start{m f:Bool}{a:MV}{l:List MV}(ha:Hd a)(h:Gd (a::l)):Gd (cK m f::a::l):=⟨λr hr=>⟨λb q e=>⟨λ_=>by cases e;exact ha,λh=>by cases m<;>cases h⟩,h.good r hr⟩,λe he=>(bO.mp he).elim (λq=>q▸xA m f) (h.ev e)⟩
theorem M7(v:List Nat)(kd:Kd):mz (mq v kd.s)∧Cl (mq v kd.s):=⟨⟨_,_,rfl,by decide⟩,λρ=>by cases kd<;>rfl⟩
theorem M8(n:List Nat):mz (N2 n)∧Cl (N2 n):=⟨⟨_,_,rfl,by decide⟩,λρ=>rfl⟩
theorem EI(m:Bool):mz (nj m)∧Cl (nj m):=⟨by cases m<;>exact ⟨_,_,rfl,by decide⟩,λρ=>by cases m<;>rfl⟩
theorem M9{v:List Nat}{kd:Kd}:Gd [mq v kd.s]:=.one (M7 v kd) rfl (show (9:Nat)≠6 by decide)
theorem Rc{m:Bool}:Gd [nj m]:=.one (EI m) (by cases m<;>rfl) (by cases m<;>decide)
theorem ze:∀{w:List Nat},dbl [] w=w
 |[]=>rfl
 |c::w=>by
  show sH [] c++dbl [] w=_
  rw [ze];rfl
theorem put3{X:Tx}{a b c:List Nat}:((X.put a).put b).put c=X.put (a++(b++c)):=(Tx.dO (t:=X.put a)).trans Tx.dO
inductive Fi where
 |wd (w:List Nat)
 |al (n:List Nat)
noncomputable def Fi.ev:Fi→MV
 |.wd w=>mq w .none
 |.al n=>N2 n
noncomputable def Fi.tx:Fi→List Nat
 |.wd w=>w
 |.al n=>42::n
noncomputable def Fi.Ok:Fi→Prop
 |.wd w=>w∈aF
 |.al n=>n∈uX
noncomputable def kE(m:Bool):List MV:=cond m [FF] []
noncomputable def tu(m:Bool)(i:Fi):List MV:=kE m++[i.ev]
noncomputable def kc(m:Bool):List Nat:=cond m [107,58,32] []
noncomputable def FJ(m:Bool)(W:Int)(P:Nat)(fst:Bool)(i:Fi)(T:Tx):Tx:=((nL W P fst T).put (sep (fst||n5 W fst T))).put (kc m++i.tx)
noncomputable def By(m:Bool)(W:Int)(P:Nat):Bool→List Fi→Tx→Tx
 |_,[],T=>T
 |fst,i::r,T=>By m W P false r (FJ m W P fst i T)
theorem Rf(i:Fi):Gd [i.ev]:=by
 cases i with
 |wd w=>exact M9 (kd:=.pl)
 |al n=>exact .one (M8 n) rfl (show (8:Nat)≠6 by decide)
theorem Rg(i:Fi):Hd i.ev:=by cases i<;>exact ⟨_,_,rfl,by decide⟩
theorem Kp(m:Bool):Gd (kE m):=by
 cases m with
 |true=>exact M9 (kd:=.pl)
 |false=>exact .nil
theorem sO{f:Nat}(h:M4.contains f=true):f∈M4:=List.contains_iff_mem.mp h
section
variable {x:Cx}(hx:lI x)
include hx
theorem zf{i:Fi}(hi:i.Ok){P:Nat}(hP:P≤18)(mp ws ind:Bool)(state lst:MV)(aP ids:List MV)(T:Tx):Do x 110 19 (jR mp) i.ev 5500 ⟨state,aP++[lst],ids,.int P,1,ws,ind⟩ T ⟨lst,aP,ids,.int P,1,false,false⟩ (T.put (sep ws++i.tx)):=by
 cases i with
 |wd w=>
  have hw:=ao (aj VK hi) λa b=>(⟨j5 a,xy b⟩:Ji xm w∧IP w)
  have hM:1≤P+x.step∧P+x.step≤27:=⟨ah (ah (by decide) hx.step.1) (Nat.le_add_left _ _),Nat.add_le_add hP hx.step.2⟩
  have h:=nZ hx .pf (ex:=[]) (Q9 hi) (p:=P) (ah hP (by decide)) (out:=λws T=>sg x.W (P+x.step) false false (T.put (sep ws)) [] w) (λS T J q e n hi p8 hJ hn=>zd hx hw.1 hM hi p8 hJ hn) mp state lst aP ids ws ind T
  rw [show sg x.W (P+x.step) false false (T.put (sep ws)) [] w=T.put (sep ws++w) by
   have e:=sI (W:=x.W) (M:=P+x.step) (q:=false) (w:=w) (prs:=[]) (T:=T.put (sep ws)) hw.2 nofun;rw [show IL w []=w from cM _] at e
   refine e.trans ?_;show (T.put (sep ws)).put (dbl [] w)=_
   rw [Tx.dO,ze]] at h
  exact h
 |al n=>exact (I3 hx (ah hP (by decide)) state lst aP ids ind T hi mp ws).mono (by decide)
omit hx in
theorem Na{n:List Nat}(h:n∈uX):n.length≤100∧n.isEmpty=false:=by
 have h1:(uX.all λnm=>Nat.ble nm.length 100&& !nm.isEmpty)=true:=by decide
 exact ao (aj h1 h) λa b=>⟨c8 a,(Bool.not_eq_true' _).mp b⟩
omit hx in
theorem Nb{i:Fi}(hi:i.Ok):∃y∈QT,∃a b,∃nm:List Nat,(nm.length≤100∧nm.isEmpty=false)∧sN y i.ev a b nm:=by
 cases i with
 |wd w=>exact ⟨0,by decide,.str w,.none,[97],by decide,Ep⟩
 |al n=>exact ⟨5,by decide,.none,.none,n,Na hi,MY⟩
theorem Jj{i:Fi}(hi:i.Ok){m fst:Bool}{P:Nat}(hP:P≤18)(h0:0< P)(aP ids:List MV)(T:Tx):Runs x (tu m i) ⟨.bm 5 (cond m (cond fst 26 27) (cond fst 23 24)),aP,ids,.int P,1,fst,false⟩ T ⟨.bm 5 (cond m 27 24),aP,ids,.int P,1,false,false⟩ (FJ m x.W P fst i T):=by
 obtain ⟨y,hy,a,b,nm,uW,C7⟩:=Nb hi;have VL:P≤60:=ah hP (by decide)
 cases m with
 |false=>
  refine ⟨_,_,⟨cond fst 23 24,rfl,sO (by cases fst<;>rfl),?_⟩,rfl,rfl⟩
  have h:=I5 hx VL h0 T (.bm 5 (cond fst 23 24)) aP ids (fst:=fst) rfl hy uW C7 (zf hx hi hP false (fst||n5 x.W fst T) (n5 x.W fst T) (.bm 5 (cond fst 23 24)) (.bm 5 24) aP ids (nL x.W P fst T));rw [← Tx.dO] at h;rw [show qh (cond fst 23 24)=[.obj 5] by cases fst<;>rfl]
  exact h.mono (by decide)
 |true=>
  refine ⟨⟨.bm 5 28,aP,ids,.int P,1,false,false⟩,((nL x.W P fst T).put (sep (fst||n5 x.W fst T))).put key,⟨cond fst 26 27,rfl,sO (by cases fst<;>rfl),?_⟩,_,_,⟨28,rfl,by decide,?_⟩,rfl,rfl⟩
  ·rw [show qh (cond fst 26 27)=[.obj 5] by cases fst<;>rfl]
   exact (I6 hx VL h0 T _ aP ids (fst:=fst) rfl).mono (by decide)
  ·have h:=u0 hx VL (((nL x.W P fst T).put (sep (fst||n5 x.W fst T))).put key) (.bm 5 28) aP ids (fl:=1) (.inr rfl) hy uW C7 (zf hx hi hP true false false (.bm 5 28) (.bm 5 27) aP ids _)
   rw [put3] at h;exact h.mono (show 300+5500≤cost by decide)
theorem zg{m:Bool}{P:Nat}(hP:P≤18)(h0:0< P)(lst bL:MV)(aP cT:List MV):∀(its:List Fi) (fst:Bool) (T:Tx),(∀i∈its,i.Ok)→(fst=true→its≠[])→Runs x (its.flatMap (tu m)++[nj m]) ⟨.bm 5 (cond m (cond fst 26 27) (cond fst 23 24)),aP++[lst],cT++[bL],.int P,1,fst,false⟩ T ⟨lst,aP,cT,bL,0,false,false⟩ ((By m x.W P fst its T).put (nK m))
 |[],fst,T,_,h=>by
  cases fst with
  |true=>exact absurd rfl (h rfl)
  |false=>
   refine ⟨_,_,⟨cond m 27 24,by cases m<;>rfl,sO (by cases m<;>rfl),?_⟩,rfl,rfl⟩
   rw [show qh (cond m 27 24)=[.obj 5] by cases m<;>rfl]
   exact (Be hx (ah hP (by decide)) T _ aP lst bL cT m).mono (by decide)
 |i::its,fst,T,hi,_=>by rw [List.flatMap_cons,cU];exact (Jj hx (hi i (b7 ..)) hP h0 (aP++[lst]) (cT++[bL]) T).app (zg hP h0 lst bL aP cT its false _ (λa ha=>hi a (bP _ ha)) nofun)
structure NodeOk(x:Cx)(d:Nat)(mp:Bool)(e:MV)(es:List MV)(tx:Nat→Tx→Tx):Prop where
 run:∀(p:Nat),p+d * x.step≤18→∀(state lst:MV) (aP ids:List MV) (T:Tx),T.l.length=p+(cond mp 2 1)→∃S1 T1,Do x 110 19 (jR mp) e 5600 ⟨state,aP++[lst],ids,.int p,0,false, !mp⟩ T S1 T1∧Runs x es S1 T1 ⟨lst,aP,ids,.int p,0,false,false⟩ (tx p T)
 y:∃y∈I4,∃a b,sN y e a b [97]
 hd:Hd e
 gd:Gd (e::es)
theorem Bj{r:Nat}(hr:r< 56)(kd:Kd)(Bx:kd.fl=0)(mp:Bool):NodeOk x 1 mp (mq (fy kd r) kd.s) [] (λp T=>iz kd x.W (p+x.step) r (T.put [32])) where
 run:=λp hp state lst aP ids T _=>⟨_,_,(Bh hx hr kd Bx (by rw [Nat.one_mul] at hp;exact hp) mp state lst aP ids (!mp) T).mono (by decide),rfl,rfl⟩
 y:=⟨0,by decide,_,_,Ep⟩
 hd:=⟨_,_,rfl,by decide⟩
 gd:=M9
theorem Bk(m:Bool)(i:Fi)(its:List Fi)(hi:∀a∈i::its,a.Ok)(mp:Bool):NodeOk x 1 mp (cK m true) ((i::its).flatMap (tu m)++[nj m]) (λp T=>(By m x.W (p+x.step) true (i::its) (T.put (MW m))).put (nK m)) where
 run:=λp hp state lst aP ids T _=>by
  rw [Nat.one_mul] at hp;refine ⟨_,_,(I1 hx (ah (ah (bI _ _) hp) (by decide)) state (aP++[lst]) ids (!mp) T mp m).mono (by decide),?_⟩
  have h:=zg hx (m:=m) hp (Nat.lt_of_lt_of_le (Nat.lt_of_lt_of_le (by decide) hx.step.1) (Nat.le_add_left _ _)) lst (.int p) aP ids (i::its) true (T.put (MW m)) hi (λ_=>nofun)
  exact h
 y:=⟨yB m true,by cases m<;>decide,_,_,Er⟩
 hd:=by cases m<;>exact ⟨_,_,rfl,by decide⟩
 gd:=by
  have h1:Gd ((i::its).flatMap (tu m)++[nj m]):=(Gd.flat λa _=>(Kp m).app (Rf a)).app Rc
  revert h1;rw [List.flatMap_cons,cU];unfold tu
  cases m with
  |true=>exact λh1=>h1.start ⟨_,_,rfl,by decide⟩
  |false=>exact λh1=>h1.start (Rg i)
end
structure Itm where
 e:MV
 es:List MV
 tx:Nat→Tx→Tx
noncomputable def sgn(m:Bool):List Nat:=cond m [107,58] [45]
noncomputable def jv(m:Bool)(i:Itm):List MV:=kE m++i.e::i.es
noncomputable def cS(m:Bool)(its:List Itm):List MV:=its.flatMap (jv m)++[nj m]
noncomputable def qi(m:Bool)(p:Nat)(i:Itm)(T:Tx):Tx:=i.tx p (T.put (sgn m))
noncomputable def EJ(m:Bool)(p:Nat)(its:List Itm)(T:Tx):Tx:=its.foldl (λT i=>qi m p i (T.nl p)) T
noncomputable def j8(m:Bool)(p:Nat)(i:Itm)(its:List Itm)(T:Tx):Tx:=EJ m p its (qi m p i T)
def p9(x:Cx)(d:Nat)(m:Bool)(i:Itm):Prop:=NodeOk x d m i.e i.es i.tx
noncomputable def stF(fst m:Bool):Nat:=cond m (cond fst 34 35) (cond fst 31 32)
noncomputable def Bl(p:Nat):Pw:=cond (Nat.beq p 0) .d .c
theorem xB{p:Nat}{T:Tx}:(Bl p).Ok p T:=by
 unfold Bl
 cases h:Nat.beq p 0 with
 |true=>exact bQ h
 |false=>exact Nat.pos_of_ne_zero (Nat.ne_of_beq_eq_false h)
theorem EK{p:Nat}{T:Tx}:(Bl p).T p T=T.nl p:=by
 unfold Bl
 cases h:Nat.beq p 0 with
 |true=>rw [bQ h];rfl
 |false=>rfl
theorem Nc{p a b:Nat}:(Bl p).fs a b=[a,b]:=by unfold Bl;cases Nat.beq p 0<;>rfl
theorem mD{p:Nat}:(Bl p).ws=false∧(Bl p).ind=false:=by unfold Bl;cases Nat.beq p 0<;>exact ⟨rfl,rfl⟩
theorem nM.of{x:Cx}{f:Nat}{e:MV}{c:Nat}{sL ids:List MV}{i:MV}{fl:Nat}{ws ind:Bool}{T:Tx}{S':Co}{T':Tx}(hf:M4.contains f=true)(hc:c≤cost)(h:Do x 130 f (qh f) e c ⟨.bm 5 f,sL,ids,i,fl,ws,ind⟩ T S' T'):nM x e ⟨.bm 5 f,sL,ids,i,fl,ws,ind⟩ T S' T':=⟨f,rfl,sO hf,h.mono hc⟩
theorem Rh{x:Cx}{d:Nat}{m:Bool}{i:Itm}(h:p9 x d m i):Gd (jv m i):=(Kp m).app h.gd
theorem xC{x:Cx}{d:Nat}{m:Bool}{its:List Itm}(h:∀i∈its,p9 x d m i):Gd (cS m its):=(Gd.flat λi hi=>Rh (h i hi)).app Rc
section
variable {x:Cx}(hx:lI x)
include hx
theorem zh{d:Nat}{m fst:Bool}{i:Itm}(hi:p9 x d m i){p:Nat}(hp:p+d * x.step≤18){w:Pw}{T:Tx}(hw:w.Ok p T)(hf:fst=true∨w=Bl p)(aP ids:List MV):Runs x (jv m i) ⟨.bm 5 (stF fst m),aP,ids,.int p,0,w.ws,w.ind⟩ T ⟨.bm 5 (cond m 35 32),aP,ids,.int p,0,false,false⟩ (qi m p i (w.T p T)):=by
 have EL:p≤60:=ah (ah (bI _ _) hp) (by decide)
 have Xs:∀a b,cond fst a b∈w.fs a b:=λa b=>by
  rcases hf with rfl|rfl
  ·cases w<;>exact b7 ..
  ·rw [Nc];cases fst<;>simp
 obtain ⟨y,hy,a,b,C7⟩:=hi.y
 cases m with
 |false=>obtain ⟨S1,T1,h1,h2⟩:=hi.run p hp (.bm 5 (cond fst 31 32)) (.bm 5 32) aP ids ((w.T p T).put dash) (Pw.len hw);exact ⟨S1,T1,nM.of (by cases fst<;>rfl) (by decide) (Bc hx EL (.bm 5 (cond fst 31 32)) aP ids hw (Xs 31 32) hy C7 h1),h2⟩
 |true=>
  have hl:((w.T p T).put [107,58]).l.length=p+2:=Pw.len hw;obtain ⟨S1,T1,h1,h2⟩:=hi.run p hp (.bm 5 36) (.bm 5 35) aP ids ((w.T p T).put [107,58]) hl;refine ⟨⟨.bm 5 36,aP,ids,.int p,0,false,false⟩,(w.T p T).put key,nM.of (by cases fst<;>rfl) (show 300≤cost by decide) (Es hx EL (.bm 5 (cond fst 34 35)) aP ids hw (Xs 34 35)),S1,T1,?_,h2⟩
  have h3:=u0 hx EL ((w.T p T).put key) (.bm 5 36) aP ids (fl:=0) (.inl rfl) hy (nm:=[97]) (by decide) C7 (c:=5600) (S':=S1) (T':=T1) (by rw [Tx.dO];exact h1)
  exact nM.of rfl (by decide) h3
theorem qU{d:Nat}{m:Bool}{p:Nat}(hp:p+d * x.step≤18)(lst bL:MV)(aP cT:List MV):∀(its:List Itm) (T:Tx),(∀i∈its,p9 x d m i)→Runs x (cS m its) ⟨.bm 5 (cond m 35 32),aP++[lst],cT++[bL],.int p,0,false,false⟩ T ⟨lst,aP,cT,bL,0,false,false⟩ (EJ m p its T)
 |[],T,_=>⟨_,_,nM.of (f:=cond m 35 32) (by cases m<;>rfl) (show 300≤cost by decide) (Et hx (ah (ah (bI _ _) hp) (by decide)) T _ aP lst bL cT m),rfl,rfl⟩
 |i::its,T,h=>by
  have h1:=zh hx (fst:=false) (h i (b7 ..)) hp (w:=Bl p) (T:=T) xB (.inr rfl) (aP++[lst]) (cT++[bL]);rw [EK,mD.1,mD.2] at h1;have h2:=h1.app (qU hp lst bL aP cT its _ λa ha=>h a (bP _ ha))
  unfold cS at h2⊢;rw [List.flatMap_cons,cU];exact h2
theorem jT{d:Nat}{m:Bool}{p:Nat}(hp:p+d * x.step≤18)(lst bL:MV)(aP cT:List MV){i:Itm}{its:List Itm}(h:∀a∈i::its,p9 x d m a){w:Pw}{T:Tx}(hw:w.Ok p T):Runs x (cS m (i::its)) ⟨.bm 5 (cond m 34 31),aP++[lst],cT++[bL],.int p,0,w.ws,w.ind⟩ T ⟨lst,aP,cT,bL,0,false,false⟩ (j8 m p i its (w.T p T)):=by
 have h1:=zh hx (fst:=true) (h i (b7 ..)) hp hw (.inl rfl) (aP++[lst]) (cT++[bL]);have h2:=h1.app (qU hx hp lst bL aP cT its _ λa ha=>h a (bP _ ha))
 unfold cS at h2⊢;rw [List.flatMap_cons,cU];exact h2
noncomputable def FN(step:Nat)(mp m:Bool)(i:Itm)(its:List Itm)(p:Nat)(T:Tx):Tx:=cond mp (j8 m (cond m (p+step) p) i its (T.nl (cond m (p+step) p))) (j8 m (p+step) i its (T.put (dN (step - 1))))
theorem Jk{mp m:Bool}{i:Itm}{its:List Itm}(h:∀a∈i::its,p9 x 1 m a):NodeOk x 2 mp (cK m false) (cS m (i::its)) (FN x.step mp m i its) where
 run:=λp hp state lst aP ids T hT=>by
  have EL:p≤60:=ah (ah (bI _ _) hp) (by decide)
  have hd:=(I2 hx EL state (aP++[lst]) ids T mp m).mono (c':=5600) (by decide)
  refine ⟨_,_,hd,?_⟩;have h2:p+x.step+1 * x.step≤18:=by rw [Nat.one_mul,Nat.add_assoc, ← Nat.two_mul];exact hp
  cases mp with
  |false=>
   have hl:T.l.length< p+x.step:=by rw [hT];exact Nat.add_lt_add_left hx.step.1 p
   have h3:=jT hx (m:=m) (p:=p+x.step) h2 lst (.int p) aP ids h (w:=.b) (T:=T) hl;have e:(Pw.b).T (p+x.step) T=T.put (dN (x.step - 1)):=by
    show T.put (dN (p+x.step - T.l.length))=_
    rw [hT,Nat.add_sub_add_left];rfl
   rw [e] at h3;exact h3
  |true=>
   cases m with
   |false=>have h3:=jT hx (m:=false) (p:=p) (ah (fE (bI p x.step) _) h2) lst (.int p) aP ids h (w:=Bl p) (T:=T) xB;rw [EK,mD.1,mD.2] at h3;exact h3
   |true=>have h3:=jT hx (m:=true) (p:=p+x.step) h2 lst (.int p) aP ids h (w:=Bl (p+x.step)) (T:=T) xB;rw [EK,mD.1,mD.2] at h3;exact h3
 y:=⟨yB m false,by cases m<;>decide,_,_,Er⟩
 hd:=by cases m<;>exact ⟨_,_,rfl,by decide⟩
 gd:=by
  have h1:=xC h;revert h1;unfold cS;rw [List.flatMap_cons,cU];unfold jv kE
  cases m with
  |true=>exact λh1=>h1.start ⟨_,_,rfl,by decide⟩
  |false=>exact λh1=>h1.start (h i (b7 ..)).hd
noncomputable def nO(ex m:Bool)(i:Itm)(its:List Itm):List MV:=ju::fq ex::cK m false::(cS m (i::its)++[j7,gS])
noncomputable def iT(ex m:Bool)(i:Itm)(its:List Itm):Tx:=j8 m 0 i its (cond ex (Tx.nl ⟨[],FH⟩ 0) ⟨[],[]⟩)
theorem EM{ex m:Bool}{i:Itm}{its:List Itm}{d:Nat}(hd:d≤2)(h:∀a∈i::its,p9 x d m a):Runs x (nO ex m i its) ⟨.bm 5 13,[],[],.none,0,true,true⟩ ⟨[],[]⟩ ⟨.bm 5 14,[],[],.none,0,true,true⟩ (iT ex m i its).brk:=by
 have hp:0+d * x.step≤18:=by rw [Nat.zero_add];exact ah (Nat.mul_le_mul hd hx.step.2) (by decide)
 have hb:Runs x (cS m (i::its)) ⟨.bm 5 (cond m 34 31),[.bm 5 17],[.none],.int 0,0, !ex, !ex⟩ ⟨[],cond ex FH []⟩ ⟨.bm 5 17,[],[],.none,0,false,false⟩ (iT ex m i its):=by
  cases ex with
  |true=>exact jT hx (p:=0) hp (.bm 5 17) .none [] [] h (w:=.d) (T:=⟨[],FH⟩) rfl
  |false=>exact jT hx (p:=0) hp (.bm 5 17) .none [] [] h (w:=.a) (T:=⟨[],[]⟩) ⟨rfl,rfl⟩
 refine ⟨_,_,nM.of rfl (show 300≤cost by decide) (I8 hx _ [] [] []),_,_,nM.of rfl (show 300≤cost by decide) (I9 hx _ [] [] [] ex),_,_,nM.of rfl (show 300≤cost by decide) (Ja hx _ _ [] [] (!ex) (!ex) m),hb.app ?_⟩
 exact ⟨_,_,nM.of rfl (show 300≤cost by decide) (Jb hx _ _ [] []),_,_,nM.of rfl (show 300≤cost by decide) (Jc hx _ _ [] [] true true),rfl,rfl⟩
omit hx in
theorem Nd{ex m:Bool}{i:Itm}{its:List Itm}{d:Nat}(h:∀a∈i::its,p9 x d m a):Je (nO ex m i its):=by
 have hb:=xC h;have ho:∀e:MV,e=ju∨e=fq ex∨e=j7∨e=gS→mz e∧Cl e:=λe q=>by rcases q with rfl|rfl|rfl|rfl<;>exact ⟨⟨_,_,rfl,by decide⟩,λρ=>rfl⟩
 have gt:Good [j7,gS]:=⟨λa q e=>⟨λq=>(by cases q),λq=>(by cases q)⟩,λa q e=>(by cases e),trivial⟩
 have hB:Gd (cK m false::cS m (i::its)):=(by
  have h1:=xC h;revert h1;unfold cS;rw [List.flatMap_cons,cU];unfold jv kE
  cases m with
  |true=>exact λh1=>h1.start ⟨_,_,rfl,by decide⟩
  |false=>exact λh1=>h1.start (h i (b7 ..)).hd)
 refine ⟨⟨λa q e=>⟨λq=>(by cases q),λq=>(by cases q)⟩,λa q e=>⟨λq=>(by cases q),λ_=>⟨m,(List.cons.inj e).1.symm⟩⟩,hB.good _ gt⟩,λe he=>?_,.inr ⟨ju::fq ex::cK m false::(cS m (i::its)++[j7]),?_⟩⟩
 ·rcases bO.mp he with rfl|he
  ·exact ho _ (.inl rfl)
  ·rcases bO.mp he with rfl|he
   ·exact ho _ (.inr (.inl rfl))
   ·rcases List.mem_append.mp (show e∈(cK m false::cS m (i::its))++[j7,gS] from he) with he|he
    ·exact hB.ev e he
    ·simp only [bO,fF,or_false] at he
     exact ho _ (.inr (.inr he))
 ·show _=ju::fq ex::cK m false::((cS m (i::its)++[j7])++[gS])
  rw [cU];rfl
end
theorem sQ(n k c:Nat):n+k+k * c=n+k * (c+1):=by rw [Nat.mul_succ,Nat.add_assoc,Nat.add_comm k]
noncomputable def gj(T:Tx):List MV:=T.d.map MV.str++[.str T.l]
noncomputable def hP(aI aE:List MV)(T:Tx):Hp:=[.list aI,.list aE,.list (gj T)]
noncomputable def sP(ep:List MV)(i:Nat)(pg:List MV):aS:=[.list (some 0) [],.list (some 1) ep,.list (some i) pg]
theorem SS{T:Tx}{s:List Nat}:gj (T.put s)=T.d.map MV.str++[.str (T.l++s)]:=rfl
theorem VM{T:Tx}{p:Nat}:gj (T.nl p)=T.d.map MV.str++[.str T.l,.str (dN p)]:=by
 show (T.d++[T.l]).map MV.str++_=_
 rw [List.map_append,cU];rfl
structure fY(aE:List MV)(T:Tx)(n:Nat):Prop where
 ev:aE.length≤n
 sz:T.sz≤n
theorem sR:∀d:List (List Nat),d.length≤nJ d
 |[]=>Nat.zero_le _
 |a::d=>by
  show d.length+1≤(a.length+2)+nJ d
  have:=sR d
  lia
theorem fY.d{aE:List MV}{T:Tx}{n:Nat}(h:fY aE T n):T.d.length≤n:=ah (sR T.d) (ah (bI _ _) h.sz)
theorem fY.l{aE:List MV}{T:Tx}{n:Nat}(h:fY aE T n):T.l.length≤n:=ah Tx.sA h.sz
theorem zj{z:List Nat}(hz:z.length≤1000000):qg z=some (.str z):=if_pos hz
theorem dS{x y:List Nat}(hz:(x++y).length≤1000000)(H:Hp):eF .Add (.str x) (.str y) H=some (.str (x++y)):=zj hz
theorem zl{x y:List Nat}(hz:(x++y).length≤1000000)(H:Hp):binOp .Add (.str x) (.str y) H=some (.str (x++y)):=by
 show (qg (x++y)).or _=_
 rw [zj hz];rfl
theorem c7{x y:List Nat}{a b:Nat}(hx:x.length≤a)(hy:y.length≤b)(h:a+b≤1000000):(x++y).length≤1000000:=by rw [aM];exact ah (Nat.add_le_add hx hy) h
noncomputable def FO(x:Option MV)(l:Loc):Loc:=Option.none::x::l
theorem sS{P:Prog}{k:Nat}{elt:ai}{h:Hp}{α:Type}{inj:α→MV}{g:α→MV}{fr:Option MV→Loc}{tgt:List Nat}{tup:Bool}(hb:∀a x,gu (fr x) tgt tup (inj a)=some (fr (some (inj a)))):∀(s:List α) (x:Option MV),(∀a∈s,(E P k).ev elt (fr (some (inj a))) h=some (g a,h))→dj (E P k) elt tgt tup [] (s.map inj) (fr x) h=some (s.map g,h)
 |[],x,_=>rfl
 |a::s,x,he=>by
  have h1:=he a (b7 ..);have h2:=sS hb s (some (inj a)) λb hb=>he b (bP _ hb)
  show (gu (fr x) tgt tup (inj a)).bind (λl=>(tests (E P k) [] l h).bind λb=>if b.1=true then ((E P k).ev elt l b.2).bind (λv=>(dj (E P k) elt tgt tup [] (s.map inj) l v.2).bind λvs=>some (v.1::vs.1,vs.2)) else dj (E P k) elt tgt tup [] (s.map inj) l b.2)=_
  rw [hb];show ((E P k).ev elt (fr (some (inj a))) h).bind _=_
  rw [h1];show (dj (E P k) elt tgt tup [] (s.map inj) (fr (some (inj a))) h).bind _=_
  rw [h2];rfl
theorem xD{P:Prog}{k:Nat}{e:ai}{l:Loc}{h:Hp}{v:MV}{I:It}(he:(E P k).ev e l h=some (v,h))(hv:tK v h=some I):dB (E P k) (.val e) l h=some (I,h):=by
 show ((E P k).ev e l h).bind _=_
 rw [he];exact congrArg (Option.map _) hv
theorem Jl{P:Prog}{k nv:Nat}{elt:ai}{tgt:List Nat}{tup:Bool}{it:dm}{ifs:List ai}{l:Loc}{h:Hp}{xs ys:List MV}(hI:dB (E P k) it l h=some (.items xs,h))(hg:dj (E P k) elt tgt tup ifs xs (List.replicate nv none++l) h=some (ys,h))(hl:ys.length≤az):(E P (k+1)).ev (.comp false elt nv tgt tup it ifs) l h=some (.lst ys,h):=by
 show (dB (E P k) it l h).bind _=_
 rw [hI];show (dc (E P k) elt tgt tup ifs (eY xs) (xs.length+1) 0 (List.replicate nv none++l) h).bind _=_
 rw [pM _ _ _ _ _ xs xs 0 _ _ rfl,hg];exact if_pos hl
theorem EN{P:Prog}{k:Nat}{elt e:ai}{l:Loc}{h:Hp}{s:List Nat}{g:Nat→MV}(hl:s.length≤1000)(he:(E P k).ev e l h=some (.str s,h))(hg:∀c∈s,(E P k).ev elt (FO (some (tn c)) l) h=some (g c,h)):(E P (k+1)).ev (.comp false elt 2 [1] false (.val e) []) l h=some (.lst (s.map g),h):=Jl (xD he rfl) (sS (fr:=λx=>FO x l) (inj:=tn) (tgt:=[1]) (tup:=false) (λ_ _=>rfl) s none hg) (ah (Nat.le_of_eq (cL ..)) (ah hl (by decide)))
theorem qb{α:Type}{f:α→List Nat}:∀s:List α,aT (s.map λc=>.str (f c))=some (s.flatMap f)
 |[]=>rfl
 |a::r=>by
  show (aT (r.map _)).map _=_
  rw [qb r];rfl
theorem zm{k:Nat}{c:ai}{l:Loc}{h:Hp}{xs:List MV}{z:List Nat}(hc:(E L2.prog k).ev c l h=some (.lst xs,h))(hj:aT xs=some z)(hz:z.length≤1000000)(hk:1≤k):(E L2.prog (k+1)).ev (.ay (.bE (.str [])) 117 [c] [] []) l h=some (.str z,h):=by
 obtain ⟨k,rfl⟩:=Nat.exists_eq_add_of_le' hk;rw [show (E L2.prog (k+1+1)).ev (.ay (.bE (.str [])) 117 [c] [] []) l h=fK L2.prog (E L2.prog (k+1)) (.ay (.bE (.str [])) 117 [c] [] []) l h from rfl,pR]
 show (((E L2.prog (k+1)).ev c l h).bind λa=>some ([a.1],a.2)).bind (λas=>d9 L2.prog (E L2.prog (k+1)) (.join []) as.1 [] [] as.2)=_
 rw [hc];show ((aT xs).bind λs=>(qg s).map λv=>(v,h))=_
 rw [hj];show (qg z).map _=_
 rw [zj hz];rfl
theorem qV{l:List MV}{i:Nat}{v:MV}(h:l[i]? =some v)(hi:i≤1000000000)(H:Hp):fG (.lst l) (.int i) H=some v:=by
 show (tE (.int i) l.length).bind (λj=>l[j]?)=_
 show ((if aK (i:Int)=true then idx l.length i else none)).bind _=_
 rw [if_pos (aN hi),yV (List.getElem?_eq_some_iff.mp h).1];exact h
noncomputable def BA(i m:Nat):List MV:=(List.range' i m).map λj:Nat=>MV.int (j:Nat)
theorem sU(n:Nat):cY 0 (n:Int)=BA 0 n:=by
 unfold cY BA;rw [show ((n:Int) - 0).toNat=n by simp,List.range_eq_range']
 exact List.map_congr_left λi _=>congrArg MV.int (Int.zero_add _)
theorem lK(i m:Nat):BA i (m+1)=.int (i:Nat)::BA (i+1) m:=rfl
noncomputable def Jm:aA:=L2.WO.body.getD 1 .pass
noncomputable def BB:aA→List aA
 |.dW _ _ b=>b
 |_=>[]
noncomputable def VN:ai:=match (BB Jm).getD 1 .pass with
 |.aug _ _ e=>e
 |_=>.bE .none
noncomputable def Nf:ai:=.aG (.cmp (.aH 1) [.Eq] [.aH 4]) (.bin .Add (.aH 1) (.aH 1)) (.aH 1)
noncomputable def Ri(e:SL):aV:=[.v (X 10),.v (X 11),.v (X 12),.v (.obj 2),.v (X 13),.v (X 14),e]
inductive Rd where|a|b|c
noncomputable def Rd.h:Rd→aS
 |.a=>sP [] 2 [X 0]
 |.b=>sP [] 2 [X 2]
 |.c=>sP [] 2 [X 0,X 18]
noncomputable def Rd.h':Rd→aS
 |.a=>sP [] 2 [X 5]
 |.b=>sP [] 2 [X 3]
 |.c=>sP [] 2 [X 0,X 4]
noncomputable def Xu(w:Rd)(nz g1 bg:Bool):Facts:={o6:=[(X 15,nz)],cmp:=[(.Eq,X 17,.int 1,g1),(.Gt,X 1,X 14,bg)],sub:=[(X 11,X 15,X 17)],bi:=[(.len,X 0,X 1)],bin:=[(.Mult,.str [32],X 13,X 18),(.Mult,.str [32],X 17,X 19)],aug:=[(.Add,X 0,X 19,X 2),(.Add,X 2,X 16,X 3),(.Add,X 18,X 16,X 4),(.Add,X 0,X 16,X 5)],room:=[2],ev:=[{n:=35,e:=VN,l:=Ri (.v (X 15)),h:=w.h,r:=X 16}]}
noncomputable def Jo(nz g1 bg:Bool):Rd:=cond nz (cond (g1&&bg) .c .b) .a
theorem k67:(bools.all λnz=>bools.all λg1=>bools.all λbg=>kj L2.prog (Xu (Jo nz g1 bg) nz g1 bg) 40 (BB Jm) (Ri (.v (X 15))) (sP [] 2 [X 0]) .next (Ri (.v (X 15))) (Jo nz g1 bg).h')=true:=by kernel_rfl
theorem kel:(bools.all λb=>uK L2.prog {cmp:=[(.Eq,X 0,X 1,b)],bin:=[(.Add,X 0,X 0,X 2)]} 20 Nf [.u,.v (X 0),.o 0,.o 1,.v (X 1),.o 2,.o 3,.o 4,.o 5] (sP [] 2 []) (cond b (X 2) (X 0)) (sP [] 2 []))=true:=by kernel_rfl
theorem eq1{c:Nat}{q:Bool}:decide ([c]=qs q)=nG [c] (qs q):=by
 cases q with
 |false=>exact decide_eq_false nofun
 |true=>
  show _=(Nat.beq c 39&&true)
  rw [Bool.and_true]
  cases h:Nat.beq c 39 with
  |true=>rw [bQ h];rfl
  |false=>exact decide_eq_false λe=>Nat.ne_of_beq_eq_false h (List.cons.inj e).1
theorem Rj{k:Nat}(hk:20≤k){c:Nat}{q:Bool}{a b d e f g:Option MV}{aI aE pg:List MV}:(E L2.prog k).ev Nf [none,some (tn c),a,b,some (.str (qs q)),d,e,f,g] [.list aI,.list aE,.list pg]=some (.str (sH (qs q) c),[.list aI,.list aE,.list pg]):=by
 have K:Holds L2.prog (R [tn c,.str (qs q),.str [c,c]] [aI,aE,pg] λi=>[a,b,d,e,f,g].getD i none) {cmp:=[(.Eq,X 0,X 1,nG [c] (qs q))],bin:=[(.Add,X 0,X 0,X 2)]}:=⟨aa,af (congrArg some eq1) aa,af (λh=>rfl) aa,aa,aa,aa,aa,aa,aa,aa,aa,aa,aa⟩
 have h:=su K (aj kel (ak (nG [c] (qs q)))) hk;refine h.trans (congrArg (λv=>some (v,_)) ?_)
 unfold sH
 cases nG [c] (qs q)<;>rfl
noncomputable def sV(W:Int)(M:Nat)(q:List Nat):Nat→Tx→List (Nat×List Nat)→Tx
 |_,T,[]=>T
 |i,T,p::r=>sV W M q (i+1) (cond (Nat.beq i 0) (T.put (dbl q p.2)) (kU W M q T p)) r
structure VO(p:Nat×List Nat):Prop where
 g:p.1≤2
 w:p.2.length≤10
theorem sW{q:List Nat}:∀{w:List Nat},(dbl q w).length≤2 * w.length
 |[]=>bf _
 |c::w=>by
  show (sH q c++dbl q w).length≤_
  rw [aM,List.length_cons,Nat.mul_succ,Nat.add_comm];refine Nat.add_le_add sW ?_;unfold sH
  cases nG [c] q<;>exact c8 rfl
structure VP(W:Int)(M:Nat)(q:Bool)(prs:List (Nat×List Nat)):Prop where
 M:M≤100
 ok:∀p∈prs,VO p
 len:prs.length≤100
noncomputable def EO(prs:List (Nat×List Nat)):MV:=.lst (prs.map λp=>.str p.2)
noncomputable def Jp(prs:List (Nat×List Nat)):MV:=.lst (prs.map λp=>.int (p.1:Nat))
noncomputable def Bm(W:Int)(M:Nat)(q:Bool)(prs:List (Nat×List Nat))(a:Option MV):Loc:=[some (EO prs),some (Jp prs),some (.str (qs q)),some (.obj 2),some (.int (M:Nat)),some (.int W),a]
noncomputable def Rk(W:Int)(M:Nat)(q:Bool)(prs:List (Nat×List Nat))(aI aE:List MV)(T:Tx)(i:Nat)(p:Nat×List Nat):d7:=R [.str T.l,.int (T.l.length:Nat),.str (T.l++dN p.1),.str ((T.l++dN p.1)++dbl (qs q) p.2),.str (dN M++dbl (qs q) p.2),.str (T.l++dbl (qs q) p.2),.none,.none,.none,.none,EO prs,Jp prs,.str (qs q),.int (M:Nat),.int W,.int (i:Nat),.str (dbl (qs q) p.2),.int (p.1:Nat),.str (dN M),.str (dN p.1)] [aI,aE,T.d.map MV.str] λ_=>none
section
variable {W:Int}{M:Nat}{q:Bool}{prs:List (Nat×List Nat)}(H:VP W M q prs){aI aE:List MV}
include H
theorem K67{T:Tx}{n i:Nat}{p:Nat×List Nat}(hL:fY aE T n)(hn:n≤big)(hp:prs[i]? =some p)(w:Rd):Holds L2.prog (Rk W M q prs aI aE T i p) (Xu w (!Nat.beq i 0) (Nat.beq p.1 1) (decide (W< (T.l.length:Nat)))):=by
 have hi:i< prs.length:=(List.getElem?_eq_some_iff.mp hp).1;have Ng:=H.ok p (List.mem_of_getElem? hp);have hw:(dbl (qs q) p.2).length≤20:=ah sW (Nat.mul_le_mul_left 2 Ng.w);have hg:(dN p.1).length≤2:=ah (Nat.le_of_eq cG) Ng.g;have hl:=ah hL.l hn;have hlg:(T.l++dN p.1).length≤big+2:=by rw [aM];exact Nat.add_le_add hl hg
 exact {
  o6:=af (λh=>congrArg (λb=>some !b) (by
   cases h:Nat.beq i 0 with
   |true=>rw [bQ h];rfl
   |false=>exact decide_eq_false λe=>Nat.ne_of_beq_eq_false h (Int.ofNat_inj.mp e))) aa
  cmp:=af (A6 (b:=1) (by
   cases h:Nat.beq p.1 1 with
   |true=>exact decide_eq_true (bQ h)
   |false=>exact decide_eq_false (Nat.ne_of_beq_eq_false h)))<|af kq aa
  bin:=af (lH (ah H.M (by decide)))<|af (lH (ah Ng.g (by decide))) aa
  sub:=af (qV (by rw [List.getElem?_map,hp];rfl) (ah (Nat.le_of_lt (Nat.lt_of_lt_of_le hi H.len)) (by decide))) aa
  wG:=aa
  bi:=af (jn rfl) aa
  join:=aa
  room:=af (show (T.d.map MV.str).length+1000< az from Nat.lt_of_le_of_lt (fE (ah (Nat.le_of_eq (cL ..)) (ah hL.d hn)) 1000) (by decide)) aa
  aug:=af (dS (c7 hl hg (by decide)))<|af (dS (c7 hlg hw (by decide)))<|af (dS (c7 (ah (Nat.le_of_eq cG) H.M) hw (by decide)))<|af (dS (c7 hl hw (by decide))) aa
  starts:=aa
  st:=aa
  call:=aa
  ev:=af (λk hk=>by
   have hws:∀j,(E L2.prog (j+10)).ev (.sub (.aH 0) (.aH 6)) (Bm W M q prs (some (.int (i:Nat)))) (aQ (Rk W M q prs aI aE T i p) w.h)=some (.str p.2,aQ (Rk W M q prs aI aE T i p) w.h):=λj=>by
    show (fG (EO prs) (.int (i:Nat)) _).bind _=_
    unfold EO;rw [qV (v:=.str p.2) (by rw [List.getElem?_map,hp];rfl) (ah (Nat.le_of_lt (Nat.lt_of_lt_of_le hi H.len)) (by decide))];rfl
   obtain ⟨j,rfl⟩:=Nat.exists_eq_add_of_le' hk;have hc:=EN (P:=L2.prog) (k:=j+33) (elt:=Nf) (g:=λc=>.str (sH (qs q) c)) (l:=Bm W M q prs (some (.int (i:Nat)))) (h:=aQ (Rk W M q prs aI aE T i p) w.h) (ah Ng.w (by decide)) (hws (j+23)) (λc _=>by cases w<;>exact Rj (ah (by decide) (Nat.le_add_left 33 j)))
   exact zm (k:=j+34) hc (qb p.2) (ah hw (by decide)) (Nat.le_add_left 1 (j+33))) aa}
omit H in
theorem dU{T:Tx}{n:Nat}{s:List Nat}(h:T.sz≤n){m:Nat}(hs:s.length≤m):(T.put s).sz≤n+m:=ah (Nat.le_of_eq Tx.gR) (Nat.add_le_add h hs)
omit H in
theorem u6{T:Tx}{M:Nat}{s:List Nat}:hP aI aE ((T.nl M).put s)=[.list aI,.list aE,.list (T.d.map MV.str++[.str T.l,.str (dN M++s)])]:=by
 show [_,_,iW.list ((T.d++[T.l]).map MV.str++[.str (dN M++s)])]=_
 rw [List.map_append,cU];rfl
theorem EP:∀(r:List (Nat×List Nat)) (i:Nat) (T:Tx) (n:Nat) (a:Option MV),prs.drop i=r→fY aE T n→n+130 * r.length≤big→
  fY aE (sV W M (qs q) i T r) (n+130 * r.length)∧∃a',∀k,40≤k→bT (E L2.prog k) (.aH 6) (BB Jm) (BA i r.length) (Bm W M q prs a) (hP aI aE T)=some (.next,Bm W M q prs a',hP aI aE (sV W M (qs q) i T r))
 |[],i,T,n,a,_,hL,_=>⟨hL,a,λk hk=>rfl⟩
 |p::r,i,T,n,a,hd,hL,hn=>by
  have hp:prs[i]? =some p:=by rw [← Nat.add_zero i, ← List.getElem?_drop,hd];rfl
  have Ng:=H.ok p (List.mem_of_getElem? hp);have hw:(dbl (qs q) p.2).length≤20:=ah sW (Nat.mul_le_mul_left 2 Ng.w);have hg:(dN p.1).length≤2:=ah (Nat.le_of_eq cG) Ng.g;have mT:n≤big:=ah (bI _ _) hn;have K:=K67 H (aI:=aI) hL mT hp (Jo (!Nat.beq i 0) (Nat.beq p.1 1) (decide (W< (T.l.length:Nat))));have e1:=λk (hk:40≤k)=>jd K (aj (aj (aj k67 (ak (!Nat.beq i 0))) (ak (Nat.beq p.1 1))) (ak (decide (W< (T.l.length:Nat))))) hk
  have hT:aQ (Rk W M q prs aI aE T i p) (Jo (!Nat.beq i 0) (Nat.beq p.1 1) (decide (W< (T.l.length:Nat)))).h'=hP aI aE (cond (Nat.beq i 0) (T.put (dbl (qs q) p.2)) (kU W M (qs q) T p)):=by
   have h1:decide ((dN p.1).length=1)=Nat.beq p.1 1:=by
    rw [cG]
    cases h:Nat.beq p.1 1 with
    |true=>exact decide_eq_true (bQ h)
    |false=>exact decide_eq_false (Nat.ne_of_beq_eq_false h)
   unfold kU qq;rw [h1]
   cases Nat.beq i 0 with
   |true=>rfl
   |false=>cases Nat.beq p.1 1 with
    |false=>rfl
    |true=>cases decide (W< (T.l.length:Nat)) with
     |false=>rfl
     |true=>exact u6.symm
  have zo:fY aE (cond (Nat.beq i 0) (T.put (dbl (qs q) p.2)) (kU W M (qs q) T p)) (n+130):=by
   refine ⟨ah hL.ev (bI _ _),?_⟩
   cases Nat.beq i 0 with
   |true=>exact dU hL.sz (ah hw (by decide))
   |false=>
    show (Tx.put (qq W M T (dN p.1)) (dbl (qs q) p.2)).sz≤_
    have hb:(qq W M T (dN p.1)).sz≤n+102:=by
     unfold qq
     cases decide ((dN p.1).length=1)&&decide (W< (T.l.length:Nat)) with
     |true=>exact ah (Nat.le_of_eq Tx.yX) (show T.sz+2+M≤(n+2)+100 from Nat.add_le_add (fE hL.sz 2) H.M)
     |false=>exact dU hL.sz (ah hg (by decide))
    exact ah (dU hb hw) (by rw [Nat.add_assoc];exact bx (by decide) n)
  have hd2:prs.drop (i+1)=r:=by rw [← List.drop_drop,hd];rfl
  obtain ⟨g1,a',g2⟩:=EP r (i+1) _ (n+130) (some (.int (i:Nat))) hd2 zo (ah (Nat.le_of_eq (sQ n 130 r.length)) hn);refine ⟨⟨ah g1.ev (Nat.le_of_eq (sQ n 130 r.length)),ah g1.sz (Nat.le_of_eq (sQ n 130 r.length))⟩,a',λk hk=>?_⟩
  rw [List.length_cons,lK,iS (l1:=Bm W M q prs (some (.int (i:Nat)))) (h1:=hP aI aE (cond (Nat.beq i 0) (T.put (dbl (qs q) p.2)) (kU W M (qs q) T p))) (f:=.next) (by rw [← hT];exact e1 k hk)]
  exact g2 k hk
end
noncomputable def Rl:JQ:={n:=50,s:=Jm,l:=Ri .u,h:=sP [] 2 [X 20],l':=Ri (.o 0),h':=sP [] 3 [X 21]}
theorem c67:cX L2.prog {aug:=[(.Add,X 0,X 12,X 20),(.Add,X 21,X 12,X 22)],st:=[Rl]} 60 67 [X 10,X 11,X 12,.obj 2,X 13,X 14] (sP [] 2 [X 0]) .none (sP [] 3 [X 22])=true:=by kernel_rfl
noncomputable def u7(W:Int)(M:Nat)(q:Bool)(prs:List (Nat×List Nat))(T:Tx):Tx:=(sV W M (qs q) 0 (T.put (qs q)) prs).put (qs q)
theorem sX{q:Bool}:(qs q).length≤1:=by cases q<;>decide
theorem ER{W:Int}{M:Nat}{q:Bool}{prs:List (Nat×List Nat)}(H:VP W M q prs){aI aE:List MV}{T:Tx}{n:Nat}(hL:fY aE T n)(hn:n+(2+130 * prs.length)≤big):fY aE (u7 W M q prs T) (n+(2+130 * prs.length))∧∀k,60≤k→(E L2.prog k).ca 67 [EO prs,Jp prs,.str (qs q),.obj 2,.int (M:Nat),.int W] (hP aI aE T)=some (.none,hP aI aE (u7 W M q prs T)):=by
 have ES:fY aE (T.put (qs q)) (n+1):=⟨Nat.le_succ_of_le hL.ev,dU hL.sz sX⟩;obtain ⟨g1,a',g2⟩:=EP H (aI:=aI) prs 0 (T.put (qs q)) (n+1) none rfl ES (ah (by lia) hn)
 have zo:fY aE (u7 W M q prs T) (n+(2+130 * prs.length)):=⟨ah g1.ev (by lia),ah (dU g1.sz sX) (by lia)⟩
 have hl:T.l.length≤big:=ah hL.l (ah (bI _ _) hn);refine ⟨zo,λk hk=>?_⟩
 have K:Holds L2.prog (R [.str T.l,.none,.none,.none,.none,.none,.none,.none,.none,.none,EO prs,Jp prs,.str (qs q),.int (M:Nat),.int W,.none,.none,.none,.none,.none,.str (T.l++qs q),.str (sV W M (qs q) 0 (T.put (qs q)) prs).l,.str ((sV W M (qs q) 0 (T.put (qs q)) prs).l++qs q)] [aI,aE,T.d.map MV.str,(sV W M (qs q) 0 (T.put (qs q)) prs).d.map MV.str] λ_=>a') {aug:=[(.Add,X 0,X 12,X 20),(.Add,X 21,X 12,X 22)],st:=[Rl]}:=
  ⟨aa,aa,aa,aa,aa,aa,aa,aa,af (dS (c7 hl sX (by decide))) (af (dS (c7 (ah g1.l (ah (by lia) hn)) sX (by decide))) aa),aa,af (λk hk=>by
   have it:dB (E L2.prog k) (.range [.call (.av (.bi .len)) [.aH 0] [] []]) (Bm W M q prs none) (hP aI aE (T.put (qs q)))=some (.items (BA 0 prs.length),hP aI aE (T.put (qs q))):=by
    obtain ⟨j,rfl⟩:=Nat.exists_eq_add_of_le' (show 50≤k from hk)
    have hs:aK (prs.length:Int)=true:=aN (ah H.len (by decide))
    show ((zP [.int ((prs.map λp=>MV.str p.2).length:Nat)]).map λi=>(i,_))=_
    rw [cL];show ((if aK (prs.length:Int)=true then some (It.items (cY 0 (prs.length:Int))) else none)).map _=_
    rw [if_pos hs,sU];rfl
   exact mC it (g2 k (ah (by decide) hk))) aa,aa,aa⟩
 exact fR K c67 hk
noncomputable def Nh:aA:=L2.WQ.body.getD 2 .pass
noncomputable def Rm:ai:=.ay (.call (.av (.fn 64)) [] [] []) 135 [.sub (.aH 0) (.aH 5),.bE (.str [])] [] []
noncomputable def N9(es:Bool)(i a b:SL):aV:=[.v (X 10),.v (.obj 2),.v (X 12),.v (X 13),.v (.bool es),i,a,b]
structure Rn where
 cd:Bool
 b0:Bool
 b1:Bool
 gk:Bool
 go:Bool
 nx:Bool
 sp:Bool
noncomputable def Xv(b:Rn)(es:Bool):Facts:={o6:=[(X 18,b.cd)],cmp:=[(.Lt,.int 0,X 14,b.b0),(.Lt,X 14,X 16,b.b1),(.Gt,X 5,X 13,b.gk),(.Gt,X 1,X 13,b.go),(.Eq,X 19,.str [32],b.nx),(.Eq,X 17,.str [32],b.sp),(.NotEq,X 18,.str [],b.cd)],sub:=(X 10,X 14,X 17)::cond b.b1 [(X 10,X 20,X 19)] [],bin:=[(.Sub,X 15,.int 1,X 16),(.Add,X 14,.int 1,X 20),(.Sub,X 4,.int 1,X 5),(.Mult,.str [32],X 12,X 21),(.Add,X 21,.str [92],X 22),(.Add,X 21,.str [],X 21)],bi:=[(.len,X 10,X 15),(.len,X 0,X 1),(.len,X 3,X 4)],aug:=[(.Add,X 0,X 18,X 3),(.Add,X 3,.str [92],X 8),(.Add,X 0,.str [92],X 6),(.Add,X 0,X 17,X 7),(.Add,X 22,X 17,X 24),(.Add,X 21,X 17,X 25)],room:=[2],ev:=[{n:=20,e:=Rm,l:=N9 es (.v (X 14)) (.o 0) (.o 1),h:=sP [] 2 [X 0],r:=X 18}]}
noncomputable def Ni(b:Rn)(es:Bool):List MV:=cond b.cd (cond (b.b0&&b.b1&&b.gk) [X 8,cond b.nx (X 22) (X 21)] [X 3]) (cond (b.b0&&b.b1&&(es||b.sp)&&b.go) [X 6,cond b.sp (X 24) (X 25)] [X 7])
noncomputable def ET(b:Rn)(es:Bool):Bool:=kj L2.prog (Xv b es) 40 (BB Nh) (N9 es (.v (X 14)) (.o 0) (.o 1)) (sP [] 2 [X 0]) .next (N9 b.cd (.v (X 14)) (.v (X 18)) (.v (.bool (b.b0&&b.b1)))) (sP [] 2 (Ni b es))
theorem VQ(go sp:Bool):(bools.all λes=>bools.all λb0=>bools.all λb1=>bools.all λgk=>bools.all λnx=>ET ⟨true,b0,b1,gk,go,nx,sp⟩ es)=true:=by kernel_rfl
theorem VS(gk nx:Bool):(bools.all λes=>bools.all λb0=>bools.all λb1=>bools.all λgo=>bools.all λsp=>ET ⟨false,b0,b1,gk,go,nx,sp⟩ es)=true:=by kernel_rfl
theorem k68(b:Rn)(es:Bool):ET b es=true:=by
 obtain ⟨cd,b0,b1,gk,go,nx,sp⟩:=b
 cases cd with
 |true=>exact aj (aj (aj (aj (aj (VQ go sp) (ak es)) (ak b0)) (ak b1)) (ak gk)) (ak nx)
 |false=>exact aj (aj (aj (aj (aj (VS gk nx) (ak es)) (ak b0)) (ak b1)) (ak go)) (ak sp)
theorem kgt(es:Bool):(xe.all λc=>uK L2.prog {sub:=[(X 10,X 14,tn c)]} 20 Rm (N9 es (.v (X 14)) (.o 0) (.o 1)) (sP [] 2 [X 0]) (.str (eu c)) (sP [] 2 [X 0]))=true:=by kernel_rfl
noncomputable def zp(W:Int)(n i:Nat)(T:Tx)(c:Nat)(r:List Nat):Rn:=⟨!(eu c).isEmpty,decide (0< i),decide (i< n - 1),decide (W< ((T.l++eu c).length:Nat) - 1),decide (W< (T.l.length:Nat)),Nat.beq (A7 r) 32,Nat.beq c 32⟩
noncomputable def VT(W:Int)(M:Nat)(v:List Nat)(aI aE:List MV)(T:Tx)(i c nx:Nat)(os:Nat→Option MV):d7:=R [.str T.l,.int (T.l.length:Nat),.none,.str (T.l++eu c),.int ((T.l++eu c).length:Nat),.int (((T.l++eu c).length:Nat) - 1),.str (T.l++jy),.str (T.l++[c]),.str ((T.l++eu c)++jy),.none,.str v,.none,.int (M:Nat),.int W,.int (i:Nat),.int (v.length:Nat),.int ((v.length:Nat) - 1),tn c,.str (eu c),tn nx,.int ((i+1:Nat):Int),.str (dN M),.str (dN M++jy),.none,.str ((dN M++jy)++[c]),.str (dN M++[c])] [aI,aE,T.d.map MV.str] os
noncomputable def Jq(W:Int)(M:Nat)(v:List Nat)(es:Bool)(i a b:Option MV):Loc:=[some (.str v),some (.obj 2),some (.int (M:Nat)),some (.int W),some (.bool es),i,a,b]
theorem sY{c:Nat}:(eu c).length≤4:=by unfold eu;split<;>exact c8 rfl
theorem Kq{c:Nat}:cV .Eq (tn c) (.str [32])=some (Nat.beq c 32):=by
 show some (decide ([c]=[32]))=_
 cases h:Nat.beq c 32 with
 |true=>rw [bQ h];rfl
 |false=>exact congrArg some (decide_eq_false λe=>Nat.ne_of_beq_eq_false h (List.cons.inj e).1)
section
variable {W:Int}{M:Nat}{v:List Nat}(hM:M≤100)(hv:v.length≤100)(hA:∀c∈v,c∈xe){aI aE:List MV}
include hM hv hA
theorem K68{T:Tx}{n i c:Nat}{r:List Nat}{es:Bool}{os:Nat→Option MV}(hL:fY aE T n)(hn:n≤big)(hd:v.drop i=c::r):Holds L2.prog (VT W M v aI aE T i c (A7 (c::r)) os) (Xv (zp W v.length i T c (c::r)) es):=by
 have hc:v[i]? =some c:=by rw [← Nat.add_zero i, ← List.getElem?_drop,hd];rfl
 have hi:i< v.length:=(List.getElem?_eq_some_iff.mp hc).1;have zq:i≤100:=ah (Nat.le_of_lt hi) hv;have hl:=ah hL.l hn;have hle:(T.l++eu c).length≤big+4:=by rw [aM];exact Nat.add_le_add hl sY
 have hs:(dN M).length≤100:=ah (Nat.le_of_eq cG) hM;have Bt:(dN M++jy).length≤101:=by rw [aM];exact Nat.add_le_add hs (bf 1)
 have Cg:(!(eu c).isEmpty)= !decide (eu c=[]):=by cases eu c<;>rfl
 exact {
  o6:=af (λh=>rfl) aa
  cmp:=af (pW (a:=0) rfl)<|af (show some (decide ((i:Int)< (v.length:Int) - 1))=_ from congrArg some (decide_eq_decide.mpr (by lia)))<|af kq<|af kq<|af Kq<|af Kq<|af (congrArg (λb=>some b) Cg.symm) aa
  bin:=af (λh=>fm (aN (ah hv (by decide))) rfl rfl)<|af (iQ (b:=1) rfl (ah (Nat.succ_le_succ zq) (by decide)))<|af (λh=>fm (aN (ah hle (by decide))) rfl rfl)<|af (lH (ah hM (by decide)))<|af (zl (y:=jy) (ah Bt (by decide)))<|af (λh=>(zl (y:=[]) (c7 hs (Nat.zero_le 0) (by decide)) h).trans (congrArg (λs=>some (MV.str s)) (cM _))) aa
  sub:=af (qR hc (ah zq (by decide))) (by
   show ∀e∈cond (decide (i< v.length - 1)) _ _,_
   by_cases q:i< v.length - 1
   ·rw [decide_eq_true q]
    refine af (qR ?_ (ah (Nat.succ_le_succ zq) (by decide))) aa
    rw [← List.getElem?_drop,hd]
    cases r with
    |nil=>have hlen:=congrArg List.length hd;rw [List.length_drop] at hlen;exact absurd q (by simp at hlen;lia)
    |cons _ _=>rfl
   ·rw [decide_eq_false q];exact aa)
  wG:=aa
  bi:=af (jn rfl)<|af (jn rfl)<|af (jn rfl) aa
  join:=aa
  room:=af (show (T.d.map MV.str).length+1000< az from Nat.lt_of_le_of_lt (fE (ah (Nat.le_of_eq (cL ..)) (ah hL.d hn)) 1000) (by decide)) aa
  aug:=af (dS (c7 hl sY (by decide)))<|af (dS (y:=jy) (c7 hle (bf 1) (by decide)))<|af (dS (y:=jy) (c7 hl (bf 1) (by decide)))<|af (dS (y:=[c]) (c7 hl (bf 1) (by decide)))<|af (dS (y:=[c]) (c7 Bt (bf 1) (by decide)))<|af (dS (y:=[c]) (c7 hs (bf 1) (by decide))) aa
  starts:=aa
  st:=aa
  call:=aa
  ev:=af (λk hk=>by
   have K:Holds L2.prog (VT W M v aI aE T i c (A7 (c::r)) os) {sub:=[(X 10,X 14,tn c)]}:=⟨aa,aa,aa,af (qR hc (ah zq (by decide))) aa,aa,aa,aa,aa,aa,aa,aa,aa,aa⟩
   exact su K (aj (kgt es) (hA c (List.mem_of_getElem? hc))) hk) aa}
omit hv hA in
theorem Ro{n i c:Nat}{es:Bool}{r:List Nat}{T:Tx}(h:T.sz≤n):(IU W M v.length i es T r c).sz≤n+130:=by
 have hq:∀(T:Tx) (m:Nat) (b:Bool),T.sz≤m→(Kf M T b).sz≤m+104:=λT m b hT=>by have h1:((T.put jy).nl M).sz≤m+1+2+100:=ah (Nat.le_of_eq Tx.yX) (Nat.add_le_add (fE (dU hT (bf 1)) 2) hM);exact ah (dU h1 (m:=1) (by cases b<;>decide)) (by lia)
 unfold IU U4 Kg
 cases (eu c).isEmpty with
 |true=>
  show (Tx.put _ [c]).sz≤_
  cases bN v.length i&&(es||Nat.beq c 32)&&decide (W< (T.l.length:Nat)) with
  |true=>exact ah (dU (hq T n _ h) (bf 1)) (by show n+104+1≤_;lia)
  |false=>exact ah (dU h (bf 1)) (by show n+1≤_;lia)
 |false=>
  have he:=dU h (sY (c:=c));show Tx.sz (cond (bN v.length i&&decide (W< ((T.put (eu c)).l.length:Nat) - 1)) _ _)≤_
  cases bN v.length i&&decide (W< (((T.put (eu c)).l.length:Nat):Int) - 1) with
  |true=>exact ah (hq _ (n+4) _ he) (by lia)
  |false=>exact ah he (by lia)
theorem EU:∀(r:List Nat) (i:Nat) (T:Tx) (n:Nat) (es:Bool) (ia a b:Option MV),v.drop i=r→fY aE T n→n+130 * r.length≤big→
  fY aE (vA W M v.length i es T r) (n+130 * r.length)∧∃Fq i' a' b',∀k,40≤k→bT (E L2.prog k) (.aH 5) (BB Nh) (BA i r.length) (Jq W M v es ia a b) (hP aI aE T)=some (.next,Jq W M v Fq i' a' b',hP aI aE (vA W M v.length i es T r))
 |[],i,T,n,es,ia,a,b,_,hL,_=>⟨hL,es,ia,a,b,λk hk=>rfl⟩
 |c::r,i,T,n,es,ia,a,b,hd,hL,hn=>by
  have mT:n≤big:=ah (bI _ _) hn;have K:=K68 hM hv hA (aI:=aI) (W:=W) (es:=es) (os:=λj=>cond (Nat.beq j 0) a b) hL mT hd
  have e1:=λk (hk:40≤k)=>jd K (k68 (zp W v.length i T c (c::r)) es) hk
  have hT:aQ (VT W M v aI aE T i c (A7 (c::r)) λj=>cond (Nat.beq j 0) a b) (sP [] 2 (Ni (zp W v.length i T c (c::r)) es))=hP aI aE (IU W M v.length i es T (c::r) c):=by
   unfold IU U4 Kg Ni zp bN
   cases (eu c).isEmpty with
   |true=>
    show aQ _ (sP [] 2 (cond (decide (0< i)&&decide (i< v.length - 1)&&(es||Nat.beq c 32)&&decide (W< (T.l.length:Nat))) _ _))=hP aI aE (Tx.put (cond (decide (0< i)&&decide (i< v.length - 1)&&(es||Nat.beq c 32)&&decide (W< (T.l.length:Nat))) _ _) [c])
    cases decide (0< i)&&decide (i< v.length - 1)&&(es||Nat.beq c 32)&&decide (W< (T.l.length:Nat)) with
    |false=>rfl
    |true=>cases Nat.beq c 32 with
     |true=>
      show _=hP aI aE ((((T.put jy).nl M).put jy).put [c])
      rw [Tx.dO,u6, ← cU];rfl
     |false=>
      show _=hP aI aE ((((T.put jy).nl M).put []).put [c])
      rw [Tx.dO,u6];rfl
   |false=>
    show aQ _ (sP [] 2 (cond (decide (0< i)&&decide (i< v.length - 1)&&decide (W< ((T.l++eu c).length:Nat) - 1)) _ _))=hP aI aE (cond (decide (0< i)&&decide (i< v.length - 1)&&decide (W< ((T.l++eu c).length:Nat) - 1)) _ _)
    cases decide (0< i)&&decide (i< v.length - 1)&&decide (W< (((T.l++eu c).length:Nat):Int) - 1) with
    |false=>rfl
    |true=>cases Nat.beq (A7 (c::r)) 32 with
     |true=>
      show _=hP aI aE (((((T.put (eu c)).put jy)).nl M).put jy)
      rw [u6];rfl
     |false=>
      show _=hP aI aE (((((T.put (eu c)).put jy)).nl M).put [])
      rw [u6,cM];rfl
  have zo:fY aE (IU W M v.length i es T (c::r) c) (n+130):=⟨ah hL.ev (bI _ _),Ro hM hL.sz⟩;have hd2:v.drop (i+1)=r:=by rw [← List.drop_drop,hd];rfl
  obtain ⟨g1,Fq,i',a',b',g2⟩:=EU r (i+1) _ (n+130) (!(eu c).isEmpty) (some (.int (i:Nat))) (some (.str (eu c))) (some (.bool (bN v.length i))) hd2 zo (ah (Nat.le_of_eq (sQ n 130 r.length)) hn);refine ⟨⟨ah g1.ev (Nat.le_of_eq (sQ n 130 r.length)),ah g1.sz (Nat.le_of_eq (sQ n 130 r.length))⟩,Fq,i',a',b',λk hk=>?_⟩
  rw [List.length_cons,lK,iS (l1:=Jq W M v (!(eu c).isEmpty) (some (.int (i:Nat))) (some (.str (eu c))) (some (.bool (bN v.length i)))) (h1:=hP aI aE (IU W M v.length i es T (c::r) c)) (f:=.next) (by rw [← hT];exact e1 k hk)]
  exact g2 k hk
end
noncomputable def Rq(es:Bool):JQ:={n:=50,s:=Nh,l:=N9 false .u .u .u,h:=sP [] 2 [X 30],l':=N9 es (.o 0) (.o 1) (.o 2),h':=sP [] 3 [X 31]}
theorem c68:(bools.all λes=>cX L2.prog {aug:=[(.Add,X 0,.str [34],X 30),(.Add,X 31,.str [34],X 32)],st:=[Rq es]} 60 68 [X 10,.obj 2,X 12,X 13] (sP [] 2 [X 0]) .none (sP [] 3 [X 32]))=true:=by kernel_rfl
noncomputable def xE(W:Int)(M:Nat)(v:List Nat)(T:Tx):Tx:=(vA W M v.length 0 false (T.put [34]) v).put [34]
theorem Nj{W:Int}{M:Nat}{v:List Nat}(hM:M≤100)(hv:v.length≤100)(hA:∀c∈v,c∈xe){aI aE:List MV}{T:Tx}{n:Nat}(hL:fY aE T n)(hn:n+(2+130 * v.length)≤big):fY aE (xE W M v T) (n+(2+130 * v.length))∧∀k,60≤k→(E L2.prog k).ca 68 [.str v,.obj 2,.int (M:Nat),.int W] (hP aI aE T)=some (.none,hP aI aE (xE W M v T)):=by
 have ES:fY aE (T.put [34]) (n+1):=⟨Nat.le_succ_of_le hL.ev,dU hL.sz (bf 1)⟩;obtain ⟨g1,es,i',a',b',g2⟩:=EU (W:=W) hM hv hA (aI:=aI) v 0 (T.put [34]) (n+1) false none none none rfl ES (ah (by lia) hn)
 have zo:fY aE (xE W M v T) (n+(2+130 * v.length)):=⟨ah g1.ev (by lia),ah (dU g1.sz (bf 1)) (by lia)⟩
 have hl:T.l.length≤big:=ah hL.l (ah (bI _ _) hn);refine ⟨zo,λk hk=>?_⟩
 have K:Holds L2.prog (R [.str T.l,.none,.none,.none,.none,.none,.none,.none,.none,.none,.str v,.none,.int (M:Nat),.int W,.none,.none,.none,.none,.none,.none,.none,.none,.none,.none,.none,.none,.none,.none,.none,.none,.str (T.l++[34]),.str (vA W M v.length 0 false (T.put [34]) v).l,.str ((vA W M v.length 0 false (T.put [34]) v).l++[34])] [aI,aE,T.d.map MV.str,(vA W M v.length 0 false (T.put [34]) v).d.map MV.str] λj=>[i',a',b'].getD j none) {aug:=[(.Add,X 0,.str [34],X 30),(.Add,X 31,.str [34],X 32)],st:=[Rq es]}:=
  ⟨aa,aa,aa,aa,aa,aa,aa,aa,af (dS (y:=[34]) (c7 hl (bf 1) (by decide))) (af (dS (y:=[34]) (c7 (ah g1.l (ah (by lia) hn)) (bf 1) (by decide))) aa),aa,af (λk hk=>by
   have it:dB (E L2.prog k) (.range [.call (.av (.bi .len)) [.aH 0] [] []]) (Jq W M v false none none none) (hP aI aE (T.put [34]))=some (.items (BA 0 v.length),hP aI aE (T.put [34])):=by
    obtain ⟨j,rfl⟩:=Nat.exists_eq_add_of_le' (show 50≤k from hk)
    have hs:aK (v.length:Int)=true:=aN (ah hv (by decide))
    show ((if aK (v.length:Int)=true then some (It.items (cY 0 (v.length:Int))) else none)).map _=_
    rw [if_pos hs,sU];rfl
   exact mC it (g2 k (ah (show 40≤50 by decide) hk))) aa,aa,aa⟩
 exact fR K (aj c68 (ak es)) hk
noncomputable def mE(tb:List (List Nat))(r:Nat):List (Nat×List Nat):=(List.range (2+r % 4)).map λi=>(EF r i,nN tb r i)
noncomputable def i5:List Nat:=[0,1,2,3,4]
noncomputable def Xw(r:Nat):List (Operator×MV×MV×MV):=(.Mod,X 10,.int 4,.int ((r % 4:Nat):Int))::(.FloorDiv,X 10,.int 2,X 30)::(i5.map λi=>(.Add,X 10,.int ((3 * i:Nat):Int),X (20+i)))++(i5.map λi=>(.Mod,X (20+i),.int 7,.int (((r+3 * i) % 7:Nat):Int)))++(i5.map λi=>(.Add,X 30,.int (i:Nat),X (31+i)))++(i5.map λi=>(.Mod,X (31+i),.int 4,.int (((r / 2+i) % 4:Nat):Int)))
noncomputable def Kd.tb:Kd→List (List Nat)
 |.dq=>cz
 |_=>aF
noncomputable def Kd.q:Kd→Bool
 |.sq=>true
 |_=>false
noncomputable def SW(kd:Kd)(r:Nat):gr:=match kd with
 |.dq=>{n:=60,f:=68,as:=[.str (txt cz r),.obj 2,X 12,X 13],h:=sP [mq (txt cz r) kd.s] 2 [X 0],r:=.none,h':=sP [mq (txt cz r) kd.s] 3 [X 1]}
 |_=>{n:=60,f:=67,as:=[EO (mE aF r),Jp (mE aF r),.str (qs kd.q),.obj 2,X 12,X 13],h:=sP [mq (txt aF r) kd.s] 2 [X 0],r:=.none,h':=sP [mq (txt aF r) kd.s] 3 [X 1]}
noncomputable def EV(kd:Kd)(r:Nat):Bool:=cX L2.prog {bin:=Xw r,room:=[1],call:=[SW kd r]} 80 69 [X 10,kd.s,.obj 2,X 12,X 13,.obj 1] (sP [] 2 [X 0]) .none (sP [mq (fy kd r) kd.s] 3 [X 1])
theorem VU:(res.all (EV .pl))=true:=by kernel_rfl
theorem VV:(res.all (EV .sq))=true:=by kernel_rfl
theorem VW:(res.all (EV .dq))=true:=by kernel_rfl
theorem fH{n m k:Nat}(hm:0< m)(hb:m≤1000000000)(h:n % m=k)(H:Hp):binOp .Mod (.int n) (.int m) H=some (.int k):=by
 show (if (decide ((0:Int)< (m:Int))&&aK (m:Int))=true then some (MV.int ((n:Int) % (m:Int))) else none).or _=_
 rw [aN hb,decide_eq_true (show (0:Int)< (m:Int) by lia), ← h];rfl
theorem zu{n m k:Nat}(hm:0< m)(hb:m≤1000000000)(h:n / m=k)(H:Hp):binOp .FloorDiv (.int n) (.int m) H=some (.int k):=by
 show (if (decide ((0:Int)< (m:Int))&&aK (m:Int))=true then some (MV.int ((n:Int) / (m:Int))) else none)=_
 rw [aN hb,decide_eq_true (show (0:Int)< (m:Int) by lia), ← h];rfl
theorem vf{W:Int}{M:Nat}{q:List Nat}:∀(r:List (Nat×List Nat)) (i:Nat) (T:Tx),sV W M q (i+1) T r=r.foldl (kU W M q) T
 |[],i,T=>rfl
 |p::r,i,T=>vf r (i+1) (kU W M q T p)
theorem Jr{tb:List (List Nat)}{r:Nat}:mE tb r=(EF r 0,nN tb r 0)::jS tb r:=by unfold mE jS;rw [show 2+r % 4=(1+r % 4)+1 by lia,List.range_succ_eq_map,List.map_cons,List.map_map];rfl
theorem fill_eq{W:Int}{M r:Nat}{q:Bool}{T:Tx}:u7 W M q (mE aF r) T=((jS aF r).foldl (kU W M (qs q)) ((T.put (qs q)).put (dbl (qs q) (nN aF r 0)))).put (qs q):=by
 unfold u7;rw [Jr];show Tx.put (sV W M (qs q) 1 ((T.put (qs q)).put (dbl (qs q) (nN aF r 0))) (jS aF r)) _=_
 rw [vf]
theorem Nk:(res.all λr=>(mE aF r).all λp=>Nat.ble p.1 2&&Nat.ble p.2.length 10)=true:=by kernel_rfl
theorem qc{tb:List (List Nat)}{r:Nat}:(mE tb r).length=2+r % 4:=by unfold mE;rw [cL,List.length_range]
theorem EW{W:Int}{M:Nat}(hM:M≤100)(q:Bool){r:Nat}(hr:r< 56):VP W M q (mE aF r):=⟨hM,λp hp=>ao (aj (aj Nk (eS hr)) hp) λa b=>⟨c8 a,c8 b⟩,by rw [qc];lia⟩
noncomputable def Xx(kd:Kd)(r M:Nat)(W:Int):List MV:=match kd with
 |.dq=>[.str (txt cz r),.obj 2,.int (M:Nat),.int W]
 |_=>[EO (mE aF r),Jp (mE aF r),.str (qs kd.q),.obj 2,.int (M:Nat),.int W]
theorem Rr{ρ:d7}{p:List (Nat×List Nat)}:(EO p).I ρ=EO p:=congrArg MV.lst ((bC _).trans (by rw [List.map_map];rfl))
theorem Rt{ρ:d7}{p:List (Nat×List Nat)}:(Jp p).I ρ=Jp p:=congrArg MV.lst ((bC _).trans (by rw [List.map_map];rfl))
theorem VX{ρ:d7}{M r:Nat}{W:Int}{kd:Kd}(FG:ρ.v 12=.int (M:Nat))(Xy:ρ.v 13=.int W):MV.Is ρ (SW kd r).as=Xx kd r M W:=by
 cases kd<;>first
  |(show [MV.str _,.obj 2,ρ.v 12,ρ.v 13]=_;rw [FG,Xy];rfl)
  |(show [(EO _).I ρ,(Jp _).I ρ,MV.str _,.obj 2,ρ.v 12,ρ.v 13]=_;rw [Rr,Rt,FG,Xy];rfl)
theorem Nl{W:Int}{M:Nat}(hM:M≤100)(kd:Kd)(Bx:kd.fl=0){m:Nat}(hm:m≤10000){aI aE:List MV}{T:Tx}{n:Nat}(hL:fY aE T n)(hn:n+4000≤big):fY (aE++[mq (fy kd (m % 56)) kd.s]) (iz kd W M (m % 56) T) (n+4000)∧∀k,80≤k→(E L2.prog k).ca 69 [.int (m:Nat),kd.s,.obj 2,.int (M:Nat),.int W,.obj 1] (hP aI aE T)=some (.none,hP aI (aE++[mq (fy kd (m % 56)) kd.s]) (iz kd W M (m % 56) T)):=by
 have hr:m % 56< 56:=Nat.mod_lt _ (by decide)
 have ES:fY (aE++[mq (fy kd (m % 56)) kd.s]) T (n+1):=⟨by rw [aM];exact Nat.succ_le_succ hL.ev,Nat.le_succ_of_le hL.sz⟩
 have hlen:∀kd:Kd,(fy kd (m % 56)).length≤28:=λkd=>by
  cases kd with
  |dq=>exact (j5 (aj VJ (eS hr))).len.2
  |_=>exact ao (aj Xr (eS hr)) λa _=>(j5 a).len.2
 have hc:fY (aE++[mq (fy kd (m % 56)) kd.s]) (iz kd W M (m % 56) T) (n+4000)∧∀k,60≤k→(E L2.prog k).ca (SW kd (m % 56)).f (Xx kd (m % 56) M W) (hP aI (aE++[mq (fy kd (m % 56)) kd.s]) T)=some (.none,hP aI (aE++[mq (fy kd (m % 56)) kd.s]) (iz kd W M (m % 56) T)):=by
  have fin:∀{T':Tx} {c:Nat},fY (aE++[mq (fy kd (m % 56)) kd.s]) T' (n+1+c)→c≤3900→fY (aE++[mq (fy kd (m % 56)) kd.s]) T' (n+4000):=λh hc=>⟨ah h.ev (by lia),ah h.sz (by lia)⟩
  have hb:∀c,c≤3900→n+1+c≤big:=λc hc=>ah (by lia) hn
  cases kd with
  |dq=>
   have hv:=j5 (aj VJ (eS hr));have Kr:2+130 * (txt cz (m % 56)).length≤3900:=ah (bx (Nat.mul_le_mul_left 130 hv.len.2) 2) (by decide)
   have h:=Nj (W:=W) hM (ah hv.len.2 (by decide)) hv.a (aI:=aI) ES (hb _ Kr)
   exact ⟨fin h.1 Kr,h.2⟩
  |pl=>
   have Kr:2+130 * (mE aF (m % 56)).length≤3900:=by rw [qc];lia
   have h:=ER (EW (W:=W) hM false hr) (aI:=aI) ES (hb _ Kr);rw [fill_eq,show (((jS aF (m % 56)).foldl (kU W M (qs false)) ((T.put (qs false)).put (dbl (qs false) (nN aF (m % 56) 0)))).put (qs false))=iz .pl W M (m % 56) T from cR.trans (congrArg (λt:Tx=>(jS aF (m % 56)).foldl (kU W M []) (t.put (dbl [] (nN aF (m % 56) 0)))) cR)] at h
   exact ⟨fin h.1 Kr,h.2⟩
  |pf=>cases Bx
  |sq=>
   have Kr:2+130 * (mE aF (m % 56)).length≤3900:=by rw [qc];lia
   have h:=ER (EW (W:=W) hM true hr) (aI:=aI) ES (hb _ Kr);rw [fill_eq] at h;exact ⟨fin h.1 Kr,h.2⟩
 refine ⟨hc.1,λk hk=>?_⟩
 have hm9:m+12≤1000000000:=ah (fE hm 12) (by decide)
 have fA:∀i,3 * i≤12→∀H,binOp .Add (.int (m:Nat)) (.int ((3 * i:Nat):Int)) H=some (.int ((m+3 * i:Nat):Int)):=λi hi H=>iQ rfl (ah (bx hi m) hm9) H
 have fB:∀i,∀H,binOp .Mod (.int ((m+3 * i:Nat):Int)) (.int ((7:Nat):Int)) H=some (.int (((m % 56+3 * i) % 7:Nat):Int)):=λi H=>fH (by decide) (by decide) (by lia) H
 have fC:∀i,i≤4→∀H,binOp .Add (.int ((m / 2:Nat):Int)) (.int (i:Nat)) H=some (.int ((m / 2+i:Nat):Int)):=λi hi H=>iQ rfl (by lia) H
 have fD:∀i,∀H,binOp .Mod (.int ((m / 2+i:Nat):Int)) (.int ((4:Nat):Int)) H=some (.int (((m % 56 / 2+i) % 4:Nat):Int)):=λi H=>fH (by decide) (by decide) (by lia) H
 have K:Holds L2.prog (R [.str T.l,.str (iz kd W M (m % 56) T).l,.none,.none,.none,.none,.none,.none,.none,.none,.int (m:Nat),.none,.int (M:Nat),.int W,.none,.none,.none,.none,.none,.none,
   .int ((m+3 * 0:Nat):Int),.int ((m+3 * 1:Nat):Int),.int ((m+3 * 2:Nat):Int),.int ((m+3 * 3:Nat):Int),.int ((m+3 * 4:Nat):Int),.none,.none,.none,.none,.none,.int ((m / 2:Nat):Int),.int ((m / 2+0:Nat):Int),.int ((m / 2+1:Nat):Int),.int ((m / 2+2:Nat):Int),.int ((m / 2+3:Nat):Int),.int ((m / 2+4:Nat):Int)] [aI,aE,T.d.map MV.str,(iz kd W M (m % 56) T).d.map MV.str] λ_=>none) {bin:=Xw (m % 56),room:=[1],call:=[SW kd (m % 56)]}:=
  ⟨aa,aa,List.forall_mem_append.mpr ⟨List.forall_mem_append.mpr ⟨List.forall_mem_append.mpr ⟨af (fH (by decide) (by decide) (by lia))<|af (zu (by decide) (by decide) rfl)<|af (fA 0 (by decide))<|af (fA 1 (by decide))<|af (fA 2 (by decide))<|af (fA 3 (by decide))<|af (fA 4 (by decide)) aa,
   af (fB 0)<|af (fB 1)<|af (fB 2)<|af (fB 3)<|af (fB 4) aa⟩,af (fC 0 (by decide))<|af (fC 1 (by decide))<|af (fC 2 (by decide))<|af (fC 3 (by decide))<|af (fC 4 (by decide)) aa⟩,af (fD 0)<|af (fD 1)<|af (fD 2)<|af (fD 3)<|af (fD 4) aa⟩,
   aa,aa,aa,aa,af (xj (ah hL.ev (ah (bI _ _) hn))) aa,aa,aa,aa,aa,af (λk hk=>by
    rw [VX (M:=M) (W:=W) rfl rfl]
    cases kd with
    |pf=>cases Bx
    |_=>exact hc.2 k hk) aa⟩
 cases kd with
 |pl=>exact fR K (aj VU (eS hr)) hk
 |pf=>cases Bx
 |sq=>exact fR K (aj VV (eS hr)) hk
 |dq=>exact fR K (aj VW (eS hr)) hk
noncomputable def EX:aA:=L2.WR.body.getD 4 .pass
noncomputable def Nm:List Nat:=[97,98,99,100,101,102,103,104,105,106]
noncomputable def nameOf(n:Nat):List Nat:=(List.replicate (1+n / 2 % 4) Nm).flatten
noncomputable def fX(n i:Nat):Fi:=cond (Nat.beq ((n+i) % 3) 0) (.wd (aF.getD ((n+i) % 7) [])) (.al (nameOf n))
theorem Ks(n i:Nat):(fX n i).Ok:=by
 unfold fX
 cases Nat.beq ((n+i) % 3) 0 with
 |true=>
  have h:∀j< 7,aF.getD j []∈aF:=by decide
  exact h _ (Nat.mod_lt _ (by decide))
 |false=>
  have h:∀j< 4,(List.replicate (1+j) Nm).flatten∈uX:=by decide
  exact h _ (Nat.mod_lt _ (by decide))
noncomputable def wV:MV:=.lst (aF.map .str)
structure Oa where
 nz:Bool
 br:Bool
 m:Bool
 wd:Bool
noncomputable def Ru(m:Bool)(i:SL):aV:=[.v (X 10),.v (.obj 2),.v (X 12),.v (X 13),.v (.obj 1),.v (.bool m),.v (X 15),i]
noncomputable def EY(b:Oa):MV:=cond b.br (X 5) (cond b.nz (X 6) (X 0))
noncomputable def Rv(b:Oa):MV:=cond b.m (X 7) (EY b)
noncomputable def Xz(b:Oa):Facts:={o6:=[(X 14,b.nz)],cmp:=[(.Eq,X 19,.int 0,b.wd),(.Gt,X 4,X 13,b.br)],sub:=[(wV,X 20,X 17)],bin:=[(.Add,X 10,X 14,X 18),(.Mod,X 18,.int 3,X 19),(.Mod,X 18,.int 7,X 20),(.Add,.str [42],X 15,X 16),(.Mult,.str [32],X 12,X 5)],bi:=[(.len,cond b.nz (X 2) (X 0),X 4)],aug:=[(.Add,cond b.nz (X 0) (X 1),.str [44],cond b.nz (X 2) (X 11)),(.Add,cond (b.nz&& !b.br) (X 2) (X 1),.str [32],cond (b.nz&& !b.br) (X 6) (X 3)),(.Add,cond b.m (EY b) (X 1),.str [107,58,32],cond b.m (X 7) (X 9)),(.Add,Rv b,cond b.wd (X 17) (X 16),X 8)],room:=[1,2]}
noncomputable def Js(b:Oa):List MV:=cond b.m [FF] []++[cond b.wd (.d8 9 [.none,.none,.tup [.bool true,.bool true],X 17,.none,.none,.none]) (.d8 8 [X 15,.none,.none])]
noncomputable def Rw(b:Oa):Bool:=kj L2.prog (Xz b) 50 (BB EX) (Ru b.m (.v (X 14))) (sP [] 2 [X 0]) .next (Ru b.m (.v (X 14))) (sP (Js b) 2 (cond b.br [cond b.nz (X 2) (X 0),X 8] [X 8]))
theorem k70:(bools.all λnz=>bools.all λbr=>bools.all λm=>bools.all λwd=>Rw ⟨nz,br,m,wd⟩)=true:=by kernel_rfl
structure XA where
 T0:Tx
 T2:Tx
 T3:Tx
 T4:Tx
noncomputable def sZ(W:Int)(P n:Nat)(m:Bool)(i:Nat)(T:Tx):XA:=⟨xw (Nat.beq i 0) T,(nL W P (Nat.beq i 0) T).put (sep (Nat.beq i 0||n5 W (Nat.beq i 0) T)),((nL W P (Nat.beq i 0) T).put (sep (Nat.beq i 0||n5 W (Nat.beq i 0) T))).put (kc m),FJ m W P (Nat.beq i 0) (fX n i) T⟩
noncomputable def BC(W:Int)(n:Nat)(m:Bool)(i:Nat)(T:Tx):Oa:=⟨!Nat.beq i 0,n5 W (Nat.beq i 0) T,m,Nat.beq ((n+i) % 3) 0⟩
noncomputable def BD(W:Int)(P n:Nat)(aI aE:List MV)(T:Tx)(i:Nat)(t:XA):d7:=R [.str T.l,.str [],.str t.T0.l,.str [32],.int (t.T0.l.length:Nat),.str (dN P),.str t.T2.l,.str t.T3.l,.str t.T4.l,.str [107,58,32],.int (n:Nat),.str [44],.int (P:Nat),.int W,.int (i:Nat),.str (nameOf n),.str (42::nameOf n),.str (aF.getD ((n+i) % 7) []),.int ((n+i:Nat):Int),.int (((n+i) % 3:Nat):Int),.int (((n+i) % 7:Nat):Int)] [aI,aE,T.d.map MV.str] λ_=>none
theorem EZ:∀j< 7,(aF.getD j []).length≤10:=by decide
theorem zv(n:Nat):(nameOf n).length≤40:=by
 have h:∀j< 4,(List.replicate (1+j) Nm).flatten.length≤40:=by decide
 exact h _ (Nat.mod_lt _ (by decide))
theorem Ku(n i:Nat):(fX n i).tx.length≤41:=by
 unfold fX
 cases Nat.beq ((n+i) % 3) 0 with
 |true=>exact ah (EZ _ (Nat.mod_lt _ (by decide))) (by decide)
 |false=>exact Nat.succ_le_succ (zv n)
section
variable {W:Int}{P n:Nat}(hP:P≤100)(hn:n≤10000){m:Bool}{aI aE:List MV}{T:Tx}{i:Nat}
theorem E0:(EY (BC W n m i T)).I (BD W P n aI aE T i (sZ W P n m i T))=.str (sZ W P n m i T).T2.l:=by
 unfold BC sZ EY nL
 cases hb:n5 W (Nat.beq i 0) T with
 |true=>
  show MV.str (dN P)=MV.str (dN P++sep (Nat.beq i 0||true))
  rw [Bool.or_true];exact congrArg MV.str (cM _).symm
 |false=>
  cases h:Nat.beq i 0 with
  |true=>exact congrArg MV.str (cM _).symm
  |false=>rfl
theorem Nn:(Rv (BC W n m i T)).I (BD W P n aI aE T i (sZ W P n m i T))=.str (sZ W P n m i T).T3.l:=by
 cases m with
 |true=>rfl
 |false=>exact E0.trans (congrArg MV.str (cM _).symm)
include hP hn in
theorem K70{N:Nat}(hi:i≤100)(hL:fY aE T N)(hN:N+500≤big):Holds L2.prog (BD W P n aI aE T i (sZ W P n m i T)) (Xz (BC W n m i T)):=by
 have hl:T.l.length≤big:=ah hL.l (ah (bI _ _) hN);have h0:(xw (Nat.beq i 0) T).l.length≤N+1:=by
  cases Nat.beq i 0 with
  |true=>exact Nat.le_succ_of_le hL.l
  |false=>exact ah Tx.sA (dU hL.sz (bf 1))
 have h1:(nL W P (Nat.beq i 0) T).l.length≤N+101:=by
  unfold nL
  cases n5 W (Nat.beq i 0) T with
  |true=>exact ah (Nat.le_of_eq cG) (ah hP (ah (by decide) (Nat.le_add_left 101 N)))
  |false=>exact ah h0 (bx (by decide) N)
 have h2:(sZ W P n m i T).T2.l.length≤N+102:=ah (Nat.le_of_eq aM) (show _≤(N+101)+1 from Nat.add_le_add h1 xq)
 have h3:(sZ W P n m i T).T3.l.length≤N+105:=ah (Nat.le_of_eq aM) (show _≤(N+102)+3 from Nat.add_le_add h2 (by cases m<;>decide))
 have hb:∀{k c:Nat},k≤N+200→c≤50→k+c≤1000000:=λhk hc=>ah (Nat.add_le_add hk hc) (ah (by lia) (ah hN (by decide)))
 exact {
  o6:=af (λh=>congrArg (λb=>some !b) (by
   show _=Nat.beq i 0
   cases h:Nat.beq i 0 with
   |true=>rw [bQ h];rfl
   |false=>exact decide_eq_false λe=>Nat.ne_of_beq_eq_false h (Int.ofNat_inj.mp e))) aa
  cmp:=af (A6 (b:=0) (by
   show _=Nat.beq ((n+i) % 3) 0
   cases h:Nat.beq ((n+i) % 3) 0 with
   |true=>exact decide_eq_true (bQ h)
   |false=>exact decide_eq_false (Nat.ne_of_beq_eq_false h)))<|af kq aa
  bin:=af (iQ rfl (ah (Nat.add_le_add hn hi) (by decide)))<|af (fH (m:=3) (by decide) (by decide) rfl)<|af (fH (m:=7) (by decide) (by decide) rfl)<|af (zl (x:=[42]) (ah (Nat.succ_le_succ (zv n)) (by decide)))<|af (lH (ah hP (by decide))) aa
  sub:=af (qV (l:=aF.map .str) (by
   have h:∀j< 7,(aF.map MV.str)[j]? =some (.str (aF.getD j [])):=by
    intro j hj
    match j,hj with
    |0,_|1,_|2,_|3,_|4,_|5,_|6,_=>rfl
   exact h _ (Nat.mod_lt _ (by decide))) (ah (Nat.le_of_lt (Nat.mod_lt _ (by decide))) (by decide))) aa
  wG:=aa
  bi:=af (λH=>by
   show iB L2.prog .len [(cond (!Nat.beq i 0) (X 2) (X 0)).I _] H=_
   cases h:Nat.beq i 0 with
   |true=>refine (jn (s:=T.l) rfl H).trans ?_;show _=some (MV.int ((xw (Nat.beq i 0) T).l.length:Nat));rw [h];rfl
   |false=>exact jn rfl H) aa
  join:=aa
  room:=af (xj (ah hL.ev (ah (bI _ _) hN)))<|af (show (T.d.map MV.str).length+1000< az from Nat.lt_of_le_of_lt (fE (ah (Nat.le_of_eq (cL ..)) (ah hL.d (ah (bI _ _) hN))) 1000) (by decide)) aa
  aug:=af (λH=>by
   show eF .Add ((cond (!Nat.beq i 0) (X 0) (X 1)).I _) (.str [44]) H=some ((cond (!Nat.beq i 0) (X 2) (X 11)).I _)
   cases h:Nat.beq i 0 with
   |true=>rfl
   |false=>refine (dS (x:=T.l) (y:=[44]) (c7 hl (bf 1) (by decide)) H).trans ?_;show _=some (MV.str (xw (Nat.beq i 0) T).l);rw [h];rfl)<|af (λH=>by
   show eF .Add ((cond (!Nat.beq i 0&& !n5 W (Nat.beq i 0) T) (X 2) (X 1)).I _) (.str [32]) H=some ((cond (!Nat.beq i 0&& !n5 W (Nat.beq i 0) T) (X 6) (X 3)).I _)
   cases h: !Nat.beq i 0&& !n5 W (Nat.beq i 0) T with
   |false=>rfl
   |true=>
    obtain ⟨ha,zM⟩:=aZ.mp h;have ha:=(Bool.not_eq_true' _).mp ha;have zM:=(Bool.not_eq_true' _).mp zM;refine (dS (x:=(xw (Nat.beq i 0) T).l) (y:=[32]) (ah (Nat.le_of_eq aM) (hb (ah h0 (bx (by decide) N)) (by decide))) H).trans ?_
    show _=some (MV.str ((nL W P (Nat.beq i 0) T).l++sep (Nat.beq i 0||n5 W (Nat.beq i 0) T)))
    unfold nL;rw [zM,ha];rfl)<|af (λH=>by
   show eF .Add ((cond m (EY (BC W n m i T)) (X 1)).I _) (.str [107,58,32]) H=some ((cond m (X 7) (X 9)).I _)
   cases m with
   |false=>rfl
   |true=>exact (congrArg (eF .Add · _ H) E0).trans (dS (y:=[107,58,32]) (ah (Nat.le_of_eq aM) (hb (ah h2 (bx (by decide) N)) (by decide))) H))<|af (λH=>by
   have h:((cond (Nat.beq ((n+i) % 3) 0) (X 17) (X 16)).I (BD W P n aI aE T i (sZ W P n m i T)))=.str (fX n i).tx:=by
    unfold fX
    cases Nat.beq ((n+i) % 3) 0<;>rfl
   have e:(sZ W P n m i T).T4.l=(sZ W P n m i T).T3.l++(fX n i).tx:=(cU ..).symm;refine (congr (congrArg (λa b=>eF .Add a b H) Nn) h).trans ((dS (ah (Nat.le_of_eq aM) (hb (ah h3 (bx (by decide) N)) (ah (Ku n i) (by decide)))) H).trans (congrArg (λs=>some (MV.str s)) e.symm))) aa
  starts:=aa
  st:=aa
  ev:=aa
  call:=aa}
end
noncomputable def dP(n i c:Nat):List Fi:=(List.range' i c).map (fX n)
noncomputable def vg(W:Int)(P n:Nat)(m:Bool)(a:Option MV):Loc:=[some (.int (n:Nat)),some (.obj 2),some (.int (P:Nat)),some (.int W),some (.obj 1),some (.bool m),some (.str (nameOf n)),a]
section
variable {W:Int}{P n:Nat}(Rx:P≤100)(hn:n≤10000){m:Bool}{aI:List MV}
include Rx hn
theorem E1:∀(c i:Nat) (aE:List MV) (T:Tx) (N:Nat) (a:Option MV),i+c≤100→fY aE T N→N+200 * c+500≤big→
  fY (aE++(dP n i c).flatMap (tu m)) (By m W P (Nat.beq i 0) (dP n i c) T) (N+200 * c)∧∃a',∀k,50≤k→bT (E L2.prog k) (.aH 7) (BB EX) (BA i c) (vg W P n m a) (hP aI aE T)=some (.next,vg W P n m a',hP aI (aE++(dP n i c).flatMap (tu m)) (By m W P (Nat.beq i 0) (dP n i c) T))
 |0,i,aE,T,N,a,_,hL,_=>by
  show fY (aE++[]) T N∧∃a',∀k,50≤k→_=some (Fl.next,vg W P n m a',hP aI (aE++[]) T)
  rw [cM];exact ⟨hL,a,λk hk=>rfl⟩
 |c+1,i,aE,T,N,a,hi,hL,hN=>by
  have K:=K70 (W:=W) Rx hn (m:=m) (aI:=aI) (i:=i) (ah (bI _ _) hi) hL (ah (fE (bI N _) 500) hN);have e1:=λk (hk:50≤k)=>jd K (aj (aj (aj (aj k70 (ak (!Nat.beq i 0))) (ak (n5 W (Nat.beq i 0) T))) (ak m)) (ak (Nat.beq ((n+i) % 3) 0))) hk
  have hT:aQ (BD W P n aI aE T i (sZ W P n m i T)) (sP (Js (BC W n m i T)) 2 (cond (BC W n m i T).br [cond (BC W n m i T).nz (X 2) (X 0),X 8] [X 8]))=hP aI (aE++tu m (fX n i)) (FJ m W P (Nat.beq i 0) (fX n i) T):=by
   have C7:cat (BD W P n aI aE T i (sZ W P n m i T)) (some 1) (MV.Is (BD W P n aI aE T i (sZ W P n m i T)) (Js (BC W n m i T)))=aE++tu m (fX n i):=by
    rw [gh];refine congrArg (aE++·) ?_;unfold Js BC tu fX
    cases m<;>cases Nat.beq ((n+i) % 3) 0<;>rfl
   have hx0:(cond (!Nat.beq i 0) (X 2) (X 0)).I (BD W P n aI aE T i (sZ W P n m i T))=.str (xw (Nat.beq i 0) T).l:=by
    cases h:Nat.beq i 0 with
    |true=>rfl
    |false=>show MV.str (xw (Nat.beq i 0) T).l=_;rw [h]
   have VY:cat (BD W P n aI aE T i (sZ W P n m i T)) (some 2) (MV.Is (BD W P n aI aE T i (sZ W P n m i T)) (cond (BC W n m i T).br [cond (BC W n m i T).nz (X 2) (X 0),X 8] [X 8]))=gj (FJ m W P (Nat.beq i 0) (fX n i) T):=by
    rw [gh];show T.d.map MV.str++MV.Is (BD W P n aI aE T i (sZ W P n m i T)) (cond (n5 W (Nat.beq i 0) T) [cond (!Nat.beq i 0) (X 2) (X 0),X 8] [X 8])=(nL W P (Nat.beq i 0) T).d.map MV.str++[.str (FJ m W P (Nat.beq i 0) (fX n i) T).l]
    unfold nL;have hd:(xw (Nat.beq i 0) T).d=T.d:=by cases Nat.beq i 0<;>rfl
    cases n5 W (Nat.beq i 0) T with
    |false=>show _=(xw (Nat.beq i 0) T).d.map MV.str++_;rw [hd];rfl
    |true=>
     show _=((xw (Nat.beq i 0) T).d++[(xw (Nat.beq i 0) T).l]).map MV.str++_
     rw [hd,List.map_append,cU];refine congrArg (T.d.map MV.str++·) ?_;show [(cond (!Nat.beq i 0) (X 2) (X 0)).I (BD W P n aI aE T i (sZ W P n m i T)),MV.str (FJ m W P (Nat.beq i 0) (fX n i) T).l]=_
     rw [hx0];rfl
   show [iW.list aI,.list (cat _ (some 1) _),.list (cat _ (some 2) _)]=_
   rw [C7,VY];rfl
  have zo:fY (aE++tu m (fX n i)) (FJ m W P (Nat.beq i 0) (fX n i) T) (N+200):=by
   refine ⟨?_,?_⟩
   ·rw [aM]
    exact Nat.add_le_add hL.ev (show (kE m++[(fX n i).ev]).length≤200 by cases m<;>exact c8 rfl)
   ·have h0:(xw (Nat.beq i 0) T).sz≤N+1:=by
     cases Nat.beq i 0 with
     |true=>exact Nat.le_succ_of_le hL.sz
     |false=>exact dU hL.sz (bf 1)
    have h1:(nL W P (Nat.beq i 0) T).sz≤N+103:=by
     unfold nL
     cases n5 W (Nat.beq i 0) T with
     |true=>exact ah (Nat.le_of_eq Tx.yX) (show _≤(N+1)+2+100 from Nat.add_le_add (fE h0 2) Rx)
     |false=>exact ah h0 (bx (by decide) N)
    have h3:(kc m++(fX n i).tx).length≤44:=ah (Nat.le_of_eq aM) (show _≤3+41 from Nat.add_le_add (by cases m<;>decide) (Ku n i))
    exact ah (dU (dU h1 xq) h3) (show N+148≤N+200 from bx (by decide) N)
  obtain ⟨g1,a',g2⟩:=E1 c (i+1) _ _ (N+200) (some (.int (i:Nat))) (ah (Nat.le_of_eq (Nat.add_right_comm i 1 c)) hi) zo (ah (Nat.le_of_eq (congrArg (·+500) (sQ N 200 c))) hN);have ei:dP n i (c+1)=fX n i::dP n (i+1) c:=rfl;rw [ei,List.flatMap_cons, ← cU];show fY _ (By m W P false (dP n (i+1) c) (FJ m W P (Nat.beq i 0) (fX n i) T)) _∧_
  refine ⟨⟨ah g1.ev (Nat.le_of_eq (sQ N 200 c)),ah g1.sz (Nat.le_of_eq (sQ N 200 c))⟩,a',λk hk=>?_⟩
  rw [lK,iS (l1:=vg W P n m (some (.int (i:Nat)))) (h1:=hP aI (aE++tu m (fX n i)) (FJ m W P (Nat.beq i 0) (fX n i) T)) (f:=.next) (by rw [← hT];exact e1 k hk)]
  exact g2 k hk
end
noncomputable def cnt(n:Nat)(m:Bool):Nat:=cond m (2+n % 11 % 2) (3+n % 11 % 3)
noncomputable def Jt:ai:=match EX with
 |.dW _ (.range [e]) _=>e
 |_=>.bE .none
noncomputable def odd(n:Nat):Bool:=Nat.beq (n % 2) 1
theorem VZ(i:Nat):(bools.all λm=>uK L2.prog {bin:=[(.Mod,X 10,.int 11,X 41),(.Mod,X 41,.int (cond m 2 3),X 42),(.Add,.int (cond m 2 3),X 42,X 40)]} 30 Jt (Ru m .u) (sP [] 2 []) (X 40) (sP [] 2 []))=true:=by kernel_rfl
noncomputable def vj(m:Bool):List Nat:=cond m [123] [91]
noncomputable def Ry(ei:Nat)(ep:List MV)(pi:Nat)(pg:List MV):aS:=[.list (some 0) [],.list (some ei) ep,.list (some pi) pg]
noncomputable def RA(m:Bool):JQ:={n:=60,s:=EX,l:=Ru m .u,h:=Ry 1 [cK m true] 2 [X 46],l':=Ru m (.o 0),h':=Ry 4 [] 3 [X 47]}
theorem c70:(bools.all λm=>cX L2.prog {bin:=[(.Mod,X 10,.int 2,.int (cond m 1 0)),(.FloorDiv,X 10,.int 2,X 43),(.Mod,X 43,.int 4,X 44),(.Add,.int 1,X 44,X 45),(.Mult,.str Nm,X 45,X 15)],aug:=[(.Add,X 0,.str (vj m),X 46),(.Add,X 47,.str (nK m),X 48)],room:=[1,4],st:=[RA m]} 80 70 [X 10,.obj 2,X 12,X 13,.obj 1] (Ry 1 [] 2 [X 0]) .none (Ry 4 [nj m] 3 [X 48]))=true:=by kernel_rfl
theorem RB{c:Nat}(h:c≤4)(H:Hp):binOp .Mult (.str Nm) (.int (c:Nat)) H=some (.str (List.replicate c Nm).flatten):=by
 match c,h with
 |0,_|1,_|2,_|3,_|4,_=>rfl
noncomputable def kC(W:Int)(P n:Nat)(T:Tx):Tx:=(By (odd n) W P true (dP n 0 (cnt n (odd n))) (T.put (vj (odd n)))).put (nK (odd n))
noncomputable def qW(n:Nat):List MV:=cK (odd n) true::((dP n 0 (cnt n (odd n))).flatMap (tu (odd n))++[nj (odd n)])
theorem Np{W:Int}{P n:Nat}(Rx:P≤100)(hn:n≤10000){aI aE:List MV}{T:Tx}{N:Nat}(hL:fY aE T N)(hN:N+2000≤big):fY (aE++qW n) (kC W P n T) (N+1200)∧∀k,80≤k→(E L2.prog k).ca 70 [.int (n:Nat),.obj 2,.int (P:Nat),.int W,.obj 1] (hP aI aE T)=some (.none,hP aI (aE++qW n) (kC W P n T)):=by
 have hc:cnt n (odd n)≤5:=by unfold cnt;cases odd n<;>(show _+_≤5)<;>lia
 have Jv:N+1+200 * cnt n (odd n)≤N+1001:=Nat.add_assoc N 1 _▸bx (ah (bx (Nat.mul_le_mul_left 200 hc) 1) (by decide)) N
 have FG:N+1+200 * cnt n (odd n)≤big:=ah Jv (ah (bx (by decide) N) hN)
 have ES:fY (aE++[cK (odd n) true]) (T.put (vj (odd n))) (N+1):=⟨by rw [aM];exact Nat.succ_le_succ hL.ev,dU hL.sz (by cases odd n<;>decide)⟩
 obtain ⟨g1,a',g2⟩:=E1 (W:=W) Rx hn (m:=odd n) (aI:=aI) (cnt n (odd n)) 0 (aE++[cK (odd n) true]) (T.put (vj (odd n))) (N+1) none (ah (Nat.le_of_eq (Nat.zero_add _)) (ah hc (by decide))) ES (ah (fE Jv 500) (ah (bx (by decide:1501≤2000) N) hN))
 have he:(aE++[cK (odd n) true])++(dP n 0 (cnt n (odd n))).flatMap (tu (odd n))++[nj (odd n)]=aE++qW n:=by unfold qW;rw [cU,cU];rfl
 have hT:(By (odd n) W P (Nat.beq 0 0) (dP n 0 (cnt n (odd n))) (T.put (vj (odd n)))).put (nK (odd n))=kC W P n T:=rfl;refine ⟨⟨?_,?_⟩,λk hk=>?_⟩
 ·rw [← he,aM]
  exact ah (Nat.succ_le_succ (ah g1.ev Jv)) (bx (by decide:1002≤1200) N)
 ·rw [← hT]
  exact ah (dU (m:=1) (ah g1.sz Jv) (by cases odd n<;>decide)) (bx (by decide:1002≤1200) N)
 have hl:T.l.length≤big:=ah hL.l (ah (bI _ _) hN);have FI:(cond (odd n) 1 0:Nat)=n % 2:=by unfold odd;rcases Nat.mod_two_eq_zero_or_one n with h|h<;>rw [h]<;>rfl
 have hh:∀ρ:d7,ρ.l 0=aI→ρ.l 1=aE→ρ.l 2=T.d.map MV.str→ρ.v 46=.str (T.l++vj (odd n))→aQ ρ (Ry 1 [cK (odd n) true] 2 [X 46])=hP aI (aE++[cK (odd n) true]) (T.put (vj (odd n))):=λρ a b c d=>by
  show [iW.list (ρ.l 0),.list (ρ.l 1++[(cK (odd n) true).I ρ]),.list (ρ.l 2++[ρ.v 46])]=_
  rw [(xA _ _).2,a,b,c,d];rfl
 have K:Holds L2.prog (R [.str T.l,.none,.none,.none,.none,.none,.none,.none,.none,.none,.int (n:Nat),.none,.int (P:Nat),.int W,.none,.str (nameOf n),.none,.none,.none,.none,.none,.none,.none,.none,.none,.none,.none,.none,.none,.none,.none,.none,.none,.none,.none,.none,.none,.none,.none,.none,
   .int (cnt n (odd n):Nat),.int ((n % 11:Nat):Int),.int ((n % 11 % cond (odd n) 2 3:Nat):Int),.int ((n / 2:Nat):Int),.int ((n / 2 % 4:Nat):Int),.int ((1+n / 2 % 4:Nat):Int),.str (T.l++vj (odd n)),.str (By (odd n) W P true (dP n 0 (cnt n (odd n))) (T.put (vj (odd n)))).l,.str ((By (odd n) W P true (dP n 0 (cnt n (odd n))) (T.put (vj (odd n)))).l++nK (odd n))] [aI,aE,T.d.map MV.str,(By (odd n) W P true (dP n 0 (cnt n (odd n))) (T.put (vj (odd n)))).d.map MV.str,(aE++[cK (odd n) true])++(dP n 0 (cnt n (odd n))).flatMap (tu (odd n))] λ_=>a') {bin:=[(.Mod,X 10,.int 2,.int (cond (odd n) 1 0)),(.FloorDiv,X 10,.int 2,X 43),(.Mod,X 43,.int 4,X 44),(.Add,.int 1,X 44,X 45),(.Mult,.str Nm,X 45,X 15)],aug:=[(.Add,X 0,.str (vj (odd n)),X 46),(.Add,X 47,.str (nK (odd n)),X 48)],room:=[1,4],st:=[RA (odd n)]}:=
  ⟨aa,aa,af (λH=>(fH (m:=2) (by decide) (by decide) rfl H).trans (by rw [← FI];cases odd n<;>rfl))<|af (zu (m:=2) (by decide) (by decide) rfl)<|af (fH (m:=4) (by decide) (by decide) rfl)<|af (iQ (a:=1) rfl (by lia))<|af (RB (by lia)) aa,aa,aa,aa,aa,
   af (xj (ah hL.ev (ah (bI _ _) hN)))<|af (xj (ah g1.ev FG)) aa,
   af (dS (c7 hl (b:=1) (by cases odd n<;>decide) (by decide)))<|af (dS (c7 (ah g1.l FG) (b:=1) (by cases odd n<;>decide) (by decide))) aa,aa,af (λk hk=>by
    refine (congrArg (bU L2.prog (E L2.prog k) EX (vg W P n (odd n) none)) (hh _ rfl rfl rfl rfl)).trans ?_;have Nq:∀k,30≤k→(E L2.prog k).ev Jt (vg W P n (odd n) none) (hP aI (aE++[cK (odd n) true]) (T.put (vj (odd n))))=some (.int (cnt n (odd n):Nat),hP aI (aE++[cK (odd n) true]) (T.put (vj (odd n)))):=λk hk=>by
     have K2:Holds L2.prog (R [.none,.none,.none,.none,.none,.none,.none,.none,.none,.none,.int (n:Nat),.none,.int (P:Nat),.int W,.none,.str (nameOf n),.none,.none,.none,.none,.none,.none,.none,.none,.none,.none,.none,.none,.none,.none,.none,.none,.none,.none,.none,.none,.none,.none,.none,.none,
      .int (cnt n (odd n):Nat),.int ((n % 11:Nat):Int),.int ((n % 11 % cond (odd n) 2 3:Nat):Int)] [aI,aE++[cK (odd n) true],gj (T.put (vj (odd n)))] λ_=>none) {bin:=[(.Mod,X 10,.int 11,X 41),(.Mod,X 41,.int (cond (odd n) 2 3),X 42),(.Add,.int (cond (odd n) 2 3),X 42,X 40)]}:=by
      unfold cnt
      cases odd n with
      |true=>exact ⟨aa,aa,af (fH (m:=11) (by decide) (by decide) rfl)<|af (fH (m:=2) (by decide) (by decide) rfl)<|af (iQ (a:=2) rfl (by lia)) aa,aa,aa,aa,aa,aa,aa,aa,aa,aa,aa⟩
      |false=>exact ⟨aa,aa,af (fH (m:=11) (by decide) (by decide) rfl)<|af (fH (m:=3) (by decide) (by decide) rfl)<|af (iQ (a:=3) rfl (by lia)) aa,aa,aa,aa,aa,aa,aa,aa,aa,aa,aa⟩
     exact su K2 (aj (VZ 0) (ak (odd n))) hk
    have it:dB (E L2.prog k) (.range [Jt]) (vg W P n (odd n) none) (hP aI (aE++[cK (odd n) true]) (T.put (vj (odd n))))=some (.items (BA 0 (cnt n (odd n))),hP aI (aE++[cK (odd n) true]) (T.put (vj (odd n)))):=by
     have hs:aK (cnt n (odd n):Int)=true:=aN (ah hc (by decide))
     show (((E L2.prog k).ev Jt (vg W P n (odd n) none) _).bind λa=>some ([a.1],a.2)).bind (λvs=>(zP vs.1).map λi=>(i,vs.2))=_
     rw [Nq k (ah (show 30≤60 by decide) hk)]
     show ((if aK (cnt n (odd n):Int)=true then some (It.items (cY 0 (cnt n (odd n):Int))) else none)).map _=_
     rw [if_pos hs,sU];rfl
    exact mC it (g2 k (ah (show 50≤60 by decide) hk))) aa,aa,aa⟩
 have e:=fR K (aj c70 (ak (odd n))) hk;refine e.trans (congrArg (λz=>some (MV.none,z)) ?_)
 show [iW.list aI,.list (cat _ (some 4) (MV.Is _ [nj (odd n)])),.list (gj (kC W P n T))]=_
 rw [gh];show [iW.list aI,.list (((aE++[cK (odd n) true])++(dP n 0 (cnt n (odd n))).flatMap (tu (odd n)))++MV.Is _ [nj (odd n)]),.list (gj (kC W P n T))]=hP aI (aE++qW n) (kC W P n T)
 rw [show ∀ρ:d7,MV.Is ρ [nj (odd n)]=[nj (odd n)] from λρ=>by cases odd n<;>rfl,he];rfl
noncomputable def vm:aA:=L2.WS.body.getD 2 .pass
noncomputable def fz(t:List Nat):List MV:=t.map λa=>.int (a:Nat)
theorem s6{t:List Nat}{aE pg:List MV}{k:Nat}(hk:20≤k):(E L2.prog k).ca 65 [.obj 0] [.list (fz t),.list aE,.list pg]=some (.int (t.headD 0:Nat),[.list (fz t.tail),.list aE,.list pg]):=by obtain ⟨j,rfl⟩:=Nat.exists_eq_add_of_le' hk;cases t<;>rfl
structure xF where
 nz:Bool
 st:Bool
 m:Bool
 dp:Bool
 r5:Nat
 io:Bool
noncomputable def xF.nb(b:xF):Bool:=b.nz|| !b.st
noncomputable def SY(m:Bool)(i a b:SL):aV:=[.v (X 10),.v (X 11),.v (X 12),.v (X 13),.v (.obj 2),.v (X 15),.v (X 16),.v (.obj 0),.v (.obj 1),.v (.bool m),i,a,b]
noncomputable def mF(ti:Nat)(ei:Nat)(ep:List MV)(pi:Nat)(pg:List MV):aS:=[.list (some ti) [],.list (some ei) ep,.list (some pi) pg]
noncomputable def xF.pg(b:xF)(v:MV):List MV:=cond b.nb [X 0,v] [v]
noncomputable def C65(b:xF):gr:={n:=20,f:=65,as:=[.obj 0],h:=mF 0 1 (kE b.m) 2 (b.pg (X 1)),r:=X 21,h':=mF 5 1 (kE b.m) 2 (b.pg (X 1))}
noncomputable def V0(b:xF):gr:={n:=20,f:=65,as:=[.obj 0],h:=mF 5 1 (kE b.m) 2 (b.pg (X 1)),r:=X 25,h':=mF 7 1 (kE b.m) 2 (b.pg (X 1))}
noncomputable def kdOf(r5:Nat):Kd:=match r5 with
 |2=>.sq
 |3=>.dq
 |_=>.pl
noncomputable def iU(b:xF):gr:=cond (Nat.beq b.r5 0) {n:=80,f:=70,as:=[X 21,.obj 2,X 23,X 16,.obj 1],h:=mF 5 1 (kE b.m) 2 (b.pg (X 2)),r:=.none,h':=mF 5 6 [] 3 [X 3]} {n:=80,f:=69,as:=[X 21,(kdOf b.r5).s,.obj 2,X 23,X 16,.obj 1],h:=mF 5 1 (kE b.m) 2 (b.pg (X 2)),r:=.none,h':=mF 5 6 [] 3 [X 3]}
noncomputable def V1(b:xF):gr:={n:=150,f:=71,as:=[X 25,.bool false,cond b.m (cond b.io (X 23) (X 12)) (X 23),.bool (!b.m),.obj 2,X 15,X 16,.obj 0,.obj 1],h:=mF 7 1 (kE b.m) 2 (b.pg (cond b.m (X 1) (X 29))),r:=.none,h':=mF 8 6 [] 3 [X 3]}
noncomputable def xF.bN(b:xF):Bool:=Nat.beq b.r5 4&&b.dp
noncomputable def Nr(b:xF):Facts:={o6:=[(X 20,b.nz),(X 13,b.st),(X 11,b.dp)],bin:=[(.Mult,.str [32],X 12,X 24),(.Mod,X 21,.int 5,.int (b.r5:Nat)),(.Add,X 12,X 15,X 23),(.Mod,X 25,.int 2,.int (cond b.io 1 0)),(.Add,X 12,.int 0,X 12),(.Sub,X 15,.int 1,X 27),(.Mult,.str [32],X 27,X 28)],aug:=[(.Add,cond b.nb (X 24) (X 0),.str (sgn b.m),X 1),(.Add,X 1,.str [32],X 2),(.Add,X 1,X 28,X 29)],room:=[1,2],call:=C65 b::cond b.bN [V0 b,V1 b] [iU b]}
noncomputable def zw(b:xF):Bool:=kj L2.prog (Nr b) (cond b.bN 170 130) (BB vm) (SY b.m (.v (X 20)) (.o 0) (.o 1)) (mF 0 1 [] 2 [X 0]) .next (SY b.m (.v (X 20)) (.v (X 21)) (cond b.bN (.v (X 25)) (.o 1))) (mF (cond b.bN 8 5) 6 [] 3 [X 3])
theorem k71(dp io:Bool):(bools.all λnz=>bools.all λst=>bools.all λm=>[0,1,2,3].all λr5=>zw ⟨nz,st,m,dp,r5,io⟩)=true:=by kernel_rfl
theorem V2(io:Bool):(bools.all λnz=>bools.all λst=>bools.all λm=>zw ⟨nz,st,m,false,4,io⟩)=true:=by kernel_rfl
theorem V3:(bools.all λnz=>bools.all λst=>bools.all λm=>bools.all λio=>zw ⟨nz,st,m,true,4,io⟩)=true:=by kernel_rfl
theorem E2{b:xF}(h:b.r5< 5):zw b=true:=by
 obtain ⟨nz,st,m,dp,r5,io⟩:=b;have h:r5< 5:=h;have h4:r5=4∨r5∈[0,1,2,3]:=by simp only [bO,fF,or_false];lia
 rcases h4 with rfl|h4
 ·cases dp with
  |true=>exact aj (aj (aj (aj V3 (ak nz)) (ak st)) (ak m)) (ak io)
  |false=>exact aj (aj (aj (V2 io) (ak nz)) (ak st)) (ak m)
 ·exact aj (aj (aj (aj (k71 dp io) (ak nz)) (ak st)) (ak m)) h4
structure s7 where
 W:Int
 step:Nat
 n:Nat
 col:Nat
 fS:Bool
 deep:Bool
structure ny(z:s7):Prop where
 step:2≤z.step∧z.step≤9
 n:z.n≤10000
 col:z.col≤60
noncomputable def kW(z:s7)(i a b:Option MV):Loc:=[some (.int (z.n:Nat)),some (.bool z.deep),some (.int (z.col:Nat)),some (.bool z.fS),some (.obj 2),some (.int (z.step:Nat)),some (.int z.W),some (.obj 0),some (.obj 1),some (.bool (odd z.n)),i,a,b]
noncomputable def eW(z:s7)(i:Nat)(T:Tx):Tx:=cond (Nat.beq i 0&&z.fS) T (T.nl z.col)
noncomputable def jo(z:s7)(i mm bN:Nat):xF:=⟨!Nat.beq i 0,z.fS,odd z.n,z.deep,mm % 5,odd bN⟩
noncomputable def xG(z:s7)(t aE:List MV)(T:Tx)(i mm bN:Nat)(T3:Tx)(t1 t2 t3 iF:List MV)(a b:Option MV):d7:=
 R [.str T.l,.str ((eW z i T).put (sgn (odd z.n))).l,.str (((eW z i T).put (sgn (odd z.n))).put [32]).l,.str T3.l,.none,.none,.none,.none,.none,.none,
  .int (z.n:Nat),.bool z.deep,.int (z.col:Nat),.bool z.fS,.none,.int (z.step:Nat),.int z.W,.none,.none,.none,
  .int (i:Nat),.int (mm:Nat),.none,.int ((z.col+z.step:Nat):Int),.str (dN z.col),.int (bN:Nat),.none,.int ((z.step - 1:Nat):Int),.str (dN (z.step - 1)),.str (((eW z i T).put (sgn (odd z.n))).put (dN (z.step - 1))).l]
  [t,aE,T.d.map MV.str,T3.d.map MV.str,[],t1,iF,t2,t3] λj=>cond (Nat.beq j 0) a b
theorem Kv{z:s7}{i mm bN:Nat}:(jo z i mm bN).nb= !(Nat.beq i 0&&z.fS):=by
 show (!Nat.beq i 0|| !z.fS)=_
 cases Nat.beq i 0<;>cases z.fS<;>rfl
section
variable {z:s7}(Z:ny z){t aE:List MV}{T:Tx}{i mm bN:Nat}{T3:Tx}{t1 t2 t3 iF:List MV}{a b:Option MV}
theorem V4{v:MV}:cat (xG z t aE T i mm bN T3 t1 t2 t3 iF a b) (some 2) (MV.Is (xG z t aE T i mm bN T3 t1 t2 t3 iF a b) ((jo z i mm bN).pg v))=(eW z i T).d.map MV.str++[v.I (xG z t aE T i mm bN T3 t1 t2 t3 iF a b)]:=by
 rw [gh];unfold xF.pg eW;rw [Kv]
 cases Nat.beq i 0&&z.fS with
 |true=>rfl
 |false=>
  show T.d.map MV.str++[MV.str T.l,_]=(T.d++[T.l]).map MV.str++_
  rw [List.map_append,cU];rfl
theorem E3{N:Nat}(hc:z.col≤60)(h:T.sz≤N):(eW z i T).sz≤N+62:=by
 unfold eW
 cases Nat.beq i 0&&z.fS with
 |true=>exact ah h (bI _ _)
 |false=>exact ah (Nat.le_of_eq Tx.yX) (show _≤N+2+60 from Nat.add_le_add (fE h 2) hc)
include Z in
theorem K71{N:Nat}(hL:fY aE T N)(hN:N+500≤big)(hi:i≤100)(hm:mm≤10000)(IY:bN≤10000):Holds L2.prog (xG z t aE T i mm bN T3 t1 t2 t3 iF a b) {Nr (jo z i mm bN) with call:=[]}:=by
 have h1:((eW z i T).put (sgn (odd z.n))).l.length≤N+64:=ah Tx.sA (show _≤(N+62)+2 from dU (E3 Z.col hL.sz) (by cases odd z.n<;>decide))
 have XC:((eW z i T).put (sgn (odd z.n))).l.length≤big:=ah h1 (ah (by lia) hN)
 exact {
  o6:=af (λh=>congrArg (λb=>some !b) (by
   cases h:Nat.beq i 0 with
   |true=>rw [bQ h];rfl
   |false=>exact decide_eq_false λe=>Nat.ne_of_beq_eq_false h (Int.ofNat_inj.mp e)))<|af (λh=>rfl)<|af (λh=>rfl) aa
  cmp:=aa
  bin:=af (lH (ah Z.col (by decide)))<|af (fH (m:=5) (by decide) (by decide) rfl)<|af (iQ rfl (ah (Nat.add_le_add Z.col Z.step.2) (by decide)))<|af (λH=>(fH (m:=2) (by decide) (by decide) rfl H).trans (by
   show some (MV.int ((bN % 2:Nat):Int))=some (MV.I _ (MV.int (cond (odd bN) 1 0)))
   unfold odd;rcases Nat.mod_two_eq_zero_or_one bN with h|h<;>rw [h]<;>rfl))<|af (iQ (b:=0) rfl (ah Z.col (by decide)))<|af (qQ (b:=1) (Nat.add_sub_cancel' (ah (by decide) Z.step.1)) (ah Z.step.2 (by decide)))<|af (lH (ah (Nat.sub_le _ _) (ah Z.step.2 (by decide)))) aa
  sub:=aa
  wG:=aa
  bi:=aa
  join:=aa
  room:=af (xj (ah hL.ev (ah (bI _ _) hN)))<|af (show (T.d.map MV.str).length+1000< az from Nat.lt_of_le_of_lt (fE (ah (Nat.le_of_eq (cL ..)) (ah hL.d (ah (bI _ _) hN))) 1000) (by decide)) aa
  aug:=af (λH=>by
   have e:(cond (jo z i mm bN).nb (X 24) (X 0)).I (xG z t aE T i mm bN T3 t1 t2 t3 iF a b)=.str (eW z i T).l:=by
    rw [Kv];unfold eW
    cases Nat.beq i 0&&z.fS<;>rfl
   refine (congrArg (eF .Add · _ H) e).trans ((dS (y:=sgn (odd z.n)) (ah h1 (ah (by lia) (ah hN (by decide)))) H)))<|af (dS (y:=[32]) (c7 XC (bf 1) (by decide)))<|af (dS (y:=dN (z.step - 1)) (c7 XC (ah (Nat.le_of_eq cG) (ah (Nat.sub_le _ _) Z.step.2)) (by decide))) aa
  starts:=aa
  st:=aa
  ev:=aa
  call:=aa}
include Z in
theorem qX{N:Nat}(hL:fY aE T N)(hN:N+500≤big)(hi:i≤100)(hm:mm≤10000)(IY:bN≤10000)
  (U9:∀e∈(Nr (jo z i mm bN)).call,∀k,e.n≤k→(E L2.prog k).ca e.f (MV.Is (xG z t aE T i mm bN T3 t1 t2 t3 iF a b) e.as) (aQ (xG z t aE T i mm bN T3 t1 t2 t3 iF a b) e.h)=some (e.r.I (xG z t aE T i mm bN T3 t1 t2 t3 iF a b),aQ (xG z t aE T i mm bN T3 t1 t2 t3 iF a b) e.h')) {k:Nat} (hk:cond (jo z i mm bN).bN 170 130≤k):
  (E L2.prog k).ex (BB vm) (kW z (some (.int (i:Nat))) a b) (hP t aE T)=some (.next,kW z (some (.int (i:Nat))) (some (.int (mm:Nat))) (cond (jo z i mm bN).bN (some (.int (bN:Nat))) b),hP (cond (jo z i mm bN).bN t3 t1) iF T3):=by
 have K:=Holds.calls (F:={Nr (jo z i mm bN) with call:=[]}) (cs:=(Nr (jo z i mm bN)).call) (K71 (T3:=T3) (t:=t) (t1:=t1) (t2:=t2) (t3:=t3) (iF:=iF) (a:=a) (b:=b) Z hL hN hi hm IY) U9
 have e:=jd K (E2 (b:=jo z i mm bN) (Nat.mod_lt _ (by decide))) hk
 refine e.trans ?_
 cases h:(jo z i mm bN).bN<;>rfl
end
def kD(W:Int)(step d:Nat)(m:Bool)(a:Itm):Prop:=∀x:Cx,lI x→x.W=W→x.step=step→p9 x d m a
theorem NodeOk.two{x:Cx}{m:Bool}{e:MV}{es:List MV}{tx:Nat→Tx→Tx}(h:NodeOk x 1 m e es tx):NodeOk x 2 m e es tx:={h with run:=λp hp=>h.run p (ah (bx (Nat.mul_le_mul_right _ (by decide)) p) hp)}
noncomputable def E4(n:Nat):List MV:=(dP n 0 (cnt n (odd n))).flatMap (tu (odd n))++[nj (odd n)]
noncomputable def b8(W:Int)(step mm:Nat):Itm:=cond (Nat.beq (mm % 5) 0) ⟨cK (odd mm) true,E4 mm,λp T=>kC W (p+step) mm (T.put [32])⟩ ⟨mq (fy (kdOf (mm % 5)) (mm % 56)) (kdOf (mm % 5)).s,[],λp T=>iz (kdOf (mm % 5)) W (p+step) (mm % 56) (T.put [32])⟩
theorem Kw(r:Nat):(kdOf r).fl=0:=by unfold kdOf;split<;>rfl
theorem E5{m:Bool}:∀l:List Fi,(l.flatMap (tu m)).length≤2 * l.length
 |[]=>bf _
 |a::l=>by rw [List.flatMap_cons,aM,List.length_cons,Nat.mul_succ,Nat.add_comm];exact Nat.add_le_add (E5 l) (by cases m<;>exact c8 rfl)
theorem Nt(n:Nat)(m:Bool):cnt n m≤5:=by unfold cnt;cases m<;>(show _+_≤5)<;>lia
theorem leaf_len{W:Int}{step mm:Nat}{m:Bool}:(jv m (b8 W step mm)).length≤13:=by
 have hk:(kE m).length≤1:=by cases m<;>decide
 unfold jv;rw [aM,List.length_cons];have h:(b8 W step mm).es.length≤11:=by
  unfold b8
  cases Nat.beq (mm % 5) 0 with
  |false=>exact Nat.zero_le _
  |true=>
   show (E4 mm).length≤11
   unfold E4;rw [aM];have h1:=E5 (m:=odd mm) (dP mm 0 (cnt mm (odd mm)));have h2:(dP mm 0 (cnt mm (odd mm))).length≤5:=by unfold dP;rw [cL,List.length_range'];exact Nt _ _
   exact Nat.add_le_add (ah h1 (Nat.mul_le_mul_left 2 h2)) (bf 1)
 exact Nat.add_le_add hk (Nat.succ_le_succ h)
theorem E6{W:Int}{step mm:Nat}{m:Bool}:kD W step 1 m (b8 W step mm):=λx hx hW hs=>by
 subst hW;subst hs;unfold b8 p9
 cases Nat.beq (mm % 5) 0 with
 |false=>exact Bj hx (Nat.mod_lt _ (by decide)) _ (Kw _) m
 |true=>
  obtain ⟨c,hc⟩:∃c,cnt mm (odd mm)=c+1:=by
   unfold cnt
   cases odd mm with
   |true=>exact ⟨1+mm % 11 % 2,by show 2+_=_;lia⟩
   |false=>exact ⟨2+mm % 11 % 3,by show 3+_=_;lia⟩
  have h:=Bk hx (odd mm) (fX mm 0) (dP mm 1 c) (λa ha=>by
   rcases bO.mp ha with rfl|ha
   ·exact Ks _ _
   ·obtain ⟨j,_,rfl⟩:=List.mem_map.mp ha
    exact Ks _ _) m
  have e1:fX mm 0::dP mm 1 c=dP mm 0 (cnt mm (odd mm)):=by rw [hc];rfl
  rw [e1] at h;have e2:(λ(p:Nat) (T:Tx)=>(By (odd mm) x.W (p+x.step) true (dP mm 0 (cnt mm (odd mm))) (T.put (MW (odd mm)))).put (nK (odd mm)))=λp T=>kC x.W (p+x.step) mm (T.put [32]):=by
   funext p T
   unfold kC;rw [Tx.dO]
   cases odd mm<;>rfl
  rw [e2] at h;exact h
section
variable {z:s7}(Z:ny z){t:List Nat}{aE:List MV}{T:Tx}{i:Nat}{N:Nat}(hL:fY aE T N)(hi:i≤100)(ht:∀a∈t,a≤10000){a b:Option MV}
theorem V5{ρ:d7}{m:Bool}:MV.Is ρ (kE m)=kE m:=by cases m<;>rfl
theorem nA{tt:List MV}{mm bN ti:Nat}{T3:Tx}{t1 t2 t3 iF:List MV}{v:MV}{X':Tx}(hv:v.I (xG z tt aE T i mm bN T3 t1 t2 t3 iF a b)=.str X'.l)(hd:X'.d=(eW z i T).d):aQ (xG z tt aE T i mm bN T3 t1 t2 t3 iF a b) (mF ti 1 (kE (odd z.n)) 2 ((jo z i mm bN).pg v))=hP ((xG z tt aE T i mm bN T3 t1 t2 t3 iF a b).l ti) (aE++kE (odd z.n)) X':=by
 show [iW.list ((xG z tt aE T i mm bN T3 t1 t2 t3 iF a b).l ti),.list (cat _ (some 1) (MV.Is _ (kE (odd z.n)))),.list (cat _ (some 2) (MV.Is _ ((jo z i mm bN).pg v)))]=_
 rw [V4,gh,V5,hv];unfold hP gj;rw [hd];rfl
theorem nB(ht:∀a∈t,a≤10000):∀a∈t.tail,a≤10000:=λa ha=>ht a (List.mem_of_mem_tail ha)
theorem zx(ht:∀a∈t,a≤10000):t.headD 0≤10000:=by
 cases t with
 |nil=>exact Nat.zero_le _
 |cons c r=>exact ht c (b7 ..)
include Z hL hi ht
theorem qd(hN:N+4200≤big)(IY:(Nat.beq (t.headD 0 % 5) 4&&z.deep)=false):kD z.W z.step 1 (odd z.n) (b8 z.W z.step (t.headD 0))∧fY (aE++jv (odd z.n) (b8 z.W z.step (t.headD 0))) (qi (odd z.n) z.col (b8 z.W z.step (t.headD 0)) (eW z i T)) (N+4200)∧
  ∀k,130≤k→(E L2.prog k).ex (BB vm) (kW z (some (.int (i:Nat))) a b) (hP (fz t) aE T)=some (.next,kW z (some (.int (i:Nat))) (some (.int (t.headD 0:Nat))) b,hP (fz t.tail) (aE++jv (odd z.n) (b8 z.W z.step (t.headD 0))) (qi (odd z.n) z.col (b8 z.W z.step (t.headD 0)) (eW z i T))):=by
 have RE:=zx ht;generalize hm:t.headD 0=mm at *;have XD:z.col+z.step≤100:=ah (Nat.add_le_add Z.col Z.step.2) (by decide)
 have zo:fY (aE++kE (odd z.n)) (((eW z i T).put (sgn (odd z.n))).put [32]) (N+70):=⟨by rw [aM];exact Nat.add_le_add hL.ev (by cases odd z.n<;>decide),ah (dU (dU (E3 Z.col hL.sz) (m:=2) (by cases odd z.n<;>decide)) (bf 1)) (by show N+62+2+1≤_;lia)⟩
 have Ky:fY (aE++jv (odd z.n) (b8 z.W z.step mm)) (qi (odd z.n) z.col (b8 z.W z.step mm) (eW z i T)) (N+4200)∧∀k,80≤k→∀a b,(E L2.prog k).ca (iU (jo z i mm 0)).f (MV.Is (xG z (fz t) aE T i mm 0 (qi (odd z.n) z.col (b8 z.W z.step mm) (eW z i T)) (fz t.tail) [] [] (aE++jv (odd z.n) (b8 z.W z.step mm)) a b) (iU (jo z i mm 0)).as) (hP (fz t.tail) (aE++kE (odd z.n)) (((eW z i T).put (sgn (odd z.n))).put [32]))=some (.none,hP (fz t.tail) (aE++jv (odd z.n) (b8 z.W z.step mm)) (qi (odd z.n) z.col (b8 z.W z.step mm) (eW z i T))):=by
  have e0:∀L:List MV,(aE++kE (odd z.n))++L=aE++(kE (odd z.n)++L):=λL=>cU ..
  cases h0:Nat.beq (mm % 5) 0 with
  |true=>
   have h:=Np (W:=z.W) XD RE (aI:=fz t.tail) zo (ah (by lia) hN)
   have e1:aE++jv (odd z.n) (b8 z.W z.step mm)=(aE++kE (odd z.n))++qW mm:=by unfold jv b8;rw [h0,e0];rfl
   have e2:qi (odd z.n) z.col (b8 z.W z.step mm) (eW z i T)=kC z.W (z.col+z.step) mm (((eW z i T).put (sgn (odd z.n))).put [32]):=by unfold qi b8;rw [h0];rfl
   rw [e1,e2];refine ⟨⟨ah h.1.ev (by lia),ah h.1.sz (by lia)⟩,λk hk a b=>?_⟩
   unfold iU;rw [show Nat.beq (jo z i mm 0).r5 0=true from h0]
   exact h.2 k hk
  |false=>
   have h:=Nl (W:=z.W) XD (kdOf (mm % 5)) (Kw _) RE (aI:=fz t.tail) zo (ah (by lia) hN)
   have e1:aE++jv (odd z.n) (b8 z.W z.step mm)=(aE++kE (odd z.n))++[mq (fy (kdOf (mm % 5)) (mm % 56)) (kdOf (mm % 5)).s]:=by unfold jv b8;rw [h0,e0];rfl
   have e2:qi (odd z.n) z.col (b8 z.W z.step mm) (eW z i T)=iz (kdOf (mm % 5)) z.W (z.col+z.step) (mm % 56) (((eW z i T).put (sgn (odd z.n))).put [32]):=by unfold qi b8;rw [h0];rfl
   rw [e1,e2];refine ⟨⟨ah h.1.ev (by lia),ah h.1.sz (by lia)⟩,λk hk a b=>?_⟩
   unfold iU;rw [show Nat.beq (jo z i mm 0).r5 0=false from h0]
   have hs:∀ρ:d7,(kdOf (mm % 5)).s.I ρ=(kdOf (mm % 5)).s:=λρ=>by cases kdOf (mm % 5)<;>rfl
   show (E L2.prog k).ca 69 [_,(kdOf (mm % 5)).s.I _,_,_,_,_] _=_
   rw [hs];exact h.2 k hk
 refine ⟨E6,Ky.1,λk hk=>?_⟩
 have hb:(jo z i mm 0).bN=false:=IY;have e:=qX (t:=fz t) (t1:=fz t.tail) (t2:=[]) (t3:=[]) (iF:=aE++jv (odd z.n) (b8 z.W z.step mm)) (T3:=qi (odd z.n) z.col (b8 z.W z.step mm) (eW z i T)) (a:=a) (b:=b) (mm:=mm) (bN:=0) Z hL (ah (by lia) hN) hi RE (Nat.zero_le _) (by
  unfold Nr;rw [hb];refine af (λk hk=>?_) (af (λk hk=>?_) aa)
  ·show (E L2.prog k).ca 65 [.obj 0] (aQ _ (mF 0 1 (kE (odd z.n)) 2 ((jo z i mm 0).pg (X 1))))=some (.int (mm:Nat),aQ _ (mF 5 1 (kE (odd z.n)) 2 ((jo z i mm 0).pg (X 1))))
   rw [nA (X':=(eW z i T).put (sgn (odd z.n))) rfl rfl,nA (X':=(eW z i T).put (sgn (odd z.n))) rfl rfl];have h:=s6 (t:=t) (aE:=aE++kE (odd z.n)) (pg:=gj ((eW z i T).put (sgn (odd z.n)))) hk;rw [hm] at h;exact h
  ·have hk:(iU (jo z i mm 0)).n≤k:=hk
   rw [show (iU (jo z i mm 0)).n=80 by unfold iU;cases Nat.beq (jo z i mm 0).r5 0<;>rfl] at hk
   have h:=Ky.2 k hk a b;have e1:(iU (jo z i mm 0)).h=mF 5 1 (kE (odd z.n)) 2 ((jo z i mm 0).pg (X 2)):=by unfold iU;cases Nat.beq (jo z i mm 0).r5 0<;>rfl
   have e2:(iU (jo z i mm 0)).h'=mF 5 6 [] 3 [X 3]∧(iU (jo z i mm 0)).r=.none:=by unfold iU;cases Nat.beq (jo z i mm 0).r5 0<;>exact ⟨rfl,rfl⟩
   rw [e1,e2.1,e2.2,nA (X':=((eW z i T).put (sgn (odd z.n))).put [32]) rfl rfl];exact h) (k:=k) (by rw [hb];exact hk)
 rw [hb] at e;exact e
end
noncomputable def qY(z:s7):List MV:=[.int (z.n:Nat),.bool z.deep,.int (z.col:Nat),.bool z.fS,.obj 2,.int (z.step:Nat),.int z.W,.obj 0,.obj 1]
def zy(deep:Bool)(cb d lv XE ce:Nat):Prop:=∀(z:s7),ny z→z.deep=deep→z.col≤cb→∀(t:List Nat) (aE:List MV) (T:Tx) (N:Nat),(∀a∈t,a≤10000)→fY aE T N→N+XE≤big→∃(i:Itm) (its:List Itm) (t':List Nat),(∀a∈i::its,kD z.W z.step d (odd z.n) a)∧(∀a∈t',a≤10000)∧(cS (odd z.n) (i::its)).length≤ce∧fY (aE++cK (odd z.n) false::cS (odd z.n) (i::its)) (j8 (odd z.n) z.col i its (eW z 0 T)) (N+XE)∧∀k,lv≤k→(E L2.prog k).ca 71 (qY z) (hP (fz t) aE T)=some (.none,hP (fz t') (aE++cK (odd z.n) false::cS (odd z.n) (i::its)) (j8 (odd z.n) z.col i its (eW z 0 T)))
def zz(z:s7)(d cr lv ce:Nat):Prop:=∀(t:List Nat) (aE:List MV) (T:Tx) (i N:Nat) (a b:Option MV),(∀a∈t,a≤10000)→i≤100→fY aE T N→N+cr≤big→∃(it:Itm) (t':List Nat) (a' b':Option MV),kD z.W z.step d (odd z.n) it∧(∀a∈t',a≤10000)∧(jv (odd z.n) it).length≤ce∧fY (aE++jv (odd z.n) it) (qi (odd z.n) z.col it (eW z i T)) (N+cr)∧∀k,lv≤k→(E L2.prog k).ex (BB vm) (kW z (some (.int (i:Nat))) a b) (hP (fz t) aE T)=some (.next,kW z (some (.int (i:Nat))) a' b',hP (fz t') (aE++jv (odd z.n) it) (qi (odd z.n) z.col it (eW z i T)))
theorem E7{z:s7}(Z:ny z)(hd:z.deep=false):zz z 1 4200 130 13:=λt aE T i N a b ht hi hL hN=>
 have h:=qd Z hL hi ht (a:=a) (b:=b) hN (by rw [hd,Bool.and_false])
 ⟨_,_,_,_,h.1,nB ht,leaf_len,h.2.1,h.2.2⟩
theorem kD.two{W:Int}{step:Nat}{m:Bool}{a:Itm}(h:kD W step 1 m a):kD W step 2 m a:=λx hx hW hs=>NodeOk.two (h x hx hW hs)
noncomputable def BE(z:s7)(bN:Nat):s7:=⟨z.W,z.step,bN,cond (odd z.n) (cond (odd bN) (z.col+z.step) z.col) (z.col+z.step), !odd z.n,false⟩
theorem zB{b:Bool}{x y n:Nat}(hx:x≤n)(hy:y≤n):cond b x y≤n:=match b with
 |true=>hx
 |false=>hy
theorem E8(H:zy false 60 1 150 8500 27){z:s7}(Z:ny z)(hd:z.deep=true)(hc:z.col≤40):zz z 2 8700 170 29:=λt aE T i N a b ht hi hL hN=>by
 cases h4:Nat.beq (t.headD 0 % 5) 4 with
 |false=>
  have h:=qd Z hL hi ht (a:=a) (b:=b) (ah (bx (by decide) N) hN) (by rw [h4];rfl)
  exact ⟨_,_,_,_,h.1.two,nB ht,ah leaf_len (by decide),⟨ah h.2.1.ev (bx (by decide) N),ah h.2.1.sz (bx (by decide) N)⟩,λk hk=>h.2.2 k (ah (by decide) hk)⟩
 |true=>
  have RE:=zx ht;have IY:=zx (nB ht);generalize hm:t.headD 0=mm at *;generalize hn:t.tail.headD 0=bN at *;have hb:(jo z i mm bN).bN=true:=by
   show (Nat.beq (mm % 5) 4&&z.deep)=true
   rw [h4,hd];rfl
  have RG:((eW z i T).put (sgn (odd z.n))).sz≤N+64:=show _≤(N+62)+2 from dU (E3 Z.col hL.sz) (by cases odd z.n<;>decide)
  have zo:fY (aE++kE (odd z.n)) (cond (odd z.n) ((eW z i T).put (sgn (odd z.n))) (((eW z i T).put (sgn (odd z.n))).put (dN (z.step - 1)))) (N+100):=by
   refine ⟨by rw [aM];exact Nat.add_le_add hL.ev (by cases odd z.n<;>decide),?_⟩
   revert RG
   cases odd z.n with
   |true=>exact λRG=>ah RG (bx (by decide) N)
   |false=>exact λRG=>ah (dU RG (m:=9) (ah (Nat.le_of_eq cG) (ah (Nat.sub_le _ _) Z.step.2))) (bx (by decide:73≤100) N)
  have Z':ny (BE z bN):=⟨Z.step,IY,by
   show cond (odd z.n) (cond (odd bN) (z.col+z.step) z.col) (z.col+z.step)≤60
   exact zB (zB (ah (Nat.add_le_add hc Z.step.2) (by decide)) (ah hc (by decide))) (ah (Nat.add_le_add hc Z.step.2) (by decide))⟩
  obtain ⟨i',its,t',g1,g2,g5,g3,g4⟩:=H (BE z bN) Z' rfl Z'.col t.tail.tail _ _ (N+100) (nB (nB ht)) zo (ah (bx (by decide:8600≤8700) N) hN)
  have eT:j8 (odd bN) (BE z bN).col i' its (eW (BE z bN) 0 (cond (odd z.n) ((eW z i T).put (sgn (odd z.n))) (((eW z i T).put (sgn (odd z.n))).put (dN (z.step - 1)))))=qi (odd z.n) z.col ⟨cK (odd bN) false,cS (odd bN) (i'::its),FN z.step (odd z.n) (odd bN) i' its⟩ (eW z i T):=by
   unfold qi FN eW BE
   cases odd z.n<;>rfl
  have eE:(aE++kE (odd z.n))++cK (odd bN) false::cS (odd bN) (i'::its)=aE++jv (odd z.n) ⟨cK (odd bN) false,cS (odd bN) (i'::its),FN z.step (odd z.n) (odd bN) i' its⟩:=cU ..;have g3:fY _ (j8 (odd bN) (BE z bN).col i' its _) _:=g3;have g4:∀k,150≤k→_=some (MV.none,hP _ ((aE++kE (odd z.n))++cK (odd bN) false::cS (odd bN) (i'::its)) (j8 (odd bN) (BE z bN).col i' its _)):=g4;rw [eT] at g3 g4;rw [show (aE++kE (odd z.n))++cK (odd (BE z bN).n) false::cS (odd (BE z bN).n) (i'::its)=_ from eE] at g3
  rw [eE] at g4;refine ⟨⟨cK (odd bN) false,cS (odd bN) (i'::its),FN z.step (odd z.n) (odd bN) i' its⟩,t',some (.int (mm:Nat)),some (.int (bN:Nat)),λx hx hW hs=>?_,g2,?_,⟨ah g3.ev (bx (by decide:8600≤8700) N),ah g3.sz (bx (by decide:8600≤8700) N)⟩,λk hk=>?_⟩
  ·have h:=Jk hx (mp:=odd z.n) (m:=odd bN) (i:=i') (its:=its) λa ha=>g1 a ha x hx hW hs
   rw [hs] at h;exact h
  ·have h:(jv (odd z.n) ⟨cK (odd bN) false,cS (odd bN) (i'::its),FN z.step (odd z.n) (odd bN) i' its⟩).length=(kE (odd z.n)).length+((cS (odd bN) (i'::its)).length+1):=aM
   rw [h];exact Nat.add_le_add (show (kE (odd z.n)).length≤1 by cases odd z.n<;>decide) (Nat.succ_le_succ g5)
  ·have e:=qX (t:=fz t) (t1:=fz t.tail) (t2:=fz t.tail.tail) (t3:=fz t') (iF:=aE++jv (odd z.n) ⟨cK (odd bN) false,cS (odd bN) (i'::its),FN z.step (odd z.n) (odd bN) i' its⟩) (T3:=qi (odd z.n) z.col ⟨cK (odd bN) false,cS (odd bN) (i'::its),FN z.step (odd z.n) (odd bN) i' its⟩ (eW z i T)) (a:=a) (b:=b) (mm:=mm) (bN:=bN) Z hL (ah (bx (by decide) N) hN) hi RE IY (by
    unfold Nr;rw [hb];refine af (λk hk=>?_) (af (λk hk=>?_) (af (λk hk=>?_) aa))
    ·show (E L2.prog k).ca 65 [.obj 0] (aQ _ (mF 0 1 (kE (odd z.n)) 2 ((jo z i mm bN).pg (X 1))))=some (.int (mm:Nat),aQ _ (mF 5 1 (kE (odd z.n)) 2 ((jo z i mm bN).pg (X 1))))
     rw [nA (X':=(eW z i T).put (sgn (odd z.n))) rfl rfl,nA (X':=(eW z i T).put (sgn (odd z.n))) rfl rfl];have h:=s6 (t:=t) (aE:=aE++kE (odd z.n)) (pg:=gj ((eW z i T).put (sgn (odd z.n)))) hk;rw [hm] at h;exact h
    ·show (E L2.prog k).ca 65 [.obj 0] (aQ _ (mF 5 1 (kE (odd z.n)) 2 ((jo z i mm bN).pg (X 1))))=some (.int (bN:Nat),aQ _ (mF 7 1 (kE (odd z.n)) 2 ((jo z i mm bN).pg (X 1))))
     rw [nA (X':=(eW z i T).put (sgn (odd z.n))) rfl rfl,nA (X':=(eW z i T).put (sgn (odd z.n))) rfl rfl];have h:=s6 (t:=t.tail) (aE:=aE++kE (odd z.n)) (pg:=gj ((eW z i T).put (sgn (odd z.n)))) hk;rw [hn] at h;exact h
    ·have h:=g4 k hk
     have hv:∀ρ:d7,ρ=xG z (fz t) aE T i mm bN (qi (odd z.n) z.col ⟨cK (odd bN) false,cS (odd bN) (i'::its),FN z.step (odd z.n) (odd bN) i' its⟩ (eW z i T)) (fz t.tail) (fz t.tail.tail) (fz t') (aE++jv (odd z.n) ⟨cK (odd bN) false,cS (odd bN) (i'::its),FN z.step (odd z.n) (odd bN) i' its⟩) a b→MV.Is ρ (V1 (jo z i mm bN)).as=qY (BE z bN)∧(cond (odd z.n) (X 1) (X 29)).I ρ=.str (cond (odd z.n) ((eW z i T).put (sgn (odd z.n))) (((eW z i T).put (sgn (odd z.n))).put (dN (z.step - 1)))).l:=λρ e=>by
      subst e;refine ⟨?_,?_⟩
      ·show [_,_,(cond (odd z.n) (cond (odd bN) (X 23) (X 12)) (X 23)).I _,MV.bool (!odd z.n),_,_,_,_,_]=qY (BE z bN)
       unfold qY BE
       cases odd z.n<;>cases odd bN<;>rfl
      ·cases h:odd z.n with
       |true=>show MV.str ((eW z i T).put (sgn (odd z.n))).l=_;rw [h];rfl
       |false=>show MV.str (((eW z i T).put (sgn (odd z.n))).put (dN (z.step - 1))).l=_;rw [h];rfl
     show (E L2.prog k).ca 71 (MV.Is _ (V1 (jo z i mm bN)).as) (aQ _ (mF 7 1 (kE (odd z.n)) 2 ((jo z i mm bN).pg (cond (odd z.n) (X 1) (X 29)))))=_
     rw [(hv _ rfl).1,nA (hv _ rfl).2 (by cases odd z.n<;>rfl)]
     exact h) (k:=k) (by rw [hb];exact hk)
   rw [hb] at e;exact e
noncomputable def RH(z:s7):Nat→List Itm→Tx→Tx
 |_,[],T=>T
 |i,a::r,T=>RH z (i+1) r (qi (odd z.n) z.col a (eW z i T))
theorem vp{z:s7}:∀(r:List Itm) (i:Nat) (T:Tx),RH z (i+1) r T=EJ (odd z.n) z.col r T
 |[],i,T=>rfl
 |a::r,i,T=>vp r (i+1) (qi (odd z.n) z.col a (T.nl z.col))
theorem E9{z:s7}{d cr lv ce:Nat}(H:zz z d cr lv ce):∀(c i:Nat) (t:List Nat) (aE:List MV) (T:Tx) (N:Nat) (ia a b:Option MV),(∀a∈t,a≤10000)→i+c≤100→fY aE T N→N+cr * c≤big→
  ∃(its:List Itm) (t':List Nat) (Ob a' b':Option MV),its.length=c∧(∀a∈its,kD z.W z.step d (odd z.n) a)∧(∀a∈t',a≤10000)∧(its.flatMap (jv (odd z.n))).length≤ce * c∧fY (aE++its.flatMap (jv (odd z.n))) (RH z i its T) (N+cr * c)∧∀k,lv≤k→bT (E L2.prog k) (.aH 10) (BB vm) (BA i c) (kW z ia a b) (hP (fz t) aE T)=some (.next,kW z Ob a' b',hP (fz t') (aE++its.flatMap (jv (odd z.n))) (RH z i its T))
 |0,i,t,aE,T,N,ia,a,b,ht,hi,hL,hN=>by
  refine ⟨[],t,ia,a,b,rfl,nofun,ht,bf _,?_,λk hk=>?_⟩
  ·rw [show aE++([]:List Itm).flatMap (jv (odd z.n))=aE from cM _];exact hL
  ·rw [show aE++([]:List Itm).flatMap (jv (odd z.n))=aE from cM _];rfl
 |c+1,i,t,aE,T,N,ia,a,b,ht,hi,hL,hN=>by
  have eN:N+cr+cr * c=N+cr * (c+1):=by rw [Nat.mul_succ,Nat.add_assoc,Nat.add_comm cr]
  obtain ⟨it,t1,a1,b1,g1,g2,g5,g3,g4⟩:=H t aE T i N a b ht (ah (bI _ _) hi) hL (ah (bx (Nat.le_mul_of_pos_right cr (Nat.succ_pos c)) N) hN);obtain ⟨its,t',Ob,a',b',f1,f2,f3,f6,f4,f5⟩:=E9 H c (i+1) t1 _ _ (N+cr) (some (.int (i:Nat))) a1 b1 g2 (ah (Nat.le_of_eq (Nat.add_right_comm i 1 c)) hi) g3 (ah (Nat.le_of_eq eN) hN);have e:(aE++jv (odd z.n) it)++its.flatMap (jv (odd z.n))=aE++(it::its).flatMap (jv (odd z.n)):=by rw [List.flatMap_cons,cU]
  rw [e] at f4 f5;refine ⟨it::its,t',Ob,a',b',congrArg (·+1) f1,λa ha=>?_,f3,(by rw [List.flatMap_cons,aM,Nat.mul_succ,Nat.add_comm];exact Nat.add_le_add f6 g5),eN▸f4,λk hk=>?_⟩
  ·rcases bO.mp ha with rfl|ha
   ·exact g1
   ·exact f2 a ha
  ·rw [lK,iS (t:=10) (l:=kW z ia a b) (l1:=kW z (some (.int (i:Nat))) a1 b1) (h1:=hP (fz t1) (aE++jv (odd z.n) it) (qi (odd z.n) z.col it (eW z i T))) (f:=.next) (g4 k hk)]
   exact f5 k hk
noncomputable def qe(n:Nat)(deep:Bool):Nat:=1+n / 2 % cond deep 3 2
noncomputable def Jw:ai:=match vm with
 |.dW _ (.range [e]) _=>e
 |_=>.bE .none
theorem V6:(bools.all λdp=>uK L2.prog {o6:=[(X 11,dp)],bin:=[(.FloorDiv,X 10,.int 2,X 31),(.Mod,X 31,.int (cond dp 3 2),X 32),(.Add,.int 1,X 32,X 33)]} 30 Jw [.v (X 10),.v (X 11),.o 0,.o 1,.o 2,.o 3,.o 4,.o 5,.o 6,.o 7,.o 8,.o 9,.o 10] (sP [] 2 []) (X 33) (sP [] 2 []))=true:=by kernel_rfl
noncomputable def RI(m dp:Bool):JQ:={n:=cond dp 170 130,s:=vm,l:=SY m .u .u .u,h:=mF 0 1 [cK m false] 2 [X 0],l':=SY m (.o 0) (.o 1) (.o 2),h':=mF 4 6 [] 3 [X 3]}
theorem c71:(bools.all λm=>bools.all λdp=>cX L2.prog {bin:=[(.Mod,X 10,.int 2,.int (cond m 1 0))],room:=[1,6],st:=[RI m dp]} (cond dp 190 150) 71 [X 10,X 11,X 12,X 13,.obj 2,X 15,X 16,.obj 0,.obj 1] (mF 0 1 [] 2 [X 0]) .none (mF 4 6 [nj m] 3 [X 3]))=true:=by kernel_rfl
theorem Fb{d cr cb ce:Nat}{dp:Bool}(hcr:cr≤9000)(HR:∀z,ny z→z.deep=dp→z.col≤cb→zz z d cr (cond dp 170 130) ce):zy dp cb d (cond dp 190 150) (cr * cond dp 3 2+100) (ce * cond dp 3 2+1):=λz Z XF hcb t aE T N ht hL hN=>by
 have RK:qe z.n dp≤cond dp 3 2:=ah (Nat.le_of_eq (Nat.add_comm 1 _)) (Nat.mod_lt _ (by cases dp<;>decide))
 obtain ⟨c,hc⟩:∃c,qe z.n dp=c+1:=⟨z.n / 2 % cond dp 3 2,Nat.add_comm _ _⟩;have hmul:cr * qe z.n dp≤cr * cond dp 3 2:=Nat.mul_le_mul_left cr RK;have XG:N+1+cr * qe z.n dp+1≤N+(cr * cond dp 3 2+100):=by rw [Nat.add_assoc N 1,Nat.add_assoc,Nat.add_comm 1];exact bx (Nat.add_le_add hmul (by decide:2≤100)) N
 have nT:=Nat.le_of_succ_le XG;have ES:fY (aE++[cK (odd z.n) false]) T (N+1):=⟨by rw [aM];exact Nat.succ_le_succ hL.ev,Nat.le_succ_of_le hL.sz⟩
 obtain ⟨its,t',Ob,a',b',f1,f2,f3,f6,f4,f5⟩:=E9 (HR z Z XF hcb) (qe z.n dp) 0 t _ T (N+1) none none none ht (ah (Nat.le_of_eq (Nat.zero_add _)) (ah RK (by cases dp<;>decide))) ES (ah nT hN)
 match its,f1,f2,f6,f4,f5 with
 |[],f1,_,_,_,_=>rw [hc] at f1;cases f1
 |i::its,f1,f2,f6,f4,f5=>
  have VY:RH z 0 (i::its) T=j8 (odd z.n) z.col i its (eW z 0 T):=vp its 0 _;rw [VY] at f4 f5;have hE:(aE++[cK (odd z.n) false])++(i::its).flatMap (jv (odd z.n))++[nj (odd z.n)]=aE++cK (odd z.n) false::cS (odd z.n) (i::its):=by unfold cS;rw [cU,cU];rfl
  refine ⟨i,its,t',f2,f3,(by unfold cS;rw [aM];exact Nat.succ_le_succ (ah f6 (Nat.mul_le_mul_left ce RK))),⟨?_,ah f4.sz nT⟩,λk hk=>?_⟩
  ·rw [← hE,aM]
   exact ah (Nat.succ_le_succ f4.ev) XG
  have FI:(cond (odd z.n) 1 0:Nat)=z.n % 2:=by unfold odd;rcases Nat.mod_two_eq_zero_or_one z.n with h|h<;>rw [h]<;>rfl
  have Nq:∀k,30≤k→(E L2.prog k).ev Jw (kW z none none none) (hP (fz t) (aE++[cK (odd z.n) false]) T)=some (.int (qe z.n dp:Nat),hP (fz t) (aE++[cK (odd z.n) false]) T):=λk hk=>by
   have K2:Holds L2.prog (R [.none,.none,.none,.none,.none,.none,.none,.none,.none,.none,.int (z.n:Nat),.bool z.deep,.none,.none,.none,.none,.none,.none,.none,.none,.none,.none,.none,.none,.none,.none,.none,.none,.none,.none,.none,.int ((z.n / 2:Nat):Int),.int ((z.n / 2 % cond dp 3 2:Nat):Int),.int (qe z.n dp:Nat)] [fz t,aE++[cK (odd z.n) false],gj T] λj=>((kW z none none none).drop 2).getD j none) {o6:=[(X 11,dp)],bin:=[(.FloorDiv,X 10,.int 2,X 31),(.Mod,X 31,.int (cond dp 3 2),X 32),(.Add,.int 1,X 32,X 33)]}:=by
    have hn:=Z.n;refine ⟨af (λh=>congrArg some XF) aa,aa,af (zu (m:=2) (by decide) (by decide) rfl)<|af ?_<|af (iQ (a:=1) rfl (ah RK (by cases dp<;>decide))) aa,aa,aa,aa,aa,aa,aa,aa,aa,aa,aa⟩
    cases dp with
    |true=>exact fH (m:=3) (by decide) (by decide) rfl
    |false=>exact fH (m:=2) (by decide) (by decide) rfl
   exact su K2 (aj V6 (ak dp)) hk
  have it:∀k,130≤k→dB (E L2.prog k) (.range [Jw]) (kW z none none none) (hP (fz t) (aE++[cK (odd z.n) false]) T)=some (.items (BA 0 (qe z.n dp)),hP (fz t) (aE++[cK (odd z.n) false]) T):=λk hk=>by
   have hs:aK (qe z.n dp:Int)=true:=aN (ah RK (by cases dp<;>decide))
   show (((E L2.prog k).ev Jw (kW z none none none) _).bind λa=>some ([a.1],a.2)).bind (λvs=>(zP vs.1).map λi=>(i,vs.2))=_
   rw [Nq k (ah (by decide) hk)]
   show ((if aK (qe z.n dp:Int)=true then some (It.items (cY 0 (qe z.n dp:Int))) else none)).map _=_
   rw [if_pos hs,sU];rfl
  have K:Holds L2.prog (R [.str T.l,.none,.none,.str (j8 (odd z.n) z.col i its (eW z 0 T)).l,.none,.none,.none,.none,.none,.none,.int (z.n:Nat),.bool z.deep,.int (z.col:Nat),.bool z.fS,.none,.int (z.step:Nat),.int z.W] [fz t,aE,T.d.map MV.str,(j8 (odd z.n) z.col i its (eW z 0 T)).d.map MV.str,fz t',[],(aE++[cK (odd z.n) false])++(i::its).flatMap (jv (odd z.n))] λj=>[Ob,a',b'].getD j none) {bin:=[(.Mod,X 10,.int 2,.int (cond (odd z.n) 1 0))],room:=[1,6],st:=[RI (odd z.n) dp]}:=
   ⟨aa,aa,af (λH=>(fH (m:=2) (by decide) (by decide) rfl H).trans (by rw [← FI];cases odd z.n<;>rfl)) aa,aa,aa,aa,aa,af (xj (ah hL.ev (ah (bI _ _) hN)))<|af (xj (ah f4.ev (ah nT hN))) aa,aa,aa,af (λk hk=>by
    have hk:cond dp 170 130≤k:=hk;have hh:aQ (R [.str T.l,.none,.none,.str (j8 (odd z.n) z.col i its (eW z 0 T)).l,.none,.none,.none,.none,.none,.none,.int (z.n:Nat),.bool z.deep,.int (z.col:Nat),.bool z.fS,.none,.int (z.step:Nat),.int z.W] [fz t,aE,T.d.map MV.str,(j8 (odd z.n) z.col i its (eW z 0 T)).d.map MV.str,fz t',[],(aE++[cK (odd z.n) false])++(i::its).flatMap (jv (odd z.n))] λj=>[Ob,a',b'].getD j none) (mF 0 1 [cK (odd z.n) false] 2 [X 0])=hP (fz t) (aE++[cK (odd z.n) false]) T:=by
     show [iW.list (fz t),.list (aE++[(cK (odd z.n) false).I _]),.list (T.d.map MV.str++[.str T.l])]=_
     rw [(xA _ _).2];rfl
    refine (congrArg (bU L2.prog (E L2.prog k) vm (kW z none none none)) hh).trans ?_;exact mC (it k (ah (by cases dp<;>decide) hk)) (f5 k hk)) aa,aa,aa⟩
  have e:=fR K (aj (aj c71 (ak (odd z.n))) (ak dp)) hk;refine e.trans (congrArg (λh=>some (MV.none,h)) ?_)
  show [iW.list (fz t'),.list (((aE++[cK (odd z.n) false])++(i::its).flatMap (jv (odd z.n)))++[(nj (odd z.n)).I _]),.list (gj (j8 (odd z.n) z.col i its (eW z 0 T)))]=_
  rw [(EI _).2,hE];rfl
theorem Nv:zy false 60 1 150 8500 27:=Fb (dp:=false) (cr:=4200) (ce:=13) (by decide) λz Z hd _=>E7 Z hd
theorem Fc:zy true 40 2 190 26200 88:=Fb (dp:=true) (cr:=8700) (ce:=29) (by decide) λz Z hd hc=>E8 Nv Z hd hc
theorem Fd{P:Prog}{b:List aA}{l':Loc}{h':Hp}:∀(a:List aA) (k:Nat) (l:Loc) (h:Hp),(E P (k+1+a.length)).ex a l h=some (.next,l',h')→(E P (k+1+a.length)).ex (a++b) l h=(E P (k+1)).ex b l' h'
 |[],k,l,h,e=>by
  have e:some (Fl.next,l,h)=some (.next,l',h'):=e
  cases e;rfl
 |s::a,k,l,h,e=>by
  have e:((bU P (E P (k+1+a.length)) s l h).bind λw=>match w.1 with|.next=>(E P (k+1+a.length)).ex a w.2.1 w.2.2|.ret v=>some (.ret v,w.2.1,w.2.2))=some (.next,l',h'):=e
  show ((bU P (E P (k+1+a.length)) s l h).bind λw=>match w.1 with|.next=>(E P (k+1+a.length)).ex (a++b) w.2.1 w.2.2|.ret v=>some (.ret v,w.2.1,w.2.2))=_
  cases hs:bU P (E P (k+1+a.length)) s l h with
  |none=>rw [hs] at e;cases e
  |some w=>
   rw [hs] at e;obtain ⟨f,l1,h1⟩:=w
   cases f with
   |next=>exact Fd a k l1 h1 e
   |ret v=>cases e
noncomputable def iG:List aA:=L2.P4.body
noncomputable def jx(a n:Nat):List aA:=(iG.drop a).take n
structure B1 where
 b0:Bool
 b1:Bool
 e0:Bool
 e1:Bool
noncomputable def F1(b:B1):Facts:={cmp:=[(.Gt,X 2,.int 0,b.b0),(.Gt,X 2,.int 1,b.b1),(.Eq,X 5,.int 0,b.e0),(.Eq,X 7,.int 0,b.e1)],bin:=[(.Mod,X 3,.int 2,X 5),(.Mod,X 3,.int 12,X 6),(.Mod,X 4,.int 3,X 7),(.FloorDiv,X 4,.int 3,X 8),(.Mod,X 8,.int 24,X 9),(.Add,.int 5,X 9,X 10)],wG:=[(X 0,none,some (.int 8),X 1)],bi:=[(.len,X 1,X 2)],sub:=cond b.b0 [(X 1,.int 0,X 3)] []++cond b.b1 [(X 1,.int 1,X 4)] []}
noncomputable def u9:List SL:=List.replicate 9 .u
noncomputable def l1(s i w:SL):aV:=s::i::w::List.replicate 11 .u
noncomputable def V7(b:B1):MV:=cond b.b0 (cond b.e0 (X 3) (X 6)) .none
noncomputable def V8(b:B1):MV:=cond b.b1 (cond b.e1 (X 4) (X 10)) .none
theorem p1:(bools.all λb0=>bools.all λb1=>bools.all λe0=>bools.all λe1=>kj L2.prog (F1 ⟨b0,b1,e0,e1⟩) 60 (jx 0 5) (l1 (.v (X 0)) .u .u) [] .next (l1 (.v (X 1)) (.v (V7 ⟨b0,b1,e0,e1⟩)) (.v (V8 ⟨b0,b1,e0,e1⟩))) [])=true:=by kernel_rfl
noncomputable def gZ:Option Int→MV
 |none=>.none
 |some i=>.int i
noncomputable def Fe(s i w:Option MV):Loc:=s::i::w::List.replicate 11 none
theorem vq{n:Int}{m:Nat}(hm:0< m)(hb:m≤1000000000)(H:Hp):binOp .Mod (.int n) (.int (m:Nat)) H=some (.int (n % (m:Int))):=by
 show (if (decide ((0:Int)< (m:Int))&&aK (m:Int))=true then some (MV.int (n % (m:Int))) else none).or _=_
 rw [aN hb,decide_eq_true (show (0:Int)< (m:Int) by lia)];rfl
theorem RN{n:Int}{m:Nat}(hm:0< m)(hb:m≤1000000000)(H:Hp):binOp .FloorDiv (.int n) (.int (m:Nat)) H=some (.int (n / (m:Int))):=by
 show (if (decide ((0:Int)< (m:Int))&&aK (m:Int))=true then some (MV.int (n / (m:Int))) else none)=_
 rw [aN hb,decide_eq_true (show (0:Int)< (m:Int) by lia)];rfl
theorem Nx{l p:List MV}{hi:Option MV}{y:Option Int}(h2:jB hi=some y)(h:eX l none y=p)(H:Hp):g8 (.lst l) none hi H=some (.lst p):=by
 show (jB hi).bind (λhi=>BK (.lst l) none hi H)=_
 rw [h2, ← h];rfl
theorem Ny{l:List Int}(hl:l.length≤63):∃iv wv:Option Int,∀k,60≤k→(E L2.prog k).ex (jx 0 5) (Fe (some (.lst (l.map .int))) none none) []=some (.next,Fe (some (.lst ((l.take 8).map .int))) (some (gZ iv)) (some (gZ wv)),[]):=by
 have hS:(l.take 8).length≤8:=by rw [List.length_take];exact Nat.min_le_left _ _
 generalize hs:l.take 8=s at hS
 let b:B1:=⟨decide (0< s.length),decide (1< s.length),decide (s.headD 0 % 2=0),decide (s.tail.headD 0 % 3=0)⟩
 let iv:Option Int:=cond b.b0 (some (cond b.e0 (s.headD 0) (s.headD 0 % 12))) none
 let wv:Option Int:=cond b.b1 (some (cond b.e1 (s.tail.headD 0) (5+s.tail.headD 0 / 3 % 24))) none
 have OT:∀i:Int,0≤i→i< 1000→aK i=true:=λi h0 h1=>by obtain ⟨n,rfl⟩:=Int.eq_ofNat_of_zero_le h0;exact aN (by lia)
 have K:Holds L2.prog (R [.lst (l.map .int),.lst (s.map .int),.int (s.length:Nat),.int (s.headD 0),.int (s.tail.headD 0),.int (s.headD 0 % 2),.int (s.headD 0 % 12),.int (s.tail.headD 0 % 3),.int (s.tail.headD 0 / 3),.int (s.tail.headD 0 / 3 % 24),.int (5+s.tail.headD 0 / 3 % 24)] [] λ_=>none) (F1 b):={
  o6:=aa
  cmp:=af (IB (b:=0) rfl)<|af (IB (b:=1) rfl)<|af rfl<|af rfl aa
  bin:=af (vq (m:=2) (by decide) (by decide))<|af (vq (m:=12) (by decide) (by decide))<|af (vq (m:=3) (by decide) (by decide))<|af (RN (m:=3) (by decide) (by decide))<|af (vq (m:=24) (by decide) (by decide))<|af (λH=>xd rfl (OT _ (Int.emod_nonneg _ (by decide)) (Int.lt_trans (Int.emod_lt_of_pos _ (by decide)) (by decide))) rfl H) aa
  wG:=af (λH=>Nx (y:=some ((8:Nat):Int)) rfl (by rw [Mu, ← List.map_take,hs]) H) aa
  bi:=af (λH=>by show some (MV.int ((s.map MV.int).length:Nat))=_;rw [cL];rfl) aa
  sub:=List.forall_mem_append.mpr ⟨by
   show ∀e∈cond (decide (0< s.length)) _ _,_
   cases s with
   |nil=>exact aa
   |cons x r=>exact af (λH=>qV (i:=0) rfl (by decide) H) aa,by
   show ∀e∈cond (decide (1< s.length)) _ _,_
   match s with
   |[]=>exact aa
   |[x]=>exact aa
   |x::y::r=>
    rw [decide_eq_true (show 1< (x::y::r).length by rw [List.length_cons,List.length_cons];lia)]
    exact af (λH=>qV (i:=1) rfl (by decide) H) aa⟩
  join:=aa
  room:=aa
  aug:=aa
  starts:=aa
  st:=aa
  ev:=aa
  call:=aa}
 refine ⟨iv,wv,λk hk=>(jd K (aj (aj (aj (aj p1 (ak b.b0)) (ak b.b1)) (ak b.e0)) (ak b.e1)) hk).trans ?_⟩
 have e1:(V7 b).I (R [.lst (l.map .int),.lst (s.map .int),.int (s.length:Nat),.int (s.headD 0),.int (s.tail.headD 0),.int (s.headD 0 % 2),.int (s.headD 0 % 12),.int (s.tail.headD 0 % 3),.int (s.tail.headD 0 / 3),.int (s.tail.headD 0 / 3 % 24),.int (5+s.tail.headD 0 / 3 % 24)] [] λ_=>none)=gZ iv:=by
  show (cond b.b0 (cond b.e0 (X 3) (X 6)) MV.none).I _=gZ (cond b.b0 (some (cond b.e0 (s.headD 0) (s.headD 0 % 12))) none)
  cases b.b0<;>cases b.e0<;>rfl
 have e2:(V8 b).I (R [.lst (l.map .int),.lst (s.map .int),.int (s.length:Nat),.int (s.headD 0),.int (s.tail.headD 0),.int (s.headD 0 % 2),.int (s.headD 0 % 12),.int (s.tail.headD 0 % 3),.int (s.tail.headD 0 / 3),.int (s.tail.headD 0 / 3 % 24),.int (5+s.tail.headD 0 / 3 % 24)] [] λ_=>none)=gZ wv:=by
  show (cond b.b1 (cond b.e1 (X 4) (X 10)) MV.none).I _=gZ (cond b.b1 (some (cond b.e1 (s.tail.headD 0) (5+s.tail.headD 0 / 3 % 24))) none)
  cases b.b1<;>cases b.e1<;>rfl
 show some (Fl.next,some (MV.lst (s.map .int))::some ((V7 b).I _)::some ((V8 b).I _)::List.map _ (List.replicate 11 SL.u),[])=_
 rw [e1,e2];rfl
noncomputable def kX(l:List Int):List Nat:=((l.take 8).drop 2).map λi=>(i % 9240).toNat
theorem Nz(l:List Int):fz (kX l)=((l.take 8).drop 2).map λi=>.int (i % 9240):=by
 unfold fz kX;rw [List.map_map];refine List.map_congr_left λi _=>congrArg MV.int ?_
 exact Int.toNat_of_nonneg (Int.emod_nonneg _ (by decide))
theorem Jx(l:List Int):∀a∈kX l,a≤10000:=λa ha=>by
 obtain ⟨i,_,rfl⟩:=List.mem_map.mp ha;have h:=Int.emod_lt_of_pos i (show (0:Int)< 9240 by decide)
 have h0:=Int.emod_nonneg i (show (9240:Int)≠0 by decide)
 lia
theorem Ff{P:Prog}{k nv:Nat}{elt:ai}{tgt:List Nat}{tup:Bool}{it:dm}{ifs:List ai}{l:Loc}{h:Hp}{xs ys:List MV}(hI:dB (E P k) it l h=some (.items xs,h))(hg:dj (E P k) elt tgt tup ifs xs (List.replicate nv none++l) h=some (ys,h))(hl:ys.length≤az):(E P (k+1)).ev (.comp true elt nv tgt tup it ifs) l h=some (.obj h.length,h++[.list ys]):=by
 show (dB (E P k) it l h).bind _=_
 rw [hI];show (dc (E P k) elt tgt tup ifs (eY xs) (xs.length+1) 0 (List.replicate nv none++l) h).bind _=_
 rw [pM _ _ _ _ _ xs xs 0 _ _ rfl,hg];exact if_pos hl
noncomputable def V9:ai:=.bin .Mod (.aH 1) (.bE (.int 9240))
theorem NB{l:List Int}{iv wv:MV}{k:Nat}(hk:40≤k):(E L2.prog k).ex (jx 5 1) (Fe (some (.lst ((l.take 8).map .int))) (some iv) (some wv)) []=some (.next,gV (Fe (some (.lst ((l.take 8).map .int))) (some iv) (some wv)) 3 (.obj 0),[.list (fz (kX l))]):=by
 obtain ⟨j,rfl⟩:=Nat.exists_eq_add_of_le' hk;have hit:dB (E L2.prog (j+38)) (.val (.slice (.aH 0) (some (.bE (.int 2))) none)) (Fe (some (.lst ((l.take 8).map .int))) (some iv) (some wv)) []=some (.items (((l.take 8).drop 2).map .int),[]):=by refine Eq.trans (b:=some (It.items (eX ((l.take 8).map .int) (some ((2:Nat):Int)) none),[])) rfl ?_;rw [uT,List.map_drop]
 have hg:dj (E L2.prog (j+38)) V9 [1] false [] (((l.take 8).drop 2).map .int) (List.replicate 2 none++Fe (some (.lst ((l.take 8).map .int))) (some iv) (some wv)) []=some (((l.take 8).drop 2).map λi=>.int (i % 9240),[]):=
  sS (P:=L2.prog) (k:=j+38) (fr:=λx=>FO x (Fe (some (.lst ((l.take 8).map .int))) (some iv) (some wv))) (inj:=MV.int) (tgt:=[1]) (tup:=false) (λ_ _=>rfl) _ none λi _=>by
   show (binOp .Mod (.int i) (.int ((9240:Nat):Int)) []).bind (λr=>some (r,([]:Hp)))=_
   rw [vq (by decide) (by decide)];rfl
 have hlen:(((l.take 8).drop 2).map λi=>MV.int (i % 9240)).length≤az:=by rw [cL,List.length_drop,List.length_take];exact ah (Nat.sub_le _ _) (ah (Nat.min_le_left _ _) (by decide))
 have he:(E L2.prog (j+39)).ev (.comp true V9 2 [1] false (.val (.slice (.aH 0) (some (.bE (.int 2))) none)) []) (Fe (some (.lst ((l.take 8).map .int))) (some iv) (some wv)) []=some (.obj 0,[.list (fz (kX l))]):=by refine (Ff (k:=j+38) hit hg hlen).trans ?_;rw [Nz];rfl
 have hs:bU L2.prog (E L2.prog (j+39)) (iG.getD 5 .pass) (Fe (some (.lst ((l.take 8).map .int))) (some iv) (some wv)) []=some (.next,gV (Fe (some (.lst ((l.take 8).map .int))) (some iv) (some wv)) 3 (.obj 0),[.list (fz (kX l))]):=by
  show ((E L2.prog (j+39)).ev (.comp true V9 2 [1] false (.val (.slice (.aH 0) (some (.bE (.int 2))) none)) []) _ []).bind _=_
  rw [he];rfl
 show (E L2.prog (j+40)).ex [iG.getD 5 .pass] _ _=_
 rw [cu hs];rfl
structure B2 where
 ki:Bool
 inR:Bool
 kw:Bool
 bW:Bool
 ex:Bool
noncomputable def S6(b:B2):MV:=cond b.ki (X 11) .none
noncomputable def S7(b:B2):MV:=cond b.kw (X 12) .none
noncomputable def RO(b:B2):MV:=cond (b.ki&&b.inR) (X 11) (.int 2)
noncomputable def RS(b:B2):MV:=cond (b.kw&&b.bW) (X 12) (.int 80)
noncomputable def lbs:MV:=.lst [.none,.str [10],.str [13,10],.str [13],.str [120],.str []]
noncomputable def Wa(ex:Bool):MV:=.str (cond ex FH [])
noncomputable def l2(b:B2)(tl:List SL):aV:=.v (X 0)::.v (S6 b)::.v (S7 b)::.v (.obj 0)::tl
noncomputable def XH(b:B2):gr:={n:=190,f:=71,as:=[X 24,.bool true,.int 0,.bool (!b.ex),.obj 2,RO b,RS b,.obj 0,.obj 1],h:=[.list (some 6) [],.list none [],.list none [Wa b.ex]],r:=.none,h':=[.list (some 7) [],.list (some 8) [],.list (some 9) []]}
noncomputable def F2(b:B2):Facts:={cmp:=[(.In,X 11,.tup [.int 2,.int 3,.int 4,.int 5,.int 6,.int 7,.int 8,.int 9],b.inR),(.IsNot,X 12,.none,true),(.Gt,X 12,cond (b.ki&&b.inR) (X 13) (.int 4),b.bW),(.Eq,X 23,.int 1,b.ex)],bin:=[(.Mod,X 20,.int 6,X 26),(.FloorDiv,X 20,.int 6,X 21),(.Mod,X 21,.int 2,X 23)]++cond (b.ki&&b.inR) [(.Mult,.int 2,X 11,X 13)] [],sub:=[(lbs,X 26,X 22)],call:=[{n:=20,f:=65,as:=[.obj 0],h:=[.list (some 0) []],r:=X 20,h':=[.list (some 5) []]},{n:=20,f:=65,as:=[.obj 0],h:=[.list (some 5) [],.list none [],.list none [Wa b.ex]],r:=X 24,h':=[.list (some 6) [],.list none [],.list none [Wa b.ex]]},XH b]}
noncomputable def o2(b:B2):List SL:=[.v (X 20),.v (X 22),.v (.bool b.ex),.v (RO b),.v (RS b),.v (.obj 1),.v (.obj 2),.u,.u,.u]
noncomputable def NC(b:B2):Bool:=kj L2.prog (F2 b) 220 (jx 6 8) (l2 b (List.replicate 10 .u)) [.list (some 0) []] .next (l2 b (o2 b)) [.list (some 7) [],.list (some 8) [],.list (some 9) []]
theorem p2:(bools.all λki=>bools.all λinR=>bools.all λkw=>bools.all λbW=>bools.all λex=>NC ⟨ki,inR,kw,bW,ex⟩)=true:=by kernel_rfl
theorem Jy:∀b:B2,NC b=true
 |⟨ki,inR,kw,bW,ex⟩=>aj (aj (aj (aj (aj p2 (ak ki)) (ak inR)) (ak kw)) (ak bW)) (ak ex)
structure Nu where
 iv:Option Int
 wv:Option Int
 t:List Nat
noncomputable def Nu.inR(u:Nu):Bool:=decide (2≤u.iv.getD 0∧u.iv.getD 0≤9)
noncomputable def Nu.step(u:Nu):Nat:=cond (u.iv.isSome&&u.inR) (u.iv.getD 0).toNat 2
noncomputable def Nu.bW(u:Nu):Bool:=decide ((2 * u.step:Nat)< u.wv.getD 0)
noncomputable def Nu.W(u:Nu):Int:=cond (u.wv.isSome&&u.bW) (u.wv.getD 0) 80
noncomputable def Nu.k0(u:Nu):Nat:=u.t.headD 0
noncomputable def Nu.ex(u:Nu):Bool:=Nat.beq (u.k0 / 6 % 2) 1
noncomputable def Nu.n(u:Nu):Nat:=u.t.tail.headD 0
noncomputable def Nu.m(u:Nu):Bool:=odd u.n
noncomputable def Kz:List MV:=[.none,.str [10],.str [13,10],.str [13],.str [120],.str []]
noncomputable def Nu.Jz(u:Nu):MV:=Kz.getD (u.k0 % 6) .none
noncomputable def Nu.b(u:Nu):B2:=⟨u.iv.isSome,u.inR,u.wv.isSome,u.bW,u.ex⟩
theorem Nu.n6(u:Nu):2≤u.step∧u.step≤9:=by
 unfold Nu.step
 cases h:u.iv.isSome&&u.inR with
 |false=>exact ⟨bf 2,(by decide:2≤9)⟩
 |true=>
  have h:=bz (aZ.mp h).2;show 2≤(u.iv.getD 0).toNat∧(u.iv.getD 0).toNat≤9
  lia
theorem Nu.lM{u:Nu}(h:(u.iv.isSome&&u.inR)=true):(u.step:Int)=u.iv.getD 0:=by
 have h2:=bz (aZ.mp h).2;unfold Nu.step;rw [h];show ((u.iv.getD 0).toNat:Int)=_
 lia
theorem ND(i:Int):cV .In (.int i) (.tup [.int 2,.int 3,.int 4,.int 5,.int 6,.int 7,.int 8,.int 9])=some (decide (2≤i∧i≤9)):=by
 show some ((List.range' 2 8).any λj=>decide ((j:Int)=i))=_
 refine congrArg some (Bool.eq_iff_iff.mpr ⟨λh=>?_,λh=>?_⟩)
 ·obtain ⟨j,hj,e⟩:=List.any_eq_true.mp h
  have hj:=List.mem_range'_1.mp hj;exact bz e▸decide_eq_true ⟨Int.ofNat_le.mpr hj.1,Int.ofNat_le.mpr (Nat.le_of_lt_succ hj.2)⟩
 ·have h:=bz h
  obtain ⟨j,rfl⟩:=Int.eq_ofNat_of_zero_le (Int.le_trans (by decide) h.1)
  exact List.any_eq_true.mpr ⟨j,List.mem_range'_1.mpr ⟨Int.ofNat_le.mp h.1,Nat.lt_succ_of_le (Int.ofNat_le.mp h.2)⟩,decide_eq_true rfl⟩
theorem RT{P:Nat→Prop}(h:P 0∧P 1∧P 2∧P 3∧P 4∧P 5){j:Nat}(hj:j< 6):P j:=by
 obtain ⟨h0,h1,h2,h3,h4,h5⟩:=h
 match j,hj with
 |0,_=>exact h0
 |1,_=>exact h1
 |2,_=>exact h2
 |3,_=>exact h3
 |4,_=>exact h4
 |5,_=>exact h5
noncomputable def R2(u:Nu)(S:List MV)(l7 l8 l9:List MV):d7:=R [.lst S,.none,.none,.none,.none,.none,.none,.none,.none,.none,.none,.int (u.iv.getD 0),.int (u.wv.getD 0),.int ((2 * u.step:Nat):Int),.none,.none,.none,.none,.none,.none,.int (u.k0:Nat),.int ((u.k0 / 6:Nat):Int),u.Jz,.int ((u.k0 / 6 % 2:Nat):Int),.int (u.n:Nat),.none,.int ((u.k0 % 6:Nat):Int)] [fz u.t,[],[],[],[],fz u.t.tail,fz u.t.tail.tail,l7,l8,l9] λ_=>none
theorem RX{u:Nu}{S l7 l8 l9:List MV}:(S6 u.b).I (R2 u S l7 l8 l9)=gZ u.iv:=by obtain ⟨iv,wv,t⟩:=u;cases iv<;>rfl
theorem RY{u:Nu}{S l7 l8 l9:List MV}:(S7 u.b).I (R2 u S l7 l8 l9)=gZ u.wv:=by obtain ⟨iv,wv,t⟩:=u;cases wv<;>rfl
theorem R0{u:Nu}{S l7 l8 l9:List MV}:(RO u.b).I (R2 u S l7 l8 l9)=.int (u.step:Nat):=by
 show (cond (u.iv.isSome&&u.inR) (X 11) (MV.int 2)).I _=_
 cases h:u.iv.isSome&&u.inR with
 |true=>show MV.int (u.iv.getD 0)=_;rw [Nu.lM h]
 |false=>unfold Nu.step;rw [h];rfl
theorem R3{u:Nu}{S l7 l8 l9:List MV}:(RS u.b).I (R2 u S l7 l8 l9)=.int u.W:=by
 show (cond (u.wv.isSome&&u.bW) (X 12) (MV.int 80)).I _=MV.int (cond (u.wv.isSome&&u.bW) (u.wv.getD 0) 80)
 cases u.wv.isSome&&u.bW<;>rfl
noncomputable def Nu.z(u:Nu):s7:=⟨u.W,u.step,u.n,0, !u.ex,true⟩
noncomputable def S8(ex:Bool):Tx:=⟨[],cond ex FH []⟩
theorem NF(u:Nu)(ht:∀a∈u.t,a≤10000)(S:List MV):∃(i:Itm) (its:List Itm) (t':List Nat),(∀a∈i::its,kD u.W u.step 2 u.m a)∧(cS u.m (i::its)).length≤88∧fY (cK u.m false::cS u.m (i::its)) (iT u.ex u.m i its) 26300∧
  ∀k,220≤k→(E L2.prog k).ex (jx 6 8) (some (.lst S)::some (gZ u.iv)::some (gZ u.wv)::some (.obj 0)::List.replicate 10 none) [.list (fz u.t)]=some (.next,[some (.lst S),some (gZ u.iv),some (gZ u.wv),some (.obj 0),some (.int (u.k0:Nat)),some u.Jz,some (.bool u.ex),some (.int (u.step:Nat)),some (.int u.W),some (.obj 1),some (.obj 2),none,none,none],hP (fz t') (cK u.m false::cS u.m (i::its)) (iT u.ex u.m i its)):=by
 have Z:ny u.z:=⟨u.n6,zx (nB ht),Nat.zero_le _⟩;have hL:fY [] (S8 u.ex) 10:=⟨Nat.zero_le _,by cases u.ex<;>decide⟩
 obtain ⟨i,its,t',g1,g2,g5,g3,g4⟩:=Fc u.z Z rfl (Nat.zero_le _) u.t.tail.tail [] (S8 u.ex) 10 (nB (nB ht)) hL (by decide)
 have eT:j8 (odd u.z.n) u.z.col i its (eW u.z 0 (S8 u.ex))=iT u.ex u.m i its:=by unfold iT eW Nu.z S8 Nu.m;cases u.ex<;>rfl
 rw [eT] at g3 g4;refine ⟨i,its,t',g1,g5,⟨ah g3.ev (by decide),ah g3.sz (by decide)⟩,λk hk=>?_⟩
 have K:Holds L2.prog (R2 u S (fz t') (cK u.m false::cS u.m (i::its)) (gj (iT u.ex u.m i its))) (F2 u.b):={
  o6:=aa
  cmp:=af (ND _)<|af rfl<|af (by
   show cV .Gt (.int (u.wv.getD 0)) ((cond (u.iv.isSome&&u.inR) (X 13) (MV.int 4)).I _)=some (decide (((2 * u.step:Nat):Int)< u.wv.getD 0))
   cases h:u.iv.isSome&&u.inR with
   |true=>rfl
   |false=>unfold Nu.step;rw [h];rfl)<|af (A6 (b:=1) (by
   show _=Nat.beq (u.k0 / 6 % 2) 1
   cases h:Nat.beq (u.k0 / 6 % 2) 1 with
   |true=>exact decide_eq_true (bQ h)
   |false=>exact decide_eq_false (Nat.ne_of_beq_eq_false h))) aa
  bin:=List.forall_mem_append.mpr ⟨af (fH (m:=6) (by decide) (by decide) rfl)<|af (zu (m:=6) (by decide) (by decide) rfl)<|af (fH (m:=2) (by decide) (by decide) rfl) aa,by
   show ∀e∈cond (u.iv.isSome&&u.inR) _ _,_
   cases h:u.iv.isSome&&u.inR with
   |false=>exact aa
   |true=>
    refine af (λH=>?_) aa
    show binOp .Mult (.int 2) (.int (u.iv.getD 0)) H=some (.int ((2 * u.step:Nat):Int))
    rw [← Nu.lM h];exact congrArg (Option.or · _) (fm rfl (aN (ah u.n6.2 (by decide))) (by lia))⟩
  sub:=af (qV (l:=Kz) (by exact RT (P:=λj=>Kz[j]? =some (Kz.getD j .none)) ⟨rfl,rfl,rfl,rfl,rfl,rfl⟩ (Nat.mod_lt _ (by decide))) (ah (Nat.le_of_lt (Nat.mod_lt _ (by decide))) (by decide))) aa
  wG:=aa
  bi:=aa
  join:=aa
  room:=aa
  aug:=aa
  starts:=aa
  st:=aa
  ev:=aa
  call:=af (λk hk=>by
    obtain ⟨j,rfl⟩:=Nat.exists_eq_add_of_le' (show 20≤k from hk)
    show (E L2.prog (j+20)).ca 65 [.obj 0] [.list (fz u.t)]=some (.int (u.t.headD 0:Nat),[.list (fz u.t.tail)])
    cases u.t<;>rfl)<|af (λk hk=>s6 (t:=u.t.tail) (aE:=[]) (pg:=[.str (cond u.ex FH [])]) hk)<|af (λk hk=>by
    have h:=g4 k hk;have ha:MV.Is (R2 u S (fz t') (cK u.m false::cS u.m (i::its)) (gj (iT u.ex u.m i its))) (XH u.b).as=qY u.z:=by
     show [_,_,_,_,_,(RO u.b).I _,(RS u.b).I _,_,_]=qY u.z
     rw [R0,R3];rfl
    rw [ha];exact h) aa}
 have e:=jd K (show NC u.b=true from Jy u.b) hk
 have ein:bq (R2 u S (fz t') (cK u.m false::cS u.m (i::its)) (gj (iT u.ex u.m i its))) (l2 u.b (List.replicate 10 .u))=some (.lst S)::some (gZ u.iv)::some (gZ u.wv)::some (.obj 0)::List.replicate 10 none:=by
  show [some (MV.lst S),some ((S6 u.b).I _),some ((S7 u.b).I _),_,_,_,_,_,_,_,_,_,_,_]=_
  rw [RX,RY];rfl
 have Wb:bq (R2 u S (fz t') (cK u.m false::cS u.m (i::its)) (gj (iT u.ex u.m i its))) (l2 u.b (o2 u.b))=[some (.lst S),some (gZ u.iv),some (gZ u.wv),some (.obj 0),some (.int (u.k0:Nat)),some u.Jz,some (.bool u.ex),some (.int (u.step:Nat)),some (.int u.W),some (.obj 1),some (.obj 2),none,none,none]:=by
  show [some (MV.lst S),some ((S6 u.b).I _),some ((S7 u.b).I _),_,_,_,_,some ((RO u.b).I _),some ((RS u.b).I _),_,_,_,_,_]=_
  rw [RX,RY,R0,R3];rfl
 rw [ein,Wb] at e;exact e
structure B3 where
 ki:Bool
 nz:Bool
 p1:Bool
 p2:Bool
 kw:Bool
 nw:Bool
 bW:Bool
 Bp:Bool
noncomputable def B3.r(b:B3):Bool:=b.ki&&(b.nz&&(b.p1&&b.p2))
noncomputable def B3.w(b:B3):Bool:=b.kw&&(b.nw&&b.bW)
noncomputable def Wc:MV:=.lst [.str [13],.str [10],.str [13,10]]
noncomputable def F3(b:B3):Facts:={o6:=[(X 11,b.nz),(X 12,b.nw)],cmp:=[(.Lt,.int 1,X 11,b.p1),(.Lt,X 11,.int 10,b.p2),(.Gt,X 12,cond b.r (X 13) (.int 4),b.bW),(.In,X 22,Wc,b.Bp)],bin:=cond b.r [(.Mult,X 11,.int 2,X 13)] []}
noncomputable def iv3(b:B3):MV:=cond b.ki (X 11) .none
noncomputable def wv3(b:B3):MV:=cond b.kw (X 12) .none
noncomputable def l3(b:B3)(e:SL):aV:=[.v (X 0),.v (iv3 b),.v (wv3 b),.v (.obj 0),.v (X 20),.v (X 22),.v (X 23),.v (X 24),.v (X 25),.v (X 30),.v (.obj 2),e,.u,.u]
noncomputable def em3(b:B3):Em:={state:=.bm 5 13,event:=.none,indent:=.none,c6:=.int 0,root:=.bool false,seq:=.bool false,map:=.bool false,sk:=.bool false,line:=.int 0,col:=.int 0,ws:=.bool true,ind:=.bool true,oe:=.bool false,au:=.none,bi:=cond b.r (X 11) (.int 2),tp:=.none,an:=.none,st:=.none,bw:=cond b.w (X 12) (.int 80),lb:=cond b.Bp (X 22) (.str [10])}
noncomputable def h3:aS:=[.list (some 0) [],.list (some 1) [],.list (some 2) []]
noncomputable def XI(b:B3):aS:=h3++[.inst 16 [(128,.obj 4)],.list none [],.inst 15 (em3 b).at,.list none [],.list none [],.list none []]
noncomputable def R4(b:B3):Bool:=kj L2.prog (F3 b) 80 (jx 15 1) (l3 b .u) h3 .next (l3 b (.v (.obj 5))) (XI b)
noncomputable def XJ(nz p1 p2:Bool):List (Bool×Bool×Bool×Bool):=[(false,nz,p1,p2),(true,false,p1,p2),(true,true,false,p2),(true,true,true,false),(true,true,true,true)]
noncomputable def XK(nw bW:Bool):List (Bool×Bool×Bool):=[(false,nw,bW),(true,false,bW),(true,true,false),(true,true,true)]
theorem p3(nz p1 p2 nw bW:Bool):((XJ nz p1 p2).all λa=>(XK nw bW).all λc=>bools.all λBp=>R4 ⟨a.1,a.2.1,a.2.2.1,a.2.2.2,c.1,c.2.1,c.2.2,Bp⟩)=true:=by kernel_rfl
theorem R6:∀ki nz p1 p2,(ki,nz,p1,p2)∈XJ nz p1 p2
 |false,_,_,_=>.head _
 |true,false,_,_=>.tail _ (.head _)
 |true,true,false,_=>.tail _ (.tail _ (.head _))
 |true,true,true,false=>.tail _ (.tail _ (.tail _ (.head _)))
 |true,true,true,true=>.tail _ (.tail _ (.tail _ (.tail _ (.head _))))
theorem R7:∀kw nw bW,(kw,nw,bW)∈XK nw bW
 |false,_,_=>.head _
 |true,false,_=>.tail _ (.head _)
 |true,true,false=>.tail _ (.tail _ (.head _))
 |true,true,true=>.tail _ (.tail _ (.tail _ (.head _)))
theorem JA:∀b:B3,R4 b=true
 |⟨ki,nz,p1,p2,kw,nw,bW,Bp⟩=>aj (aj (aj (p3 nz p1 p2 nw bW) (R6 ki nz p1 p2)) (R7 kw nw bW)) (ak Bp)
theorem Fj{P:Prog}{k:Nat}{op:Operator}{a b:ai}{l:Loc}{h:Hp}{x y r:MV}(ha:(E P k).ev a l h=some (x,h))(hb:(E P k).ev b l h=some (y,h))(hr:binOp op x y h=some r):(E P (k+1)).ev (.bin op a b) l h=some (r,h):=by
 show ((E P k).ev a l h).bind _=_
 rw [ha];show ((E P k).ev b l h).bind _=_
 rw [hb];show (binOp op x y h).bind _=_
 rw [hr];rfl
noncomputable def jh(u:Nu)(S:List MV)(ev e a:Option MV):Loc:=[some (.lst S),some (gZ u.iv),some (gZ u.wv),some (.obj 0),some (.int (u.k0:Nat)),some u.Jz,some (.bool u.ex),some (.int (u.step:Nat)),some (.int u.W),ev,some (.obj 2),e,a,none]
noncomputable def R8(u:Nu)(bl:List MV):List MV:=ju::fq u.ex::(bl++[j7,gS])
theorem NG{u:Nu}{S t bl pg:List MV}(hb:bl.length≤100000){k:Nat}(hk:40≤k):(E L2.prog k).ex (jx 14 1) (jh u S (some (.obj 1)) none none) [.list t,.list bl,.list pg]=some (.next,jh u S (some (.lst (R8 u bl))) none none,[.list t,.list bl,.list pg]):=by
 obtain ⟨j,rfl⟩:=Nat.exists_eq_add_of_le' hk;have e1:(E L2.prog (j+37)).ev (.list false [.call (.av (.cls 4)) [] [] [],.call (.av (.cls 6)) [] [8] [.aH 6]]) (jh u S (some (.obj 1)) none none) [.list t,.list bl,.list pg]=some (.lst [ju,fq u.ex],[.list t,.list bl,.list pg]):=rfl;have e2:(E L2.prog (j+38)).ev (.list false [.call (.av (.cls 7)) [] [] [],.call (.av (.cls 5)) [] [] []]) (jh u S (some (.obj 1)) none none) [.list t,.list bl,.list pg]=some (.lst [j7,gS],[.list t,.list bl,.list pg]):=rfl;have e3:(E L2.prog (j+37)).ev (.aH 9) (jh u S (some (.obj 1)) none none) [.list t,.list bl,.list pg]=some (.obj 1,[.list t,.list bl,.list pg]):=rfl;have b1:binOp .Add (.lst [ju,fq u.ex]) (.obj 1) [.list t,.list bl,.list pg]=some (.lst ([ju,fq u.ex]++bl)):=by
  show (if [ju,fq u.ex].length+bl.length≤az then some (MV.lst ([ju,fq u.ex]++bl)) else none)=_
  exact if_pos (ah (bx hb 2) (by decide))
 have b2:binOp .Add (.lst ([ju,fq u.ex]++bl)) (.lst [j7,gS]) [.list t,.list bl,.list pg]=some (.lst (([ju,fq u.ex]++bl)++[j7,gS])):=by
  show (if ([ju,fq u.ex]++bl).length+[j7,gS].length≤az then some (MV.lst (([ju,fq u.ex]++bl)++[j7,gS])) else none)=_
  exact if_pos (ah (fE (ah (Nat.le_of_eq aM) (bx hb 2)) 2) (by decide))
 have e4:=Fj (Fj e1 e3 b1) e2 b2;have hs:bU L2.prog (E L2.prog (j+39)) (iG.getD 14 .pass) (jh u S (some (.obj 1)) none none) [.list t,.list bl,.list pg]=some (.next,jh u S (some (.lst (R8 u bl))) none none,[.list t,.list bl,.list pg]):=by
  show ((E L2.prog (j+39)).ev (.bin .Add (.bin .Add (.list false [.call (.av (.cls 4)) [] [] [],.call (.av (.cls 6)) [] [8] [.aH 6]]) (.aH 9)) (.list false [.call (.av (.cls 7)) [] [] [],.call (.av (.cls 5)) [] [] []])) (jh u S (some (.obj 1)) none none) [.list t,.list bl,.list pg]).bind _=_
  rw [e4];rfl
 show (E L2.prog (j+40)).ex [iG.getD 14 .pass] _ _=_
 rw [cu hs];rfl
noncomputable def R9:List (List Nat):=[[10],[10],[13,10],[13],[10],[10]]
noncomputable def Nu.lb(u:Nu):List Nat:=R9.getD (u.k0 % 6) []
noncomputable def Nu.Bp(u:Nu):Bool:=Nat.ble 1 (u.k0 % 6)&&Nat.ble (u.k0 % 6) 3
noncomputable def Nu.b3(u:Nu):B3:=⟨u.iv.isSome, !decide (u.iv.getD 0=0),decide (1< u.iv.getD 0),decide (u.iv.getD 0< 10),u.wv.isSome, !decide (u.wv.getD 0=0),u.bW,u.Bp⟩
theorem Nu.r6(u:Nu):u.k0 % 6< 6:=Nat.mod_lt _ (by decide)
theorem Sb(u:Nu):cV .In u.Jz Wc=some u.Bp:=RT (P:=λj=>cV .In (Kz.getD j .none) Wc=some (Nat.ble 1 j&&Nat.ble j 3)) ⟨rfl,rfl,rfl,rfl,rfl,rfl⟩ u.r6
theorem Fo(u:Nu):u.lb.length≤2:=RT (P:=λj=>(R9.getD j []).length≤2) (by decide) u.r6
theorem NH(u:Nu):u.b3.r=(u.iv.isSome&&u.inR):=by
 show (u.iv.isSome&&(!decide (u.iv.getD 0=0)&&(decide (1< u.iv.getD 0)&&decide (u.iv.getD 0< 10))))=_
 refine congrArg (u.iv.isSome&&·) (Bool.eq_iff_iff.mpr ?_);unfold Nu.inR;simp only [Bool.and_eq_true,Bool.not_eq_true',decide_eq_true_eq,decide_eq_false_iff_not]
 lia
theorem w_eq(u:Nu):u.b3.w=(u.wv.isSome&&u.bW):=by
 show (u.wv.isSome&&(!decide (u.wv.getD 0=0)&&u.bW))=_
 refine congrArg (u.wv.isSome&&·) ?_
 cases h:u.bW with
 |false=>exact Bool.and_false _
 |true=>have h:=bz h;rw [Bool.and_true,decide_eq_false (λe=>by rw [e] at h;lia)];rfl
noncomputable def ji(u:Nu)(t bl pg:List MV):Cx:=⟨t,bl,pg,u.W,u.step,u.lb⟩
noncomputable def Oc:Co:=⟨.bm 5 13,[],[],.none,0,true,true⟩
noncomputable def J0:Ju:=⟨[],.bool false,.bool false,.bool false,.bool false,0,.none,.none,.none⟩
noncomputable def R5(u:Nu)(S t bl pg L:List MV):d7:=R [.lst S,.none,.none,.none,.none,.none,.none,.none,.none,.none,.none,.int (u.iv.getD 0),.int (u.wv.getD 0),.int ((2 * u.step:Nat):Int),.none,.none,.none,.none,.none,.none,.int (u.k0:Nat),.none,u.Jz,.bool u.ex,.int (u.step:Nat),.int u.W,.none,.none,.none,.none,.lst L] [t,bl,pg] λ_=>none
theorem NI{u:Nu}{S t bl pg L:List MV}{k:Nat}(hk:80≤k):(E L2.prog k).ex (jx 15 1) (jh u S (some (.lst L)) none none) [.list t,.list bl,.list pg]=some (.next,jh u S (some (.lst L)) (some (.obj 5)) none,hc (ji u t bl pg) Oc ⟨[],[]⟩ J0 [] .none):=by
 have K:Holds L2.prog (R5 u S t bl pg L) (F3 u.b3):={
  o6:=af (λh=>rfl)<|af (λh=>rfl) aa
  cmp:=af rfl<|af rfl<|af (by
   show cV .Gt (.int (u.wv.getD 0)) ((cond u.b3.r (X 13) (MV.int 4)).I _)=some (decide (((2 * u.step:Nat):Int)< u.wv.getD 0))
   rw [NH]
   cases h:u.iv.isSome&&u.inR with
   |true=>rfl
   |false=>unfold Nu.step;rw [h];rfl)<|af (Sb u) aa
  bin:=by
   show ∀e∈cond u.b3.r _ _,_
   rw [NH]
   cases h:u.iv.isSome&&u.inR with
   |false=>exact aa
   |true=>
    refine af (λH=>?_) aa
    show binOp .Mult (.int (u.iv.getD 0)) (.int 2) H=some (.int ((2 * u.step:Nat):Int))
    rw [← Nu.lM h];exact congrArg (Option.or · _) (fm (aN (ah u.n6.2 (by decide))) rfl (by lia))
  sub:=aa
  wG:=aa
  bi:=aa
  join:=aa
  room:=aa
  aug:=aa
  starts:=aa
  st:=aa
  ev:=aa
  call:=aa}
 have e:=jd K (JA u.b3) hk;have e1:∀x:SL,bq (R5 u S t bl pg L) (l3 u.b3 x)=jh u S (some (.lst L)) (x.I (R5 u S t bl pg L)) none:=λx=>by
  obtain ⟨iv,wv,tt⟩:=u
  cases iv<;>cases wv<;>rfl
 have e2:aQ (R5 u S t bl pg L) (XI u.b3)=hc (ji u t bl pg) Oc ⟨[],[]⟩ J0 [] .none:=by
  have a1:(cond u.b3.r (X 11) (MV.int 2)).I (R5 u S t bl pg L)=.int (u.step:Nat):=by
   rw [NH]
   cases h:u.iv.isSome&&u.inR with
   |true=>show MV.int (u.iv.getD 0)=_;rw [Nu.lM h]
   |false=>unfold Nu.step;rw [h];rfl
  have a2:(cond u.b3.w (X 12) (MV.int 80)).I (R5 u S t bl pg L)=.int u.W:=by rw [w_eq];unfold Nu.W;cases u.wv.isSome&&u.bW<;>rfl
  have a3:(cond u.Bp (X 22) (MV.str [10])).I (R5 u S t bl pg L)=.str u.lb:=by
   refine Eq.trans (b:=cond u.Bp u.Jz (MV.str [10])) (by cases u.Bp<;>rfl) ?_
   exact RT (P:=λj=>cond (Nat.ble 1 j&&Nat.ble j 3) (Kz.getD j .none) (MV.str [10])=.str (R9.getD j [])) ⟨rfl,rfl,rfl,rfl,rfl,rfl⟩ u.r6
  show hE t bl pg [] [] [] [] {Bv (ji u t bl pg) Oc ⟨[],[]⟩ J0 .none with bi:=(cond u.b3.r (X 11) (MV.int 2)).I _,bw:=(cond u.b3.w (X 12) (MV.int 80)).I _,lb:=(cond u.Bp (X 22) (MV.str [10])).I _}=_
  rw [a1,a2,a3];rfl
 rw [e1,e1,e2] at e;exact e
theorem xOk(u:Nu)(t bl pg:List MV):lI (ji u t bl pg):=⟨u.n6,Fo u⟩
theorem NJ{u:Nu}{S t pg:List MV}{i:Itm}{its:List Itm}(hi:∀a∈i::its,kD u.W u.step 2 u.m a)(hl:(cS u.m (i::its)).length≤88)(bl:List MV):∃(J':Ju) (a':Option MV) (Sf:Co),uV (ji u t bl pg) Sf J' (iT u.ex u.m i its).brk big∧
  ∀k,151≤k→(E L2.prog k).ex (jx 16 1) (jh u S (some (.lst (nO u.ex u.m i its))) (some (.obj 5)) none) (hc (ji u t bl pg) Oc ⟨[],[]⟩ J0 [] .none)=some (.next,jh u S (some (.lst (nO u.ex u.m i its))) (some (.obj 5)) a',hc (ji u t bl pg) Sf (iT u.ex u.m i its).brk J' [] .none):=by
 have hx:=xOk u t bl pg;have XM:∀a∈i::its,p9 (ji u t bl pg) 2 u.m a:=λa ha=>hi a ha _ hx rfl rfl
 have hr:=EM hx (ex:=u.ex) (m:=u.m) (d:=2) (by decide) XM
 have hq:=Nd (ex:=u.ex) XM;have hlen:(nO u.ex u.m i its).length≤100:=by
  unfold nO;rw [List.length_cons,List.length_cons,List.length_cons,aM];show (cS u.m (i::its)).length+2+1+1+1≤100
  lia
 obtain ⟨J',a',g1,g2⟩:=u5 (x:=ji u t bl pg) (Lf:=jh u S (some (.lst (nO u.ex u.m i its))) (some (.obj 5))) (λa v=>rfl) (λa=>rfl) (λv=>rfl) (nO u.ex u.m i its) [] Oc ⟨[],[]⟩ J0 0 none hr hq (λe=>by cases e) ⟨⟨rfl,bf _,bf _,bf _,bf _,bf _⟩,rfl,rfl⟩ (ah (Nat.le_of_eq (Nat.zero_add _)) (ah (Nat.mul_le_mul_left cost (ah (Nat.le_of_eq (Nat.zero_add _)) hlen)) (by decide)))
 refine ⟨J',a',_,g1,λk hk=>?_⟩
 obtain ⟨j,rfl⟩:=Nat.exists_eq_add_of_le' hk;have hs:bU L2.prog (E L2.prog (j+150)) (.dW (.aH 12) (.val (.aH 9)) SP) (jh u S (some (.lst (nO u.ex u.m i its))) (some (.obj 5)) none) (hc (ji u t bl pg) Oc ⟨[],[]⟩ J0 [] .none)=_:=mC (xD (v:=.lst (nO u.ex u.m i its)) rfl rfl) (g2 (j+150) (Nat.le_add_left _ _));show (E L2.prog (j+150+1)).ex [.dW (.aH 12) (.val (.aH 9)) SP] _ _=_
 rw [cu hs];rfl
theorem text_len{lb:List Nat}(h:lb.length≤2):∀d:List (List Nat),(d.flatMap (·++lb)).length≤nJ d
 |[]=>bf _
 |a::d=>by
  rw [List.flatMap_cons,aM,aM];show a.length+lb.length+_≤(a.length+2)+nJ d
  exact Nat.add_le_add (bx h _) (text_len h d)
theorem zC{w:List Nat}:∀{d:List (List Nat)},w∈d→w.length+2≤nJ d
 |a::d,h=>by
  show _≤(a.length+2)+nJ d
  cases h with
  |head=>exact bI _ _
  |tail _ h=>exact ah (zC h) (Nat.le_add_left _ _)
theorem Bq{P:Prog}{k:Nat}{elt:ai}{h:Hp}{l:Loc}{o:Nat}{g:List Nat→MV}{ws:List (List Nat)}(ho:h[o]? =some (.list (ws.map .str)))(hg:∀w∈ws,(E P k).ev elt (FO (some (.str w)) l) h=some (g w,h))(r:List (List Nat)):∀(j:Nat) (x:Option MV),ws.drop j=r→dc (E P k) elt [1] false [] (kg o) (r.length+1) j (FO x l) h=some (r.map g,h):=by
 have ha:∀j,kg o j h=some ((ws[j]?).map .str):=λj=>by unfold kg;rw [ho, ← List.getElem?_map];rfl
 induction r with
 |nil=>
  intro j x e;show (kg o j h).bind _=_
  rw [ha,List.getElem?_eq_none (List.drop_eq_nil_iff.mp e)];rfl
 |cons w r ih=>
  intro j x e;have hj:ws[j]? =some w:=by rw [← Nat.add_zero j, ← List.getElem?_drop,e];rfl
  have h2:=ih (j+1) (some (.str w)) (by rw [← List.drop_drop,e];rfl)
  show (kg o j h).bind _=_
  rw [ha,hj];show ((E P k).ev elt (FO (some (.str w)) l) h).bind (λv=>(dc (E P k) elt [1] false [] (kg o) (r.length+1) (j+1) (FO (some (.str w)) l) v.2).bind λvs=>some (v.1::vs.1,vs.2))=_
  rw [hg w (List.mem_of_getElem? hj)];show (dc (E P k) elt [1] false [] (kg o) (r.length+1) (j+1) (FO (some (.str w)) l) h).bind _=_
  rw [h2];rfl
theorem Fp{P:Prog}{k:Nat}{elt e:ai}{l:Loc}{h:Hp}{o:Nat}{g:List Nat→MV}{ws:List (List Nat)}(hl:ws.length≤az)(he:(E P k).ev e l h=some (.obj o,h))(ho:h[o]? =some (.list (ws.map .str)))(hg:∀w∈ws,(E P k).ev elt (FO (some (.str w)) l) h=some (g w,h)):(E P (k+1)).ev (.comp false elt 2 [1] false (.val e) []) l h=some (.lst (ws.map g),h):=by
 show (dB (E P k) (.val e) l h).bind _=_
 rw [xD he (I:=.oi o) (by show ((h[o]?).bind dJ).map _=_;rw [ho];rfl)]
 show (dc (E P k) elt [1] false [] (kg o) ((((h[o]?).bind dJ).map List.length).getD 0+1) 0 (FO none l) h).bind _=_
 rw [show (((h[o]?).bind dJ).map List.length).getD 0=ws.length by rw [ho];exact cL ..,Bq ho hg ws 0 none rfl]
 exact if_pos (ah (Nat.le_of_eq (cL ..)) hl)
noncomputable def NK:ai:=.aG (.cmp (.aH 5) [.In] [.tuple [.bE (.str [13]),.bE (.str [13,10])]]) (.aH 5) (.bE (.str [10]))
theorem NL{k:Nat}(hk:20≤k){a b c d e f g h i j m n o:Option MV}{H:Hp}{r:Nat}(hr:r< 6):(E L2.prog k).ev NK [a,b,c,d,e,some (Kz.getD r .none),f,g,h,i,j,m,n,o] H=some (.str (R9.getD r []),H):=by obtain ⟨k,rfl⟩:=Nat.exists_eq_add_of_le' hk;exact RT (P:=λr=>(E L2.prog (k+20)).ev NK [a,b,c,d,e,some (Kz.getD r .none),f,g,h,i,j,m,n,o] H=some (.str (R9.getD r []),H)) ⟨rfl,rfl,rfl,rfl,rfl,rfl⟩ hr
noncomputable def s8(u:Nu)(S:List MV)(ev a:Option MV):Loc:=[some (.lst S),some (gZ u.iv),some (gZ u.wv),some (.obj 0),some (.int (u.k0:Nat)),some u.Jz,some (.bool u.ex),some (.int (u.step:Nat)),some (.int u.W),ev,some (.obj 2),some (.obj 5),a,some (.str u.lb)]
section
variable {u:Nu}{S t bl:List MV}{T:Tx}{Sf:Co}{J:Ju}(hT:T.sz+2≤big)(hJ:uV (ji u t bl (gj T)) Sf J T.brk big)
include hT hJ
theorem JB{l:Loc}{k:Nat}(hk:20≤k):(E L2.prog k).ca 63 [.obj 3] (hc (ji u t bl (gj T)) Sf T.brk J [] .none)=some (.str (T.brk.text u.lb),hc (ji u t bl (gj T)) Sf T.brk J [] .none):=by
 obtain ⟨j,rfl⟩:=Nat.exists_eq_add_of_le' hk;have hz:(T.brk.text u.lb).length≤1000000:=by
  have h1:=text_len (Fo u) (T.d++[T.l]);have h2:nJ (T.d++[T.l])≤big:=by have e:T.brk.sz=nJ (T.d++[T.l])+0:=rfl;rw [Tx.kT] at e;rw [← Nat.add_zero (nJ _), ← e];exact hT
  show ((T.d++[T.l]).flatMap _++[]).length≤_
  rw [cM];exact ah h1 (ah h2 (by decide))
 have e1:oj (.join []) [.obj 4] (hc (ji u t bl (gj T)) Sf T.brk J [] .none)=some (.str (T.brk.text u.lb),hc (ji u t bl (gj T)) Sf T.brk J [] .none):=by
  show ((aT J.rows).bind λs=>(qg s).map λv=>(v,_))=_
  rw [hJ.join];show (qg (T.brk.text u.lb)).map _=_
  rw [zj hz];rfl
 have e2:(E L2.prog (j+18)).ev (.ay (.bE (.str [])) 117 [.aJ (.aH 0) 128] [] []) [some (.obj 3)] (hc (ji u t bl (gj T)) Sf T.brk J [] .none)=some (.str (T.brk.text u.lb),hc (ji u t bl (gj T)) Sf T.brk J [] .none):=by
  show oj (.join []) [.obj 4] (hc (ji u t bl (gj T)) Sf T.brk J [] .none)=_
  exact e1
 have s:bU L2.prog (E L2.prog (j+18)) (.ret (some (.ay (.bE (.str [])) 117 [.aJ (.aH 0) 128] [] []))) [some (.obj 3)] (hc (ji u t bl (gj T)) Sf T.brk J [] .none)=some (.ret (.str (T.brk.text u.lb)),[some (.obj 3)],hc (ji u t bl (gj T)) Sf T.brk J [] .none):=by
  show ((E L2.prog (j+18)).ev (.ay (.bE (.str [])) 117 [.aJ (.aH 0) 128] [] []) [some (.obj 3)] _).bind _=_
  rw [e2];rfl
 show ((E L2.prog (j+19)).ex [.ret (some (.ay (.bE (.str [])) 117 [.aJ (.aH 0) 128] [] []))] [some (.obj 3)] _).bind _=_
 rw [cu s];rfl
theorem NN{ev a:Option MV}{k:Nat}(hk:60≤k):(E L2.prog k).ex (jx 17 2) (jh u S ev (some (.obj 5)) a) (hc (ji u t bl (gj T)) Sf T.brk J [] .none)=some (.ret (.bool true),s8 u S ev a,hc (ji u t bl (gj T)) Sf T.brk J [] .none):=by
 obtain ⟨j,rfl⟩:=Nat.exists_eq_add_of_le' hk;have s1:bU L2.prog (E L2.prog (j+59)) (iG.getD 17 .pass) (jh u S ev (some (.obj 5)) a) (hc (ji u t bl (gj T)) Sf T.brk J [] .none)=some (.next,s8 u S ev a,hc (ji u t bl (gj T)) Sf T.brk J [] .none):=by
  show ((E L2.prog (j+59)).ev NK (jh u S ev (some (.obj 5)) a) (hc (ji u t bl (gj T)) Sf T.brk J [] .none)).bind _=_
  unfold jh Nu.Jz;rw [NL (ah (by decide) (Nat.le_add_left 59 j)) u.r6];rfl
 have Q3:=Fo u;have hdl:(T.d++[T.l]).length≤big:=by have:=sR (T.d++[T.l]);have e:T.brk.sz=nJ (T.d++[T.l])+0:=rfl;rw [Tx.kT] at e;exact ah this (by rw [← Nat.add_zero (nJ _), ← e];exact hT)
 have hw:∀w∈T.d++[T.l],w.length≤big:=λw hw=>by have h1:w.length+2≤nJ (T.d++[T.l]):=zC hw;have e:T.brk.sz=nJ (T.d++[T.l])+0:=rfl;rw [Tx.kT] at e;exact ah (bI _ 2) (ah h1 (by rw [← Nat.add_zero (nJ _), ← e];exact hT))
 have Sd:(E L2.prog (j+56)).ev (.comp false (.bin .Add (.aH 1) (.aH 15)) 2 [1] false (.val (.aH 10)) []) (s8 u S ev a) (hc (ji u t bl (gj T)) Sf T.brk J [] .none)=some (.lst ((T.d++[T.l]).map λw=>.str (w++u.lb)),hc (ji u t bl (gj T)) Sf T.brk J [] .none):=
  Fp (P:=L2.prog) (k:=j+55) (o:=2) (ws:=T.d++[T.l]) (ah hdl (by decide)) rfl (by show some (iW.list (gj T))=_;unfold gj;rw [List.map_append];rfl) λw h=>by
   show (binOp .Add (.str w) (.str u.lb) _).bind (λr=>some (r,hc (ji u t bl (gj T)) Sf T.brk J [] .none))=_
   rw [zl (c7 (hw w h) Q3 (by decide))];rfl
 have hz:((T.d++[T.l]).flatMap (·++u.lb)).length≤1000000:=by have e:T.brk.sz=nJ (T.d++[T.l])+0:=rfl;rw [Tx.kT] at e;exact ah (text_len Q3 _) (ah (show nJ (T.d++[T.l])≤big by rw [← Nat.add_zero (nJ _), ← e];exact hT) (by decide))
 have hB:=zm (k:=j+56) Sd (qb (f:=λw=>w++u.lb) (T.d++[T.l])) hz (ah (by decide) (Nat.le_add_left 56 j))
 have hA:(E L2.prog (j+57)).ev (.ay (.aJ (.aH 11) 21) 124 [] [] []) (s8 u S ev a) (hc (ji u t bl (gj T)) Sf T.brk J [] .none)=some (.str ((T.d++[T.l]).flatMap (·++u.lb)),hc (ji u t bl (gj T)) Sf T.brk J [] .none):=by
  have h:=JB hT hJ (l:=[]) (k:=j+56) (ah (by decide) (Nat.le_add_left 56 j))
  rw [show T.brk.text u.lb=(T.d++[T.l]).flatMap (·++u.lb) from cM _] at h
  show ((bK L2.prog (.obj 3) 124 (hc (ji u t bl (gj T)) Sf T.brk J [] .none)).bind λc=>d9 L2.prog (E L2.prog (j+56)) c [] [] [] (hc (ji u t bl (gj T)) Sf T.brk J [] .none))=_
  exact h
 have hC:(E L2.prog (j+58)).ev (.cmp (.ay (.aJ (.aH 11) 21) 124 [] [] []) [.Eq] [.ay (.bE (.str [])) 117 [.comp false (.bin .Add (.aH 1) (.aH 15)) 2 [1] false (.val (.aH 10)) []] [] []]) (s8 u S ev a) (hc (ji u t bl (gj T)) Sf T.brk J [] .none)=some (.bool true,hc (ji u t bl (gj T)) Sf T.brk J [] .none):=by
  show ((E L2.prog (j+57)).ev (.ay (.aJ (.aH 11) 21) 124 [] [] []) (s8 u S ev a) (hc (ji u t bl (gj T)) Sf T.brk J [] .none)).bind _=_
  rw [hA];show (((E L2.prog (j+57)).ev (.ay (.bE (.str [])) 117 [.comp false (.bin .Add (.aH 1) (.aH 15)) 2 [1] false (.val (.aH 10)) []] [] []) (s8 u S ev a) (hc (ji u t bl (gj T)) Sf T.brk J [] .none)).bind _).bind _=_
  rw [hB];show some (MV.bool (decide ((T.d++[T.l]).flatMap (·++u.lb)=(T.d++[T.l]).flatMap (·++u.lb))),_)=_
  rw [decide_eq_true rfl]
 have s2:bU L2.prog (E L2.prog (j+58)) (iG.getD 18 .pass) (s8 u S ev a) (hc (ji u t bl (gj T)) Sf T.brk J [] .none)=some (.ret (.bool true),s8 u S ev a,hc (ji u t bl (gj T)) Sf T.brk J [] .none):=by
  show ((E L2.prog (j+58)).ev (.cmp (.ay (.aJ (.aH 11) 21) 124 [] [] []) [.Eq] [.ay (.bE (.str [])) 117 [.comp false (.bin .Add (.aH 1) (.aH 15)) 2 [1] false (.val (.aH 10)) []] [] []]) _ _).bind _=_
  rw [hC];rfl
 show (E L2.prog (j+60)).ex [iG.getD 17 .pass,iG.getD 18 .pass] _ _=_
 rw [cu s1];show (E L2.prog (j+59)).ex [iG.getD 18 .pass] _ _=_
 rw [cu s2];rfl
end
theorem mG{P:Prog}{a b:List aA}{l l':Loc}{h h':Hp}{r:Option (Fl×Loc×Hp)}{m n:Nat}(h1:∀k,300≤k→(E P k).ex a l h=some (.next,l',h'))(h2:∀k,m≤k→(E P k).ex b l' h'=r)(hm:300≤m)(hn:n=m+1+a.length):∀k,n≤k→(E P k).ex (a++b) l h=r:=λk hk=>by
 obtain ⟨j,rfl⟩:=Nat.exists_eq_add_of_le' hk;rw [show j+n=j+m+1+a.length by rw [hn];simp only [Nat.add_assoc]]
 refine (Fd a (j+m) l h (h1 _ (ah hm (ah (Nat.le_add_left m j) (ah (bI _ 1) (bI _ _)))))).trans ?_;exact h2 _ (ah (Nat.le_add_left m j) (bI _ 1))
theorem qf{a k:Nat}(h:a≤300)(hk:300≤k):a≤k:=ah h hk
theorem plain2:Plain L2.prog 72:=λl hl=>by
 obtain ⟨iv,wv,p1⟩:=Ny hl
 let u:Nu:=⟨iv,wv,kX l⟩
 let S:List MV:=(l.take 8).map .int
 obtain ⟨i,its,t',q1,q2,q3,q4⟩:=NF u (Jx l) S
 let T:Tx:=iT u.ex u.m i its
 have hz:T.sz+2≤big:=ah (fE q3.2 2) (by decide)
 have hb:(cK u.m false::cS u.m (i::its)).length≤100000:=ah (Nat.succ_le_succ q2) (by decide)
 obtain ⟨J,a,Sf,hJ,p6⟩:=NJ (u:=u) (S:=S) (t:=fz t') (pg:=gj T) q1 q2 (cK u.m false::cS u.m (i::its));have e7:∀k,300≤k→(E L2.prog k).ex (jx 17 2) _ _=_:=λk hk=>NN (S:=S) (ev:=some (.lst (nO u.ex u.m i its))) (a:=a) hz hJ (qf (by decide) hk)
 have e6:=mG (n:=302) (λk hk=>p6 k (qf (by decide) hk)) e7 (by decide) rfl
 have e5:=mG (n:=304) (λk hk=>NI (u:=u) (S:=S) (t:=fz t') (bl:=cK u.m false::cS u.m (i::its)) (pg:=gj T) (L:=nO u.ex u.m i its) (qf (by decide) hk)) e6 (by decide) rfl
 have e4:=mG (n:=306) (λk hk=>NG (u:=u) (S:=S) (t:=fz t') (bl:=cK u.m false::cS u.m (i::its)) (pg:=gj T) hb (qf (by decide) hk)) e5 (by decide) rfl
 have e3:=mG (n:=315) (λk hk=>q4 k (qf (by decide) hk)) e4 (by decide) rfl
 have e2:=mG (n:=317) (λk hk=>NB (l:=l) (iv:=gZ iv) (wv:=gZ wv) (qf (by decide) hk)) e3 (by decide) rfl
 have e1:=mG (n:=323) (λk hk=>p1 k (qf (by decide) hk)) e2 (by decide) rfl
 refine ⟨324,hc (ji u (fz t') (cK u.m false::cS u.m (i::its)) (gj T)) Sf T.brk J [] .none,by decide,?_⟩
 show ((E L2.prog 323).ex (jx 0 5++(jx 5 1++(jx 6 8++(jx 14 1++(jx 15 1++(jx 16 1++jx 17 2)))))) (Fe (some (.lst (l.map .int))) none none) []).bind _=_
 rw [e1 323 (bf _)];rfl
end
section
theorem XN:PySem.Challenge.rw_im0052_02.Holds:=hd2 (walk2 plain2)
end
end Mine
theorem PySem.Challenge.cw_im0052_02_holds : PySem.Challenge.rw_im0052_02.Holds :=
  Mine.XN
