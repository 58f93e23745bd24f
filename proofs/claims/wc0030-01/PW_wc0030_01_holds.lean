import PyProof.Rows.All
import Wide.All
import OpenK.AllK
import Wide.FinOn
import Lean
import PySem.Challenge.RW_wc0030_01
set_option Elab.async false
set_option genSizeOf false
set_option genSizeOfSpec false
set_option genInjectivity false
set_option genCtorIdx false
set_option compiler.extract_closed false
set_option maxRecDepth 100000
set_option linter.all false
set_option tactic.hygienic false
open Classical renaming em→bg
open Exists renaming imp→ak
open Ne renaming symm→aN
open Prod renaming fst→cD
open Prod.mk renaming inj→af
open PyProof.Rows renaming exec_Assign→bP, get?_update_seq→cb, IntsAre→cp, markedEach_of_false→c7
open PySem renaming sliceBounds→ae, DictEntry→ag, builtinLookup_eq_fast→ah, wpAny_holding→ai, mainGlobals→aj, treeTable→aq, isSubtype_type→au, typeLookup_type→av, swappedStores→ax, typeLookup→aA, rawInt→aB, builtinsNs→aC, pushCells→aE, wpAny_truthy_bool→aG, codeAny_call_builtin→aH, Builtin→aJ, sysModules→aK, sliceRange→aO, holding→aP, swapsWith→aU, backToKw→aX, wpAny_of_eq→aY, TriplesOk→aZ, Arguments→a7, cellsFrom→a9, call_meets→a_, bindArgs→ba, wpAny_specialOf→bb, specialOf→bh, sizeLine→bk, newFunctionEnv→bl, callWith→bo, wpAny_newObj_type→bq, wpAny_dictEntries→br, sizeLine_eq→bu, codeAny→bw, wpAny_call_entry→bA, wpAny_callSpecial?_slot→bB, lastMarks→bC, isSubtype→bD, entryFor_of_tree→bE, isTrue→bG, wpAny_execs_nil→bH, importedModules→bI, wpAny_alloc→bK, entryFor→bL, dictEntries→bM, dictDisplay→bN, argsOk→bO, behindInMarks→bS, wpAny_load→bT, FuncBody→bX, wpAny_isInstance→b6, wpAny_forIn_list→b7, CmpOp→b9, letOwnedTupleGo→b_, codeAny_of_tree→cf, relabel→ck, dictPut→cm, wpAny_call→ct, letTemporaryGo→cu, evalArgs→cw, Const→cB, wpAny_binaryOp_repeat_ref→cC, Flow→cF, notedBy→cM, backTo→cN, JoinOk→cO, int___rmul___int_list→cQ, wpAny_loadName_local→cS, wpAny_field→cT, unsupported→cU, table→cV, keeperOf→cW, dictFind→cX, alloc→cY, wpAny_loadName_cell→cZ, any_of_findIdx_some→c8, closureFor→c_, cellOf→da, assignEach→dd, wpAny_pyIter_list→dk, wpAny_Call_ofName→dm, slot_list_setitem→dn, hashInt→dp, foldedSetIterable→dq, asItWas→dr, again→du
open PySem.AutoListH renaming list_append_list_val_0→aW, list___mul___list_int_3→bF
open PySem.Bind renaming lastOf→bV, checkArgs→c9
open PySem.Builtin renaming divisionGoesByPylong→ab, bitNot→ay, bitAnd→aQ, bitOr→bc, bitXor→bz
open PySem.Builtin.Int renaming intBits→aa
open PySem.Builtin.List renaming listFitsIndex→bJ, listTooLong→bQ
open PySem.Builtin.Range renaming rangeSize→ao, small→bW
open PySem.Builtin.Str renaming tooLong→b0
open PySem.Calls renaming callWith_builtin→cj, wpAny_keep→cP
open PySem.Code renaming compLoop→bj, compStart→bZ, builtin→cq, quiet_builtin→cK
open PySem.Const.str renaming elim→bR
open PySem.Manifest renaming signature?→cg, canonical→cn, find?→cJ
open PySem.PyData renaming keyHash→aS
open PySem.SeqAt renaming RcNeAt→cz, EqAt→dg
open PySem.Txt renaming join→aw, replace→az, slice→aM, lower→a8, count→bU, mul→bY, find→b8
open PySem.W renaming boot_drawn→aD, boot_heap→aV, topRun→bx, segRun_of→cG, boot_toks→cH, CodeHd→dh
open PySem.Walks renaming tuple→cx, range→cy, list→cE
noncomputable section
open PySem PySem.W PyProof.Rows
namespace ft
abbrev DS:=Option Addr×List (Sem Value×Sem Value)
noncomputable def hq (a b:Int):Bool:=Int.rec (λx=>Int.rec (λy=>Nat.beq x y) (λ_=>false) b) (λx=>Int.rec (λ_=>false) (λy=>Nat.beq x y) b) a
theorem z6 (x y):Nat.beq x y=decide (x=y):=by
 cases q:Nat.beq x y with
 | true=>exact (decide_eq_true (Nat.eq_of_beq_eq_true q)).symm
 | false=>exact (decide_eq_false (Nat.ne_of_beq_eq_false q)).symm
theorem Sg (a b):(a==b)=hq a b:=by
 cases a with
 | ofNat x=>cases b with
  | ofNat y=>exact (decide_eq_decide.mpr Int.ofNat_inj).trans (z6 x y).symm
  | negSucc y=>exact decide_eq_false λh=>Int.noConfusion h
 | negSucc x=>cases b with
  | ofNat y=>exact decide_eq_false λh=>Int.noConfusion h
  | negSucc y=>exact (decide_eq_decide.mpr Int.negSucc_inj).trans (z6 x y).symm
def CQ (h:Int) (l:List ag):Nat->List Nat:=List.rec (motive:=λ_=>Nat->List Nat) (λ_=>[]) (λe _ r i=>Bool.rec (r (i+1)) (i::r (i+1)) (hq e.hash h)) l
theorem CP (h:Int):∀(l pre:List ag),CQ h l pre.length=(List.range' pre.length l.length).filter λi=>((pre++l)[i]?.map (·.hash))==some h
 | [],pre=>rfl
 | e::l,pre=>by
  have ih:=CP h l (pre++[e])
  rw[List.length_append,List.append_assoc] at ih
  have e0:CQ h (e::l) pre.length=Bool.rec (CQ h l (pre.length+1)) (pre.length::CQ h l (pre.length+1)) (hq e.hash h):=rfl
  rw[e0]
  rw[List.length_cons,List.range'_succ,List.filter_cons]
  have e1:(pre++e::l)[pre.length]?=some e:=by simp
  rw[e1]
  have e2:((some e).map (·.hash)==some h)=hq e.hash h:=Sg e.hash h
  rw[e2]
  cases hb:hq e.hash h with
  | true=>simp only[if_true];congr 1
  | false=>simp only[Bool.false_eq_true,if_false];exact ih
theorem yF (es:Array ag) (h:Int):placesWithHash es.size (λi=>es[i]?.map (·.hash)) h=CQ h es.toList 0:=by
 have:=CP h es.toList []
 simp only[List.length_nil,List.nil_append] at this
 rw[this]
 unfold placesWithHash
 rw[List.range_eq_range']
 simp
noncomputable def Od:{ B:Addr->Value->Int->Array ag->Sem (Option Nat) // ∀d key h,cX d key h=aP [key] (bM d (keyPart key)>>=B d key h) }:=⟨_,λd key h=>rfl⟩
def U9:{ B:Addr->Value->Int->Array ag->Sem (Option Nat) // ∀d key h es,Od.1 d key h es=B d key h es }:=⟨_,λd key h es=>by
 conv=>
  lhs
  delta Od
  dsimp (config:={zeta:=false}) only
  rw[yF]⟩
def U8:{ F:Addr->Value->Int->Sem (Option Nat) // ∀d key h,cX d key h=F d key h }:=⟨λd key h=>aP [key] (bM d (keyPart key)>>=U9.1 d key h),λd key h=>(Od.2 d key h).trans (congrArg (λf=>aP [key] (bM d (keyPart key)>>=f)) (funext λa=>U9.2 d key h a))⟩
theorem Oc:cX=U8.1:=funext λd=>funext λk=>funext λh=>U8.2 d k h
def U7:{ F:Addr->Int->Value->Value->Sem Unit // ∀d h key v,cm d h key v=F d h key v }:=⟨_,λd h key v=>by unfold cm;rw[Oc]⟩
theorem Oa:cm=U7.1:=funext λd=>funext λk=>funext λh=>funext λv=>U7.2 d k h v
def Uv:{ F:Addr->Value->Bool->Sem Unit // ∀d m u,mergeMapping d m u=F d m u }:=⟨_,λd m u=>by unfold mergeMapping;rw[Oa]⟩
theorem MS:mergeMapping=Uv.1:=funext λd=>funext λk=>funext λh=>Uv.2 d k h
def jA:{ a:((Option (Sem Value)×Sem Value)->DS->Sem (ForInStep DS))×(DS->Sem Value) // ∀items,bN items=(forIn items ((none,[]):DS) a.1>>=a.2) }:=⟨(_,_),λitems=>by unfold bN;rw[MS,PySem.W.Fast.te11913375310210876947]⟩
end ft
end
noncomputable section
namespace ft
open PySem PySem.W PyProof.Rows
noncomputable abbrev pw:Program:=PySem.Challenge.pw_wc0030_01
def st (i:Nat):Stmt:=pw.main.body.getD i (.Pass ⟨0,0,0,0⟩)
noncomputable def um (s:Stmt):Str×a7×List Stmt×Scope:=if h:s.ctorIdx=0 then Stmt.FunctionDef.elim (motive_2:=λ_=>Str×a7×List Stmt×Scope) s h λx a b _ _ _ c _ _ _=>(x,a,b,c) else (Str.empty,⟨[],[],none,[],[],none,[]⟩,[],{ kind:=.module,names:=[],isGenerator:=false,isCoroutine:=false,more:=[] })
def gw (s:Stmt):a7:=(um s).2.1
def pV (s:Stmt):bX:=.stmts (um s).2.2.1
def ek (s:Stmt):Scope:=(um s).2.2.2
noncomputable def de (P:Params) (x:String) (t:Nat) (v:Value):ag:=⟨aS P (Str.ofString x),.str (Str.ofString x) t,v⟩
noncomputable def di (i:Int) (t:Nat) (v:Value):ag:=⟨i,.int i t,v⟩
noncomputable def ents (o:Obj):Array ag:=match o.data with | .dict a _=>a | _=>#[]
noncomputable def W5 (o:Obj):Array Value:=match o.data with | .fields a=>a | _=>#[]
def dj (t:Nat) (x:Int×Str):ag:=di x.1 t (.str x.2 (t+1))
noncomputable def C9 (d:Nat):Nat->List (Int×Str)->List ag
 | _,[]=>[]
 | t,x::l=>dj t x::C9 d (t+d) l
noncomputable def T4:Nat->List String->List Value
 | _,[]=>[]
 | t,x::l=>.str (Str.ofString x) t::T4 (t+1) l
noncomputable def vC:Obj:=⟨.type "tuple",none,.seq #[] 0,#[]⟩
noncomputable def xm:Obj:=⟨.none,none,.fields #[],#[]⟩
def Lz (t:Nat) (l:List String):Obj:=⟨.type "tuple",none,.seq (Array.mk (T4 t l)) 0,#[]⟩
def N4 (i:Nat) (x:String) (g:Addr) (d m c:Value):FuncData:={ name:=Str.ofString x,qualname:=Str.ofString x,params:=gw (st i),body:=pV (st i),scope:=ek (st i),globals:=g,closure:=[],defaults:=d,kwdefaults:=.none,doc:=.none,pyModule:=m,annotations:=none,code:=c,closureTuple:=.none,builtins:=0 }
def UZ (i:Nat) (x:String):Obj:=⟨.none,none,.func (N4 i x 0 .none .none .none),#[]⟩
def I6 (i:Nat) (x:String) (d:Value) (m:String) (t c:Nat):Obj:=⟨.type "function",none,.func (N4 i x 3 d (.str (Str.ofString m) t) (.ref c)),#[]⟩
noncomputable def Ja (x:String) (t:Nat) (l:Int) (a b c d:Int) (r e:Nat) (u v w:Value) (z:Nat) (k:Nat):Obj:=⟨.type "code",none,.fields #[.str (Str.ofString x) t,.str (Str.ofString x) (t+1),.str (Str.ofString "/claim/cut.py") (t+2),.int l 0,.int a 0,.int b 0,.int c 0,.int d 0,.ref r,.bool true,.int 181 0,.ref e,u,v,w,.ref z,.int k 0,.int l 0,.str (Str.ofString "/claim/cut.py") (k+1)],#[]⟩
def fap (o:Obj) (l:Int) (c:Nat):Obj:=⟨.none,none,.fields (W5 o++#[.int l 0,.int 0 0,.ref c]),#[]⟩
def zV (o:Obj) (l:List ag) (k:Nat):Obj:=⟨.type "dict",none,.dict (Array.mk ((ents o).toList++l)) k,#[]⟩
noncomputable def Og (l:List ag) (k:Nat):Obj:=⟨.type "dict",none,.dict (Array.mk l) k,#[]⟩
def dnm (o:Obj) (e:ag) (k:Nat):Obj:=⟨.type "dict",none,.dict (Array.mk (e::(ents o).toList.tail)) k,#[]⟩
def gu:Env:={ scope:=pw.main.scope,locals:=mainNs,globals:=mainNs,cells:=[],code:=.ref 13,frame:=some 14 }
def By:List Stmt:=behindTheImports pw
def gU:Code:=.body By gu
noncomputable def q0:Pos:=⟨0,0,0,0⟩
def B0:List Frame:=[topFrame q0]
noncomputable def fP:Option Value:=some (.ref 6)
abbrev sz:=PySem.W.Fast.tw10110043849684766642 PySem.W.Fast.tw14364793385576792824 pw
abbrev Ms (l:List Stmt) (p:Pos):Thread:=⟨(PySem.W.Fast.tw12563942051412417395 l gu).wrap doneF deadEnd id id,gU,p,B0⟩
theorem QZ {S:SharedT} (h:sz w 11 fP 1 n S (Ms l p)=r):segRunT aq pw w 11 fP 1 n S (piecesOf l gu gU p B0)=r:=by
 rw[PySem.W.Fast.te10110043849684766642,PySem.W.Fast.te14364793385576792824]
 unfold piecesOf
 rw[PySem.W.Fast.te12563942051412417395]
 exact h
theorem Au {S:SharedT} (h:sz w 11 fP 1 n S t=r):segRunT aq pw w 11 fP 1 n S t=r:=by
 rw[PySem.W.Fast.te10110043849684766642,PySem.W.Fast.te14364793385576792824]
 exact h
noncomputable def jz {α b:Type} (f:α->b->Sem (ForInStep b)):List α->b->Sem (ForInStep b)
 | [],s=>pure (.yield s)
 | x::l,s=>f x s>>=λr=>match r with | .done a=>pure (.done a) | .yield a=>jz f l a
theorem DG {α c:Type} (f:α->c->Sem (ForInStep c)) (b a:List α):∀s:c,forIn (a++b) s f=jz f a s>>=λr=>match r with | .done x=>pure x | .yield x=>forIn b x f:=by
 induction a with
 | nil=>exact λs=>(pure_bind ..).symm
 | cons x l d=>exact λs=>(List.forIn_cons ..).trans ((congrArg (f x s>>=·) (funext λr=>ForInStep.casesOn r (λy=>(pure_bind ..).symm) d)).trans (bind_assoc ..).symm)
noncomputable def Fj:ForInStep DS->cF:=λa=>match a with
 | .done _=>.cont
 | .yield a=>if a.2.isEmpty then (match a.1 with | some d=>.ret (.ref d) | none=>.brk) else .cont
theorem Fi (h:Fj a=.ret (.ref d)):a=.yield (some d,[]):=by
 cases a with
 | done x=>exact (nomatch (h:cF.cont=.ret (.ref d)))
 | yield x=>cases x with
  | mk m l=>cases l with
   | cons _ _=>exact (nomatch (h:cF.cont=.ret (.ref d)))
   | nil=>cases m with
    | none=>exact (nomatch (h:cF.brk=.ret (.ref d)))
    | some e=>exact congrArg (λd=>ForInStep.yield (some d,[])) (Value.ref.inj (cF.ret.inj h))
noncomputable def pz (s:Stmt):List PySem.Expr×PySem.Expr×Pos:=if h:s.ctorIdx=5 then Stmt.Assign.elim (motive_2:=λ_=>List PySem.Expr×PySem.Expr×Pos) s h λa b c=>(a,b,c) else ([],.Name Str.empty ⟨0,0,0,0⟩,⟨0,0,0,0⟩)
noncomputable def vg (e:PySem.Expr):List (Option PySem.Expr)×List PySem.Expr×Pos:=if h:e.ctorIdx=6 then Expr.Dict.elim (motive_1:=λ_=>List (Option PySem.Expr)×List PySem.Expr×Pos) e h λa b c=>(a,b,c) else ([],[],⟨0,0,0,0⟩)
noncomputable def Yl (e:PySem.Expr):Str×Pos:=if h:e.ctorIdx=23 then Expr.Name.elim (motive_1:=λ_=>Str×Pos) e h λa b=>(a,b) else (Str.empty,⟨0,0,0,0⟩)
noncomputable def s8 (e:PySem.Expr):cB:=if h:e.ctorIdx=19 then Expr.Constant.elim (motive_1:=λ_=>cB) e h λa _ _=>a else .none
noncomputable def WJ (c:cB):Option Int:=if h:c.ctorIdx=2 then cB.int.elim (motive:=λ_=>Option Int) c h some else none
noncomputable def vU (c:cB):Option Str:=if h:c.ctorIdx=5 then bR (motive:=λ_=>Option Str) c h some else none
abbrev BD:List (Option PySem.Expr):=(vg (pz (st 20)).2.1).1
abbrev BB:List PySem.Expr:=(vg (pz (st 20)).2.1).2.1
abbrev OL:Pos:=(vg (pz (st 20)).2.1).2.2
def kW (i:Nat):List (Option (Sem Value)×Sem Value):=(evalEachOpt ((BD.drop (17*i)).take 17) gu).zip ((evalEach ((BB.drop (17*i)).take 17) gu).map λv=>do let x←v;standAt OL;pure x)
def fF:List (Option (Sem Value)×Sem Value):=(evalEachOpt BD gu).zip ((evalEach BB gu).map λv=>do let x←v;standAt OL;pure x)
theorem GR (env) (l):evalEach l env=l.map λe=>eval e env:=by
 induction l with
 | nil=>rfl
 | cons e l a=>exact congrArg (eval e env::·) a
theorem yP (env) (l):evalEachOpt l env=l.map λe=>evalOpt e env:=by
 induction l with
 | nil=>rfl
 | cons e l a=>exact congrArg (evalOpt e env::·) a
theorem SQ (i):(fF.drop (17*i)).take 17=kW i:=by
 unfold fF kW
 simp only[GR,yP,List.map_take,List.map_drop,List.zip,List.drop_zipWith,List.take_zipWith]
abbrev Jb (i:Nat) (b:DS) (p:Pos):Thread:=⟨(jz jA.1.1 (kW i) b).wrap (λa=>.pure (.done (Fj a))) deadEnd id id,gU,p,B0⟩
noncomputable def e0:List (Int×Str):=[(181,"μ"),(223,"ss"),(304,"i̇"),(329,"ʼn"),(383,"s"),(496,"ǰ"),(837,"ι"),(890," ι"),(912,"ΐ"),(944,"ΰ"),(962,"σ"),(976,"β"),(977,"θ"),(978,"υ"),(979,"ύ"),(980,"ϋ"),(981,"φ")]
noncomputable def e1:List (Int×Str):=[(982,"π"),(1008,"κ"),(1009,"ρ"),(1010,"σ"),(1013,"ε"),(1415,"եւ"),(7830,"ẖ"),(7831,"ẗ"),(7832,"ẘ"),(7833,"ẙ"),(7834,"aʾ"),(7835,"ṡ"),(8016,"ὐ"),(8018,"ὒ"),(8020,"ὔ"),(8022,"ὖ"),(8064,"ἀι")]
noncomputable def e2:List (Int×Str):=[(8065,"ἁι"),(8066,"ἂι"),(8067,"ἃι"),(8068,"ἄι"),(8069,"ἅι"),(8070,"ἆι"),(8071,"ἇι"),(8072,"ἀι"),(8073,"ἁι"),(8074,"ἂι"),(8075,"ἃι"),(8076,"ἄι"),(8077,"ἅι"),(8078,"ἆι"),(8079,"ἇι"),(8080,"ἠι"),(8081,"ἡι")]
noncomputable def e3:List (Int×Str):=[(8082,"ἢι"),(8083,"ἣι"),(8084,"ἤι"),(8085,"ἥι"),(8086,"ἦι"),(8087,"ἧι"),(8088,"ἠι"),(8089,"ἡι"),(8090,"ἢι"),(8091,"ἣι"),(8092,"ἤι"),(8093,"ἥι"),(8094,"ἦι"),(8095,"ἧι"),(8096,"ὠι"),(8097,"ὡι"),(8098,"ὢι")]
noncomputable def e4:List (Int×Str):=[(8099,"ὣι"),(8100,"ὤι"),(8101,"ὥι"),(8102,"ὦι"),(8103,"ὧι"),(8104,"ὠι"),(8105,"ὡι"),(8106,"ὢι"),(8107,"ὣι"),(8108,"ὤι"),(8109,"ὥι"),(8110,"ὦι"),(8111,"ὧι"),(8114,"ὰι"),(8115,"αι"),(8116,"άι"),(8118,"ᾶ")]
noncomputable def e5:List (Int×Str):=[(8119,"ᾶι"),(8124,"αι"),(8126,"ι"),(8130,"ὴι"),(8131,"ηι"),(8132,"ήι"),(8134,"ῆ"),(8135,"ῆι"),(8140,"ηι"),(8146,"ῒ"),(8147,"ΐ"),(8150,"ῖ"),(8151,"ῗ"),(8162,"ῢ"),(8163,"ΰ"),(8164,"ῤ"),(8166,"ῦ")]
noncomputable def e6:List (Int×Str):=[(8167,"ῧ"),(8178,"ὼι"),(8179,"ωι"),(8180,"ώι"),(8182,"ῶ"),(8183,"ῶι"),(8188,"ωι"),(8360,"rs"),(8450,"c"),(8451,"°c"),(8455,"ɛ"),(8457,"°f"),(8459,"h"),(8460,"h"),(8461,"h"),(8464,"i"),(8465,"i")]
noncomputable def e7:List (Int×Str):=[(8466,"l"),(8469,"n"),(8470,"no"),(8473,"p"),(8474,"q"),(8475,"r"),(8476,"r"),(8477,"r"),(8480,"sm"),(8481,"tel"),(8482,"tm"),(8484,"z"),(8488,"z"),(8492,"b"),(8493,"c"),(8496,"e"),(8497,"f")]
noncomputable def e8:List (Int×Str):=[(8499,"m"),(8510,"γ"),(8511,"π"),(8517,"d"),(13169,"hpa"),(13171,"au"),(13173,"ov"),(13184,"pa"),(13185,"na"),(13186,"μa"),(13187,"ma"),(13188,"ka"),(13189,"kb"),(13190,"mb"),(13191,"gb"),(13194,"pf"),(13195,"nf")]
noncomputable def e9:List (Int×Str):=[(13196,"μf"),(13200,"hz"),(13201,"khz"),(13202,"mhz"),(13203,"ghz"),(13204,"thz"),(13225,"pa"),(13226,"kpa"),(13227,"mpa"),(13228,"gpa"),(13236,"pv"),(13237,"nv"),(13238,"μv"),(13239,"mv"),(13240,"kv"),(13241,"mv"),(13242,"pw")]
noncomputable def e10:List (Int×Str):=[(13243,"nw"),(13244,"μw"),(13245,"mw"),(13246,"kw"),(13247,"mw"),(13248,"kω"),(13249,"mω"),(13251,"bq"),(13254,"c∕kg"),(13255,"co."),(13256,"db"),(13257,"gy"),(13259,"hp"),(13261,"kk"),(13262,"km"),(13271,"ph"),(13273,"ppm")]
noncomputable def e11:List (Int×Str):=[(13274,"pr"),(13276,"sv"),(13277,"wb"),(64256,"ff"),(64257,"fi"),(64258,"fl"),(64259,"ffi"),(64260,"ffl"),(64261,"st"),(64262,"st"),(64275,"մն"),(64276,"մե"),(64277,"մի"),(64278,"վն"),(64279,"մխ"),(119808,"a"),(119809,"b")]
noncomputable def e12:List (Int×Str):=[(119810,"c"),(119811,"d"),(119812,"e"),(119813,"f"),(119814,"g"),(119815,"h"),(119816,"i"),(119817,"j"),(119818,"k"),(119819,"l"),(119820,"m"),(119821,"n"),(119822,"o"),(119823,"p"),(119824,"q"),(119825,"r"),(119826,"s")]
noncomputable def e13:List (Int×Str):=[(119827,"t"),(119828,"u"),(119829,"v"),(119830,"w"),(119831,"x"),(119832,"y"),(119833,"z"),(119860,"a"),(119861,"b"),(119862,"c"),(119863,"d"),(119864,"e"),(119865,"f"),(119866,"g"),(119867,"h"),(119868,"i"),(119869,"j")]
noncomputable def e14:List (Int×Str):=[(119870,"k"),(119871,"l"),(119872,"m"),(119873,"n"),(119874,"o"),(119875,"p"),(119876,"q"),(119877,"r"),(119878,"s"),(119879,"t"),(119880,"u"),(119881,"v"),(119882,"w"),(119883,"x"),(119884,"y"),(119885,"z"),(119912,"a")]
noncomputable def e15:List (Int×Str):=[(119913,"b"),(119914,"c"),(119915,"d"),(119916,"e"),(119917,"f"),(119918,"g"),(119919,"h"),(119920,"i"),(119921,"j"),(119922,"k"),(119923,"l"),(119924,"m"),(119925,"n"),(119926,"o"),(119927,"p"),(119928,"q"),(119929,"r")]
noncomputable def e16:List (Int×Str):=[(119930,"s"),(119931,"t"),(119932,"u"),(119933,"v"),(119934,"w"),(119935,"x"),(119936,"y"),(119937,"z"),(119964,"a"),(119966,"c"),(119967,"d"),(119970,"g"),(119973,"j"),(119974,"k"),(119977,"n"),(119978,"o"),(119979,"p")]
noncomputable def e17:List (Int×Str):=[(119980,"q"),(119982,"s"),(119983,"t"),(119984,"u"),(119985,"v"),(119986,"w"),(119987,"x"),(119988,"y"),(119989,"z"),(120016,"a"),(120017,"b"),(120018,"c"),(120019,"d"),(120020,"e"),(120021,"f"),(120022,"g"),(120023,"h")]
noncomputable def e18:List (Int×Str):=[(120024,"i"),(120025,"j"),(120026,"k"),(120027,"l"),(120028,"m"),(120029,"n"),(120030,"o"),(120031,"p"),(120032,"q"),(120033,"r"),(120034,"s"),(120035,"t"),(120036,"u"),(120037,"v"),(120038,"w"),(120039,"x"),(120040,"y")]
noncomputable def e19:List (Int×Str):=[(120041,"z"),(120068,"a"),(120069,"b"),(120071,"d"),(120072,"e"),(120073,"f"),(120074,"g"),(120077,"j"),(120078,"k"),(120079,"l"),(120080,"m"),(120081,"n"),(120082,"o"),(120083,"p"),(120084,"q"),(120086,"s"),(120087,"t")]
noncomputable def e20:List (Int×Str):=[(120088,"u"),(120089,"v"),(120090,"w"),(120091,"x"),(120092,"y"),(120120,"a"),(120121,"b"),(120123,"d"),(120124,"e"),(120125,"f"),(120126,"g"),(120128,"i"),(120129,"j"),(120130,"k"),(120131,"l"),(120132,"m"),(120134,"o")]
noncomputable def e21:List (Int×Str):=[(120138,"s"),(120139,"t"),(120140,"u"),(120141,"v"),(120142,"w"),(120143,"x"),(120144,"y"),(120172,"a"),(120173,"b"),(120174,"c"),(120175,"d"),(120176,"e"),(120177,"f"),(120178,"g"),(120179,"h"),(120180,"i"),(120181,"j")]
noncomputable def e22:List (Int×Str):=[(120182,"k"),(120183,"l"),(120184,"m"),(120185,"n"),(120186,"o"),(120187,"p"),(120188,"q"),(120189,"r"),(120190,"s"),(120191,"t"),(120192,"u"),(120193,"v"),(120194,"w"),(120195,"x"),(120196,"y"),(120197,"z"),(120224,"a")]
noncomputable def e23:List (Int×Str):=[(120225,"b"),(120226,"c"),(120227,"d"),(120228,"e"),(120229,"f"),(120230,"g"),(120231,"h"),(120232,"i"),(120233,"j"),(120234,"k"),(120235,"l"),(120236,"m"),(120237,"n"),(120238,"o"),(120239,"p"),(120240,"q"),(120241,"r")]
noncomputable def e24:List (Int×Str):=[(120242,"s"),(120243,"t"),(120244,"u"),(120245,"v"),(120246,"w"),(120247,"x"),(120248,"y"),(120249,"z"),(120276,"a"),(120277,"b"),(120278,"c"),(120279,"d"),(120280,"e"),(120281,"f"),(120282,"g"),(120283,"h"),(120284,"i")]
noncomputable def e25:List (Int×Str):=[(120285,"j"),(120286,"k"),(120287,"l"),(120288,"m"),(120289,"n"),(120290,"o"),(120291,"p"),(120292,"q"),(120293,"r"),(120294,"s"),(120295,"t"),(120296,"u"),(120297,"v"),(120298,"w"),(120299,"x"),(120300,"y"),(120301,"z")]
noncomputable def e26:List (Int×Str):=[(120328,"a"),(120329,"b"),(120330,"c"),(120331,"d"),(120332,"e"),(120333,"f"),(120334,"g"),(120335,"h"),(120336,"i"),(120337,"j"),(120338,"k"),(120339,"l"),(120340,"m"),(120341,"n"),(120342,"o"),(120343,"p"),(120344,"q")]
noncomputable def e27:List (Int×Str):=[(120345,"r"),(120346,"s"),(120347,"t"),(120348,"u"),(120349,"v"),(120350,"w"),(120351,"x"),(120352,"y"),(120353,"z"),(120380,"a"),(120381,"b"),(120382,"c"),(120383,"d"),(120384,"e"),(120385,"f"),(120386,"g"),(120387,"h")]
noncomputable def e28:List (Int×Str):=[(120388,"i"),(120389,"j"),(120390,"k"),(120391,"l"),(120392,"m"),(120393,"n"),(120394,"o"),(120395,"p"),(120396,"q"),(120397,"r"),(120398,"s"),(120399,"t"),(120400,"u"),(120401,"v"),(120402,"w"),(120403,"x"),(120404,"y")]
noncomputable def e29:List (Int×Str):=[(120405,"z"),(120432,"a"),(120433,"b"),(120434,"c"),(120435,"d"),(120436,"e"),(120437,"f"),(120438,"g"),(120439,"h"),(120440,"i"),(120441,"j"),(120442,"k"),(120443,"l"),(120444,"m"),(120445,"n"),(120446,"o"),(120447,"p")]
noncomputable def e30:List (Int×Str):=[(120448,"q"),(120449,"r"),(120450,"s"),(120451,"t"),(120452,"u"),(120453,"v"),(120454,"w"),(120455,"x"),(120456,"y"),(120457,"z"),(120488,"α"),(120489,"β"),(120490,"γ"),(120491,"δ"),(120492,"ε"),(120493,"ζ"),(120494,"η")]
noncomputable def e31:List (Int×Str):=[(120495,"θ"),(120496,"ι"),(120497,"κ"),(120498,"λ"),(120499,"μ"),(120500,"ν"),(120501,"ξ"),(120502,"ο"),(120503,"π"),(120504,"ρ"),(120505,"θ"),(120506,"σ"),(120507,"τ"),(120508,"υ"),(120509,"φ"),(120510,"χ"),(120511,"ψ")]
noncomputable def Z':List (Int×Str):=[(120512,"ω"),(120531,"σ"),(120546,"α"),(120547,"β"),(120548,"γ"),(120549,"δ"),(120550,"ε"),(120551,"ζ"),(120552,"η"),(120553,"θ"),(120554,"ι"),(120555,"κ"),(120556,"λ"),(120557,"μ"),(120558,"ν"),(120559,"ξ"),(120560,"ο")]
noncomputable def Z_:List (Int×Str):=[(120561,"π"),(120562,"ρ"),(120563,"θ"),(120564,"σ"),(120565,"τ"),(120566,"υ"),(120567,"φ"),(120568,"χ"),(120569,"ψ"),(120570,"ω"),(120589,"σ"),(120604,"α"),(120605,"β"),(120606,"γ"),(120607,"δ"),(120608,"ε"),(120609,"ζ")]
noncomputable def Z9:List (Int×Str):=[(120610,"η"),(120611,"θ"),(120612,"ι"),(120613,"κ"),(120614,"λ"),(120615,"μ"),(120616,"ν"),(120617,"ξ"),(120618,"ο"),(120619,"π"),(120620,"ρ"),(120621,"θ"),(120622,"σ"),(120623,"τ"),(120624,"υ"),(120625,"φ"),(120626,"χ")]
noncomputable def Z8:List (Int×Str):=[(120627,"ψ"),(120628,"ω"),(120647,"σ"),(120662,"α"),(120663,"β"),(120664,"γ"),(120665,"δ"),(120666,"ε"),(120667,"ζ"),(120668,"η"),(120669,"θ"),(120670,"ι"),(120671,"κ"),(120672,"λ"),(120673,"μ"),(120674,"ν"),(120675,"ξ")]
noncomputable def Z7:List (Int×Str):=[(120676,"ο"),(120677,"π"),(120678,"ρ"),(120679,"θ"),(120680,"σ"),(120681,"τ"),(120682,"υ"),(120683,"φ"),(120684,"χ"),(120685,"ψ"),(120686,"ω"),(120705,"σ"),(120720,"α"),(120721,"β"),(120722,"γ"),(120723,"δ"),(120724,"ε")]
noncomputable def Z6:List (Int×Str):=[(120725,"ζ"),(120726,"η"),(120727,"θ"),(120728,"ι"),(120729,"κ"),(120730,"λ"),(120731,"μ"),(120732,"ν"),(120733,"ξ"),(120734,"ο"),(120735,"π"),(120736,"ρ"),(120737,"θ"),(120738,"σ"),(120739,"τ"),(120740,"υ"),(120741,"φ")]
noncomputable def N9:List (Int×Str):=[(120742,"χ"),(120743,"ψ"),(120744,"ω"),(120763,"σ")]
def eL:List (List (Int×Str)):=[e0,e1,e2,e3,e4,e5,e6,e7,e8,e9,e10,e11,e12,e13,e14,e15,e16,e17,e18,e19,e20,e21,e22,e23,e24,e25,e26,e27,e28,e29,e30,e31,Z',Z_,Z9,Z8,Z7,Z6,N9]
noncomputable def U0:Nat->List (List (Int×Str))->List ag
 | _,[]=>[]
 | t,c::l=>C9 3 t c++U0 (t+51) l
abbrev HS:=BT×Obj×Obj×Nat×Nat
abbrev HF:=Params->HS
noncomputable def SS (h:HF) (w:World) (a:OsState):SharedT:=⟨(h w.params).1,(h w.params).2.2.2.1,{},#[],aD,(h w.params).2.2.2.2,a⟩
noncomputable def A6:Nat->List Obj->BT->BT
 | _,[],t=>t
 | i,o::l,t=>A6 (i+1) l (t.ins i o)
abbrev RF (α:Type):=Nat->Nat->Nat->Int->Int->String->String->Nat->Nat->List String->List String->α
noncomputable def cA (A:List String):Nat:=if A.isEmpty then 3 else 5
def U' (a t:Nat) (l n:Int) (x:String) (A B:List String):Obj:=if A.isEmpty then Ja x t l n 0 0 3 a (a+1) .none .none .none (a+2) (t+3) else Ja x t l n 0 0 3 a (a+1) .none (.ref (a+2)) (.ref (a+3)) (a+4) (t+(3+A.length+B.length))
noncomputable def md (d:Params->Obj->Obj) (e:Obj->Obj) (g:BT->BT) (a t:Nat) (h:HF):HF:=λP=>(g (((h P).1.set 3 λ_=>d P (h P).2.1).set 12 λ_=>e (h P).2.2.1),d P (h P).2.1,e (h P).2.2.1,a,t)
def fd:RF (HF->HF):=λi a t l n x m b k A B=>md (λP d=>zV d [de P x (t+(5+A.length+B.length)) (.ref (a+cA A+1))] k) (λe=>fap e l (a+cA A)) (A6 a (vC::xm::((if A.isEmpty then [] else [Lz (t+3) A,Lz (t+(3+A.length)) B])++[UZ i x,U' a t l n x A B,I6 i x .none m b (a+cA A)]))) (a+cA A+2) (t+(6+A.length+B.length))
def kf:RF (Frag->Frag):=λi a t l n x m b _ A B r=>(a+cA A,U' a t l n x A B)::(a+cA A+1,I6 i x .none m b (a+cA A))::r
def nm (m:String) (t k a:Nat):HF->HF:=md (λP d=>dnm d (de P "__name__" 165 (.str (Str.ofString m) t)) k) id id a (t+2)
noncomputable def nN:="cpy313.xml.etree.ElementTree"
noncomputable def nM:="cpy313._pylong"
noncomputable def AP:="cpy313.stringprep"
noncomputable def hJ:="law_wc0030_01"
def r2 {α:Type} (f:RF α):α:=f 2 24 200 7 2 "_serialize_text" nN 187 11 ["write","elem","part"] []
def r3 {α:Type} (f:RF α):α:=f 3 31 209 12 1 "_raise_serialization_error" nN 187 12 ["text"] []
def r4 {α:Type} (f:RF α):α:=f 4 38 216 14 1 "_escape_cdata" nN 187 13 ["text"] []
def r5 {α:Type} (f:RF α):α:=f 5 45 223 25 1 "_escape_attrib" nN 187 14 ["text"] []
def r6 {α:Type} (f:RF α):α:=f 6 52 230 44 1 "_escape_attrib_html" nN 187 15 ["text"] []
def r7 {α:Type} (f:RF α):α:=f 7 59 237 55 1 "_escape_cdata_c14n" nN 187 16 ["text"] []
def r8 {α:Type} (f:RF α):α:=f 8 66 244 68 1 "_escape_attrib_c14n" nN 187 17 ["text"] []
def Uo {α:Type} (f:RF α):α:=f 11 73 255 87 3 "_div2n1n" nM 251 19 ["a","b","n","pad","half_n","mask","b1","b2","q1","r","q2"] []
def Ii {α:Type} (f:RF α):α:=f 12 80 272 103 6 "_div3n2n" nM 251 20 ["a12","a3","b","b1","b2","n","q","r"] []
def Un {α:Type} (f:RF α):α:=f 13 87 286 113 2 "_int2digits" nM 251 21 ["a","n"] ["n","a_digits","inner"]
def Um {α:Type} (f:RF α):α:=f 14 94 297 129 2 "_digits2int" nM 251 22 ["digits","n"] ["digits","n","inner"]
def Ul {α:Type} (f:RF α):α:=f 15 101 308 138 2 "_divmod_pos" nM 251 23 ["a","b","n","a_digits","r","q_digits","a_digit","q_digit","q"] []
def Uk {α:Type} (f:RF α):α:=f 16 108 323 149 2 "int_divmod" nM 251 24 ["a","b","q","r"] []
def Uj {α:Type} (f:RF α):α:=f 19 126 395 162 1 "in_table_b1" AP 333 26 ["code"] []
def Ui {α:Type} (f:RF α):α:=f 21 172 2353 165 1 "map_table_b3" AP 333 28 ["code","r"] []
def Uh {α:Type} (f:RF α):α:=f 23 179 2363 171 3 "_law_forms" hJ 2361 29 [] []
def Ug {α:Type} (f:RF α):α:=f 24 184 2369 182 2 "_law_element" hJ 2361 30 ["tag","attrib"] ["tag","one"]
def Ue {α:Type} (f:RF α):α:=f 25 191 2379 192 1 "_law_page" hJ 2361 31 ["one","page","told"] []
def Ud {α:Type} (f:RF α):α:=f 26 198 2388 196 1 "_law_parked" hJ 2361 32 [] []
def Uc {α:Type} (f:RF α):α:=f 27 203 2394 202 4 "_law_street" hJ 2361 33 ["drives","letters","hand","tail","street","given","kept","place","text","step"] []
def Ub {α:Type} (f:RF α):α:=f 28 210 2410 210 5 "_law_table" hJ 2361 34 [] []
def Ua {α:Type} (f:RF α):α:=f 29 215 2416 230 4 "_law_hung" hJ 2361 35 ["parent","place","above","letters","k"] []
def T_ {α:Type} (f:RF α):α:=f 30 222 2427 234 1 "_law_trees" hJ 2361 36 [] []
def T9 {α:Type} (f:RF α):α:=f 31 227 2433 247 2 "_law_webs" hJ 2361 37 [] []
def T8 {α:Type} (f:RF α):α:=f 32 232 2439 253 3 "_law_both_ways" hJ 2361 38 [] []
def T7 {α:Type} (f:RF α):α:=f 33 237 2445 258 1 "law" hJ 2361 39 [] []
noncomputable def Yk:Obj:=⟨.type "code",none,.fields #[.str (Str.ofString "<module>") 182,.str (Str.ofString "<module>") 183,.str (Str.ofString "/claim/cut.py") 184,.int 1 0,.int 0 0,.int 0 0,.int 0 0,.int 0 0,.ref 11,.bool false,.int 181 0,.ref 12,.none,.none,.none,.none,.int 185 0,.int 1 0,.str (Str.ofString "/claim/cut.py") 186],#[]⟩
noncomputable def Yj:Obj:=⟨.type "frame",none,.plain,#[some (.ref 13),some (.ref 3),some (.ref 3),none,some (.str (Str.ofString "__main__") 164),none,some (.ref 0)]⟩
def zK:HF:=λP=>((.node (boot_o_0 P) (.node (boot_o_1 P) (.node (boot_o_3 P) (.node (boot_o_7 P) .nil .nil) (.node vC .nil .nil)) (.node (boot_o_5 P) (.node (boot_o_9 P) .nil .nil) (.node Yk .nil .nil))) (.node (boot_o_2 P) (.node (boot_o_4 P) (.node (boot_o_8 P) .nil .nil) (.node xm .nil .nil)) (.node (boot_o_6 P) (.node (boot_o_10 P) .nil .nil) (.node Yj .nil .nil)))),vC,xm,15,187)
def NG:HF:=md (λP _=>⟨.type "dict",none,.dict #[de P "__name__" 165 (.str (Str.ofString "cpy313.xml.etree.ElementTree") 187),de P "__doc__" 166 (.none),de P "__package__" 167 (.none),de P "__loader__" 168 (.builtin "__main__.__loader__#opaque"),de P "__spec__" 169 (.none),de P "__annotations__" 170 (.ref 6),de P "__builtins__" 171 (.ref 4),de P "__file__" 173 (.str (Str.ofString "/claim/cut.py") 172),de P "__cached__" 174 (.none)] 9,#[]⟩) id id 15 189 zK
noncomputable def Uu:Obj:=⟨.type "dict",none,.dict #[] 0,#[]⟩
noncomputable def Ut:Obj:=⟨.type "tuple",none,.seq #[.ref 15] 0,#[]⟩
def MC:Obj:=Ja "SubElement" 189 2 3 0 0 11 17 18 (.none) (.ref 19) (.ref 20) 21 197
def MB:Obj:=I6 1 "SubElement" (.ref 16) "cpy313.xml.etree.ElementTree" 187 22
def Dp:HF:=md (λP d=>zV d [de P "SubElement" 199 (.ref 23)] 10) (λe=>fap e 2 22) (A6 15 [Uu,Ut,vC,xm,Lz 192 ["parent","tag","attrib","extra","element"],vC,UZ 1 "SubElement",MC,MB]) 24 200 NG
def lx:=r2 fd Dp
def ug:=r3 fd lx
def NF:=r4 fd ug
def ND:=r5 fd NF
def NC:=r6 fd ND
def NB:=r7 fd NC
def NA:=r8 fd NB
def Nz:=nm nM 251 17 73 NA
def Gq:=md (λP d=>zV d [de P "_DIV_LIMIT" 254 (.int 4000 253)] 18) id id 73 255 Nz
def Gp:=Uo fd Gq
def Gn:=Ii fd Gp
def Gl:=Un fd Gn
def Gk:=Um fd Gl
def Gj:=Ul fd Gk
def Gi:=Uk fd Gj
def Gg:=nm AP 333 24 115 Gi
noncomputable def Vb:List Value:=[.int 173 335,.int 847 336,.int 6150 337,.int 6155 338,.int 6156 339,.int 6157 340,.int 8203 341,.int 8204 342,.int 8205 343,.int 8288 344,.int 65279 345]
noncomputable def Va:List Value:=[.int 65024 351,.int 65025 352,.int 65026 353,.int 65027 354,.int 65028 355,.int 65029 356,.int 65030 357,.int 65031 358,.int 65032 359,.int 65033 360,.int 65034 361,.int 65035 362,.int 65036 363,.int 65037 364,.int 65038 365,.int 65039 366]
noncomputable def sL (P:Params):Obj:=⟨.type "set",none,.set #[(65024,.int 65024 351),(65025,.int 65025 352),(65026,.int 65026 353),(65027,.int 65027 354),(65028,.int 65028 355),(65029,.int 65029 356),(6150,.int 6150 337),(65030,.int 65030 357),(65031,.int 65031 358),(65032,.int 65032 359),(65033,.int 65033 360),(6155,.int 6155 338),(6156,.int 6156 339),(6157,.int 6157 340),(8203,.int 8203 341),(8204,.int 8204 342),(8205,.int 8205 343),(65034,.int 65034 361),(65035,.int 65035 362),(65036,.int 65036 363),(65037,.int 65037 364),(65038,.int 65038 365),(65039,.int 65039 366),(173,.int 173 335),(847,.int 847 336),(8288,.int 8288 344),(65279,.int 65279 345)] 29 { mask:=127,place:=#[0,1,2,3,4,5,6,7,8,9,10,11,12,13,14,15,16,17,18,19,20,21,22,45,79,96,127],dummies:=#[],finger:=0,led:=!P.followText "set-order",moves:=2,plain:=true },#[]⟩
def Gf:HF:=λP=>md (λP d=>zV d [de P "b1_set" 394 (.ref 122)] 25) id (A6 115 [⟨.type "list",none,.seq (Array.mk Vb) 0,#[]⟩,⟨.type "range",none,.fields #[.int 65024 346,.int 65040 347,.int 1 348],#[]⟩,⟨.type "list",none,.seq (Array.mk Va) 18,#[]⟩,⟨.type "range_iterator",none,.fields #[.int 65040 0,.int 0 0,.int 1 0],#[]⟩,vC,⟨.type "StopIteration",none,.fields #[.ref 119,.none,.none,.none,.bool false,.none],#[]⟩,⟨.type "list",none,.seq (Array.mk (Vb++Va)) 0,#[]⟩,sL P,⟨.type "list_iterator",none,.fields #[.none,.int 27 0],#[]⟩,vC,⟨.type "StopIteration",none,.fields #[.ref 124,.none,.none,.none,.bool false,.none],#[]⟩]) 126 395 Gg P
def wZ:=Uj fd Gf
def OM (k:Nat):Obj:=Og (U0 402 (eL.take (k+1))) (17*(k+1))
def tc (P:Params) (k:Nat):BT:=Nat.rec ((wZ P).1.ins 133 (OM 0)) (λk T=>(T.set 133 λ_=>OM (k+1)).ins (134+k) (Og (C9 3 (453+51*k) (eL.getD (k+1) [])) 17)) k
def hc (k:Nat):HF:=λP=>(tc P k,(wZ P).2.1,(wZ P).2.2.1,134+k,453+51*k)
def oL:Obj:=zV (OM 37) (C9 2 2340 N9) 650
def Ge:=md (λP d=>zV d [de P "b3_exceptions" 2352 (.ref 133)] 27) id (λT=>(T.set 133 λ_=>oL).ins 171 (Og (C9 2 2340 N9) 4)) 172 2353 (hc 37)
def Gb:=Ui fd Ge
def Ga:=nm hJ 2361 28 179 Gb
def F_:=Uh fd Ga
def F9:=Ug fd F_
def F8:=Ue fd F9
def F7:=Ud fd F8
def F6:=Uc fd F7
def F5:=Ub fd F6
def F4:=Ua fd F5
def F3:=T_ fd F4
def F2:=T9 fd F3
def F1:=T8 fd F2
def nU:=T7 fd F1
abbrev PC (i N:Nat) (h b:HF) (p c:Pos) (a:OsState) (w:World):Prop:=sz w 11 fP 1 N (SS h w a) (Ms [st i] p)=some (.next,SS b w a,gU,c)
abbrev CK (k:Nat) (a:OsState) (w:World):Prop:=sz w 11 fP 1 400 (SS (hc k) w a) (Jb (k+1) (some 133,[]) ⟨164,16,164,8704⟩)=some (.ret (.ref 133),SS (hc (k+1)) w a,gU,⟨164,16,164,8704⟩)
theorem sg {P:World->Prop}:(∀w:World,P (w.withFollow "special-get-raises" false))->(∀w:World,P (w.withFollow "special-get-raises" true))->∀w:World,P w:=byRow2 "special-get-raises"
end ft
end
noncomputable section
open PySem PySem.W PyProof.Rows
set_option maxHeartbeats 0
namespace ft
theorem Wr (a) (w):PC 0 10 zK NG ⟨0,0,0,0⟩ ⟨1,0,1,8⟩ a w:=by kernel_rfl
theorem Wq (a) (w):PC 1 37 NG Dp ⟨1,0,1,8⟩ ⟨2,0,6,18⟩ a w:=by kernel_rfl
theorem Wo (a) (w):PC 2 32 Dp lx ⟨2,0,6,18⟩ ⟨7,0,11,24⟩ a w:=by kernel_rfl
theorem Wn (a) (w):PC 3 30 lx ug ⟨7,0,11,24⟩ ⟨12,0,13,82⟩ a w:=by kernel_rfl
theorem Wm (a) (w):PC 4 30 ug NF ⟨12,0,13,82⟩ ⟨14,0,24,40⟩ a w:=by kernel_rfl
theorem Wl (a) (w):PC 5 30 NF ND ⟨14,0,24,40⟩ ⟨25,0,43,40⟩ a w:=by kernel_rfl
theorem Wk (a) (w):PC 6 30 ND NC ⟨25,0,43,40⟩ ⟨44,0,54,40⟩ a w:=by kernel_rfl
theorem Wj (a) (w):PC 7 30 NC NB ⟨44,0,54,40⟩ ⟨55,0,67,40⟩ a w:=by kernel_rfl
theorem Wi (a) (w):PC 8 30 NB NA ⟨55,0,67,40⟩ ⟨68,0,84,40⟩ a w:=by kernel_rfl
theorem Wh (a) (w):PC 9 10 NA Nz ⟨68,0,84,40⟩ ⟨85,0,85,8⟩ a w:=by kernel_rfl
theorem Rt (a) (w):PC 10 10 Nz Gq ⟨85,0,85,8⟩ ⟨86,0,86,10⟩ a w:=by kernel_rfl
theorem Rr (a) (w):PC 11 40 Gq Gp ⟨86,0,86,10⟩ ⟨87,0,102,33⟩ a w:=by kernel_rfl
theorem Rq (a) (w):PC 12 37 Gp Gn ⟨87,0,102,33⟩ ⟨103,0,112,17⟩ a w:=by kernel_rfl
theorem Rp (a) (w):PC 13 34 Gn Gl ⟨103,0,112,17⟩ ⟨113,0,128,19⟩ a w:=by kernel_rfl
theorem Ro (a) (w):PC 14 34 Gl Gk ⟨113,0,128,19⟩ ⟨129,0,137,49⟩ a w:=by kernel_rfl
theorem Rn (a) (w):PC 15 38 Gk Gj ⟨129,0,137,49⟩ ⟨138,0,148,17⟩ a w:=by kernel_rfl
theorem Rm (a) (w):PC 16 33 Gj Gi ⟨138,0,148,17⟩ ⟨149,0,159,32⟩ a w:=by kernel_rfl
theorem Rl (a) (w):PC 17 10 Gi Gg ⟨149,0,159,32⟩ ⟨160,0,160,8⟩ a w:=by kernel_rfl
theorem Rk (a):∀w:World,PC 18 1996 Gg Gf ⟨160,0,160,8⟩ ⟨161,0,161,6⟩ a w:=by refine byRow2 "set-order" ?_ ?_<;>refine sg ?_ ?_<;>(intro w;kernel_rfl)
theorem Rj (a) (w):PC 19 30 Gf wZ ⟨161,0,161,6⟩ ⟨162,0,163,30⟩ a w:=by kernel_rfl
theorem Ri (a) (w):PC 21 31 Ge Gb ⟨164,0,164,13⟩ ⟨165,0,169,23⟩ a w:=by kernel_rfl
theorem Rh (a) (w):PC 22 10 Gb Ga ⟨165,0,169,23⟩ ⟨170,0,170,8⟩ a w:=by kernel_rfl
theorem Rg (a) (w):PC 23 27 Ga F_ ⟨170,0,170,8⟩ ⟨171,0,181,118⟩ a w:=by kernel_rfl
theorem Rf (a) (w):PC 24 33 F_ F9 ⟨171,0,181,118⟩ ⟨182,0,191,14⟩ a w:=by kernel_rfl
theorem Rd (a) (w):PC 25 32 F9 F8 ⟨182,0,191,14⟩ ⟨192,0,195,49⟩ a w:=by kernel_rfl
theorem Rc (a) (w):PC 26 27 F8 F7 ⟨192,0,195,49⟩ ⟨196,0,201,17⟩ a w:=by kernel_rfl
theorem Rb (a) (w):PC 27 39 F7 F6 ⟨196,0,201,17⟩ ⟨202,0,209,110⟩ a w:=by kernel_rfl
theorem Ra (a) (w):PC 28 27 F6 F5 ⟨202,0,209,110⟩ ⟨210,0,229,16⟩ a w:=by kernel_rfl
theorem Q_ (a) (w):PC 29 34 F5 F4 ⟨210,0,229,16⟩ ⟨230,0,233,86⟩ a w:=by kernel_rfl
theorem Q9 (a) (w):PC 30 27 F4 F3 ⟨230,0,233,86⟩ ⟨234,0,246,17⟩ a w:=by kernel_rfl
theorem Q8 (a) (w):PC 31 27 F3 F2 ⟨234,0,246,17⟩ ⟨247,0,252,23⟩ a w:=by kernel_rfl
theorem Q7 (a) (w):PC 32 27 F2 F1 ⟨247,0,252,23⟩ ⟨253,0,257,90⟩ a w:=by kernel_rfl
theorem Q6 (a) (w):PC 33 27 F1 nU ⟨253,0,257,90⟩ ⟨258,0,282,115⟩ a w:=by kernel_rfl
theorem Xp (a):∀w:World,sz w 11 fP 1 400 (SS wZ w a) (Jb 0 (none,[]) ⟨164,16,164,8704⟩)=some (.ret (.ref 133),SS (hc 0) w a,gU,⟨164,16,164,8704⟩):=sg (λw=>by kernel_rfl) (λw=>by kernel_rfl)
theorem Xo (a):∀w:World,CK 0 a w:=sg (λw=>by kernel_rfl) (λw=>by kernel_rfl)
theorem Xn (a):∀w:World,CK 1 a w:=sg (λw=>by kernel_rfl) (λw=>by kernel_rfl)
theorem Xm (a):∀w:World,CK 2 a w:=sg (λw=>by kernel_rfl) (λw=>by kernel_rfl)
theorem Xl (a):∀w:World,CK 3 a w:=sg (λw=>by kernel_rfl) (λw=>by kernel_rfl)
theorem Xk (a):∀w:World,CK 4 a w:=sg (λw=>by kernel_rfl) (λw=>by kernel_rfl)
theorem Xj (a):∀w:World,CK 5 a w:=sg (λw=>by kernel_rfl) (λw=>by kernel_rfl)
theorem Xi (a):∀w:World,CK 6 a w:=sg (λw=>by kernel_rfl) (λw=>by kernel_rfl)
theorem Xh (a):∀w:World,CK 7 a w:=sg (λw=>by kernel_rfl) (λw=>by kernel_rfl)
theorem Xg (a):∀w:World,CK 8 a w:=sg (λw=>by kernel_rfl) (λw=>by kernel_rfl)
theorem To (a):∀w:World,CK 9 a w:=sg (λw=>by kernel_rfl) (λw=>by kernel_rfl)
theorem Tn (a):∀w:World,CK 10 a w:=sg (λw=>by kernel_rfl) (λw=>by kernel_rfl)
theorem Tj (a):∀w:World,CK 11 a w:=sg (λw=>by kernel_rfl) (λw=>by kernel_rfl)
theorem Ti (a):∀w:World,CK 12 a w:=sg (λw=>by kernel_rfl) (λw=>by kernel_rfl)
theorem Th (a):∀w:World,CK 13 a w:=sg (λw=>by kernel_rfl) (λw=>by kernel_rfl)
theorem Tf (a):∀w:World,CK 14 a w:=sg (λw=>by kernel_rfl) (λw=>by kernel_rfl)
theorem Te (a):∀w:World,CK 15 a w:=sg (λw=>by kernel_rfl) (λw=>by kernel_rfl)
theorem Td (a):∀w:World,CK 16 a w:=sg (λw=>by kernel_rfl) (λw=>by kernel_rfl)
theorem Tc (a):∀w:World,CK 17 a w:=sg (λw=>by kernel_rfl) (λw=>by kernel_rfl)
theorem Tb (a):∀w:World,CK 18 a w:=sg (λw=>by kernel_rfl) (λw=>by kernel_rfl)
theorem Ta (a):∀w:World,CK 19 a w:=sg (λw=>by kernel_rfl) (λw=>by kernel_rfl)
theorem S' (a):∀w:World,CK 20 a w:=sg (λw=>by kernel_rfl) (λw=>by kernel_rfl)
theorem S_ (a):∀w:World,CK 21 a w:=sg (λw=>by kernel_rfl) (λw=>by kernel_rfl)
theorem S9 (a):∀w:World,CK 22 a w:=sg (λw=>by kernel_rfl) (λw=>by kernel_rfl)
theorem S8 (a):∀w:World,CK 23 a w:=sg (λw=>by kernel_rfl) (λw=>by kernel_rfl)
theorem S7 (a):∀w:World,CK 24 a w:=sg (λw=>by kernel_rfl) (λw=>by kernel_rfl)
theorem S6 (a):∀w:World,CK 25 a w:=sg (λw=>by kernel_rfl) (λw=>by kernel_rfl)
theorem S5 (a):∀w:World,CK 26 a w:=sg (λw=>by kernel_rfl) (λw=>by kernel_rfl)
theorem S4 (a):∀w:World,CK 27 a w:=sg (λw=>by kernel_rfl) (λw=>by kernel_rfl)
theorem S3 (a):∀w:World,CK 28 a w:=sg (λw=>by kernel_rfl) (λw=>by kernel_rfl)
theorem S2 (a):∀w:World,CK 29 a w:=sg (λw=>by kernel_rfl) (λw=>by kernel_rfl)
theorem S1 (a):∀w:World,CK 30 a w:=sg (λw=>by kernel_rfl) (λw=>by kernel_rfl)
theorem SY (a):∀w:World,CK 31 a w:=sg (λw=>by kernel_rfl) (λw=>by kernel_rfl)
theorem SX (a):∀w:World,CK 32 a w:=sg (λw=>by kernel_rfl) (λw=>by kernel_rfl)
theorem SW (a):∀w:World,CK 33 a w:=sg (λw=>by kernel_rfl) (λw=>by kernel_rfl)
theorem SV (a):∀w:World,CK 34 a w:=sg (λw=>by kernel_rfl) (λw=>by kernel_rfl)
theorem SU (a):∀w:World,CK 35 a w:=sg (λw=>by kernel_rfl) (λw=>by kernel_rfl)
theorem SR (a):∀w:World,CK 36 a w:=sg (λw=>by kernel_rfl) (λw=>by kernel_rfl)
section
noncomputable def KA (x:Str) (a:Pos) (ks:List (Option PySem.Expr)) (vs:List PySem.Expr) (p:Pos) (env:Env):Value->Sem cF:=λv=>(do
 match←(do assignStores env v (← ax [.Name x a] (.Dict ks vs p) env) ((dd [.Name x a] env).map (·.2))) with
 | .next=>execs [] env
 | f=>pure f)
theorem Eh (x) (a) (ks) (vs) (p pos) (env):execs [.Assign [.Name x a] (.Dict ks vs p) pos] env=(standAt pos>>=λ_=>(standAt p>>=λ_=>bN ((evalEachOpt ks env).zip ((evalEach vs env).map λv=>do let x←v;standAt p;pure x)))>>=KA x a ks vs p env):=by
 have h:swapsWithSole [.Name x a] (.Dict ks vs p) pos.line env=pure false:=rfl
 rw[execs_cons,bP,arm_eval_Dict,h]
 simp only[bind_assoc,pure_bind,Bool.false_eq_true,if_false]
 rfl
def G_ (s:Stmt):Str×Pos×List (Option PySem.Expr)×List PySem.Expr×Pos×Pos:=let n:=Yl ((pz s).1.getD 0 (pz s).2.1);let d:=vg (pz s).2.1;(n.1,n.2,d.1,d.2.1,d.2.2,(pz s).2.2)
abbrev bp:=G_ (st 20)
theorem OJ:st 20=.Assign [.Name bp.1 bp.2.1] (.Dict bp.2.2.1 bp.2.2.2.1 bp.2.2.2.2.1) bp.2.2.2.2.2:=by kernel_rfl
theorem D8:fF=(evalEachOpt bp.2.2.1 gu).zip ((evalEach bp.2.2.2.1 gu).map λv=>do let x←v;standAt bp.2.2.2.2.1;pure x):=by kernel_rfl
abbrev GD:DS->Sem cF:=λb=>jA.1.2 b>>=KA bp.1 bp.2.1 bp.2.2.1 bp.2.2.2.1 bp.2.2.2.2.1 gu
theorem D_:execs [st 20] gu=(standAt bp.2.2.2.2.2>>=λ_=>standAt bp.2.2.2.2.1>>=λ_=>(forIn fF ((none,[]):DS) jA.1.1>>=GD)):=by
 refine (congrArg (λs=>execs [s] gu) OJ).trans ((Eh _ _ _ _ _ _ _).trans ?_)
 rw[<- D8,jA.2]
 simp only[bind_assoc]
abbrev KR (a:List Stmt):cF->Sem Fin:=λf=>match f with | .next=>(execs a gu).wrap doneF (leaveH gu) id id | f=>doneF f
variable {w:World}
theorem KZ (k:bx aq pw w 11 fP N s ⟨(forIn fF ((none,[]):DS) jA.1.1>>=GD).wrap (KR a) (leaveH gu) id id,gU,bp.2.2.2.2.1,B0⟩=some r) :
  bx aq pw w 11 fP (2+N) s (restOf ([st 20]++a) gu gU pos B0)=some r:=by
 unfold restOf
 rw[execs_app_wrap,D_]
 exact go_top (n:=2) rfl k
theorem DZ {K':cF->Sem Fin}{H':Value->Sem Fin} (h:segRun aq pw w 11 fP 1 n s (Jb i b p)=some (.ret (.ref d),s',gU,p')) (k:bx aq pw w 11 fP N s' ⟨(forIn (fF.drop (17*(i+1))) ((some d,[]):DS) jA.1.1>>=GD).wrap K' H' id id,gU,p',B0⟩=some r) :
  bx aq pw w 11 fP (n+N) s ⟨(forIn (fF.drop (17*i)) b jA.1.1>>=GD).wrap K' H' id id,gU,p,B0⟩=some r:=by
 have c:fF.drop (17*i)=kW i++fF.drop (17*(i+1)):=by
  rw[<- SQ,show 17*(i+1)=17*i+17 by omega,<-List.drop_drop,List.take_append_drop]
 have g:((forIn (fF.drop (17*i)) b jA.1.1>>=GD:Sem cF)).wrap K' H' id id=(jz jA.1.1 (kW i) b).wrap (λr=>((match r with | .done x=>pure x | .yield x=>forIn (fF.drop (17*(i+1))) x jA.1.1:Sem DS)>>=GD).wrap K' H' id id) H' id id:=by
  conv=>lhs;rw[c]
  rw[DG,bind_assoc,Sem.bind_eq_wrap',Sem.wrap_wrap]
  exact Sem.wrap_congr _ _ _ (λr=>by cases r<;>rfl) λ_=>rfl
 rw[g]
 obtain ⟨a,e,f⟩:=seg_top (res:=Fj) (K':=λr=>((match r with | .done x=>pure x | .yield x=>forIn (fF.drop (17*(i+1))) x jA.1.1:Sem DS)>>=GD).wrap K' H' id id) (H':=H') (B:=B0) (gd:=id) (lv:=id) rfl n s (Jb i b p)
  ⟨(jz jA.1.1 (kW i) b).wrap (λr=>((match r with | .done x=>pure x | .yield x=>forIn (fF.drop (17*(i+1))) x jA.1.1:Sem DS)>>=GD).wrap K' H' id id) H' id id,gU,p,B0⟩ _ _ _ _ ⟨rfl,rfl,.inl ⟨rfl,rfl,_,rfl,rfl⟩⟩ h
 cases Fi e
 exact f N r k
abbrev AZ (i:Nat) (b:DS) (p:Pos):Thread:=⟨(forIn (fF.drop (17*i)) b jA.1.1>>=GD).wrap doneF deadEnd id id,gU,p,B0⟩
theorem FW (h:segRun aq pw w 11 fP 1 n s (AZ i b p)=some (.next,s',gU,d)) (k:bx aq pw w 11 fP N s' (restOf c gu gU d B0)=some r) :
  bx aq pw w 11 fP (n+N) s ⟨(forIn (fF.drop (17*i)) b jA.1.1>>=GD).wrap (KR c) (leaveH gu) id id,gU,p,B0⟩=some r:=by
 obtain ⟨a,e,f⟩:=seg_top (res:=id) (K':=KR c) (H':=leaveH gu) (B:=B0) (gd:=id) (lv:=id) rfl n s (AZ i b p)
  ⟨(forIn (fF.drop (17*i)) b jA.1.1>>=GD).wrap (KR c) (leaveH gu) id id,gU,p,B0⟩ _ _ _ _ ⟨rfl,rfl,.inl ⟨rfl,rfl,_,rfl,rfl⟩⟩ h
 obtain rfl:a=.next:=e
 exact f N r k
end
noncomputable abbrev S0 (w:World) (a:OsState):Shared:=⟨aV w.params,Array.mk [],aD,cH,a⟩
theorem Wg (w) (a):topGo aq pw w 11 fP 12 (S0 w a) (topStub pw)=some ((SS zK w a).abs,⟨denote aq gU,gU,⟨0,0,0,0⟩,B0⟩):=by kernel_rfl
theorem OA (w) (a):segRun aq pw w 11 fP 1 1 (SS zK w a).abs (blockOf By gu gU ⟨0,0,0,0⟩ B0)=some (.next,(SS zK w a).abs,gU,⟨0,0,0,0⟩):=by kernel_rfl
theorem Rz:∀w:World,(fencedOpening aq pw w 1000000).map (λs=>(s.heap,s.gens,s.drawn,s.toks))=some (aV w.params,Array.mk [],aD,cH):=boot_open (by kernel_rfl) (by decide) (by intro s;kernel_rfl)
noncomputable def KF (P:Params):Frag:=(1,boot_o_1 P)::(2,boot_o_2 P)::(3,(nU P).2.1)::(15,Uu)::(16,Ut)::(22,MC)::(23,MB)::(88,xm)::(95,xm)::(122,sL P)::(133,oL)::(185,xm)::r2 kf (r3 kf (r4 kf (r5 kf (r6 kf (r7 kf (r8 kf (Uo kf (Ii kf (Un kf (Um kf (Ul kf (Uk kf (Uj kf (Ui kf (Uh kf (Ug kf (Ue kf (Ud kf (Uc kf (Ub kf (Ua kf (T_ kf (T9 kf (T8 kf (T7 kf [])))))))))))))))))))))))))
noncomputable abbrev yj:List Addr:=[1,2,3,15,16,22,23,88,95,122,133,185,29,30,36,37,43,44,50,51,57,58,64,65,71,72,78,79,85,86,92,93,99,100,106,107,113,114,131,132,177,178,182,183,189,190,196,197,201,202,208,209,213,214,220,221,225,226,230,231,235,236,240,241]
noncomputable abbrev qv:Program:={ pw with main:={ pw.main with body:=[st 33] } }
noncomputable abbrev jX:List Str:=["SubElement","_serialize_text","_raise_serialization_error","_escape_cdata","_escape_attrib","_escape_attrib_html","_escape_cdata_c14n","_escape_attrib_c14n","_div2n1n","_div3n2n","_int2digits","_digits2int","_divmod_pos","int_divmod","in_table_b1","map_table_b3","_law_forms","_law_element","_law_page","_law_parked","_law_street","_law_table","_law_hung","_law_trees","_law_webs","_law_both_ways","b1_set","b3_exceptions","_DIV_LIMIT"].map Str.ofString
noncomputable abbrev H1 (P:Params):Heap:=absHeap (nU P).1 242 {}
theorem QW:∀w:World,((aV w.params).isNs aj&&(Array.mk []:Array GenState).size==0,(aV w.params).objs.size,(aV w.params).nsMap aj "__annotations__")=(true,11,fP):=λw=>by kernel_rfl
noncomputable abbrev Ju:Shared->Bool:=λs=>xlAt qv [] s&&recOk [] s
theorem RP (w:World) (a):(staticsOk (bI pw.main.body) (aV w.params) (H1 w.params)&&namesBound pw (H1 w.params)&&gensDone ⟨H1 w.params,#[],aD,2451,a⟩&&laidKept (aV w.params) (H1 w.params))=true:=by kernel_rfl
theorem RO (w:World) (os:OsState):openSeen qv jX (bI pw.main.body) Ju true ⟨H1 w.params,#[],aD,2451,os⟩=openGood qv jX:=by kernel_rfl
theorem RN (w:World) (a):X.obsZ yj ⟨H1 w.params,#[],aD,2451,a⟩=X.valZ KF 242 2451 w:=by kernel_rfl
section
theorem R3 (a):∀w:World,sz w 11 fP 1 500 (SS (hc 37) w a) (AZ 38 (some 133,[]) ⟨164,16,164,8704⟩)=some (.next,SS Ge w a,gU,⟨164,0,164,13⟩):=sg (λw=>by kernel_rfl) (λw=>by kernel_rfl)
variable {w:World}{os:OsState}
theorem GC:bx aq pw w 11 fP 2 (SS nU w os).abs ⟨doneF .next,gU,⟨258,0,282,115⟩,B0⟩=some (SS nU w os).abs:=by kernel_rfl
abbrev RX (w:World) (a:OsState) (n:Nat) (h:HF) (l:List Stmt) (p:Pos):Prop:=bx aq pw w 11 fP n (SS h w a).abs (restOf l gu gU p B0)=some (SS nU w a).abs
theorem sR (a:∀os w,PC i N h h' p p' os w) (k:RX w os n h' l p'):RX w os (N+n) h ([st i]++l) p:=piece_app (cG (QZ (a os w))) k
theorem cR {K':cF->Sem Fin}{H':Value->Sem Fin} (a:∀os w,CK k os w) (q:bx aq pw w 11 fP N (SS (hc (k+1)) w os).abs ⟨(forIn (fF.drop (17*(k+1+1))) ((some 133,[]):DS) jA.1.1>>=GD).wrap K' H' id id,gU,⟨164,16,164,8704⟩,B0⟩=some r) :
  bx aq pw w 11 fP (400+N) (SS (hc k) w os).abs ⟨(forIn (fF.drop (17*(k+1))) ((some 133,[]):DS) jA.1.1>>=GD).wrap K' H' id id,gU,⟨164,16,164,8704⟩,B0⟩=some r:=DZ (cG (Au (a os w))) q
theorem KU:By=(List.range 34).map st:=by kernel_rfl
theorem Yb:RX w os 18603 zK ((List.range 34).map st) ⟨0,0,0,0⟩:=Eq.mp (by kernel_rfl) (sR Wr (sR Wq (sR Wo (sR Wn (sR Wm (sR Wl (sR Wk (sR Wj (sR Wi (sR Wh (sR Rt (sR Rr (sR Rq (sR Rp (sR Ro (sR Rn (sR Rm (sR Rl (sR Rk (sR Rj (KZ (DZ (i:=0) (cG (Au (Xp os w))) (cR Xo (cR Xn (cR Xm (cR Xl (cR Xk (cR Xj (cR Xi (cR Xh (cR Xg (cR To (cR Tn (cR Tj (cR Ti (cR Th (cR Tf (cR Te (cR Td (cR Tc (cR Tb (cR Ta (cR S' (cR S_ (cR S9 (cR S8 (cR S7 (cR S6 (cR S5 (cR S4 (cR S3 (cR S2 (cR S1 (cR SY (cR SX (cR SW (cR SV (cR SU (cR SR (FW (cG (Au (R3 os w))) (sR Ri (sR Rh (sR Rg (sR Rf (sR Rd (sR Rc (sR Rb (sR Ra (sR Q_ (sR Q9 (sR Q8 (sR Q7 (sR Q6 (piece_nil GC))))))))))))))))))))))))))))))))))))))))))))))))))))))))))))))))))))))))))
theorem V9 (w) (a):bx aq pw w 11 fP (12+(1+18603)) (S0 w a) (topStub pw)=some (SS nU w a).abs:=go_top (Wg w a) (piece_block (OA w a) (by rw[KU];exact Yb))
end
end ft
end
section
open PySem PySem.W PyProof.Rows PySem.Spec
set_option maxHeartbeats 0
namespace ft
theorem V' (w) (a):bx aq pw w 11 fP 18616 ⟨aV w.params,Array.mk [],aD,cH,a⟩ (topStub pw)=some ⟨H1 w.params,#[],aD,2451,a⟩:=Eq.mp (by kernel_rfl) (V9 w a)
theorem RM (w:World):(λa=>((staticsOk (bI pw.main.body) (aV w.params) (H1 w.params)&&namesBound pw (H1 w.params)&&gensDone ⟨H1 w.params,#[],aD,2451,a⟩&&laidKept (aV w.params) (H1 w.params)),openSeen qv jX (bI pw.main.body) Ju true ⟨H1 w.params,#[],aD,2451,a⟩,X.obsZ yj ⟨H1 w.params,#[],aD,2451,a⟩))=λ_=>(true,openGood qv jX,X.valZ KF 242 2451 w):=funext λa=>by rw[RP w a,RO w a,RN w a]
theorem RQ:LeftO pw qv jX Ju (X.obsZ yj) (X.valZ KF 242 2451) 1000000:=by
 refine LeftO.of_pieces (H₀:=aV) (H₁:=H1) (gs₀:=Array.mk []) (gs₁:=#[]) (d₀:=aD) (d₁:=aD) (k₀:=cH) (k₁:=2451) (m₀:=11) (ann:=fP) (M:=18616) ?a ?b ?c ?d ?e
 case a=>exact Rz
 case b=>exact QW
 case c=>exact V'
 case d=>decide
 case e=>exact RM
end ft
end
section
open PySem PySem.W PyProof.Rows PySem.Spec
set_option maxHeartbeats 200000
namespace ft
abbrev la:=PySem.Challenge.rw_wc0030_01.row
noncomputable def dL:DefRec:=⟨"law",gw (st 33),(match pV (st 33) with | .stmts b=>b | _=>[]),ek (st 33),⟨258,0,282,115⟩⟩
theorem k1:defOf qv la.name=some (dL,[]):=by kernel_rfl
theorem k2:la.prog.theDef la.name=some (dL.params,dL.body,dL.scope):=by kernel_rfl
theorem k3:kwWritten? dL.params.kwonlyargs dL.params.kw_defaults=some []:=by kernel_rfl
theorem Yt:PySem.W.Fast.tw9446332074065402090 PySem.Challenge.rw_wc0030_01=true:=by kernel_rfl
theorem k4:PySem.Challenge.rw_wc0030_01.wellSaid=true:=(congrFun PySem.W.Fast.te9446332074065402090 _).trans Yt
theorem k5:(chainsOk qv&&opensWell la.prog&&(frees la.toRowW&&la.within.isEmpty))=true:=by decide +kernel
theorem k6:la.prog.bare:=⟨rfl,rfl,rfl,rfl,rfl,by decide +kernel⟩
theorem NH (c:la.toRowW.promised) (a:WalkX qv jX (XL qv []) (X.obsZ yj) (X.valZ KF 242 2451) la.toRowW dL [] λf g=>PySem.call f g):PySem.Challenge.rw_wc0030_01.Holds:=by
 refine holds_law k4 λb=>?_
 refine holds_openX (r:=la) (q:=qv) (loose:=jX) (Xt:=Ju) (XP:=XL qv []) (Yf:=X.obsZ yj) (Ya:=X.valZ KF 242 2451) (d:=dL) (kwd:=[]) (N:=1000000) ?h1 ?h2 ?h3 ?h4 ?h5 ?h6 ?h7 ?h8 ?h9 ?ZO ?ZN ?ZM ?ZL
 case h1=>exact RQ
 case h2=>exact λs e=>xl_of s (Bool.and_eq_true_iff.mp e).1
 case h3=>exact XL.keeps
 case h4=>exact k1
 case h5=>exact k2
 case h6=>exact k3
 case h7=>exact λs e=>recFacts_of (Bool.and_eq_true_iff.mp e).2
 case h8=>rfl
 case h9=>exact b
 case ZO=>exact k5
 case ZN=>exact k6
 case ZM=>exact c
 case ZL=>exact a
end ft
end
noncomputable section
open PySem PySem.W PyProof.Rows PySem.Calls PySem.Spec
set_option maxHeartbeats 1000000
namespace Vm
theorem nS {α:Type _}{a:α}{G:Prop}(h:(none:Option α)=some a):G:=nomatch h
theorem sN {α:Type _}{a:α}{G:Prop}(h:some a=(none:Option α)):G:=nomatch h
theorem fT {G:Prop}(h:false=true):G:=nomatch h
theorem tF {G:Prop}(h:true=false):G:=nomatch h
theorem sI {α:Type _}{a b:α}{G:Prop}(h:some a=some b) (k:a=b->G):G:=k (Option.some.inj h)
theorem fm {α e:Type _}{a c:α}{b d:e}{G:Prop}(h:some (a,b)=some (c,d)) (k:a=c->b=d->G):G:=k (congrArg cD (Option.some.inj h)) (congrArg Prod.snd (Option.some.inj h))
theorem Wx {α:Type _}{a:α}{l:List α}{G:Prop}(h:[]=a::l):G:=nomatch h
theorem I9 {α:Type _}{a:α}{l:List α}{G:Prop}(h:a::l=[]):G:=nomatch h
theorem dN {α:Type _}{c:Prop} [Decidable c] {x:Option α}{y:α}{G:Prop}(h:(if c then x else none)=some y) (k:c->x=some y->G):G:=by
 by_cases q:c
 ·exact k q (by rw[if_pos q] at h;exact h)
 ·rw[if_neg q] at h;exact nS h
theorem Ng {α:Type _} [Decidable c]{a b:α}{G:α->Prop} (f:c->G a) (d:¬c->G b):G (if c then a else b):=
 if q:c then (if_pos q (t:=a) (e:=b)).symm▸f q else (if_neg q (t:=a) (e:=b)).symm▸d q
theorem Nh {α:Type _}{c:Prop} [Decidable c] {a b:Option α}{y:α}{G:Prop}(h:(if c then a else b)=some y) (e:c->a=some y->G) (d:¬c->b=some y->G):G:=
 if q:c then e q ((if_pos q).symm.trans h) else d q ((if_neg q).symm.trans h)
theorem eO {α:Type _}{c:Prop} [Decidable c] {x:Option α}{y:α}{G:Prop}(h:(if c then none else x)=some y) (k:¬c->x=some y->G):G:=by
 by_cases q:c
 ·rw[if_pos q] at h;exact nS h
 ·exact k q (by rw[if_neg q] at h;exact h)
@[elab_as_elim] theorem sE {α e:Type _}{a c:α}{b d:e}{G:α->e->Prop} (h:some (a,b)=some (c,d)) (k:G a b):G c d:=fm h λg f=>g▸f▸k
@[elab_as_elim] theorem jl {α a:Type _}{f:α->a}{o:Option α}{y:a}{G:a->Prop} (h:o.map f=some y) (k:∀x,o=some x->G (f x)):G y:=by
 cases o with
 | none=>exact nS h
 | some x=>exact Option.some.inj h▸k x rfl
theorem dK {α a:Type _}{f:α->a}{o:Option α}{y:a}{G:Prop}(h:o.map f=some y) (k:∀x,o=some x->f x=y->G):G:=by
 cases o with
 | none=>exact nS h
 | some x=>exact k x rfl (Option.some.inj h)
theorem ee {α a:Type _}{f:α->Option a}{o:Option α}{y:a}{G:Prop}(h:o.bind f=some y) (k:∀x,o=some x->f x=some y->G):G:=by
 cases o with
 | none=>exact nS h
 | some x=>exact k x rfl h
@[elab_as_elim] theorem someE {α:Type _}{a b:α}{G:α->Prop} (h:some a=some b) (k:G a):G b:=Option.some.inj h▸k
@[elab_as_elim] theorem X' {α:Sort _}{a b:α}{P:α->Prop} (h:a=b) (k:P b):P a:=h▸k
theorem gk {G:Prop}(h:∀P:Prop,(G->P)->P):G:=h G id
theorem wpAny_toks {α:Type}{t:Sem α}{Q:α->Shared->Prop}{E:Value->Shared->Prop}{s:Shared} (h:wpAny M A t (λa b=>s.toks<=b.toks->Q a b) (λa b=>s.toks<=b.toks->E a b) s):wpAny M A t Q E s:=wpAny_with_toks (Nat.le_refl _) h
end Vm
end
noncomputable section
open PySem PySem.W PyProof.Rows PySem.Calls PySem.Spec PySem.SeqAt
namespace lQ
open PySem.Flt
theorem ow:aA (.type "function") "__getattr__"=pure none:=by rw[av,ah];kernel_rfl
theorem jg:Slot "function" "__getattribute__" "object.__getattribute__":=
 .of (owner:="object") (n:="__getattribute__") (by rw[av,ah];kernel_rfl) (by decide +kernel) (by decide +kernel) (by decide +kernel)
  (by first | exact .inl (by decide +kernel) | exact .inr (by decide +kernel)) (by rw[au];kernel_rfl)
theorem ko:Slot "function" "__setattr__" "object.__setattr__":=
 .of (owner:="object") (n:="__setattr__") (by rw[av,ah];kernel_rfl) (by decide +kernel) (by decide +kernel) (by decide +kernel)
  (by first | exact .inl (by decide +kernel) | exact .inr (by decide +kernel)) (by rw[au];kernel_rfl)
theorem uE:bD (.type "function") (.type "staticmethod")=pure false:=by rw[au];kernel_rfl
theorem uF:bD (.type "function") (.type "classmethod")=pure false:=by rw[au];kernel_rfl
theorem G4:(cn "object.__getattribute__" != "object.__getattribute__")=false:=by decide +kernel
theorem GQ:bL cV "object.__getattribute__"=some aJ.«object.__getattribute__»:=F.entry_object_getattribute
theorem Lb (a b):bO "object.__getattribute__" ⟨[a,b],[]⟩:=by unfold bO;kernel_rfl
theorem La (a b c):bO "object.__setattr__" ⟨[a,b,c],[]⟩:=by unfold bO;kernel_rfl
theorem GP:bL cV "object.__setattr__"=some aJ.«object.__setattr__»:=bE (by kernel_rfl)
theorem MQ:mroOf (.type "function")=pure [.type "function",.type "object"]:=by rw[mroOf_type];kernel_rfl
def Hl (h:Heap) (x D:Addr) (fd:FuncData) (a:Str->Option Value):Prop:=h.get? x=some ⟨.type "function",some D,.func fd,#[]⟩/\h.Ns D a
section
variable {prog:Program}{w:World}{A:Around}{E:Value->Shared->Prop}{h:Heap}{g:Array GenState}{d:Drawn}{t:Nat}{os:OsState}{x D:Addr}{fd:FuncData}{md:Str->Option Value}
theorem Gz {Q:Fin->Shared->Prop} (c:Hl h x D fd md) (a:aA (.type "function") name=pure none) (i:md name=some v) (k:Q (.done (.ret v)) ⟨h,g,d,t,os⟩):wpAny (model prog w) A (aJ.«object.__getattribute__» ⟨[.ref x,.str name tk],[]⟩) Q E ⟨h,g,d,t,os⟩:=by
 obtain ⟨b,f⟩:=c
 have l:(⟨h,g,d,t,os⟩:Shared).TypeIs (.ref x) "function":=⟨_,b,rfl⟩
 have e:=uE
 have j:=uF
 repeat (any_goals (first | assumption | with_reducible apply wpAny_nsGet_known | with_reducible apply wpAny_loadPart_known | wp_step))
theorem rU {Q:Value->Shared->Prop} (e:Hl h x D fd md) (a:aA (.type "function") name=pure none) (f:md name=some v) (m:handedOut v=pure v) (n:Q v ⟨h,g,d,t+1,os⟩):wpAny (model prog w) A (getAttr (.ref x) name ex) Q E ⟨h,g,d,t,os⟩:=by
 have c:=e.1
 have l:(⟨h,g,d,t,os⟩:Shared).TypeIs (.ref x) "function":=⟨_,c,rfl⟩
 have b:(⟨h,g,d,t+1,os⟩:Shared).TypeIs (.ref x) "function":=⟨_,c,rfl⟩
 have i:=jg.lookup
 have k:=ow
 have j:=jg.bind (.ref x)
 cases ex
 all_goals (
  repeat (any_goals (first | assumption | (rw[if_neg (show ¬(true&&onTheHeap (Value.builtin "object.__getattribute__"))=true by decide)]) | wp_step))
  refine aH jg.plain GQ (jg.check _ _ _ _ _ _ _ _ b (Lb _ _) (Gz e a f ?_))
  repeat (any_goals (first | assumption | wp_step)))
theorem w9 {Q:Value×List Value->Shared->Prop} (c:Hl h x D fd md) (a:aA (.type "function") name=pure none) (f:md name=some v) (k:handedOut v=pure v) (l:Q (v,[]) ⟨h,g,d,t+1,os⟩):wpAny (model prog w) A (getMethod (.ref x) name pl) Q E ⟨h,g,d,t,os⟩:=by
 have j:=c.1
 have b:(⟨h,g,d,t,os⟩:Shared).TypeIs (.ref x) "function":=⟨_,j,rfl⟩
 have e:=jg.lookup
 have i:=ow
 unfold getMethod
 refine wpAny_bind (bb b e ?_)
 show wpAny _ A (if (cn "object.__getattribute__" != "object.__getattribute__")=true then _ else _) Q E _
 rw[G4,if_neg (by decide)]
 refine wpAny_bind (bb b i ?_)
 show wpAny _ A (bh (.ref x) name>>=_) Q E _
 refine wpAny_bind (bb b a ?_)
 exact wpAny_bind (rU c a f k (wpAny_pure l))
end
end lQ
end
noncomputable section
open PySem PySem.W PyProof.Rows PySem.Calls PySem.Spec PySem.SeqAt
namespace lQ
open PySem.Flt Builtin Builtin.ObjectAttr
theorem DH:∀self:Value,refuseLoop self "__setattr__" [.type "function",.type "object"]=pure ():=λself=>by kernel_rfl
theorem Bg:typeHasDict (.type "function")=true:=by decide +kernel
theorem Gy:finalisedInACycleAlone "function"=false:=by decide +kernel
section
variable {prog:Program}{w:World}{A:Around}{E:Value->Shared->Prop}{h:Heap}{g:Array GenState}{d:Drawn}{t:Nat}{os:OsState}{x D:Addr}{fd:FuncData}{md:Str->Option Value}
theorem w8 {name:Str}{Q:Fin->Shared->Prop} (n:h.Ns1 D md) (l:Within md ns) (hsz:ns.length < 65536) (m:∀b i,b.Ns1 D (λy=>if y=name then some v else md y)->Heap.SameBut D h b->Q (.done (.ret .none)) ⟨b,g,d,i,os⟩) :
  wpAny M A (storeInDict D (.str name tk) name v) Q E ⟨h,g,d,t,os⟩:=by
 unfold storeInDict newKeyGuard
 refine wpAny_bind (wpAny_pure (wpAny_bind (wpAny_nsSet1 n λb a o=>?_)))
 obtain ⟨p,j,k,f,c,e⟩:=a.count (Within.cons name v l)
 refine wpAny_bind (wpAny_lookBehind f (by rw[c];exact pastItsLine_dict (Nat.le_trans e (by rw[List.length_cons,bu];lia))) ?_)
 wp_walk
 exact m b _ a o
theorem yN {Q:Fin->Shared->Prop} (e:h.get? x=some ⟨.type "function",dict,.func fd,#[]⟩) (i:aA (.type "function") name=pure none) (k:∀b,dict=some b->wpAny (model prog w) A (storeInDict b (.str name tk) name v) Q E ⟨h,g,d,t,os⟩) (c:dict=none->wpAny (model prog w) A (storeInDict h.objs.size (.str name tk) name v) Q E ⟨(h.push { cls:=.type "dict",data:=.dict #[] }).update x λo=>{ cls:=o.cls,dict:=some h.objs.size,data:=o.data,slots:=o.slots },g,d,t,os⟩) :
  wpAny (model prog w) A (aJ.«object.__setattr__» ⟨[.ref x,.str name tk,v],[]⟩) Q E ⟨h,g,d,t,os⟩:=by
 have l:(⟨h,g,d,t,os⟩:Shared).TypeIs (.ref x) "function":=⟨_,e,rfl⟩
 have f:=DH (.ref x)
 have j:=MQ
 unfold aJ.«object.__setattr__»
 repeat (first | rw[refuse_eq] | rw[j] | rw[f] | wp_step)
 cases dict with
 | some b=>exact wpAny_pure (k b rfl)
 | none=>
  have a:(h.push { cls:=.type "dict",data:=.dict #[] }).get? x=some ⟨.type "function",none,.func fd,#[]⟩:=Heap.get?_push_of_some _ e
  show wpAny _ A (if (!true||!typeHasDict (.type "function"))=true then _ else _) _ _ _
  rw[Bg,if_neg (by decide)]
  refine wpAny_bind (wpAny_alloc' ?_)
  refine wpAny_bind (wpAny_update' a ?_)
  unfold dictMade
  dsimp only
  rw[Gy]
  first
   | exact wpAny_pure (c rfl)
   | exact wpAny_bind (wpAny_pure (wpAny_pure (c rfl)))
theorem rT {Q:Unit->Shared->Prop} (i:h.get? x=some ⟨.type "function",dict,.func fd,#[]⟩) (f:aA (.type "function") name=pure none) (n:∀c l,dict=some c->∀(b:Fin->Shared->Prop) (j:Value->Shared->Prop),(∀a,Q () a->b (.done (.ret .none)) a)->wpAny (model prog w) A.in1 (storeInDict c (.str name l) name v) b j ⟨h,g,d,t+1,os⟩) (m:dict=none->∀l,∀(b:Fin->Shared->Prop) (j:Value->Shared->Prop),(∀a,Q () a->b (.done (.ret .none)) a)->wpAny (model prog w) A.in1 (storeInDict h.objs.size (.str name l) name v) b j ⟨(h.push { cls:=.type "dict",data:=.dict #[] }).update x λo=>{ cls:=o.cls,dict:=some h.objs.size,data:=o.data,slots:=o.slots },g,d,t+1,os⟩) :
  wpAny (model prog w) A (setAttr (.ref x) name v) Q E ⟨h,g,d,t,os⟩:=by
 have s:(⟨h,g,d,t,os⟩:Shared).TypeIs (.ref x) "function":=⟨_,i,rfl⟩
 have k:(⟨h,g,d,t+1,os⟩:Shared).TypeIs (.ref x) "function":=⟨_,i,rfl⟩
 have q:=ko.lookup
 have r:=ko.bind (.ref x)
 unfold setAttr callSpecial? bh
 repeat (any_goals (first | assumption | wp_step))
 refine aH ko.plain GP (ko.check _ _ _ _ _ _ _ _ k (La _ _ _) (yN i f (λc e=>n c _ e _ _ λa p=>?_) λe=>m e _ _ _ λa p=>?_))
 all_goals (repeat (any_goals (first | assumption | wp_step)))
end
theorem lY:typeOf (.builtin "list.append")=pure (.type "method_descriptor"):=by kernel_rfl
theorem mJ:Slot "method_descriptor" "__get__" "method_descriptor.__get__":=
 .of (owner:="method_descriptor") (n:="__get__") (by rw[av,ah];kernel_rfl) (by decide +kernel) (by decide +kernel) (by decide +kernel)
  (by first | exact .inl (by decide +kernel) | exact .inr (by decide +kernel)) (by rw[au];kernel_rfl)
theorem xB:bL cV "method_descriptor.__get__"=some aJ.«method_descriptor.__get__»:=bE (by kernel_rfl)
theorem yV (a b c):bO "method_descriptor.__get__" ⟨[a,b,c],[]⟩:=by unfold bO;kernel_rfl
theorem Dc:aA (.type "method_descriptor") "__set__"=pure none:=by rw[av,ah];kernel_rfl
theorem Dd:aA (.type "method_descriptor") "__delete__"=pure none:=by rw[av,ah];kernel_rfl
theorem L3:bh (.builtin "list.append") "__get__"=pure (some (.builtin "method_descriptor.__get__")):=by unfold bh;rw[lY];exact mJ.lookup
theorem L2:bh (.builtin "list.append") "__set__"=pure none:=by unfold bh;rw[lY];exact Dc
theorem L4:bh (.builtin "list.append") "__delete__"=pure none:=by unfold bh;rw[lY];exact Dd
theorem yz:Manifest.toldItsClass.contains "list.append"=false:=by decide +kernel
theorem Mv:(kfb_private% "ownerAndName") "list.append"=("list","append"):=by first | decide +kernel | kernel_rfl
theorem sub_list_list:bD (.type "list") (.type "list")=pure true:=by rw[au];kernel_rfl
theorem ri:bD (.type "list") (.type "module")=pure false:=by rw[au];kernel_rfl
theorem Ld:bD (.type "list") (.type "type")=pure false:=by rw[au];kernel_rfl
theorem yL:builtinKind "list.append"=some .method:=by decide +kernel
theorem so:Manifest.varargsMethods.contains "list.append"=false:=by decide +kernel
theorem wk:(cq "list.append" as).quiet=true:=cK _ (by decide +kernel)
theorem rE:aA (.type "list") "__getattr__"=pure none:=by rw[av,ah];kernel_rfl
theorem entry_list_ga:bL cV "list.__getattribute__"=some aJ.«object.__getattribute__»:=
 entryFor_alias (id':="object.__getattribute__") (by kernel_rfl) (by decide +kernel) (by decide +kernel) (by kernel_rfl)
noncomputable def mz (id:String) (self:Value):Obj:=⟨.type "builtin_function_or_method",none,.fields #[.builtin id,self],#[]⟩
section
variable {prog:Program}{w:World}{A:Around}{E:Value->Shared->Prop}{h:Heap}{g:Array GenState}{d:Drawn}{t:Nat}{os:OsState}{a:Addr}{xs:Array Value}{k:Nat}
theorem get_append {P:Fin->Shared->Prop} (hx:h.get? a=some ⟨.type "list",none,.seq xs k,#[]⟩) (hq:P (.done (.ret (.ref h.objs.size))) ⟨h.push (mz "list.append" (.ref a)),g,d,t,os⟩) :
  wpAny M A (aJ.«method_descriptor.__get__» ⟨[.builtin "list.append",.ref a,.type "list"],[]⟩) P E ⟨h,g,d,t,os⟩:=by
 have hT:(⟨h,g,d,t,os⟩:Shared).TypeIs (.ref a) "list":=⟨_,hx,rfl⟩
 unfold aJ.«method_descriptor.__get__»
 refine wpAny_bind (aY (a:=(.builtin "list.append",some (.ref a),some (.type "list"))) (by first | rfl | kernel_rfl) ?_)
 dsimp only
 rw[yz,if_neg (by decide)]
 show wpAny M A (((kfb_private% "checkInstance") (.builtin "list.append") (.ref a))>>=λ_=>newFields "builtin_function_or_method" [.builtin "list.append",.ref a]>>=λv=>ret v) P E _
 have e:(kfb_private% "checkInstance") (.builtin "list.append") (.ref a)=(isInstance (.ref a) (.type "list")>>=λb=>if (!b)=true then (do rule "descr.get.wrong-instance";raiseError "TypeError" s!"descriptor '{("append" : Str).toString}' for '{← typeName (.type "list")}' objects doesn't apply to a '{← typeNameOf (.ref a)}' object") else pure ()):=by
  first | rfl | kernel_rfl
 rw[e]
 refine wpAny_bind (wpAny_bind (b6 hT sub_list_list (wpAny_pure ?_)))
 exact wpAny_bind (bq (wpAny_pure hq))
end
def yq (f:String) (b:Args):Prop:=(match cg "list.append" with
 | none=>pure ()
 | some c=>c9 "list.append" { c with full:=f } b)=pure ()
theorem Hi (a v):yq (toString (bV "list")++toString "."++toString (bV "list.append")) ⟨[a,v],[]⟩:=by
 unfold yq;rw[signature?_of (id:="list.append") (n:=['d','n','e','p','p','a']) (o:=['t','s','i','l']) (by kernel_rfl) F.owner_list];kernel_rfl
section
variable {prog:Program}{w:World}{A:Around}{E:Value->Shared->Prop}{h:Heap}{g:Array GenState}{d:Drawn}{t:Nat}{os:OsState}{a:Addr}{xs:Array Value}{k:Nat}
theorem AU {Q:Fin->Shared->Prop} (c:h.get? a=some ⟨.type "list",none,.seq xs k,#[]⟩) (j:Q (.done (.ret (.ref h.objs.size))) ⟨h.push (mz "list.append" (.ref a)),g,d,t,os⟩):wpAny (model prog w) A (aJ.«object.__getattribute__» ⟨[.ref a,.str "append" tk],[]⟩) Q E ⟨h,g,d,t,os⟩:=by
 have m:(⟨h,g,d,t,os⟩:Shared).TypeIs (.ref a) "list":=⟨_,c,rfl⟩
 have l:=F.slot_list_append.lookup
 have e:=L3
 have f:=L2
 have i:=L4
 have b:(⟨h,g,d,t,os⟩:Shared).TypeIs (.builtin "list.append") "method_descriptor":=lY
 unfold aJ.«object.__getattribute__»
 repeat (any_goals (first | assumption | with_reducible apply wpAny_loadPart_known | rw[e] | rw[f] | rw[i] | wp_step))
 exact aH mJ.plain xB (mJ.check _ _ _ _ _ _ _ _ b (yV _ _ _) (get_append c (wpAny_pure j)))
theorem sQ {Q:Value->Shared->Prop} (b:h.get? a=some ⟨.type "list",none,.seq xs k,#[]⟩) (j:Q (.ref h.objs.size) ⟨h.push (mz "list.append" (.ref a)),g,d,t+1,os⟩):wpAny (model prog w) A (getAttr (.ref a) "append" ex) Q E ⟨h,g,d,t,os⟩:=by
 have l:(⟨h,g,d,t,os⟩:Shared).TypeIs (.ref a) "list":=⟨_,b,rfl⟩
 have c:(⟨h,g,d,t+1,os⟩:Shared).TypeIs (.ref a) "list":=⟨_,b,rfl⟩
 have e:=F.slot_list_getattribute.lookup
 have f:=rE
 have i:=F.slot_list_getattribute.bind (.ref a)
 cases ex
 all_goals (
  repeat (any_goals (first | assumption | (rw[if_neg (show ¬(true&&onTheHeap (Value.builtin "list.__getattribute__"))=true by decide)]) | wp_step))
  refine aH F.slot_list_getattribute.plain entry_list_ga (F.slot_list_getattribute.check _ _ _ _ _ _ _ _ c (F.args_list_getattribute_2 _ _) (AU b ?_))
  repeat (any_goals (first | assumption | wp_step)))
theorem yS {id:String}{c:List (Bool×Sem Value)}{Q:Value->Shared->Prop} (e:c.any (·.1)=false) (h:wpAny M A (cw (.ref u) true c []) (λx b=>b.heap.get? u=some (mz id self)/\wpAny M A (call (.ref u) (first++x.pos) x.kw) Q E b) E s):wpAny M A (bo pos (.ref u) first c []) Q E s:=by
 unfold bo
 refine wpAny_bind (ai (wpAny_mono h (λx b i=>wpAny_bind (wpAny_standAt ?_)) λ_ _ x=>x))
 obtain ⟨n,f⟩:=i
 rw[e]
 refine wpAny_bind (m:=cW (.ref u)) ?_
 unfold cW
 refine wpAny_bind (bT n ?_)
 show wpAny M A (if (Value.type "builtin_function_or_method" != Value.type "method")=true then pure (if (Value.type "builtin_function_or_method"==Value.type "builtin_function_or_method"||Value.type "builtin_function_or_method"==Value.type "method-wrapper")=true then Keeper.machine else Keeper.caller) else _) _ E b
 rw[if_pos (by decide),if_pos (by decide)]
 refine wpAny_pure ?_
 exact wpAny_bind (wpAny_mono f (λr j l=>wpAny_bind (ai (wpAny_point (wpAny_pure l)))) λ_ _ x=>x)
theorem xS {Q:Unit->Shared->Prop} (c:h.get? a=some ⟨.type "list",none,.seq xs k,#[]⟩) (f:Q () ⟨h,g,d,t,os⟩):wpAny M A (checkBoundCall "list.append" ⟨[.ref a,v],[]⟩) Q E ⟨h,g,d,t,os⟩:=by
 have e:(⟨h,g,d,t,os⟩:Shared).TypeIs (.ref a) "list":=⟨_,c,rfl⟩
 unfold checkBoundCall
 cases i:cg "list.append" with
 | none=>exact wpAny_pure f
 | some b=>
  dsimp only
  rw[yL]
  dsimp only
  rw[if_neg (by decide)]
  refine wpAny_bind (b6 e ri ?_)
  rw[so,if_neg (by decide)]
  unfold isType
  refine wpAny_bind (wpAny_bind (wpAny_loadPart_known c (wpAny_pure ?_)))
  rw[if_neg (show ¬(false=true) by decide)]
  refine wpAny_bind (wpAny_typeOf e ?_)
  have:=Hi (.ref a) v
  unfold yq at this
  rw[i] at this
  have this:c9 "list.append" { b with full:=toString (bV "list")++toString "."++toString (bV "list.append") } ⟨[.ref a,v],[]⟩=pure ():=this
  dsimp only
  rw[this]
  exact wpAny_pure f
theorem KQ {s:Shared}{Q:Value->Shared->Prop} (c:s.heap.get? u=some (mz "list.append" (.ref a))) (b:s.heap.get? a=some ⟨.type "list",none,.seq xs n,#[]⟩) (hsz:xs.size<=bk) (e:Q .none { s with heap:=s.heap.update a (Obj.mapSeq (·.push v)) }):wpAny (model prog w) A (call (.ref u) [v]) Q E s:=by
 refine ct (cf ?_)
 show wpAny _ A.in1 (callAny (.ref u) ⟨[v],[]⟩) _ _ s
 refine wpAny_bind (bT c ?_)
 show wpAny _ A.in1 (if (Value.type "builtin_function_or_method"==Value.type "method"||Value.type "builtin_function_or_method"==Value.type "builtin_function_or_method"||Value.type "builtin_function_or_method"==Value.type "method-wrapper")=true then _ else _) _ _ s
 rw[if_pos (by decide)]
 show wpAny _ A.in1 (if (Value.type "builtin_function_or_method" != Value.type "method")=true then _ else _) _ _ s
 rw[if_pos (by decide)]
 obtain ⟨h,g,d,t,os⟩:=s
 refine wpAny_bind (xS b ?_)
 refine wpAny_bind (wpAny_pure (wpAny_pure ?_))
 refine ⟨wk,?_⟩
 refine codeAny_builtin F.entry_list_append ?_
 exact aW a xs n v hsz prog w A (wants Q E) _ ⟨b,e⟩
end
end lQ
end
noncomputable section
open PySem PySem.W PyProof.Rows PySem.Calls PySem.Spec
namespace Vm
inductive V where
 | none | bool (b:Bool) | int (i:Int) | str (s:Str)
 | tup (l:List V) | lst (l:List V) | dE (ks vs:List V)
 | gf (a b c:Int)
 | dw (s:Str) | ref (i:Nat) | con (v:Value) | bm (id:String) (self:V)
 deriving Inhabited
theorem V.str.inj (h:V.str a=V.str b):a=b:=congrArg (λv:V=>match v with | .str s=>s | _=>a) h
structure iS where
 params:a7
 body:bX
 scope:Scope
 qual:Str
inductive O where
 | gone
 | list (l:List V)
 | dict (ks vs:List V)
 | cell (v:Option V)
 | fn (f:iS) (cells:List (Str×Nat)) (d:Option Nat)
 | ns (l:List (Str×V))
noncomputable def fK:V->V->Option Bool
 | .int a,.int b=>some (decide (a=b))
 | .str a,.str b=>some (decide (a=b))
 | _,_=>none
def dZ (ks:List V):Prop:=ks.Pairwise λa b=>fK a b=some false
abbrev Tm:=Tok->Option Str
def Tm.le (T a:Tm):Prop:=∀t x,T t=some x->a t=some x
noncomputable def Tm.put (T:Tm) (t:Tok) (x:Str):Tm:=λu=>if u=t then some x else T u
theorem Tm.ew (T:Tm) (t) (x):T.put t x t=some x:=if_pos rfl
theorem Tm.le.refl (T):Tm.le T T:=λ_ _ e=>e
theorem Tm.le.trans {I K:Tm} (h:Tm.le I J) (k:Tm.le J K):Tm.le I K:=λa o e=>k a o (h a o e)
theorem Tm.ir {T:Tm} (h:T t=none):Tm.le T (T.put t x):=λb y e=>by
 unfold Tm.put
 by_cases q:b=t
 ·subst q;rw[h] at e;cases e
 ·rw[if_neg q];exact e
abbrev Gm:=Addr->Option Obj
structure Gh where
 I:Gm
 F:Gm
 T:Tm
def Gm.le (I b:Gm):Prop:=∀a o,I a=some o->b a=some o
noncomputable def Gm.put (I:Gm) (a:Addr) (o:Obj):Gm:=λb=>if b=a then some o else I b
theorem Gm.le.refl (I):Gm.le I I:=λ_ _ e=>e
theorem Gm.le.trans {K:Gm} (h:Gm.le I J) (k:Gm.le J K):Gm.le I K:=λa o e=>k a o (h a o e)
theorem Gm.ir {I:Gm} (h:I a=none):Gm.le I (I.put a o):=λb x e=>by
 unfold Gm.put
 by_cases q:b=a
 ·subst q;rw[h] at e;cases e
 ·rw[if_neg q];exact e
theorem Gm.ew (I:Gm) (a) (o):I.put a o a=some o:=if_pos rfl
theorem Gm.eV {I:Gm} (h:b≠a):I.put a o b=I b:=if_neg h
def O' (P:Params) (e:ag):V->Prop
 | .str x=>(∃t,e.key=.str x t)/\e.hash=aS P x
 | .int x=>(∃t,e.key=.int x t)/\e.hash=dp x
 | _=>False
abbrev RL:=(List Value->Prop)×(List V->List ag->Prop)
noncomputable abbrev Mj:RL:=⟨λa=>a=[],λc b=>c=[]/\b=[]⟩
noncomputable abbrev Mk (P:Params) (r:Value->Prop) (q:RL):RL:=⟨λh=>∃c a,h=c::a/\r c/\q.1 a,λg f=>∃k b e d,g=k::b/\f=e::d/\O' P e k/\r e.val/\q.2 b d⟩
section
variable (P:Params) (T:Tm) (I:Gm) (σ:List Addr)
def Rep (v:V):Value->Prop:=V.rec (motive_1:=λ_=>Value->Prop) (motive_2:=λ_=>RL)
 (λc=>c=.none) (λb c=>c=.bool b) (λi c=>∃t,c=.int i t) (λs c=>∃t,c=.str s t)
 (λ_ q c=>∃a f n,c=.ref a/\I a=some ⟨.type "tuple",none,.seq (List.toArray f) n,#[]⟩/\q.1 f)
 (λ_ q c=>∃a f n,c=.ref a/\I a=some ⟨.type "list",none,.seq (List.toArray f) n,#[]⟩/\q.1 f)
 (λh _ _ q c=>∃a g n,c=.ref a/\I a=some ⟨.type "dict",none,.dict (List.toArray g) n,#[]⟩/\dZ h/\q.2 h g)
 (λa b d c=>∃t u r j,c=.ref j/\I j=some ⟨.type "range",none,.fields #[.int a t,.int b u,.int d r],#[]⟩)
 (λs c=>∃t,c=.str s t/\T t=some s) (λi c=>∃a,c=.ref a/\σ[i]?=some a) (λv c=>c=v)
 (λk _ r c=>∃e a,c=.ref a/\I a=some ⟨.type "builtin_function_or_method",none,.fields #[.builtin k,e],#[]⟩/\r e)
 Mj (λ_ _ r q=>Mk P r q) v
def O9 (l:List V):RL:=V.rec_1 (motive_1:=λ_=>Value->Prop) (motive_2:=λ_=>RL)
 (λc=>c=.none) (λb c=>c=.bool b) (λi c=>∃t,c=.int i t) (λs c=>∃t,c=.str s t)
 (λ_ q c=>∃a f n,c=.ref a/\I a=some ⟨.type "tuple",none,.seq (List.toArray f) n,#[]⟩/\q.1 f)
 (λ_ q c=>∃a f n,c=.ref a/\I a=some ⟨.type "list",none,.seq (List.toArray f) n,#[]⟩/\q.1 f)
 (λh _ _ q c=>∃a g n,c=.ref a/\I a=some ⟨.type "dict",none,.dict (List.toArray g) n,#[]⟩/\dZ h/\q.2 h g)
 (λa b d c=>∃t u r j,c=.ref j/\I j=some ⟨.type "range",none,.fields #[.int a t,.int b u,.int d r],#[]⟩)
 (λs c=>∃t,c=.str s t/\T t=some s) (λi c=>∃a,c=.ref a/\σ[i]?=some a) (λv c=>c=v)
 (λk _ r c=>∃e a,c=.ref a/\I a=some ⟨.type "builtin_function_or_method",none,.fields #[.builtin k,e],#[]⟩/\r e)
 Mj (λ_ _ r q=>Mk P r q) l
def dJ (l:List V) (cs:List Value):Prop:=(O9 P T I σ l).1 cs
def eu (ks vs:List V) (es:List ag):Prop:=(O9 P T I σ vs).2 ks es
end
section
variable {P:Params}{T:Tm}{I:Gm}{σ:List Addr}
theorem Rep.bool (b):Rep P T I σ (.bool b) (.bool b):=rfl
theorem Rep.int (i) (t):Rep P T I σ (.int i) (.int i t):=⟨t,rfl⟩
theorem Rep.str (s) (t):Rep P T I σ (.str s) (.str s t):=⟨t,rfl⟩
theorem Rep.dw (e:T t=some s):Rep P T I σ (.dw s) (.str s t):=⟨t,rfl,e⟩
theorem Rep.con (v):Rep P T I σ (.con v) v:=rfl
theorem Rep.ref (e:σ[i]?=some a):Rep P T I σ (.ref i) (.ref a):=⟨a,rfl,e⟩
theorem Rep.tup {vs:List Value} (e:I a=some ⟨.type "tuple",none,.seq vs.toArray n,#[]⟩) (r:dJ P T I σ l vs):Rep P T I σ (.tup l) (.ref a):=⟨a,vs,n,rfl,e,r⟩
theorem Rep.lst {vs:List Value} (e:I a=some ⟨.type "list",none,.seq vs.toArray n,#[]⟩) (r:dJ P T I σ l vs):Rep P T I σ (.lst l) (.ref a):=⟨a,vs,n,rfl,e,r⟩
theorem Rep.dE {es:List ag} (e:I a=some ⟨.type "dict",none,.dict es.toArray n,#[]⟩) (k:dZ ks) (r:eu P T I σ ks vs es):Rep P T I σ (.dE ks vs) (.ref a):=⟨a,es,n,rfl,e,k,r⟩
theorem Rep.gf {d:Addr} (e:I d=some ⟨.type "range",none,.fields #[.int a t,.int b u,.int c r],#[]⟩):Rep P T I σ (.gf a b c) (.ref d):=⟨t,u,r,d,rfl,e⟩
theorem Rep.bm {id:String} (e:I a=some ⟨.type "builtin_function_or_method",none,.fields #[.builtin id,self],#[]⟩) (r:Rep P T I σ v self):Rep P T I σ (.bm id v) (.ref a):=⟨self,a,rfl,e,r⟩
theorem Rep.none:Rep P T I σ .none .none:=rfl
theorem dJ.nil:dJ P T I σ [] []:=rfl
theorem dJ.cons (r:Rep P T I σ v c) (q:dJ P T I σ l cs):dJ P T I σ (v::l) (c::cs):=⟨c,cs,rfl,r,q⟩
theorem eu.nil:eu P T I σ [] [] []:=⟨rfl,rfl⟩
theorem eu.str (e:h=aS P x) (r:Rep P T I σ v c) (q:eu P T I σ ks vs es):eu P T I σ (.str x::ks) (v::vs) (⟨h,.str x t,c⟩::es):=⟨_,_,_,_,rfl,rfl,⟨⟨t,rfl⟩,e⟩,r,q⟩
theorem eu.int (e:h=dp x) (r:Rep P T I σ v c) (q:eu P T I σ ks vs es):eu P T I σ (.int x::ks) (v::vs) (⟨h,.int x t,c⟩::es):=⟨_,_,_,_,rfl,rfl,⟨⟨t,rfl⟩,e⟩,r,q⟩
theorem eu.i7 (h:eu P T I σ ks [] es):ks=[]/\es=[]:=h
theorem eu.MH (h:eu P T I σ [] vs es):vs=[]/\es=[]:=by
 cases vs with
 | nil=>exact ⟨rfl,h.2⟩
 | cons v vs=>exact h.elim λk h=>h.elim λa h=>h.elim λe h=>h.elim λes h=>nomatch h.1
theorem eu.fC (h:eu P T I σ (k::ks) (v::vs) es):∃e a,es=e::a/\O' P e k/\Rep P T I σ v e.val/\eu P T I σ ks vs a:=
 h.elim λc h=>h.elim λb h=>h.elim λe h=>h.elim λa h=>⟨e,a,h.2.1,(List.cons.inj h.1).1▸h.2.2.1,h.2.2.2.1,(List.cons.inj h.1).2▸h.2.2.2.2⟩
end
section
variable {P:Params}{T T':Tm}{I I':Gm}{σ g_:List Addr}
def ea (σ b:List Addr):Prop:=∀(i:Nat) (a:Addr),σ[i]?=some a->b[i]?=some a
theorem ea.refl (σ):ea σ σ:=λ_ _ e=>e
theorem ea.trans (h:ea a b) (k:ea b c):ea a c:=λi x e=>k i x (h i x e)
theorem ea.push (σ) (a):ea σ (σ++[a]):=λi x e=>by
 have:i < σ.length:=(List.getElem?_eq_some_iff.mp e).1
 rw[List.getElem?_append_left this];exact e
abbrev om (P:Params) (T c:Tm) (I f:Gm) (σ a:List Addr) (l:List V):Prop:=(∀b,dJ P T I σ l b->dJ P c f a l b)/\∀e d,eu P T I σ e l d->eu P c f a e l d
theorem dJ.up (h:∀c,Rep P T I σ v c->Rep P T' I' g_ v c) (k:om P T T' I I' σ g_ l):om P T T' I I' σ g_ (v::l):=
 ⟨λ_ r=>r.imp λ_ r=>r.imp λ_ r=>⟨r.1,h _ r.2.1,k.1 _ r.2.2⟩,λ_ _ r=>r.imp λ_ r=>r.imp λ_ r=>r.imp λ_ r=>r.imp λ_ r=>⟨r.1,r.2.1,r.2.2.1,h _ r.2.2.2.1,k.2 _ _ r.2.2.2.2⟩⟩
theorem Rep.mono (d:Tm.le T T') (a:Gm.le I I') (b:ea σ g_):∀{c:Value},Rep P T I σ v c->Rep P T' I' g_ v c:=
 V.rec (motive_1:=λv=>∀{c:Value},Rep P T I σ v c->Rep P T' I' g_ v c) (motive_2:=om P T T' I I' σ g_)
  id (λ_ _=>id) (λ_ _=>id) (λ_ _=>id)
  (λ_ k _ r=>r.imp λ_ r=>r.imp λ_ r=>r.imp λ_ r=>⟨r.1,a _ _ r.2.1,k.1 _ r.2.2⟩) (λ_ k _ r=>r.imp λ_ r=>r.imp λ_ r=>r.imp λ_ r=>⟨r.1,a _ _ r.2.1,k.1 _ r.2.2⟩)
  (λ_ _ _ k _ r=>r.imp λ_ r=>r.imp λ_ r=>r.imp λ_ r=>⟨r.1,a _ _ r.2.1,r.2.2.1,k.2 _ _ r.2.2.2⟩)
  (λ_ _ _ _ r=>r.imp λ_ r=>r.imp λ_ r=>r.imp λ_ r=>r.imp λ_ r=>⟨r.1,a _ _ r.2⟩)
  (λ_ _ r=>r.imp λ_ r=>⟨r.1,d _ _ r.2⟩) (λ_ _ r=>r.imp λ_ r=>⟨r.1,b _ _ r.2⟩) (λ_ _=>id)
  (λ_ _ k _ r=>r.imp λ_ r=>r.imp λ_ r=>⟨r.1,a _ _ r.2.1,k r.2.2⟩)
  ⟨λ_=>id,λ_ _=>id⟩ (λ_ _ h k=>dJ.up (λ_=>h) k) v
theorem om.all (d:Tm.le T T') (c:Gm.le I I') (a:ea σ g_) (l):om P T T' I I' σ g_ l:=by
 induction l with
 | nil=>exact ⟨λ_=>id,λ_ _=>id⟩
 | cons v l b=>exact dJ.up (λ_=>Rep.mono d c a) b
theorem dJ.mono (d:Tm.le T T') (b:Gm.le I I') (a:ea σ g_) (h:dJ P T I σ v c):dJ P T' I' g_ v c:=(om.all d b a v).1 _ h
theorem eu.mono (c:Tm.le T T') (b:Gm.le I I') (a:ea σ g_) (h:eu P T I σ ks vs es):eu P T' I' g_ ks vs es:=(om.all c b a vs).2 _ _ h
end
def jx (I:Gm) (d:Value) (q:Str):Prop:=∃c b a t,d=.ref c/\I c=some b/\b.data=.fields a/\a[1]?=some (.str q t)
theorem jx.mono (h:Gm.le I I') (k:jx I cv q):jx I' cv q:=k.imp λ_ k=>k.imp λ_ k=>k.imp λ_ k=>k.imp λ_ k=>⟨k.1,h _ _ k.2.1,k.2.2⟩
structure tm (I:Gm) (f:iS) (fd:FuncData):Prop where
 params:fd.params=f.params
 body:fd.body=f.body
 scope:fd.scope=f.scope
 qual:fd.qualname=f.qual
 globals:fd.globals=aj
 builtins:fd.builtins=aC
 defaults:fd.defaults=.none
 kwdefaults:fd.kwdefaults=.none
 code:jx I fd.code f.qual
theorem tm.mono {fd:FuncData} (h:Gm.le I I') (x:tm I f fd):tm I' f fd:=⟨x.params,x.body,x.scope,x.qual,x.globals,x.builtins,x.defaults,x.kwdefaults,x.code.mono h⟩
def nt (σ:List Addr):Option Nat->Option Addr->Prop
 | none,none=>True
 | some j,some D=>σ[j]?=some D
 | _,_=>False
theorem nt.mono (g:ea σ g_):∀{d:Option Nat}{a:Option Addr},nt σ d a->nt g_ d a
 | none,none,_=>trivial
 | some j,some D,h=>g _ _ h
 | none,some _,h=>h
 | some _,none,h=>h
def oj (d:Obj) (m:Str->Option Value):Prop:=∃b c,d.data=.dict b c/\StrKeys b/\UniqKeys b/\∀a,nsFind b a=m a
def eb (P:Params) (T:Tm) (I:Gm) (σ:List Addr) (ob:Obj):O->Prop
 | .gone=>True
 | .list l=>∃vs n,ob=⟨.type "list",none,.seq (List.toArray vs) n,#[]⟩/\dJ P T I σ l vs
 | .dict ks vs=>∃es n,ob=⟨.type "dict",none,.dict (List.toArray es) n,#[]⟩/\dZ ks/\eu P T I σ ks vs es
 | .cell none=>ob=⟨.type "cell",none,.cell none,#[]⟩
 | .cell (some v)=>∃c,ob=⟨.type "cell",none,.cell (some c),#[]⟩/\Rep P T I σ v c
 | .fn f cells d=>∃fd dict,ob=⟨.type "function",dict,.func fd,#[]⟩/\tm I f fd/\(∀x i,cells.lookup x=some i->∃a,σ[i]?=some a/\fd.closure.lookup x=some a)/\nt σ d dict
 | .ns l=>∃m,oj ob m/\(∀x v,l.lookup x=some v->∃c,m x=some c/\Rep P T I σ v c)/\(∀x,l.lookup x=none->m x=none)
section
variable {P:Params}{T:Tm}{I:Gm}{σ:List Addr}
theorem eb.gone (ob:Obj):eb P T I σ ob .gone:=trivial
theorem eb.list (r:dJ P T I σ l vs):eb P T I σ ⟨.type "list",none,.seq vs.toArray n,#[]⟩ (.list l):=⟨vs,n,rfl,r⟩
theorem eb.dict (k:dZ ks) (r:eu P T I σ ks vs es):eb P T I σ ⟨.type "dict",none,.dict es.toArray n,#[]⟩ (.dict ks vs):=⟨es,n,rfl,k,r⟩
theorem eb.Tq:eb P T I σ ⟨.type "cell",none,.cell none,#[]⟩ (.cell none):=rfl
theorem eb.cell (r:Rep P T I σ v c):eb P T I σ ⟨.type "cell",none,.cell (some c),#[]⟩ (.cell (some v)):=⟨c,rfl,r⟩
theorem eb.fn {f:iS}{fd:FuncData}{cells:List (Str×Nat)}{d:Option Nat}{e:Option Addr}(a:tm I f fd) (b:∀x i,cells.lookup x=some i->∃a,σ[i]?=some a/\fd.closure.lookup x=some a) (c:nt σ d e):eb P T I σ ⟨.type "function",e,.func fd,#[]⟩ (.fn f cells d):=⟨fd,e,rfl,a,b,c⟩
theorem eb.ns {l:List (Str×V)}{m:Str->Option Value} (a:oj ob m) (b:∀x v,l.lookup x=some v->∃c,m x=some c/\Rep P T I σ v c) (c:∀x,l.lookup x=none->m x=none):eb P T I σ ob (.ns l):=⟨m,a,b,c⟩
end
theorem eb.KP (h:eb P T I σ ob (.cell v)):∃w,ob=⟨.type "cell",none,.cell w,#[]⟩:=by
 cases v with
 | none=>exact ⟨_,h⟩
 | some v=>exact Exists.elim h λc h=>⟨_,h.1⟩
theorem eb.mono (c:Tm.le T T') (b:Gm.le I I') (a:ea σ g_):eb P T I σ ob o->eb P T' I' g_ ob o:=
 O.casesOn o id (λ_ r=>r.imp λ_ r=>r.imp λ_ r=>⟨r.1,r.2.mono c b a⟩) (λ_ _ r=>r.imp λ_ r=>r.imp λ_ r=>⟨r.1,r.2.1,r.2.2.mono c b a⟩)
  (λv=>Option.casesOn v id λ_ r=>r.imp λ_ r=>⟨r.1,r.2.mono c b a⟩)
  (λ_ _ _ r=>r.imp λ_ r=>r.imp λ_ r=>⟨r.1,r.2.1.mono b,λx i e=>(r.2.2.1 x i e).imp λ_ y=>⟨a _ _ y.1,y.2⟩,r.2.2.2.mono a⟩)
  (λ_ r=>r.imp λ_ r=>⟨r.1,λx v e=>(r.2.1 x v e).imp λ_ y=>⟨y.1,y.2.mono c b a⟩,r.2.2⟩)
def XI (P:Params) (T:Tm) (I:Gm) (σ:List Addr) (c:Value):V->Prop
 | .none=>c=.none
 | .bool b=>c=.bool b
 | .int i=>∃t,c=.int i t
 | .str s=>∃t,c=.str s t
 | .dw s=>∃t,c=.str s t/\T t=some s
 | .con v=>c=v
 | .ref i=>∃a,c=.ref a/\σ[i]?=some a
 | .tup l=>∃a f n,c=.ref a/\I a=some ⟨.type "tuple",none,.seq (List.toArray f) n,#[]⟩/\dJ P T I σ l f
 | .lst l=>∃a f n,c=.ref a/\I a=some ⟨.type "list",none,.seq (List.toArray f) n,#[]⟩/\dJ P T I σ l f
 | .dE h f=>∃a g n,c=.ref a/\I a=some ⟨.type "dict",none,.dict (List.toArray g) n,#[]⟩/\dZ h/\eu P T I σ h f g
 | .gf a b d=>∃t u r j,c=.ref j/\I j=some ⟨.type "range",none,.fields #[.int a t,.int b u,.int d r],#[]⟩
 | .bm id v=>∃e a,c=.ref a/\I a=some ⟨.type "builtin_function_or_method",none,.fields #[.builtin id,e],#[]⟩/\Rep P T I σ v e
def TN (P:Params) (T:Tm) (I:Gm) (σ:List Addr) (cs:List Value):List V->Prop
 | []=>cs=[]
 | v::l=>∃c a,cs=c::a/\Rep P T I σ v c/\dJ P T I σ l a
section
variable {P:Params}{T:Tm}{I:Gm}{σ:List Addr}
theorem Rep.inv (h:Rep P T I σ v c):XI P T I σ c v:=by
 cases v<;>exact h
theorem dJ.inv (h:dJ P T I σ v c):TN P T I σ c v:=by
 cases v<;>exact h
theorem eb.inv (h:eb P T I σ c v):eb P T I σ c v:=h
@[elab_as_elim] theorem Rep.WI {G:Value->Prop} (h:Rep P T I σ (.int i) c) (k:∀t,G (.int i t)):G c:=h.inv.elim λt e=>e.symm▸k t
@[elab_as_elim] theorem Rep.VK {G:Value->Prop} (h:Rep P T I σ (.str i) c) (k:∀t,G (.str i t)):G c:=h.inv.elim λt e=>e.symm▸k t
@[elab_as_elim] theorem dJ.i7 {G:List Value->Prop} (h:dJ P T I σ [] c) (k:G []):G c:=h.inv.symm▸k
@[elab_as_elim] theorem dJ.fC {G:List Value->Prop} (h:dJ P T I σ (v::l) c) (k:∀c a,Rep P T I σ v c->dJ P T I σ l a->G (c::a)):G c:=
 h.inv.elim λc h=>h.elim λa h=>h.1.symm▸k c a h.2.1 h.2.2
end
structure Ctx where
 prog:Program
 w:World
 fu:Gm
 tabs:List Addr
 sys:aK∈tabs
 nb:∀h:Heap,(∀a o,fu a=some o->h.get? a=some o)->NoneBooked h
 qual:Addr->Nat->Nat->Option Str
 EM:Obj
 os:OsState
 mg:Str->Option Value
 mb:Str->Option Value
 gl:∀h:Heap,(∀a o,fu a=some o->h.get? a=some o)->h.Ns aj mg/\h.Ns aC mb
end Vm
end
noncomputable section
open PySem PySem.W PyProof.Rows PySem.Calls PySem.Spec
namespace L1
open ft
open Vm
noncomputable def fj:List Addr:=[1,88,95,185]
def I0 (h:Heap):Gm:=λa=>if a∈fj then none else h.get? a
noncomputable def Ij (P l c:Nat):Option Str:=
 if P=88/\l=116/\c=4 then some "_int2digits.<locals>.inner" else if P=95/\l=131/\c=4 then some "_digits2int.<locals>.inner"
 else if P=185/\l=183/\c=10 then some "_law_element.<locals>.<lambda>" else if P=185/\l=190/\c=19 then some "_law_element.<locals>.<lambda>" else none
theorem u_ {b:Heap} (k:∀a o,I0 h a=some o->b.get? a=some o){a:Addr} (e:h.get? a=some o) (c:a∉fj):b.get? a=some o:=k a o (by unfold I0;rw[if_neg c];exact e)
theorem ME {b:Heap} (k:∀a o,I0 h a=some o->b.get? a=some o){a:Addr}{m:Str->Option Value} (g:h.Ns a m) (d:a∉fj):b.Ns a m:=let ⟨o,f,c,e,r⟩:=g;⟨o,f,c,u_ k e d,r⟩
structure oz (w:World) (s:Shared) (mg mb:Str->Option Value):Prop where
 K:∀(i a:Nat) (o:Obj),(KF w.params)[i]?=some (a,o)->s.heap.get? a=some o
 g:s.heap.Ns aj mg
 b:s.heap.Ns aC mb
 lim:s.heap.NoLimit
 bt:∀x:Str,x≠"__name__"->mb x=bootBuiltins x
 bm:∃bm ob,mg "__builtins__"=some (.ref bm)/\bm≠aC/\s.heap.get? bm=some ob/\ob.cls=.type "module"/\ob.dict=some aC/\ob.data=.plain
theorem QQ (P):∃es b,(boot_o_2 P).data=.dict es b/\StrKeys es/\nsFind es sharingNotToldKey=none:=by
 refine ⟨_,_,rfl,?_,by kernel_rfl⟩
 intro e a
 simp at a
 try (rcases a with rfl | rfl | rfl | rfl | rfl | rfl | rfl | rfl<;>exact ⟨_,_,rfl⟩)
def eB (w:World) (s:Shared) (mg mb:Str->Option Value) (H:oz w s mg mb):Vm.Ctx where
 prog:=pw
 w:=w
 fu:=I0 s.heap
 tabs:=fj
 sys:=by decide
 nb:=λh k=>by
  obtain ⟨es,ep,e1,e2,e3⟩:=QQ w.params
  exact ⟨_,⟨_,es,ep,u_ k (H.K 1 2 _ rfl) (by decide),e1,e2,λ_=>rfl⟩,e3⟩
 qual:=Ij
 EM:=boot_o_1 w.params
 os:=s.os
 mg:=mg
 mb:=mb
 gl:=λh k=>⟨ME k H.g (by decide),ME k H.b (by decide)⟩
def Fin (w:World) (s:Shared):Prop:=∀(e:List Int) (a:Nat) (b:List Value),e.length<=63->cp b e->s.heap.get? a=some ⟨.type "list",none,.seq b.toArray 0,#[]⟩->a∉fj->s.gens=#[]->0 < s.toks->
 ∀(Q:Value->Shared->Prop) (E:Value->Shared->Prop),(∀d c,c=.bool true->OldK s.heap d.heap->d.os=s.os->d.gens=#[]->Q c d)->wpAny (model pw w) callerA (call (.ref 241) [.ref a]) Q E s
def Pd (X:Vm.Ctx):Prop:=∃(w:World) (s:Shared) (a b:Str->Option Value) (H:oz w s a b),X=eB w s a b H/\¬Fin w s
theorem zo (h:Heap) (k:∀(a:Addr) (o:Obj),some (default:Obj)=some o->h.get? a=some o):False:=absurd (Heap.lt_size (k h.objs.size default rfl)) (Nat.lt_irrefl _)
theorem Oi:Nonempty Vm.Ctx:=⟨{ prog:=pw,w:=⟨λ_ _=>0,{ strHash:=λ_=>0,shareClass:=λ_=>0,mergeTok:=id,idOf:=λ_=>0,idOfShared:=λ_ _=>0,followText:=λ_=>false,idOfImm:=λ_=>0 }⟩,fu:=λ_=>some default,tabs:=fj,sys:=by decide,nb:=λh k=>(zo h k).elim,qual:=Ij,EM:=default,os:=default,mg:=λ_=>none,mb:=λ_=>none,gl:=λh k=>(zo h k).elim }⟩
end L1
namespace Vm
noncomputable def C:Ctx:=@Classical.epsilon Ctx L1.Oi L1.Pd
end Vm
namespace L1
theorem Kv (h:∀(w:World) (s:Shared) (a b:Str->Option Value) (H:oz w s a b),Vm.C=eB w s a b H->Fin w s) (w) (s) (a b:Str->Option Value) (H:oz w s a b):Fin w s:=
 Classical.byContradiction λn=>by
  obtain ⟨w,s,a,b,H,e,k⟩:Pd Vm.C:=@Classical.epsilon_spec Vm.Ctx Pd ⟨_,w,s,a,b,H,rfl,n⟩
  exact k (h w s a b H e)
end L1
end
noncomputable section
open PySem PySem.W PyProof.Rows PySem.Calls PySem.Spec
namespace Vm
def jT (C:Ctx) (I:Gm) (P:Addr) (o:Obj):Prop:=(P=aK/\o=C.EM)\/P≠aK/\∃b,o=tabObj b/\aZ b.toList/\∀a c q,codeAmong a b.toList=some c->C.qual P a.line a.col=some q->jx I c q
theorem jT.mono {P:Addr} (h:Gm.le I I') (k:jT C I P o):jT C I' P o:=k.imp_right λk=>⟨k.1,k.2.imp λ_ k=>⟨k.1,k.2.1,λa b q e f=>(k.2.2 a b q e f).mono h⟩⟩
structure dS (C:Ctx) (G:Gh) (σ:List Addr) (hp:List O) (s:Shared):Prop where
 I:∀a o,G.I a=some o->s.heap.get? a=some o
 F:∀a o,G.F a=some o->s.heap.get? a=some o
 IF:∀a,G.I a≠none->G.F a=none
 top:Gm.le C.fu G.I
 tab:∀P∈C.tabs,G.I P=none/\G.F P=none/\P∉σ/\∃o,s.heap.get? P=some o/\jT C G.I P o
 len:σ.length=hp.length
 nd:σ.Nodup
 fe:∀(i:Nat) (a:Addr),σ[i]?=some a->G.I a=none/\G.F a=none/\∃o ob,hp[i]?=some o/\s.heap.get? a=some ob/\eb C.w.params G.T G.I σ ob o
 gens:s.gens=#[]
 os:s.os=C.os
 pos:0 < s.toks
 T:∀t x,G.T t=some x->0 < t/\t < s.toks
section
variable {G:Gh}{σ:List Addr}{hp:List O}{s s':Shared}
theorem dS.fX (H:dS C G σ hp s):G.I s.heap.objs.size=none:=by
 cases q:G.I s.heap.objs.size with
 | none=>rfl
 | some o=>exact absurd (Heap.lt_size (H.I _ _ q)) (Nat.lt_irrefl _)
theorem dS.jo (H:dS C G σ hp s):G.F s.heap.objs.size=none:=by
 cases q:G.F s.heap.objs.size with
 | none=>rfl
 | some o=>exact absurd (Heap.lt_size (H.F _ _ q)) (Nat.lt_irrefl _)
theorem dS.freshT (H:dS C G σ hp s):s.heap.objs.size∉C.tabs:=λh=>by
 obtain ⟨_,_,_,o,e,_⟩:=H.tab _ h
 exact absurd (Heap.lt_size e) (Nat.lt_irrefl _)
theorem dS.iI (H:dS C G σ hp s):s.heap.objs.size∉σ:=λh=>by
 obtain ⟨i,a,e⟩:=List.getElem_of_mem h
 obtain ⟨_,_,o,c,_,b,_⟩:=H.fe i _ (by rw[List.getElem?_eq_getElem a,e])
 exact absurd (Heap.lt_size b) (Nat.lt_irrefl _)
theorem dS.keep (H:dS C G σ hp s) (x) (k:∀b o,b≠x->s.heap.get? b=some o->s'.heap.get? b=some o) (xI:G.I x=none) (xF:G.F x=none) (XN:x∉σ) (xT:x∉C.tabs) (hg:s'.gens=s.gens) (ho:s'.os=s.os) (ht:s.toks<=s'.toks):dS C G σ hp s' where
 I a o e:=k a o (λq=>by subst q;rw[xI] at e;cases e) (H.I a o e)
 F a o e:=k a o (λq=>by subst q;rw[xF] at e;cases e) (H.F a o e)
 IF:=H.IF
 top:=H.top
 tab P hP:=by
  obtain ⟨a,b,c,o,e,t⟩:=H.tab P hP
  exact ⟨a,b,c,o,k P o (λq=>xT (q▸hP)) e,t⟩
 len:=H.len
 nd:=H.nd
 fe i a e:=by
  obtain ⟨p,q,o,ob,h1,h2,h3⟩:=H.fe i a e
  exact ⟨p,q,o,ob,h1,k a ob (λz=>XN (z▸List.mem_of_getElem? e)) h2,h3⟩
 gens:=hg.trans H.gens
 os:=ho.trans H.os
 pos:=Nat.lt_of_lt_of_le H.pos ht
 T t x e:=⟨(H.T t x e).1,Nat.lt_of_lt_of_le (H.T t x e).2 ht⟩
theorem dS.ext (H:dS C G σ hp s) (k:∀b o,s.heap.get? b=some o->s'.heap.get? b=some o) (c:s.toks<=s'.toks) (a:s'.gens=s.gens) (d:s'.os=s.os):dS C G σ hp s':=
 H.keep s.heap.objs.size (λb o _ e=>k b o e) H.fX H.jo H.iI H.freshT a d c
theorem dS.push (H:dS C G σ hp s) (o) (a:s.toks<=t):dS C G σ hp { s with heap:=s.heap.push o,toks:=t }:=
 H.ext (s':={ s with heap:=s.heap.push o,toks:=t }) (λb c e=>Heap.get?_push_of_some _ e) a rfl rfl
theorem dS.toks (H:dS C G σ hp s) (t) (a:s.toks<=t):dS C G σ hp { s with toks:=t }:=H.ext (s':={ s with toks:=t }) (λ_ _ e=>e) a rfl rfl
def Gh.gK (G:Gh) (a:Addr) (o:Obj):Gh:=⟨G.I.put a o,G.F,G.T⟩
def Gh.sG (G:Gh) (a:Addr) (o:Obj):Gh:=⟨G.I,G.F.put a o,G.T⟩
structure Gh.le (G G':Gh):Prop where
 I:Gm.le G.I G'.I
 F:G'.F=G.F
 T:Tm.le G.T G'.T
theorem Gh.le.refl (G):Gh.le G G:=⟨λ_ _ e=>e,rfl,λ_ _ e=>e⟩
theorem Gh.le.trans (h:Gh.le G G') (k:Gh.le G' G''):Gh.le G G'':=⟨h.I.trans k.I,k.F.trans h.F,h.T.trans k.T⟩
theorem dS.freeze (H:dS C G σ hp s) (e:s.heap.get? a=some o) (aI:G.I a=none) (aF:G.F a=none) (yd:a∉σ) (aT:a∉C.tabs):dS C (G.gK a o) σ hp s where
 I b x h:=by
  replace h:(G.I.put a o) b=some x:=h
  by_cases q:b=a
  ·subst q;rw[Gm.ew] at h;cases h;exact e
  ·rw[Gm.eV q] at h;exact H.I b x h
 F:=H.F
 IF b h:=by
  by_cases q:b=a
  ·subst q;exact aF
  ·replace h:(G.I.put a o) b≠none:=h
   rw[Gm.eV q] at h
   exact H.IF b h
 top:=H.top.trans (Gm.ir aI)
 tab P hP:=by
  obtain ⟨x,y,z,w,w1,w2⟩:=H.tab P hP
  refine ⟨?_,y,z,w,w1,w2.mono (Gm.ir aI)⟩
  show (G.I.put a o) P=none
  rw[Gm.eV (λq=>aT (by rw[<- q];exact hP))];exact x
 len:=H.len
 nd:=H.nd
 fe i b h:=by
  obtain ⟨p,q,x,ob,h1,h2,h3⟩:=H.fe i b h
  refine ⟨?_,q,x,ob,h1,h2,h3.mono (Tm.le.refl _) (Gm.ir aI) (ea.refl _)⟩
  show (G.I.put a o) b=none
  rw[Gm.eV (λz=>yd (by rw[<- z];exact List.mem_of_getElem? h))];exact p
 gens:=H.gens
 os:=H.os
 pos:=H.pos
 T:=H.T
theorem Gh.jH (h:G.I a=none):Gh.le G (G.gK a o):=⟨Gm.ir h,rfl,Tm.le.refl _⟩
theorem dS.qH (H:dS C G σ hp s) (o:Obj) (b:o.isFreed=false) (a:s.toks<=t):dS C (G.gK s.heap.objs.size o) σ hp { s with heap:=s.heap.push o,toks:=t }:=
 (H.push o a).freeze (Heap.get?_push_size _ b) H.fX H.jo H.iI H.freshT
theorem dS.nB (H:dS C G σ hp s) (e:s.heap.get? a=some ob) (aI:G.I a=none) (aF:G.F a=none) (yd:a∉σ) (aT:a∉C.tabs) (r:eb C.w.params G.T G.I (σ++[a]) ob o) :
  dS C G (σ++[a]) (hp++[o]) s where
 I:=H.I
 F:=H.F
 IF:=H.IF
 top:=H.top
 tab P hP:=by
  obtain ⟨x,y,z,w⟩:=H.tab P hP
  refine ⟨x,y,λq=>?_,w⟩
  rcases List.mem_append.mp q with q | q
  ·exact z q
  ·exact aT (by rw[List.mem_singleton] at q;exact q▸hP)
 len:=by rw[List.length_append,List.length_append,H.len];rfl
 nd:=List.nodup_append.mpr ⟨H.nd,(by simp),λx hx y hy=>by rw[List.mem_singleton] at hy;subst hy;exact λq=>yd (q▸hx)⟩
 fe i b h:=by
  by_cases q:i < σ.length
  ·rw[List.getElem?_append_left q] at h
   obtain ⟨p,q',x,Yi,h1,h2,h3⟩:=H.fe i b h
   exact ⟨p,q',x,Yi,by rw[List.getElem?_append_left (H.len▸q)];exact h1,h2,h3.mono (Tm.le.refl _) (Gm.le.refl _) (ea.push _ _)⟩
  ·have hl:=H.len
   have hi:i=σ.length:=by
    have:=(List.getElem?_eq_some_iff.mp h).1
    rw[List.length_append,List.length_singleton] at this
    lia
   subst hi
   rw[List.getElem?_concat_length] at h
   cases h
   exact ⟨aI,aF,o,ob,by rw[hl,List.getElem?_concat_length],e,r⟩
 gens:=H.gens
 os:=H.os
 pos:=H.pos
 T:=H.T
theorem dS.Wy (H:dS C G σ hp s) (a:Obj) (o) (c:a.isFreed=false) (r:eb C.w.params G.T G.I (σ++[s.heap.objs.size]) a o) (b:s.toks<=t) :
  dS C G (σ++[s.heap.objs.size]) (hp++[o]) { s with heap:=s.heap.push a,toks:=t }:=
 (H.push a (t:=t) b).nB (Heap.get?_push_size _ c) H.fX H.jo H.iI H.freshT r
theorem dS.upd (H:dS C G σ hp s) (c:σ[i]?=some a) (k:∀b o,b≠a->s.heap.get? b=some o->s'.heap.get? b=some o) (e:s'.heap.get? a=some ob) (r:eb C.w.params G.T G.I σ ob o) (n:s'.gens=s.gens) (u:s'.os=s.os) (m:s.toks<=s'.toks):dS C G σ (hp.set i o) s':=by
 have B:=(H.fe i a c).1
 have A:=(H.fe i a c).2.1
 have l:i < σ.length:=(List.getElem?_eq_some_iff.mp c).1
 exact {
  I:=λb x h=>k b x (λq=>by subst q;rw[B] at h;cases h) (H.I b x h)
  F:=λb x h=>k b x (λq=>by subst q;rw[A] at h;cases h) (H.F b x h)
  IF:=H.IF
  top:=H.top
  tab:=λP w=>by
   obtain ⟨x,y,z,p,g,f⟩:=H.tab P w
   exact ⟨x,y,z,p,k P p (λq=>z (q▸List.mem_of_getElem? c)) g,f⟩
  len:=by rw[List.length_set];exact H.len
  nd:=H.nd
  fe:=λj b h=>by
   obtain ⟨p,q,x,d,g,f,v⟩:=H.fe j b h
   by_cases z:j=i
   ·subst z
    rw[c] at h;cases h
    exact ⟨p,q,o,ob,by rw[List.getElem?_set_self (H.len▸l)],e,r⟩
   ·refine ⟨p,q,x,d,by rw[List.getElem?_set_ne (aN z)];exact g,k b d (λy=>z ?_) f,v⟩
    subst y
    exact ((List.getElem?_inj l H.nd).mp (c.trans h.symm)).symm
  gens:=n.trans H.gens
  os:=u.trans H.os
  pos:=Nat.lt_of_lt_of_le H.pos m
  T:=λt x e=>⟨(H.T t x e).1,Nat.lt_of_lt_of_le (H.T t x e).2 m⟩ }
def Gh.Az (G:Gh) (t:Tok) (x:Str):Gh:=⟨G.I,G.F,G.T.put t x⟩
theorem dS.nX (H:dS C G σ hp s):G.T s.toks=none:=by
 cases q:G.T s.toks with
 | none=>rfl
 | some o=>exact absurd (H.T _ _ q).2 (Nat.lt_irrefl _)
theorem dS.MI (H:dS C G σ hp s) (x):dS C (G.Az s.toks x) σ hp { s with toks:=s.toks+1 } where
 I:=H.I
 F:=H.F
 IF:=H.IF
 top:=H.top
 tab:=H.tab
 len:=H.len
 nd:=H.nd
 fe i b h:=by
  obtain ⟨p,q,y,ob,h1,h2,h3⟩:=H.fe i b h
  exact ⟨p,q,y,ob,h1,h2,h3.mono (Tm.ir H.nX) (Gm.le.refl _) (ea.refl _)⟩
 gens:=H.gens
 os:=H.os
 pos:=Nat.succ_pos _
 T t y e:=by
  replace e:(if t=s.toks then some x else G.T t)=some y:=e
  by_cases q:t=s.toks
  ·subst q;exact ⟨H.pos,Nat.lt_succ_self _⟩
  ·rw[if_neg q] at e
   exact ⟨(H.T t y e).1,Nat.lt_succ_of_lt (H.T t y e).2⟩
end
structure K where
 scope:Scope
 slots:List Str
 cells:List Str
 qual:Str
 code:Option Value:=none
structure St where
 loc:List (Option V)
 hp:List O
structure Wd where
 G:Gh
 σ:List Addr
 s:Shared
structure Wd.le (W W':Wd):Prop where
 G:Gh.le W.G W'.G
 σ:ea W.σ W'.σ
theorem Wd.le.refl (W:Wd):W.le W:=⟨Gh.le.refl _,ea.refl _⟩
theorem Wd.le.trans {W:Wd} (h:W.le W') (k:W'.le W''):W.le W'':=⟨h.G.trans k.G,h.σ.trans k.σ⟩
abbrev dO (C:Ctx) (hp:List O) (W:Wd):Prop:=dS C W.G W.σ hp W.s
abbrev dz (C:Ctx) (W:Wd) (v:V) (c:Value):Prop:=Rep C.w.params W.G.T W.G.I W.σ v c
abbrev dF (C:Ctx) (W:Wd) (v:List V) (c:List Value):Prop:=dJ C.w.params W.G.T W.G.I W.σ v c
theorem dz.mono {W:Wd} (r:dz C W v c) (l:W.le W'):dz C W' v c:=Rep.mono l.G.T l.G.I l.σ r
theorem dF.mono {W:Wd} (r:dF C W v c) (l:W.le W'):dF C W' v c:=dJ.mono l.G.T l.G.I l.σ r
structure g9 (κ:K) (cs:List Nat) (σ:List Addr) (env:Env):Prop where
 scope:env.scope=κ.scope
 fn:κ.scope.kind=.function
 nd:κ.slots.Nodup
 globals:env.globals=aj
 builtins:env.builtins=aC
 qual:env.qual=κ.qual
 code:∀c,κ.code=some c->env.code=c
 cell:∀(k:Nat) (x:Str),κ.cells[k]?=some x->(κ.scope.names.lookup x=some .cell\/κ.scope.names.lookup x=some .free)->∃i a,cs[k]?=some i/\σ[i]?=some a/\env.cells.lookup x=some a
theorem g9.mono (h:g9 κ cs σ env) (g:ea σ g_):g9 κ cs g_ env:=
 ⟨h.scope,h.fn,h.nd,h.globals,h.builtins,h.qual,h.code,λk x e f=>let ⟨i,a,p,q,r⟩:=h.cell k x e f;⟨i,a,p,g _ _ q,r⟩⟩
structure Loc (C:Ctx) (κ:K) (L:Addr) (loc:List (Option V)) (W:Wd):Prop where
 ns:∃m,W.s.heap.Ns L m/\∀(i:Nat) (x:Str) (v:V),κ.slots[i]?=some x->loc[i]?=some (some v)->∃c,m x=some c/\dz C W v c
 I:W.G.I L=none
 F:W.G.F L=none
 σ:L∉W.σ
 T:L∉C.tabs
structure At (C:Ctx) (κ:K) (cs:List Nat) (env:Env) (st:St) (W:Wd):Prop where
 ok:g9 κ cs W.σ env
 H:dO C st.hp W
 L:Loc C κ env.locals st.loc W
def dY (d:Nat) (A:Around):Prop:=A.handled=none/\A.depth+d < 900/\A.units+10*d+50 < 9000
def Tr {α:Type} (C:Ctx) (κ:K) (cs:List Nat) (env:Env) (A:Around) (t:Sem α) (st':St) (R:Wd->α->Prop) (W:Wd):Prop:=
 ∀(Q:α->Shared->Prop) (E:Value->Shared->Prop),(∀b a,W.le b->At C κ cs env st' b->R b a->Q a b.s)->wpAny (model C.prog C.w) A t Q E W.s
def TE (C:Ctx) (d:Nat) (κ:K) (cs:List Nat) (e:Expr) (st:St) (v:V) (st':St):Prop:=
 ∀(A:Around) (a:Env) (W:Wd),dY d A->At C κ cs a st W->Tr C κ cs a A (eval e a) st' (λb c=>dz C b v c) W
structure Pext0 (C:Ctx) (W W':Wd):Prop where
 σ:W'.σ=W.σ
 G:Gh.le W.G W'.G
 hk:∀b o,W.s.heap.get? b=some o->W'.s.heap.get? b=some o
 new:∀a,W.G.I a=none->(W.s.heap.get? a).isSome=true->W'.G.I a=none
 hp:W.s.toks<=W'.s.toks->∀hp,dO C hp W->dO C hp W'
structure hZ (C:Ctx) (W W':Wd):Prop extends Pext0 C W W' where
 tk:W.s.toks<=W'.s.toks
theorem Pext0.le {W:Wd} (h:Pext0 C W W'):W.le W':=⟨h.G,by rw[h.σ];exact ea.refl _⟩
theorem hZ.le {W:Wd} (h:hZ C W W'):W.le W':=h.toPext0.le
theorem Pext0.strict {W:Wd} (h:Pext0 C W W') (a:W.s.toks<=W'.s.toks):hZ C W W':=⟨h,a⟩
theorem Pext0.refl (W):Pext0 C W W:=⟨rfl,Gh.le.refl _,λ_ _ e=>e,λ_ e _=>e,λ_ _ e=>e⟩
theorem hZ.refl (W):hZ C W W:=⟨.refl W,Nat.le_refl _⟩
theorem Loc.el {W:Wd} (h:Loc C κ L loc W) (p:Pext0 C W W'):Loc C κ L loc W' where
 ns:=by
  obtain ⟨m,a,b⟩:=h.ns
  refine ⟨m,a.keeps p.hk,λi x v e f=>?_⟩
  obtain ⟨c,q,r⟩:=b i x v e f
  exact ⟨c,q,r.mono p.le⟩
 I:=by
  obtain ⟨m,⟨o,es,ep,ho,_⟩,b⟩:=h.ns
  exact p.new _ h.I (by rw[ho];rfl)
 F:=by rw[p.G.F];exact h.F
 σ:=by rw[p.σ];exact h.σ
 T:=h.T
theorem At.el {st:St}{W:Wd} (h:At C κ cs env st W) (p:hZ C W W'):At C κ cs env st W':=
 ⟨h.ok.mono p.le.σ,p.hp p.tk _ h.H,h.L.el p.toPext0⟩
theorem Pext0.toks {W:Wd} (t):Pext0 C W ⟨W.G,W.σ,{ W.s with toks:=t }⟩:=
 ⟨rfl,Gh.le.refl _,λ_ _ e=>e,λ_ e _=>e,λh a e=>e.toks t h⟩
theorem Pext0.push {W:Wd} (o) (t):Pext0 C W ⟨W.G,W.σ,{ W.s with heap:=W.s.heap.push o,toks:=t }⟩:=
 ⟨rfl,Gh.le.refl _,λ_ _ e=>Heap.get?_push_of_some _ e,λ_ e _=>e,λh a e=>e.push o h⟩
theorem Pext0.qH {W:Wd} (o:Obj) (c:o.isFreed=false) (t) (b:W.G.I W.s.heap.objs.size=none):Pext0 C W ⟨W.G.gK W.s.heap.objs.size o,W.σ,{ W.s with heap:=W.s.heap.push o,toks:=t }⟩:=
 ⟨rfl,Gh.jH b,λ_ _ e=>Heap.get?_push_of_some _ e,λa e q=>by
  obtain ⟨x,d⟩:=Option.isSome_iff_exists.mp q
  show (W.G.I.put W.s.heap.objs.size o) a=none
  rw[Gm.eV (Nat.ne_of_lt (Heap.lt_size d))];exact e,λh f e=>e.qH o c h⟩
theorem Pext0.ext {W:Wd}{s':Shared} (a:∀b o,W.s.heap.get? b=some o->s'.heap.get? b=some o) (c:s'.gens=W.s.gens) (d:s'.os=W.s.os):Pext0 C W ⟨W.G,W.σ,s'⟩:=
 ⟨rfl,Gh.le.refl _,a,λ_ e _=>e,λh f e=>e.ext a h c d⟩
theorem DC {W:Wd} (e:dO C hp W) (H:dS C W.G W.σ hp s') (g:s'.heap.get? a=some o) (b:W.s.heap.get? a=none) (d:W.G.I a=none):dS C (W.G.gK a o) W.σ hp s':=by
 refine H.freeze g d ?_ ?_ ?_
 ·cases q:W.G.F a with
  | none=>rfl
  | some h=>rw[e.F a h q] at b;exact Vm.sN b
 ·intro q
  obtain ⟨i,f,z⟩:=List.getElem_of_mem q
  obtain ⟨_,_,x,j,_,c,_⟩:=e.fe i _ (by rw[List.getElem?_eq_getElem f,z])
  rw[b] at c;exact Vm.nS c
 ·intro q
  obtain ⟨_,_,_,x,z,_⟩:=e.tab _ q
  rw[b] at z;exact Vm.nS z
theorem Pext0.N2 {W:Wd}{s':Shared} (d:∀b o,W.s.heap.get? b=some o->s'.heap.get? b=some o) (i:s'.heap.get? a=some o) (f:W.s.heap.get? a=none) (c:W.G.I a=none) (g:s'.gens=W.s.gens) (j:s'.os=W.s.os) :
  Pext0 C W ⟨W.G.gK a o,W.σ,s'⟩:=
 ⟨rfl,Gh.jH c,d,λb e q=>by
  show (W.G.I.put a o) b=none
  rw[Gm.eV (λz=>by rw[z,f] at q;exact Vm.fT q)];exact e,λh k e=>DC e (e.ext d h g j) i f c⟩
theorem Pext0.tok {W:Wd} (x) (a:W.G.T W.s.toks=none):Pext0 C W ⟨W.G.Az W.s.toks x,W.σ,{ W.s with toks:=W.s.toks+1 }⟩:=
 ⟨rfl,⟨Gm.le.refl _,rfl,Tm.ir a⟩,λ_ _ e=>e,λ_ e _=>e,λ_ b e=>e.MI x⟩
def dP {α:Type} (C:Ctx) (A:Around) (t:Sem α) (R:Wd->α->Prop) (W:Wd):Prop:=
 ∀(Q:α->Shared->Prop) (E:Value->Shared->Prop),(∀a c,hZ C W a->R a c->Q c a.s)->wpAny (model C.prog C.w) A t Q E W.s
theorem dP.mk {α:Type}{A:Around}{t:Sem α}{R:Wd->α->Prop}{W:Wd}
  (h:∀(Q:α->Shared->Prop) (E:Value->Shared->Prop),(∀a c,Pext0 C W a->R a c->Q c a.s)->wpAny (model C.prog C.w) A t Q E W.s):dP C A t R W:=
 λQ E b=>wpAny_toks (h _ _ λa c p r d=>b a c (p.strict d) r)
theorem dP.tr {α:Type}{κ:K}{cs:List Nat}{env:Env}{st:St}{A:Around}{t:Sem α}{R:Wd->α->Prop}{W:Wd}(h:dP C A t R W) (a:At C κ cs env st W):Tr C κ cs env A t st R W:=λQ E b=>h Q E λd c p r=>b d c p.le (a.el p) r
theorem TE.const_int {st:St}:TE C d κ cs (.Constant (.int i) k pos) st (.int i) st:=
 λA a W c b Q E h=>wpAny_Constant_int (h ⟨W.G,W.σ,_⟩ _ (Pext0.toks _).le (b.el ((Pext0.toks _).strict (Nat.le_succ _))) (.int i _))
theorem TE.binop {st:St} (w:TE C d κ cs l st a dy) (u:TE C d κ cs r dy b dC) (B:∀A W x y,dY d A->dO C dC.hp W->dz C W a x->dz C W b y->dP C A (binaryOp op x y) (λz c=>dz C z v c) W):TE C d κ cs (.BinOp l op r pos) st v dC:=
 λA n W t D Q E h=>by
  refine wpAny_BinOp (w A n W t D _ _ λo x q m k=>?_)
  refine u A n o t m _ _ λg y f e s=>?_
  refine B A g x y t e.H (k.mono f) s _ _ λj c p i=>?_
  exact h j c ((q.trans f).trans p.le) (e.el p) i
theorem TE.loc {d:Nat}{κ:K}{cs:List Nat}{x:Str}{pos:Pos}{st:St}{i:Nat}{v:V}(hx:κ.slots[i]?=some x) (hk:κ.scope.names.lookup x=some .local) (hv:st.loc[i]?=some (some v)) (hd:(x==("__debug__":Str))=false) :
  TE C d κ cs (.Name x pos) st v st:=λA env W hr ha Q E h=>by
 obtain ⟨m,hn,hm⟩:=ha.L.ns
 obtain ⟨c,hc,r⟩:=hm i x v hx hv
 refine wpAny_Name (cS (by rw[ha.ok.scope];exact ha.ok.fn) (by unfold Env.kindOf;rw[ha.ok.scope];exact hk) hn hc ?_) hd
 exact h W c (Wd.le.refl _) ha r
end Vm
end
noncomputable section
open PySem PySem.W PyProof.Rows PySem.Calls PySem.Spec
namespace Vm
set_option genCtorIdx true in
inductive Bf where
 | len | range | sum | sorted | list | chr | ord | min | max | abs | set | divmod
set_option genCtorIdx true in
inductive Mt where
 | append | reverse | count | index | pop | join | replace | find | lower | get | lO
inductive Tg where
 | loc (i:Nat) | cell (i:Nat) | tup (l:List Tg)
inductive X where
 | k (v:V) | loc (i:Nat) | cell (i:Nat)
 | bin (op:Operator) (a b:X) | un (op:UnaryOp) (a:X)
 | and (l:List X) | or (l:List X)
 | cmp (a:X) (ops:List b9) (l:List X)
 | dT (c a b:X)
 | call (f:X) (as:List X) (kn:List Str) (kv:List X)
 | bf (b:Bf) (as:List X)
 | mt (m:Mt) (o:X) (as:List X)
 | attr (o:X) (n:Str)
 | mc (o:X) (n:Str) (as:List X)
 | sub (o i:X) | k_ (o lo hi:X)
 | list (l:List X) | tup (l:List X) | dict (ks vs:List X) | star (l:List X)
 | enum (a:X) | rev (a:X)
 | new (a:X)
 | comp (elt:X) (ts:List Tg) (is:List X) (fs:List (List X)) (n:Nat) (m:Nat)
 | lam (f:iS) (cl:List (Str×Nat))
inductive XS where
 | expr (e:X) | asg (t:Tg) (e:X)
 | ji (o i e:X) | setAttr (o:X) (n:Str) (e:X)
 | aug (t:Tg) (op:Operator) (e:X) | nq (o i:X) (op:Operator) (e:X)
 | ret (e:X) | dT (c:X) (a b:List XS) | fI (t:Tg) (e:X) (body:List XS)
 | yZ (c:X) (body:List XS)
 | qQ (t:Tg) (f:iS) (cl:List (Str×Nat)) | j_ (body:List XS) | stop
structure Glob where
 top:List (Str×Value)
 blt:List (Str×Value)
 pP:List (Value×Nat×Nat×Str):=[]
 vals:List (Str×V):=[]
noncomputable def Glob.lg (g:Glob) (f:Option Value) (l c:Nat):Option Str:=match f with
 | some (.ref a)=>(g.pP.find? λx=>(match x.1 with | .ref b=>b==a | _=>false)&&x.2.1==l&&x.2.2.1==c).map (·.2.2.2)
 | _=>none
noncomputable def bfB (s:String):Option Bf:=
 if s="len" then some .len else if s="sum" then some .sum else if s="sorted" then some .sorted else if s="chr" then some .chr else if s="ord" then some .ord
 else if s="min" then some .min else if s="max" then some .max else if s="abs" then some .abs else if s="divmod" then some .divmod else none
noncomputable def bfT (s:String):Option Bf:=if s="range" then some .range else if s="list" then some .list else if s="set" then some .set else none
def OT:Value->Option Bf
 | .builtin s=>bfB s
 | .type s=>bfT s
 | _=>none
noncomputable def jk:Mt->Str
 | .append=>"append" | .reverse=>"reverse" | .count=>"count" | .index=>"index" | .pop=>"pop" | .join=>"join" | .replace=>"replace" | .find=>"find" | .lower=>"lower" | .get=>"get" | .lO=>"bit_length"
noncomputable def AO (n:Str):Option Mt:=
 if n="append" then some .append else if n="reverse" then some .reverse else if n="count" then some .count else if n="index" then some .index else if n="pop" then some .pop
 else if n="join" then some .join else if n="replace" then some .replace else if n="find" then some .find else if n="lower" then some .lower else if n="get" then some .get
 else if n="bit_length" then some .lO else none
noncomputable def idx (l:List Str) (x:Str):Option Nat:=l.findIdx? (·==x)
noncomputable def vj (e:Expr):Option (Expr×List Expr×List Keyword):=if h:e.ctorIdx=16 then some (Expr.Call.elim (motive_1:=λ_=>Expr×List Expr×List Keyword) e h λf a k _=>(f,a,k)) else none
noncomputable def nameP (e:Expr):Option Str:=if h:e.ctorIdx=23 then some (Expr.Name.elim (motive_1:=λ_=>Str) e h λx _=>x) else none
noncomputable def j9 (e:Expr):Option (List Expr):=if h:e.ctorIdx=25 then some (Expr.Tuple.elim (motive_1:=λ_=>List Expr) e h λl _ _=>l) else none
noncomputable def ta (e:Expr):Option (Expr×Str×Pos):=if h:e.ctorIdx=20 then some (Expr.Attribute.elim (motive_1:=λ_=>Expr×Str×Pos) e h λo x p=>(o,x,p)) else none
noncomputable def vS (e:Expr):Option (Expr×Expr):=if h:e.ctorIdx=21 then some (Expr.Subscript.elim (motive_1:=λ_=>Expr×Expr) e h λo i _=>(o,i)) else none
noncomputable def E9 (e:Expr):Option (Option Expr×Option Expr×Option Expr):=if h:e.ctorIdx=26 then some (Expr.Slice.elim (motive_1:=λ_=>Option Expr×Option Expr×Option Expr) e h λa b c _=>(a,b,c)) else none
noncomputable def Xx (e:Expr):Option (Expr×Operator):=if h:e.ctorIdx=2 then some (Expr.BinOp.elim (motive_1:=λ_=>Expr×Operator) e h λa o _ _=>(a,o)) else none
noncomputable def s8 (e:Expr):Option cB:=if h:e.ctorIdx=19 then some (Expr.Constant.elim (motive_1:=λ_=>cB) e h λc _ _=>c) else none
noncomputable def vU (c:cB):Option Str:=if h:c.ctorIdx=5 then some (bR (motive:=λ_=>Str) c h id) else none
theorem G6 {e:Expr} (h:vj e=some x):∃p,e=.Call x.1 x.2.1 x.2.2 p:=by
 by_cases q:e.ctorIdx=16
 ·exact Expr.Call.elim (motive_1:=λe=>vj e=some x->∃p,e=.Call x.1 x.2.1 x.2.2 p) e q (λf a k p h=>⟨p,Option.some.inj h▸rfl⟩) h
 ·exact nS ((dif_neg q).symm.trans h)
theorem nK {e:Expr} (h:nameP e=some x):∃p,e=.Name x p:=by
 by_cases q:e.ctorIdx=23
 ·exact Expr.Name.elim (motive_1:=λe=>nameP e=some x->∃p,e=.Name x p) e q (λf p h=>⟨p,Option.some.inj h▸rfl⟩) h
 ·exact nS ((dif_neg q).symm.trans h)
theorem zg {e:Expr} (h:vS e=some x):∃p,e=.Subscript x.1 x.2 p:=by
 by_cases q:e.ctorIdx=21
 ·exact Expr.Subscript.elim (motive_1:=λe=>vS e=some x->∃p,e=.Subscript x.1 x.2 p) e q (λf a p h=>⟨p,Option.some.inj h▸rfl⟩) h
 ·exact nS ((dif_neg q).symm.trans h)
theorem z8 {e:Expr} (h:ta e=some x):e=.Attribute x.1 x.2.1 x.2.2:=by
 by_cases q:e.ctorIdx=20
 ·exact Expr.Attribute.elim (motive_1:=λe=>ta e=some x->e=.Attribute x.1 x.2.1 x.2.2) e q (λf a p h=>Option.some.inj h▸rfl) h
 ·exact nS ((dif_neg q).symm.trans h)
theorem JO {e:Expr} (h:E9 e=some x):∃p,e=.Slice x.1 x.2.1 x.2.2 p:=by
 by_cases q:e.ctorIdx=26
 ·exact Expr.Slice.elim (motive_1:=λe=>E9 e=some x->∃p,e=.Slice x.1 x.2.1 x.2.2 p) e q (λa b c p h=>⟨p,Option.some.inj h▸rfl⟩) h
 ·exact nS ((dif_neg q).symm.trans h)
theorem pG {e:Expr} (h:j9 e=some x):∃k p,e=.Tuple x k p:=by
 by_cases q:e.ctorIdx=25
 ·exact Expr.Tuple.elim (motive_1:=λe=>j9 e=some x->∃k p,e=.Tuple x k p) e q (λf k p h=>⟨k,p,Option.some.inj h▸rfl⟩) h
 ·exact nS ((dif_neg q).symm.trans h)
theorem KN {e:Expr} (h:s8 e=some x):∃k p,e=.Constant x k p:=by
 by_cases q:e.ctorIdx=19
 ·exact Expr.Constant.elim (motive_1:=λe=>s8 e=some x->∃k p,e=.Constant x k p) e q (λf k p h=>⟨k,p,Option.some.inj h▸rfl⟩) h
 ·exact nS ((dif_neg q).symm.trans h)
theorem JL {e:cB} (h:vU e=some x):e=.str x:=by
 by_cases q:e.ctorIdx=5
 ·exact bR (motive:=λe=>vU e=some x->e=.str x) e q (λf h=>congrArg cB.str (Option.some.inj h)) h
 ·exact nS ((dif_neg q).symm.trans h)
def gZ (e:Expr):Bool:=match vj e with
 | some x=>!(x.1.ctorIdx==23&&x.2.1.isEmpty&&x.2.2.isEmpty)
 | none=>true
noncomputable def noStar (e:Expr):Bool:=e.ctorIdx != 22
noncomputable def Ay (sc out:Scope):Scope:=
 { sc with names:=sc.names.map λ(n,k)=>if (k==.free&&out.kind==.function&&out.names.lookup n==some .cell) then (n,.cell) else (n,k) }
noncomputable def d7 (sc:Scope):List Str:=(sc.names.filter λx=>x.2==.cell).map (·.1)
def K.comp (κ:K) (sc:Scope):K:=⟨Ay sc κ.scope,(sc.names.filter λx=>x.2==.local&&x.1 != (".0":Str)).map (·.1),d7 sc++κ.cells,κ.qual,κ.code⟩
noncomputable def ph (sc:Scope):List Str:=(sc.names.filter λx=>x.2==.cell||x.2==.free).map (·.1)
noncomputable def slotNames (sc:Scope):List Str:=(sc.names.filter λx=>x.2==.local).map (·.1)
def K.of (sc:Scope) (f:Str) (h:Option Value):K:=⟨sc,slotNames sc,ph sc,f,h⟩
noncomputable def o2 {α i h:Type} (a:Option α) (b:Option i) (f:α->i->Option h):Option h:=a.bind λp=>b.bind (f p)
def o3 {α i h j:Type} (a:Option α) (b:Option i) (c:Option h) (f:α->i->h->Option j):Option j:=a.bind λp=>o2 b c (f p)
def o5 {α k j l i h:Type} (a:Option α) (b:Option k) (c:Option j) (d:Option l) (e:Option i) (f:α->k->j->l->i->Option h):Option h:=o3 a b c λp q r=>o2 d e (f p q r)
noncomputable def dI {α h:Type} (f:α->Option h):List α->Option (List h)
 | []=>some []
 | a::l=>match f a with
  | some b=>match dI f l with
   | some r=>some (b::r)
   | none=>none
  | none=>none
def XW (κ:K) (x:Str):Option NameKind->Option Tg
 | some .local=>(idx κ.slots x).map .loc
 | some .cell=>(idx κ.cells x).map .cell
 | _=>none
noncomputable def fO (κ:K):Nat->Expr->Option Tg
 | 0,_=>none
 | n+1,e=>(nameP e).elim ((j9 e).elim none λl=>(dI (fO κ n) l).map .tup) λx=>XW κ x (κ.scope.names.lookup x)
def j6 (κ:K) (sc:Scope):Option (List (Str×Nat)):=
 (dI (λ(x:Str×NameKind)=>match κ.scope.names.lookup x.1 with
  | some .cell=>(idx κ.cells x.1).map (x.1,·)
  | some .free=>(idx κ.cells x.1).map (x.1,·)
  | _=>none) (sc.names.filter λx=>x.2==.free)).map List.reverse
noncomputable def jb (p:a7):Bool:=p.posonlyargs.isEmpty&&p.vararg.isNone&&p.kwonlyargs.isEmpty&&p.kw_defaults.isEmpty&&p.kwarg.isNone&&p.defaults.isEmpty&&p.args.all (·.annotation.isNone)
noncomputable def isName (e:Expr):Bool:=e.ctorIdx==23
noncomputable def oQ (e:Expr):Bool:=e.ctorIdx != 7
noncomputable def isCall (e:Expr):Bool:=e.ctorIdx==16
noncomputable def isSlice (e:Expr):Bool:=e.ctorIdx==26
noncomputable def kR (e:Expr):Bool:=!(e.ctorIdx==8||e.ctorIdx==9||e.ctorIdx==10)
theorem oE {α i:Type}{o:Option α}{z:Option i}{f:α->Option i}{x:i}{G:Prop}(h:o.elim z f=some x) (k:∀a,o=some a->f a=some x->G) (j:o=none->z=some x->G):G:=by
 cases o with
 | none=>exact j rfl h
 | some a=>exact k a rfl h
@[elab_as_elim] theorem oS {e:Expr}{G:Expr->Prop} (h:isName e=true) (k:∀x p,G (.Name x p)):G e:=Expr.Name.elim (motive_1:=G) e (eq_of_beq h) k
@[elab_as_elim] theorem D5 {e:Expr}{G:Expr->Prop} (h:isCall e=true) (k:∀f a q p,G (.Call f a q p)):G e:=Expr.Call.elim (motive_1:=G) e (eq_of_beq h) k
@[elab_as_elim] theorem comp_elim {e:Expr}{G:Expr->Prop} (l:¬kR e=true) (m:∀a b c d,G (.ListComp a b c d)) (k:∀a b c d,G (.SetComp a b c d)) (n:∀a b c d f,G (.DictComp a b c d f)):G e:=
 (bg (e.ctorIdx=8)).elim (λq=>Expr.ListComp.elim (motive_1:=G) e q m) λh=>(bg (e.ctorIdx=9)).elim (λq=>Expr.SetComp.elim (motive_1:=G) e q k) λi=>(bg (e.ctorIdx=10)).elim (λq=>Expr.DictComp.elim (motive_1:=G) e q n)
  λj=>absurd (by rw[kR,beq_false_of_ne h,beq_false_of_ne i,beq_false_of_ne j];rfl) l
noncomputable def VM:X->Option X
 | .rev _=>none
 | .enum _=>none
 | x=>some x
def oF (o:Option X):Option X:=o.bind VM
def Tu:Expr×List Expr×List Keyword->Option (Str×Expr)
 | (f,[a],[])=>(nameP f).map λx=>(x,a)
 | _=>none
def nL (e:Expr):Option (Str×Expr):=(vj e).bind Tu
noncomputable def Ai:Value->Option String
 | .type s=>some s
 | _=>none
def E5 (g:Glob) (c:Expr->Option X) (e:Expr) (f:Str) (a:Expr):Option X:=
 if (g.blt.lookup f).bind Ai=some "reversed" then (if noStar a then (c a).map .rev else none) else if (g.blt.lookup f).bind Ai=some "enumerate" then none else oF (c e)
def srcOf (g:Glob) (c:Expr->Option X) (κ:K) (e:Expr):Option X:=match nL e with
 | some (f,a)=>if κ.scope.names.lookup f=some .globalImplicit/\g.top.lookup f=none then E5 g c e f a else oF (c e)
 | none=>oF (c e)
def FY (o:Option Expr):Option X:=o.bind λe=>(s8 e).bind λc=>(vU c).map λs=>.k (.dw s)
noncomputable def Om:cB->Option X
 | .int i=>some (.k (.int i)) | .str s=>some (.k (.dw s)) | .bool b=>some (.k (.bool b)) | .none=>some (.k .none) | _=>none
noncomputable def Vv:Value->V
 | .int i _=>.int i
 | v=>.con v
def Iv (g:Glob) (x:Str):Option Value->Option X
 | some v=>some (.k (Vv v))
 | none=>(g.blt.lookup x).map λv=>.k (.con v)
def Iw (g:Glob) (x:Str):Option V->Option X
 | some v=>some (.k v)
 | none=>Iv g x (g.top.lookup x)
def RH (g:Glob) (κ:K) (x:Str):Option NameKind->Option X
 | some .local=>(idx κ.slots x).map .loc
 | some .cell=>(idx κ.cells x).map .cell
 | some .free=>if x==("__classdict__":Str) then none else (idx κ.cells x).map .cell
 | some .globalImplicit=>Iw g x (g.vals.lookup x)
 | _=>none
def Iu (g:Glob) (κ:K) (x:Str):Option X:=if x==("__debug__":Str) then none else RH g κ x (κ.scope.names.lookup x)
section
variable (g:Glob) (r:K->Expr->Option X) (κ:K)
noncomputable def Tv (op:BoolOp) (l:List X):X:=match op with
 | .And=>.and l
 | .Or=>.or l
def MO (name:Str) (o:X) (as:List X):X:=match AO name with
 | some m=>.mt m o as
 | none=>.mc o name as
noncomputable def Oo:X->Option Value
 | .k (.con v)=>some v
 | _=>none
theorem zX (h:Oo x=some v):x=.k (.con v):=by
 cases x with
 | k u=>cases u with
  | con w=>exact Option.some.inj h▸rfl
  | _=>exact nS h
 | _=>exact nS h
def bfX (kn:List Str) (as kv:List X) (v:Value):Option X:=(OT v).elim (some (.call (.k (.con v)) as kn kv)) λb=>if kn.isEmpty then some (.bf b as) else none
def vh (kn:List Str) (f:X) (as kv:List X):Option X:=(Oo f).elim (some (.call f as kn kv)) λv=>bfX kn as kv v
def Tt (f:Expr) (as:List Expr) (kws:List Keyword) (pos:Pos):Option X:=(ta f).elim
 (if !(isName f) then none else if !(as.all noStar&&decide (as.length+kws.length < 12)&&kws.all (λk=>k.arg.isSome)) then none else
   o3 (r κ f) (dI (r κ) as) (dI (λk=>r κ k.value) kws) λf as h=>vh (kws.filterMap (·.arg)) f as h)
 λy=>if !(gZ y.1&&as.all noStar&&kws.isEmpty&&decide (as.length < 25)&&y.2.2.endLine==pos.line) then none else
   o2 (r κ y.1) (dI (r κ) as) λo as=>some (MO y.2.1 o as)
noncomputable def AB:Option Expr->Option X
 | some e=>r κ e
 | none=>some (.k .none)
def VN (o:Expr) (f h:Option Expr):Option Expr->Option X
 | none=>(o3 (r κ o) (AB r κ f) (AB r κ h) λo f h=>some (.k_ o f h))
 | some _=>none
def LV (o i:Expr):Option X:=(E9 i).elim (o2 (r κ o) (r κ i) λo i=>some (.sub o i)) λy=>VN r κ o y.1 y.2.1 y.2.2
def Bo (ks:List (Option Expr)) (vs:List Expr):Option X:=if ks.all (·.isNone)&&!ks.isEmpty&&ks.length==vs.length then (dI (r κ) vs).map .star else if !(ks.length==vs.length&&decide (ks.length<=15)) then none else o2 (dI FY ks) (dI (r κ) vs) λks vs=>some (.dict ks vs)
def n4 (f:List Comprehension) (sc:Scope):Bool:=sc.kind==.function&&(j6 κ sc).isSome&&f.all (λc=>c.is_async==0&&isName c.target&&oQ c.iter)&&decide (sc.names.map (·.1)).Nodup&&(d7 sc).all (λx=>!κ.cells.contains x)
def SI (elt:Expr) (sc:Scope):List Comprehension->Option X
 | []=>none
 | c::f=>o5 (srcOf g (r κ) κ c.iter) (dI (λ(c:Comprehension)=>srcOf g (r (κ.comp sc)) (κ.comp sc) c.iter) f) (dI (λ(c:Comprehension)=>fO (κ.comp sc) 5 c.target) (c::f)) (dI (λ(c:Comprehension)=>dI (r (κ.comp sc)) c.ifs) (c::f)) (r (κ.comp sc) elt) λi j h k elt=>some (.comp elt h (i::j) k (κ.comp sc).slots.length (d7 sc).length)
def gF (e:Expr):Option X:=Expr.casesOn (motive_1:=λ_=>Option X) e
 (λop l _=>(dI (r κ) l).map (Tv op))
 (λ_ _ _=>none)
 (λa op b _=>(o2 (r κ a) (r κ b) λa b=>some (.bin op a b)))
 (λop a _=>(r κ a).map (.un op))
 (λargs body sc pos=>
  if !(jb args&&g.lg κ.code pos.line pos.col==some (κ.qual++"<lambda>")) then none else
  (j6 κ sc).map λcl=>.lam ⟨args,.expr body,sc,κ.qual++"<lambda>"⟩ cl)
 (λc a b _=>(o3 (r κ c) (r κ a) (r κ b) λc a b=>some (.dT c a b)))
 (λks vs _=>Bo r κ ks vs)
 (λ_ _ _=>none)
 (λelt gs sc _=>if !(n4 κ gs sc) then none else SI g r κ elt sc gs)
 (λ_ _ _ _=>none)
 (λ_ _ _ _ _=>none)
 (λ_ _ _ _=>none)
 (λ_ _=>none)
 (λ_ _=>none)
 (λ_ _=>none)
 (λa ops l _=>if (ops.zip l).any (λx=>bS x.1 x.2)||ops.length != l.length then none else (o2 (r κ a) (dI (r κ) l) λa l=>some (.cmp a ops l)))
 (λf as kws pos=>Tt r κ f as kws pos)
 (λ_ _ _ _=>none)
 (λ_ _=>none)
 (λc _ _=>Om c)
 (λo name _=>if !gZ o then none else (r κ o).map (.attr · name))
 (λo i _=>LV r κ o i)
 (λ_ _=>none)
 (λx _=>Iu g κ x)
 (λl _=>if !(l.all noStar&&decide (l.length<=65536)) then none else (dI (r κ) l).map .list)
 (λl _ _=>if !(l.all noStar&&decide (l.length<=65536)) then none else (dI (r κ) l).map .tup)
 (λ_ _ _ _=>none)
end
noncomputable def n5 (g:Glob):Nat->K->Expr->Option X
 | 0=>λ_ _=>none
 | n+1=>gF g (n5 g n)
abbrev jv:=List Str
def lD (e:Expr):Bool:=e.ctorIdx==24||e.ctorIdx==8||e.ctorIdx==6||(match Xx e with
 | some x=>x.1.ctorIdx==24&&x.2.ctorIdx==2
 | none=>false)
def km (mu:jv) (t e:Expr) (x:X):X:=if lD e&&(match nameP t with | some x=>mu.contains x | none=>false) then .new x else x
noncomputable def Al (mu:jv):List Expr->List Expr->List X->List X
 | t::h,e::i,x::f=>km mu t e x::Al mu h i f
 | _,_,f=>f
noncomputable def VA:X->Option (List X)
 | .tup l=>some l
 | _=>none
def uR (mu:jv) (t e:Expr) (x:X):X:=match j9 t,j9 e,VA x with
 | some f,some h,some i=>.tup (Al mu f h i)
 | _,_,_=>km mu t e x
theorem tB {mu:jv}{e:Expr} (h:j9 t=none\/j9 e=none):uR mu t e x=km mu t e x:=by
 unfold uR
 rcases h with h | h<;>rw[h]
 cases j9 t<;>rfl
noncomputable def Cr (κ:K) (ts vs:List Expr):Option (Option (List Str)):=
 if !(ts.length==2||ts.length==3)||vs.length != ts.length then some none else
 if (vs.any λx=>ax.match_5 (λ_=>Bool) x (λ_ _=>true) λ_=>false) then some none else
 let line:=(ts.head?.map (·.pos.line)).getD 0
 let names:=ts.filterMap λx=>ax.match_8 (λ_=>Option Str) x (λid pos=>if κ.scope.names.lookup id==some .local&&pos.line==line then some id else none) λ_=>none
 if names.length != ts.length||names.eraseDups.length != names.length then some none else
 if vs.all (foldedForSure 8) then some none else
 if vs.all (constantsAlone 8) then none else some (some names)
noncomputable def kK (κ:K):List Str->List Tg->Bool
 | [],[]=>true
 | x::h,.loc i::f=>κ.slots[i]?==some x&&κ.scope.names.lookup x==some .local&&kK κ h f
 | _,_=>false
def Sw (κ:K) (names:List Str):Tg->Bool
 | .tup f=>kK κ names f&&decide names.Nodup
 | _=>false
def Jr (κ:K) (h:Tg):Option (Option (List Str))->Bool
 | some none=>true
 | some (some f)=>Sw κ f h
 | none=>false
def Js (κ:K) (t e:Expr) (i:Tg):Bool:=match j9 t,j9 e with
 | some f,some h=>Jr κ i (Cr κ f h)
 | _,_=>true
section
variable (g:Glob) (mu:jv) (r:K->Expr->Option X) (rs:K->Stmt->Option XS) (κ:K)
def yi (t e:Expr):Option XS:=o2 (fO κ 5 t) (r κ e) λf h=>if Js κ t e f then some (XS.asg f (uR mu t e h)) else none
def Ei (e o i:Expr):Option XS:=if isSlice i then none else if !kR e then none else o3 (r κ o) (r κ i) (r κ e) λo i e=>some (.ji o i e)
def newX (name:Str) (e:Expr) (x:X):X:=if mu.contains name&&lD e then .new x else x
def XD (e:Expr) (t:Expr):Option XS:=(vS t).elim ((ta t).elim (yi mu r κ t e) λy=>if !gZ y.1 then none else (o2 (r κ y.1) (r κ e) λo f=>some (.setAttr o y.2.1 (newX mu y.2.1 e f)))) λy=>Ei r κ e y.1 y.2
def Jq (e:Expr):List Expr->Option XS
 | [t]=>XD mu r κ e t
 | _=>none
def O2 (op:Operator) (e:Expr) (t:Expr):Option XS:=(vS t).elim (if !(isName t) then none else (o2 (fO κ 5 t) (r κ e) λt e=>some (.aug t op e)))
 λy=>if isSlice y.2 then none else (o3 (r κ y.1) (r κ y.2) (r κ e) λo i e=>some (.nq o i op e))
def WX (t e:Expr) (body orelse:List Stmt):Option XS:=if !orelse.isEmpty then none else if !(isName t&&oQ e) then none else o3 (fO κ 5 t) (srcOf g (r κ) κ e) (dI (rs κ) body) λt e body=>some (.fI t e body)
def Vt (c:Expr) (body orelse:List Stmt):Option XS:=if !orelse.isEmpty then none else o2 (r κ c) (dI (rs κ) body) λc body=>some (.yZ c body)
def Xc (name:Str) (f:a7) (i:List Stmt) (sc:Scope) (h:Str) (pos:Pos):Option XS:=
 if !(jb f&&name==h&&g.lg κ.code pos.line pos.col==some (κ.qual++name)) then none else o2 (fO κ 5 (.Name h pos)) (j6 κ sc) λt j=>some (.qQ t ⟨f,.stmts i,sc,κ.qual++name⟩ j)
def stepT (s:Stmt):Option XS:=Stmt.casesOn (motive_2:=λ_=>Option XS) s
 (λname args body xH ret Cj sc ts bind pos=>if xH.isEmpty&&ret.isNone&&Cj.isEmpty&&ts.isNone then Xc g κ name args body sc bind pos else none)
 (λ_ _ _ _ _ _ _ _ _ _=>none)
 (λ_ _ _ _ _ _ _ _ _ _ _=>none)
 (λe _=>(match e with
  | some e=>(r κ e).map .ret
  | none=>some (.ret (.k .none))))
 (λ_ _=>none)
 (λts e _=>Jq mu r κ e ts)
 (λ_ _ _ _ _ _ _=>none)
 (λt op e _=>O2 r κ op e t)
 (λ_ _ _ _ _=>none)
 (λt e body orelse _=>WX g r rs κ t e body orelse)
 (λ_ _ _ _ _=>none)
 (λc body orelse _=>Vt r rs κ c body orelse)
 (λc a b _=>(o3 (r κ c) (dI (rs κ) a) (dI (rs κ) b) λc a b=>some (.dT c a b)))
 (λ_ _ _=>none)
 (λ_ _ _=>none)
 (λ_ _ _=>none)
 (λ_ _ _=>some .stop)
 (λbody hs orelse fin _=>if hs.isEmpty||!orelse.isEmpty||!fin.isEmpty then none else (dI (rs κ) body).map .j_)
 (λ_ _ _ _ _=>none)
 (λ_ _ _=>none)
 (λ_ _=>none)
 (λ_ _ _ _=>none)
 (λ_ _=>none)
 (λ_ _=>none)
 (λe _=>if isCall e then (r κ e).map .expr else none)
 (λ_=>none)
 (λ_=>none)
 (λ_=>none)
end
noncomputable def xQ (g:Glob) (mu:jv):Nat->K->Stmt->Option XS
 | 0=>λ_ _=>none
 | n+1=>stepT g mu (n5 g n) (xQ g mu n)
section
variable {α β γ δ ε ζ:Type}{a:Option α}{b:Option β}{c:Option γ}{d:Option δ}{e:Option ε}{G:Prop}
theorem lp {f:α->β->Option ζ} (h:o2 a b f=some y) (k:∀p q,a=some p->b=some q->f p q=some y->G):G:=by
 cases a with
 | none=>exact nS h
 | some p=>cases b with
  | none=>exact nS h
  | some q=>exact k p q rfl rfl h
theorem oO {f:α->β->γ->Option ζ} (h:o3 a b c f=some y) (k:∀p q r,a=some p->b=some q->c=some r->f p q r=some y->G):G:=by
 cases a with
 | none=>exact nS h
 | some p=>exact lp (a:=b) (b:=c) (f:=f p) h λq r=>k p q r rfl
theorem AK {f:α->β->γ->δ->ε->Option ζ} (h:o5 a b c d e f=some y) (k:∀p q r s t,a=some p->b=some q->c=some r->d=some s->e=some t->f p q r s t=some y->G):G:=
 oO (f:=λp q r=>o2 d e (f p q r)) h λp q r j i l h=>lp h λs t=>k p q r s t j i l
end
def s9 (g:Glob) (mu:jv) (κ:K) (b:List Stmt):Option (List XS):=dI (xQ g mu 100 κ) b
end Vm
end
noncomputable section
open PySem PySem.W PyProof.Rows PySem.Calls PySem.Spec
namespace Vm
noncomputable def eN:V->V
 | .dw s=>.str s
 | v=>v
noncomputable def pE (i:Nat):Option O->V
 | some (.list l)=>.lst l
 | some (.dict b a)=>.dE b a
 | _=>.ref i
def view (hp:List O):V->V
 | .dw s=>.str s
 | .ref i=>pE i hp[i]?
 | v=>v
noncomputable def big (i:Int):Bool:=decide (i.natAbs.log2 < bitsLine)
noncomputable def dQ (n:Nat):Bool:=decide (n<=65536)
def vD (v:V):Option Bool:=match v with
 | .none=>some false
 | .bool b=>some b
 | .int i=>some (decide (i≠0))
 | .str s=>if dQ s.cps.size then some (decide (s.cps.size≠0)) else none
 | .lst l=>if dQ l.length then some (decide (l.length≠0)) else none
 | _=>none
def ef (hp:List O) (v:V):Option Bool:=vD (view hp v)
noncomputable def u6 (a b:Int):Bool:=decide (aa a+aa b<=100000)
def Jk (op:Operator) (a b:Int):Option V:=match op with
 | .Add=>some (.int (a+b))
 | .Sub=>some (.int (a - b))
 | .Mult=>if u6 a b then some (.int (a*b)) else none
 | .FloorDiv=>if b=0\/ab a b=true then none else some (.int (Int.fdiv a b))
 | .Mod=>if b=0\/ab a b=true then none else some (.int (Int.fmod a b))
 | .Pow=>if 0<=b/\(aa a:Int)*b<=100000 then some (.int (a ^ b.toNat)) else none
 | .LShift=>if 0<=b/\(aa a:Int)+b<=100000 then some (.int (a*2 ^ b.toNat)) else none
 | .RShift=>if 0<=b then some (.int (Int.fdiv a (2 ^ b.toNat))) else none
 | .BitAnd=>some (.int (aQ a b))
 | .BitOr=>some (.int (bc a b))
 | .BitXor=>some (.int (bz a b))
 | _=>none
def Jg (op:Operator) (a b:Str):Option V:=match op with
 | .Add=>if dQ (a.cps.size+b.cps.size) then some (.str (a++b)) else none
 | _=>none
def Jh (op:Operator) (a:Str) (n:Int):Option V:=match op with
 | .Mult=>if 0<=n/\n < 65536/\dQ (a.cps.size*n.toNat)=true then some (.str (bY a n)) else none
 | _=>none
def Ji (op:Operator) (a b:List V):Option V:=match op with
 | .Add=>if dQ (a.length+b.length) then some (.lst (a++b)) else none
 | _=>none
noncomputable def rep1 (n:Int):List V->Option V
 | [a]=>if 0<=n/\n < 65536 then some (.lst (List.replicate n.toNat a)) else none
 | _=>none
def Jj (op:Operator) (a:List V) (n:Int):Option V:=match op with
 | .Mult=>rep1 n a
 | _=>none
def binI (op:Operator) (a:Int):V->Option V
 | .int b=>Jk op a b
 | _=>none
def OI (op:Operator) (a:Str):V->Option V
 | .str b=>Jg op a b
 | .int n=>Jh op a n
 | _=>none
def Xy (op:Operator) (a:List V):V->Option V
 | .lst b=>Ji op a b
 | .int n=>Jj op a n
 | _=>none
def OH (op:Operator) (a b:V):Option V:=match a with
 | .int a=>binI op a b
 | .str a=>OI op a b
 | .lst a=>Xy op a b
 | _=>none
def eF (hp:List O) (op:Operator) (a b:V):Option V:=OH op (view hp a) (view hp b)
noncomputable def TJ (op:Operator) (a b:Int):Option V:=match op with
 | .Add=>some (.int (a+b))
 | .Sub=>some (.int (a - b))
 | .FloorDiv=>if b=0\/ab a b=true then none else some (.int (Int.fdiv a b))
 | .LShift=>if 0<=b/\(aa a:Int)+b<=100000 then some (.int (a*2 ^ b.toNat)) else none
 | .RShift=>if 0<=b then some (.int (Int.fdiv a (2 ^ b.toNat))) else none
 | _=>none
def XC (op:Operator) (a:Int):V->Option V
 | .int b=>TJ op a b
 | _=>none
def jL (op:Operator) (a b:V):Option V:=match a with
 | .int a=>XC op a b
 | _=>none
noncomputable def XU (op:UnaryOp) (a:Int):Option V:=match op with
 | .USub=>some (.int (-a))
 | .Invert=>some (.int (ay a))
 | _=>none
def HY (op:UnaryOp) (a:V):Option V:=match a with
 | .int a=>XU op a
 | _=>none
noncomputable def td (o p:Option Bool):Option Bool:=o.bind λx=>p.map (x&&·)
noncomputable def j3 (f:V->V->Option Bool):List V->List V->Option Bool
 | [],r=>if r.isEmpty then some true else none
 | a::l,r=>(match r with
  | b::r=>td (f a b) (j3 f l r)
  | []=>none)
noncomputable def U5:V->Option Bool
 | .none=>some true
 | .str _=>some false
 | _=>none
noncomputable def eqB (a:Bool):V->Option Bool
 | .bool b=>some (a==b)
 | _=>none
noncomputable def U6 (a:Int):V->Option Bool
 | .int b=>some (decide (a=b))
 | _=>none
noncomputable def U4 (a:Str):V->Option Bool
 | .str b=>some (decide (a=b))
 | .none=>some false
 | _=>none
def eqT (f:V->V->Option Bool) (a:List V):V->Option Bool
 | .tup b=>if a.length=b.length then j3 f a b else none
 | _=>none
def N8 (f:V->V->Option Bool) (a:List V):V->Option Bool
 | .lst b=>if a.length=b.length then j3 f a b else some false
 | _=>none
def qj (f:V->V->Option Bool) (a b:V):Option Bool:=match a with
 | .none=>U5 b
 | .bool a=>eqB a b
 | .int a=>U6 a b
 | .str a=>U4 a b
 | .tup a=>eqT f a b
 | .lst a=>N8 f a b
 | _=>none
noncomputable def eQ:Nat->V->V->Option Bool
 | 0,_,_=>none
 | n+1,a,b=>qj (eQ n) (eN a) (eN b)
noncomputable def findKey:List V->List V->V->Option (Option V)
 | k::a,v::b,x=>match fK k x with
  | some true=>some (some v)
  | some false=>findKey a b x
  | none=>none
 | [],[],_=>some none
 | _,_,_=>none
noncomputable def rW:List V->List V->List V->List V->Option Bool
 | [],[],_,_=>some true
 | k::e,v::g,d,c=>match findKey d c k with
  | some (some f)=>match eQ 8 v f,rW e g d c with
   | some a,some b=>some (a&&b)
   | _,_=>none
  | some none=>some false
  | none=>none
 | _,_,_,_=>none
noncomputable def gh:V->Bool
 | .str _=>true
 | _=>false
def Bk (ks vs a vs':List V):Option Bool:=if ks.all gh=true/\a.all gh=true then (if ks.length=a.length then rW ks vs a vs' else some false) else none
noncomputable def wR:V->Bool
 | .str _=>true
 | .int _=>true
 | _=>false
noncomputable def hasSub (y x:Str):Bool:=!(aJ.Str.occurrences x y 0 x.length 1).isEmpty
noncomputable def zC (x:V):List V->Option Bool
 | []=>some false
 | y::l=>(eQ 8 y x).bind λa=>(zC x l).map (a||·)
noncomputable def Dk (f:Int->Int->Bool) (a b:V):Option Bool:=match a with
 | .int a=>(match b with
  | .int b=>some (f a b)
  | _=>none)
 | _=>none
noncomputable def isNone (r:Bool):V->Option Bool
 | .none=>some r
 | _=>none
noncomputable def YN (a:Bool):V->Option Bool
 | .bool b=>some (a==b)
 | _=>none
def Nj (a b:V):Option Bool:=match a with
 | .none=>isNone true b
 | .str _=>isNone false b
 | .int _=>isNone false b
 | .bool a=>YN a b
 | _=>none
def Bs (a b:V):Option Bool:=match a with
 | .dE e f=>(match b with
  | .dE d c=>Bk e f d c
  | _=>none)
 | a=>eQ 8 a b
def inD (ks vs:List V):V->Option Bool
 | .int x=>(findKey ks vs (.int x)).map (·.isSome)
 | _=>none
def YO (y:Str):V->Option Bool
 | .str x=>some (hasSub x y)
 | _=>none
def Nn (e a b:V):Option Bool:=match b with
 | .lst l=>zC e l
 | .dE c d=>inD c d a
 | _=>none
def Uy (c a b:V):Option Bool:=match b with
 | .str y=>YO y a
 | b=>Nn c a b
def xP (op:b9) (c a b:V):Option Bool:=match op with
 | .Eq=>Bs a b
 | .NotEq=>(Bs a b).map not
 | .Lt=>Dk (λa b=>decide (a < b)) a b
 | .LtE=>Dk (λa b=>decide (a<=b)) a b
 | .Gt=>Dk (λa b=>decide (b < a)) a b
 | .GtE=>Dk (λa b=>decide (b<=a)) a b
 | .Is=>Nj a b
 | .IsNot=>(Nj a b).map not
 | .In=>Uy c a b
 | .NotIn=>(Nn c a b).map not
def fy (hp:List O) (op:b9) (a b:V):Option Bool:=xP op a (view hp a) (view hp b)
noncomputable def place (i:Int) (n:Nat):Option Nat:=
 let j:=if i < 0 then i+n else i
 if 0<=j/\j < n then some j.toNat else none
noncomputable def one (c:Nat):Str:=⟨#[c]⟩
def A8 (l:List V):V->Option V
 | .int i=>if dQ l.length then (place i l.length).bind λj=>l[j]? else none
 | _=>none
def Nr (s:Str):V->Option V
 | .int i=>if dQ s.cps.size then (place i s.cps.size).bind λj=>(s.cps[j]?).map λc=>.str (one c) else none
 | _=>none
def Nt (ks vs:List V):V->Option V
 | .int x=>(findKey ks vs (.int x)).bind id
 | .str x=>(findKey ks vs (.str x)).bind id
 | _=>none
def ET (o i:V):Option V:=match o with
 | .lst l=>A8 l i
 | .tup l=>A8 l i
 | .str s=>Nr s i
 | .dE a b=>Nt a b i
 | _=>none
def fx (hp:List O) (o i:V):Option V:=ET (view hp o) (view hp i)
noncomputable def AD:V->Option (Option Int)
 | .none=>some none
 | .int i=>some (some i)
 | _=>none
noncomputable def Io (l:List V) (b a:Option Int):List V:=
 (aO (ae b a none l.length).1 (ae b a none l.length).2.1 (ae b a none l.length).2.2).filterMap (l[·]?)
def L9 (o:V) (a b:Option Int):V->Option V
 | .lst l=>if dQ l.length then some (.lst (Io l a b)) else none
 | .str s=>if dQ s.cps.size then (match o with | .dw _=>some (.dw (aM s a b)) | _=>some (.str (aM s a b))) else none
 | _=>none
def nG (hp:List O) (o a b:V):Option V:=(AD a).bind λa=>(AD b).bind λb=>L9 o a b (view hp o)
noncomputable def gI (a b c:Int):Nat:=(ao a b c).toNat
def jD (a b c:Int):List V:=(rangeInts a c (gI a b c)).map .int
def l_ (a b c:Int):Bool:=decide (c≠0)&&bW a b c&&dQ (gI a b c)
def jZ (hp:List O) (v:V):Option (List V):=match eN v with
 | .lst l=>some l
 | .tup l=>some l
 | .gf a b c=>if l_ a b c then some (jD a b c) else none
 | .str s=>some (s.cps.toList.map λc=>.str (one c))
 | _=>none
noncomputable def iV {α:Type} (f:Int->Option α):V->Option α
 | .int i=>f i
 | _=>none
noncomputable def sV {α:Type} (f:Str->Option α):V->Option α
 | .str i=>f i
 | _=>none
noncomputable def tV {α:Type} (f:Str->Option α):V->Option α
 | .dw i=>f i
 | _=>none
noncomputable def lV {α:Type} (f:List V->Option α):V->Option α
 | .lst i=>f i
 | _=>none
noncomputable def a0 {α:Type} (f:Option α):List V->Option α
 | []=>f
 | _=>none
noncomputable def a1 {α:Type} (f:V->Option α):List V->Option α
 | [a]=>f a
 | _=>none
noncomputable def a2 {α:Type} (f:V->V->Option α):List V->Option α
 | [a,b]=>f a b
 | _=>none
noncomputable def intsOf:List V->Option (List Int)
 | []=>some []
 | x::l=>iV (λi=>(intsOf l).map (i::·)) x
noncomputable def strsOf:List V->Option (List Str)
 | []=>some []
 | x::l=>sV (λi=>(strsOf l).map (i::·)) (eN x)
noncomputable def ins (x:Int):List Int->List Int
 | []=>[x]
 | y::l=>if x<=y then x::y::l else y::ins x l
noncomputable def pU:List Int->List Int
 | []=>[]
 | x::l=>ins x (pU l)
def h_:V->Option (Int×Int)
 | .tup l=>a2 (λa b=>iV (λi=>iV (λj=>some (i,j)) b) a) l
 | _=>none
noncomputable def wt:List V->Option (List (Int×Int))
 | []=>some []
 | x::l=>(h_ x).bind λp=>(wt l).map (p::·)
noncomputable def oV (a b:Int×Int):Bool:=decide (a.1 < b.1)||(decide (a.1=b.1)&&decide (a.2 < b.2))
noncomputable def runK {α:Type} (f:Nat->Nat->Bool):KasT α->α
 | .ret a=>a
 | .ask i j k=>runK f (k (f i j))
noncomputable def ky {α:Type} (n:Nat):KasT α->Bool
 | .ret _=>true
 | .ask i j k=>decide (i < n)&&decide (j < n)&&ky n (k true)&&ky n (k false)
def uZ (l:List (Int×Int)):List (Int×Int):=(runK (λi j=>oV (l.getD i (0,0)) (l.getD j (0,0))) (kas_sort l.length)).toList.map λi=>l.getD i (0,0)
noncomputable def nQ (i:Int):Bool:=decide (0<=i/\i < 0xD800)  || decide (0xE000<=i/\i < 0x110000)
def FU:V->Option V
 | .lst l=>if dQ l.length then some (.int l.length) else none
 | .tup l=>if dQ l.length then some (.int l.length) else none
 | .str s=>if dQ s.cps.size then some (.int s.cps.size) else none
 | _=>none
def Mh:List V->Option V
 | [b]=>iV (λb=>some (.gf 0 b 1)) b
 | [a,b]=>iV (λa=>iV (λb=>some (.gf a b 1)) b) a
 | [a,b,c]=>iV (λa=>iV (λb=>iV (λc=>if c=0\/ab (b - a) c=true then none else some (.gf a b c)) c) b) a
 | _=>none
def vX (l:List V):Option V:=if l.length < 64 then (match intsOf l with
   | some a=>some (.lst ((pU a).map .int))
   | none=>if 2<=l.length/\l.length<=3/\ky l.length (kas_sort l.length)=true then (wt l).map λb=>.lst ((uZ b).map λp=>.tup [.int p.1,.int p.2]) else none) else none
def MU:V->Option V
 | .gf a b c=>if l_ a b c then some (.lst (jD a b c)) else none
 | _=>none
noncomputable def AH (s:Str):Option V:=match s.cps.toList with
 | [c]=>some (.int c)
 | _=>none
def OS (hp:List O) (b:Bf) (as:List V):Option V:=match b with
 | .len=>a1 (λa=>FU (view hp a)) as
 | .range=>Mh as
 | .sum=>a1 (λa=>lV (λl=>(intsOf l).map λl=>.int l.sum) (view hp a)) as
 | .sorted=>a1 (λa=>lV vX (view hp a)) as
 | .list=>a1 MU as
 | .chr=>a1 (iV λi=>if nQ i then some (.str (one i.toNat)) else none) as
 | .ord=>a1 (sV AH) as
 | .min=>a2 (λa b=>iV (λa=>iV (λb=>some (.int (if b < a then b else a))) b) a) as
 | .abs=>a1 (iV λa=>some (.int (if a < 0 then -a else a))) as
 | .divmod=>a2 (λa b=>iV (λa=>iV (λb=>if b=0\/ab a b=true then none else some (.tup [.int (Int.fdiv a b),.int (Int.fmod a b)])) b) a) as
 | _=>none
def iP (hp:List O) (b:Bf) (as:List V):Option V:=OS hp b (as.map eN)
noncomputable def lM (x:V):List V->Option Nat
 | []=>some 0
 | y::l=>(eQ 8 y x).bind λb=>(lM x l).map (·+(if b then 1 else 0))
noncomputable def kg:Option V->V->V
 | some v,_=>v
 | none,d=>d
set_option genCtorIdx true in
inductive MK where
 | gv | i8 | nc | oH | rt | nI | uW | m7 | n3 | rM
 deriving DecidableEq
noncomputable def kL (k:MK):V->Option MK
 | .lst _=>some k
 | _=>none
noncomputable def kS (k:MK):V->Option MK
 | .str _=>some k
 | _=>none
noncomputable def kC:V->Option MK
 | .lst _=>some .nc
 | .str _=>some .oH
 | _=>none
noncomputable def kD (k:MK):V->Option MK
 | .dE _ _=>some k
 | _=>none
noncomputable def kI (k:MK):V->Option MK
 | .int _=>some k
 | _=>none
def oU (m:Mt) (o:V):Option MK:=match m with
 | .append=>kL .gv o
 | .reverse=>kL .i8 o
 | .count=>kC o
 | .join=>kS .rt o
 | .replace=>kS .nI o
 | .find=>kS .uW o
 | .lower=>kS .m7 o
 | .get=>kD .n3 o
 | .lO=>kI .rM o
 | _=>none
noncomputable def gJ (s b:Str):Bool:=decide (s.length+(s.length+1)*b.length<=16777216)
def NY (ks vs:List V) (k d:V):Option V:=if wR k then (findKey ks vs k).map (kg · d) else none
def NZ (ks vs:List V):List V->Option V
 | [k]=>NY ks vs k .none
 | [k,d]=>NY ks vs k d
 | _=>none
noncomputable def dV {α:Type} (f:List V->List V->Option α):V->Option α
 | .dE a b=>f a b
 | _=>none
def MP (hp:List O) (m:MK) (o:V) (as:List V):Option V:=match m with
 | .nc=>lV (λl=>a1 (λx=>(lM x l).map λ(n:Nat)=>V.int (n:Int)) as) o
 | .oH=>sV (λs=>a1 (sV λt=>some (.int (bU s t))) as) o
 | .rt=>sV (λb=>a1 (λl=>lV (λl=>(strsOf l).bind λl=>if cO b l then some (.str (aw b l)) else none) (view hp l)) as) o
 | .uW=>sV (λs=>a1 (sV λa=>some (.int (b8 s a))) as) o
 | .m7=>sV (λs=>a0 (if dQ (a8 s).length then some (.str (a8 s)) else none) as) o
 | .n3=>dV (λc d=>NZ c d as) o
 | .rM=>iV (λi=>a0 (some (.int (aa i))) as) o
 | _=>none
def uX (s:V) (as:List V):Option V:=sV (λs=>a2 (λa b=>tV (λa=>tV (λb=>if gJ s b then some (.str (az s a b)) else none) b) a) as) s
def C8 (hp:List O) (i:Nat) (m:MK) (as:List V) (l:List V):Option (V×List O):=match m with
 | .gv=>a1 (λx=>if dQ l.length then some (.none,hp.set i (.list (l++[x]))) else none) as
 | .i8=>a0 (if dQ l.length then some (.none,hp.set i (.list l.reverse)) else none) as
 | _=>none
def zq (hp:List O) (m:MK) (o:V) (as:List V):Option (V×List O):=match o with
 | .ref i=>(match hp[i]? with
  | some (.list l)=>C8 hp i m as l
  | _=>none)
 | _=>none
noncomputable def R8:MK->Bool
 | .gv=>true
 | .i8=>true
 | _=>false
def mj (hp:List O) (m:MK) (o:V) (as:List V):Option (V×List O):=
 if R8 m then zq hp m o as else if m=.nI then (uX (view hp o) as).map (·,hp) else (MP hp m (view hp o) (as.map eN)).map (·,hp)
theorem wG {hp:List O} (k) (as) (h:hp[i]?=some (.list l)):zq hp k (.ref i) as=C8 hp i k as l:=by
 show (match hp[i]? with
  | some (.list l)=>C8 hp i k as l
  | _=>none)=_
 rw[h]
structure er where
 top:Addr->List V->List Str->List V->List O->Option (V×List O)
 mx:iS->List (Str×Nat)->List V->List O->Option (V×List O)
inductive Fl where
 | next | ret (v:V)
noncomputable def fW:List V->List V->V->V->Option (List V×List V)
 | k::c,w::d,x,v=>match fK k x with
  | some true=>some (k::c,v::d)
  | some false=>match fW c d x v with
   | some (a,b)=>some (k::a,w::b)
   | none=>none
  | none=>none
 | [],[],x,v=>some ([x],[v])
 | _,_,_,_=>none
noncomputable def iq:List V->List V->List V->List V->Option (List V×List V)
 | ks,d,k::e,v::c=>match fW ks d k v with
  | some (a,b)=>iq a b e c
  | none=>none
 | ks,d,[],[]=>some (ks,d)
 | _,_,_,_=>none
noncomputable def fp (n:Str):Bool:=(["tag","attrib","tail","kids","append","makeelement","itertext"]:List Str).contains n
noncomputable def tS:V->Bool
 | .con (.ref _)=>true
 | .con _=>false
 | _=>true
def TK (n:Str):Option O->Option V
 | some (.ns l)=>(l.lookup n).bind λv=>if tS v then some v else none
 | _=>none
def BF (hp:List O) (n:Str):Option Nat->Option V
 | some d=>if fp n then TK n hp[d]? else none
 | none=>none
def og (hp:List O) (i:Nat) (n:Str):Option O->Option V
 | some (.fn _ _ d)=>BF hp n d
 | some (.list _)=>if n="append" then some (.bm "list.append" (.ref i)) else none
 | _=>none
def fM (hp:List O) (o:V) (n:Str):Option V:=match o with
 | .ref i=>og hp i n hp[i]?
 | _=>none
noncomputable def Bv (orc:er) (as:List V) (kn:List Str) (kv:List V) (hp:List O):Option O->Option (V×List O)
 | some (.fn f a _)=>(match kn with
  | []=>(match kv with
   | []=>orc.mx f a as hp
   | _=>none)
  | _=>none)
 | _=>none
noncomputable def callC (orc:er) (as:List V) (kn:List Str) (kv:List V) (hp:List O):Value->Option (V×List O)
 | .ref a=>orc.top a as kn kv hp
 | _=>none
def r_ (id:String) (as:List V) (kn:List Str) (kv:List V) (hp:List O):V->Option (V×List O)
 | .ref i=>if id="list.append"/\kn=[]/\kv=[] then zq hp .gv (.ref i) as else none
 | _=>none
def iL (orc:er) (f:V) (as:List V) (kn:List Str) (kv:List V) (hp:List O):Option (V×List O):=match f with
 | .con v=>callC orc as kn kv hp v
 | .ref i=>Bv orc as kn kv hp hp[i]?
 | .bm id v=>r_ id as kn kv hp v
 | _=>none
noncomputable def d9 (cs:List Nat):Nat->Tg->V->St->Option St
 | 0,_,_,_=>none
 | n+1,t,v,a=>match t with
  | .loc i=>if i < a.loc.length then some { a with loc:=a.loc.set i (some v) } else none
  | .cell k=>match cs[k]? with
   | some i=>match a.hp[i]? with
    | some (.cell _)=>some { a with hp:=a.hp.set i (.cell (some v)) }
    | _=>none
   | none=>none
  | .tup l=>match v with
   | .tup b=>if l.length=b.length then (l.zip b).foldl (λr x=>r.bind λa=>d9 cs n x.1 x.2 a) (some a) else none
   | _=>none
structure Ev where
 E:List Nat->X->St->Option (V×St)
 S:List Nat->XS->St->Option (Fl×St)
noncomputable def fG (r:Ev) (cs:List Nat):List X->St->Option (List V×St)
 | [],st=>some ([],st)
 | x::l,st=>match r.E cs x st with
  | some (v,st)=>match fG r cs l st with
   | some (a,st)=>some (v::a,st)
   | none=>none
  | none=>none
noncomputable def dX (r:Ev) (cs:List Nat):List XS->St->Option (Fl×St)
 | [],st=>some (.next,st)
 | x::l,st=>match r.S cs x st with
  | some (.next,st)=>dX r cs l st
  | o=>o
noncomputable def Bi (r:Ev) (cs:List Nat):List X->St->Option (V×St)
 | [],_=>none
 | [x],st=>r.E cs x st
 | x::l,st=>match r.E cs x st with
  | some (v,st)=>match ef st.hp v with
   | some true=>Bi r cs l st
   | some false=>some (v,st)
   | none=>none
  | none=>none
noncomputable def xr (r:Ev) (cs:List Nat):List X->St->Option (V×St)
 | [],_=>none
 | [x],st=>r.E cs x st
 | x::l,st=>match r.E cs x st with
  | some (v,st)=>match ef st.hp v with
   | some true=>some (v,st)
   | some false=>xr r cs l st
   | none=>none
  | none=>none
noncomputable def ve (r:Ev) (cs:List Nat):V->List b9->List X->St->Option (Bool×St)
 | a,[c],[x],st=>match r.E cs x st with
  | some (b,st)=>(fy st.hp c a b).map (·,st)
  | none=>none
 | a,c::d,x::e,st=>match r.E cs x st with
  | some (b,st)=>match fy st.hp c a b with
   | some true=>ve r cs b d e st
   | some false=>some (false,st)
   | none=>none
  | none=>none
 | _,_,_,_=>none
noncomputable def o9 (r:Ev) (cs:List Nat):List X->St->Option (Bool×St)
 | [],st=>some (true,st)
 | x::l,st=>match r.E cs x st with
  | some (v,st)=>match ef st.hp v with
   | some true=>o9 r cs l st
   | some false=>some (false,st)
   | none=>none
  | none=>none
noncomputable def il:List V->Option (List Nat)
 | []=>some []
 | .ref i::l=>(il l).map (i::·)
 | _=>none
abbrev Gd:=Option (Nat×List Nat)
def gA (hp:List O):Gd->Bool
 | none=>true
 | some (i,a)=>match hp[i]? with
  | some (.list l)=>il l==some a
  | _=>false
def fq (r:Ev) (cs:List Nat):X->St->Option (List V×Gd×St)
 | .enum a,st=>match r.E cs a st with
  | some (v,st)=>(jZ st.hp v).map λl=>(l.zipIdx.map λx=>.tup [.int x.2,x.1],none,st)
  | none=>none
 | .rev a,st=>match r.E cs a st with
  | some (.lst l,st)=>some (l.reverse,none,st)
  | _=>none
 | x,st=>match r.E cs x st with
  | some (v,st)=>match v with
   | .ref i=>match st.hp[i]? with
    | some (.list l)=>(il l).map λb=>(l,some (i,b),st)
    | _=>none
   | v=>(jZ st.hp v).map (·,none,st)
  | none=>none
noncomputable def gx (cs:List Nat) (t:Tg) (gd:Gd) (g:St->Option (List V×St)):List V->St->Option (List V×St)
 | [],st=>if gA st.hp gd then some ([],st) else none
 | x::l,st=>if gA st.hp gd then match d9 cs 5 t x st with
  | some st=>match g st with
   | some (a,st)=>match gx cs t gd g l st with
    | some (b,st)=>some (a++b,st)
    | none=>none
   | none=>none
  | none=>none else none
noncomputable def j0 (r:Ev) (cs:List Nat) (elt:X):List Tg->List X->List (List X)->St->Option (List V×St)
 | t::c,i::d,f::e,a=>match fq r cs i a with
  | some (l,b,a)=>gx cs t b (λa=>match o9 r cs f a with
    | some (true,a)=>j0 r cs elt c d e a
    | some (false,a)=>some ([],a)
    | none=>none) l a
  | none=>none
 | [],[],[],a=>match r.E cs elt a with
  | some (v,a)=>some ([v],a)
  | none=>none
 | _,_,_,_=>none
def rV (r:Ev) (cs:List Nat) (elt:X) (ts:List Tg) (is:List X) (fs:List (List X)) (n m:Nat) (st:St):Option (List V×St):=
 match ts,is,fs with
 | t::ts,i::is,f::fs=>match fq r cs i st with
  | some (l,d,st)=>
   let a:=(List.range m).map (st.hp.length+·)++cs
   match gx a t d (λst=>match o9 r a f st with
    | some (true,st)=>j0 r a elt ts is fs st
    | some (false,st)=>some ([],st)
    | none=>none) l ⟨List.replicate n none,st.hp++List.replicate m (.cell none)⟩ with
   | some (c,b)=>if dQ c.length then some (c,⟨st.loc,b.hp⟩) else none
   | none=>none
  | none=>none
 | _,_,_=>none
noncomputable def fL (r:Ev) (cs:List Nat) (t:Tg) (gd:Gd) (a:List XS):List V->St->Option (Fl×St)
 | [],st=>if gA st.hp gd then some (.next,st) else none
 | x::l,st=>if gA st.hp gd then match d9 cs 5 t x st with
  | some st=>match dX r cs a st with
   | some (.next,st)=>fL r cs t gd a l st
   | o=>o
  | none=>none else none
noncomputable def jd (r:Ev) (cs:List Nat) (c:X) (a:List XS):Nat->St->Option (Fl×St)
 | 0,_=>none
 | n+1,st=>match r.E cs c st with
  | some (v,st)=>match ef st.hp v with
   | some true=>match dX r cs a st with
    | some (.next,st)=>jd r cs c a n st
    | o=>o
   | some false=>some (.next,st)
   | none=>none
  | none=>none
noncomputable def hX (cs:List Nat):List (Str×Nat)->Option (List (Str×Nat))
 | []=>some []
 | p::l=>o2 cs[p.2]? (hX cs l) λi r=>some ((p.1,i)::r)
noncomputable def kq (cs:List Nat) (t:Tg) (st:St):Option V:=match t with
 | .loc i=>(st.loc[i]?).bind id
 | .cell k=>match cs[k]? with
  | some i=>match st.hp[i]? with
   | some (.cell v)=>v
   | _=>none
  | none=>none
 | _=>none
noncomputable def sf:List V->Bool
 | []=>true
 | k::a=>a.all (λx=>fK k x==some false)&&sf a
noncomputable def mergeAll:List V->List V->List V->Option (List V×List V)
 | ks,e,.dE c d::l=>if c.all gh=true/\ks.length+c.length<=65536 then match iq ks e c d with
  | some (a,b)=>mergeAll a b l
  | none=>none
  else none
 | ks,e,[]=>some (ks,e)
 | _,_,_=>none
noncomputable def rK:Option O->Bool
 | some (.fn _ _ _)=>true
 | _=>false
def isFn (hp:List O):V->Bool
 | .ref i=>rK hp[i]?
 | _=>false
noncomputable def isMul:Operator->Bool
 | .Mult=>true
 | _=>false
noncomputable def Mi (a:V) (st:St):V->Option (O×St)
 | .int n=>if 0<=n/\n < 65536 then some (.list (List.replicate n.toNat a),st) else none
 | _=>none
def Fp (r:Ev) (cs:List Nat) (b:X) (st:St):List V->Option (O×St)
 | [a]=>match r.E cs b st with
  | some (v,st)=>Mi a st v
  | none=>none
 | _=>none
def Fm (r:Ev) (cs:List Nat) (b:X) (st:St):X->Option (O×St)
 | .list l=>match fG r cs l st with
  | some (l,st)=>Fp r cs b st l
  | none=>none
 | _=>none
def eU (r:Ev) (cs:List Nat):X->St->Option (O×St)
 | .list l,st=>(fG r cs l st).map λx=>(.list x.1,x.2)
 | .bin h a b,st=>if isMul h=true then Fm r cs b st a else none
 | .dict c d,st=>match fG r cs c st with
  | some (c,st)=>match fG r cs d st with
   | some (d,st)=>if (c.map eN).all gh=true/\sf (c.map eN)=true/\c.length=d.length then some (.dict (c.map eN) d,st) else none
   | none=>none
  | none=>none
 | .star l,st=>match fG r cs l st with
  | some (l,st)=>(mergeAll [] [] l).map λx=>(.dict x.1 x.2,st)
  | none=>none
 | .comp e f g i n m,st=>(rV r cs e f g i n m st).map λx=>(.list x.1,x.2)
 | _,_=>none
noncomputable def sU:O->V
 | .list l=>.lst l
 | .dict b a=>.dE b a
 | _=>.none
def Ie (orc:er) (r:Ev) (cs:List Nat):X->St->Option (V×St)
 | .k v,st=>some (v,st)
 | .loc i,st=>match st.loc[i]? with
  | some (some v)=>some (v,st)
  | _=>none
 | .cell k,st=>match kq cs (.cell k) st with
  | some v=>some (v,st)
  | none=>none
 | .bin j a b,st=>match r.E cs a st with
  | some (a,st)=>match r.E cs b st with
   | some (b,st)=>(eF st.hp j a b).map (·,st)
   | none=>none
  | none=>none
 | .un .Not a,st=>match r.E cs a st with
  | some (a,st)=>(ef st.hp a).map λb=>(.bool (!b),st)
  | none=>none
 | .un j a,st=>match r.E cs a st with
  | some (a,st)=>(HY j a).map (·,st)
  | none=>none
 | .and l,st=>Bi r cs l st
 | .or l,st=>xr r cs l st
 | .cmp a q l,st=>match r.E cs a st with
  | some (a,st)=>(ve r cs a q l st).map λx=>(.bool x.1,x.2)
  | none=>none
 | .dT c a b,st=>match r.E cs c st with
  | some (v,st)=>match ef st.hp v with
   | some true=>r.E cs a st
   | some false=>r.E cs b st
   | none=>none
  | none=>none
 | .call f d s p,st=>match r.E cs f st with
  | some (f,st)=>match fG r cs d st with
   | some (d,st)=>match fG r cs p st with
    | some (p,st)=>(iL orc f d s p st.hp).map λx=>(x.1,⟨st.loc,x.2⟩)
    | none=>none
   | none=>none
  | none=>none
 | .bf b d,st=>match fG r cs d st with
  | some (d,st)=>(iP st.hp b d).map (·,st)
  | none=>none
 | .mt m o d,st=>match r.E cs o st with
  | some (o,st)=>if isFn st.hp o then (match fM st.hp o (jk m) with
   | some f=>match fG r cs d st with
    | some (d,st)=>(iL orc f d [] [] st.hp).map λx=>(x.1,⟨st.loc,x.2⟩)
    | none=>none
   | none=>none) else match oU m (view st.hp o) with
   | some k=>match fG r cs d st with
    | some (d,st)=>(mj st.hp k o d).map λx=>(x.1,⟨st.loc,x.2⟩)
    | none=>none
   | none=>none
  | none=>none
 | .attr o n,st=>match r.E cs o st with
  | some (o,st)=>(fM st.hp o n).map (·,st)
  | none=>none
 | .mc o n d,st=>match r.E cs o st with
  | some (o,st)=>match fM st.hp o n with
   | some f=>match fG r cs d st with
    | some (d,st)=>(iL orc f d [] [] st.hp).map λx=>(x.1,⟨st.loc,x.2⟩)
    | none=>none
   | none=>none
  | none=>none
 | .sub o i,st=>match r.E cs o st with
  | some (o,st)=>match r.E cs i st with
   | some (i,st)=>(fx st.hp o i).map (·,st)
   | none=>none
  | none=>none
 | .k_ o a b,st=>match r.E cs o st with
  | some (o,st)=>match r.E cs a st with
   | some (a,st)=>match r.E cs b st with
    | some (b,st)=>(nG st.hp o a b).map (·,st)
    | none=>none
   | none=>none
  | none=>none
 | .tup l,st=>(fG r cs l st).map λx=>(.tup x.1,x.2)
 | .list l,st=>(eU r cs (.list l) st).map λx=>(sU x.1,x.2)
 | .dict u A,st=>(eU r cs (.dict u A) st).map λx=>(sU x.1,x.2)
 | .star l,st=>(eU r cs (.star l) st).map λx=>(sU x.1,x.2)
 | .comp g t z w n m,st=>(eU r cs (.comp g t z w n m) st).map λx=>(sU x.1,x.2)
 | .new e,st=>(eU r cs e st).map λx=>(.ref x.2.hp.length,⟨x.2.loc,x.2.hp++[x.1]⟩)
 | .enum _,_=>none
 | .rev _,_=>none
 | .lam f h,st=>match hX cs h with
  | some h=>some (.ref st.hp.length,⟨st.loc,st.hp++[.fn f h none]⟩)
  | none=>none
def putN (hp:List O) (d:Nat) (n:Str) (v:V):Option O->Option (List O)
 | some (.ns l)=>if fp n=true/\l.length < 100 then some (hp.set d (.ns ((n,v)::l))) else none
 | _=>none
def sG (hp:List O) (i:Nat) (n:Str) (v:V) (f:iS) (c:List (Str×Nat)):Option Nat->Option (List O)
 | none=>if fp n then some (hp.set i (.fn f c (some hp.length))++[.ns [(n,v)]]) else none
 | some d=>putN hp d n v hp[d]?
def AA (hp:List O) (i:Nat) (n:Str) (v:V):Option O->Option (List O)
 | some (.fn f c d)=>sG hp i n v f c d
 | _=>none
def kO (hp:List O) (o:V) (n:Str) (v:V):Option (List O):=match o with
 | .ref i=>AA hp i n v hp[i]?
 | _=>none
def putL (hp:List O) (j:Nat) (l:List V) (v:V):V->Option (List O)
 | .int i=>if dQ l.length then (if 0<=i/\i < l.length then some (hp.set j (.list (l.set i.toNat v))) else none) else none
 | _=>none
def Ft (hp:List O) (j:Nat) (k v:V):Option O->Option (List O)
 | some (.list l)=>putL hp j l v k
 | some (.dict a b)=>if wR k=true/\a.length<=65536 then (fW a b k v).map λx=>hp.set j (.dict x.1 x.2) else none
 | _=>none
def jV (hp:List O) (o i v:V):Option (List O):=match o with
 | .ref j=>Ft hp j (eN i) v hp[j]?
 | _=>none
def Ic (orc:er) (r:Ev) (cs:List Nat):XS->St->Option (Fl×St)
 | .expr e,st=>match r.E cs e st with
  | some (.none,st)=>some (.next,st)
  | _=>none
 | .asg t e,st=>match r.E cs e st with
  | some (v,st)=>(d9 cs 5 t v st).map (.next,·)
  | none=>none
 | .ji o i e,st=>match r.E cs e st with
  | some (v,st)=>match r.E cs o st with
   | some (o,st)=>match r.E cs i st with
    | some (i,st)=>(jV st.hp o i v).map λg=>(.next,⟨st.loc,g⟩)
    | none=>none
   | none=>none
  | none=>none
 | .setAttr o n e,st=>match r.E cs e st with
  | some (v,st)=>match r.E cs o st with
   | some (o,st)=>(kO st.hp o n v).map λg=>(.next,⟨st.loc,g⟩)
   | none=>none
  | none=>none
 | .aug t j e,st=>match kq cs t st with
  | some a=>match r.E cs e st with
   | some (b,st)=>match jL j a b with
    | some v=>(d9 cs 5 t v st).map (.next,·)
    | none=>none
   | none=>none
  | none=>none
 | .nq o i j e,st=>match r.E cs o st with
  | some (o,st)=>match r.E cs i st with
   | some (i,st)=>match fx st.hp o i with
    | some a=>match r.E cs e st with
     | some (b,st)=>match jL j a b with
      | some v=>(jV st.hp o i v).map λg=>(.next,⟨st.loc,g⟩)
      | none=>none
     | none=>none
    | none=>none
   | none=>none
  | none=>none
 | .ret e,st=>(r.E cs e st).map λx=>(.ret x.1,x.2)
 | .dT c a b,st=>match r.E cs c st with
  | some (v,st)=>match ef st.hp v with
   | some true=>dX r cs a st
   | some false=>dX r cs b st
   | none=>none
  | none=>none
 | .fI t e d,st=>match fq r cs e st with
  | some (l,k,st)=>fL r cs t k d l st
  | none=>none
 | .yZ c d,st=>jd r cs c d 8 st
 | .qQ t f h,st=>match hX cs h with
  | some h=>(d9 cs 5 t (.ref st.hp.length) ⟨st.loc,st.hp++[.fn f h none]⟩).map (.next,·)
  | none=>none
 | .j_ d,st=>dX r cs d st
 | .stop,_=>none
noncomputable def ev (orc:er):Nat->Ev
 | 0=>⟨λ_ _ _=>none,λ_ _ _=>none⟩
 | n+1=>⟨Ie orc (ev orc n),Ic orc (ev orc n)⟩
def E4 (i:Nat) (st:St):Option O->Option (List V×Gd×St)
 | some (.list l)=>(il l).map λa=>(l,some (i,a),st)
 | _=>none
def Aq (st:St):V->Option (List V×Gd×St)
 | .ref i=>E4 i st st.hp[i]?
 | v=>(jZ st.hp v).map (·,none,st)
theorem qi {st:St} (b:∀a,x≠.rev a) (c:∀a,x≠.enum a):fq r cs x st=(match r.E cs x st with
  | some (v,st)=>Aq st v
  | none=>none):=by
 cases x with
 | rev a=>exact absurd rfl (b a)
 | enum a=>exact absurd rfl (c a)
 | _=>rfl
section
variable {β:Type}{y:β}{G:Prop}
theorem mE {f:V->St->Option β} (h:(match o with | some (v,a)=>f v a | none=>none)=some y) (k:∀v a,o=some (v,a)->f v a=some y->G):G:=by
 cases o with
 | none=>exact nS h
 | some p=>exact k p.1 p.2 rfl h
theorem mL {f:List V->St->Option β} (h:(match o with | some (v,a)=>f v a | none=>none)=some y) (k:∀v a,o=some (v,a)->f v a=some y->G):G:=by
 cases o with
 | none=>exact nS h
 | some p=>exact k p.1 p.2 rfl h
theorem mR {f:List V->Gd->St->Option β} (h:(match o with | some (v,a,b)=>f v a b | none=>none)=some y) (k:∀v a b,o=some (v,a,b)->f v a b=some y->G):G:=by
 cases o with
 | none=>exact nS h
 | some p=>exact k p.1 p.2.1 p.2.2 rfl h
theorem mB (h:(match o with | some true=>a | some false=>b | none=>none)=some y) (d:o=some true->a=some y->G) (c:o=some false->b=some y->G):G:=by
 cases o with
 | none=>exact nS h
 | some p=>cases p with
  | true=>exact d rfl h
  | false=>exact c rfl h
theorem mV {f:V->Option β} (h:(match o with | some v=>f v | none=>none)=some y) (k:∀v,o=some v->f v=some y->G):G:=by
 cases o with
 | none=>exact nS h
 | some p=>exact k p rfl h
theorem mS {f:St->Option β} (h:(match o with | some v=>f v | none=>none)=some y) (k:∀v,o=some v->f v=some y->G):G:=by
 cases o with
 | none=>exact nS h
 | some p=>exact k p rfl h
theorem mK {f:MK->Option β} (h:(match o with | some v=>f v | none=>none)=some y) (k:∀v,o=some v->f v=some y->G):G:=by
 cases o with
 | none=>exact nS h
 | some p=>exact k p rfl h
theorem mC {f:List (Str×Nat)->Option β} (h:(match o with | some v=>f v | none=>none)=some y) (k:∀v,o=some v->f v=some y->G):G:=by
 cases o with
 | none=>exact nS h
 | some p=>exact k p rfl h
theorem qE {f:V->St->Option β}{st:St} (h:o=some (v,st)) (k:f v st=r):(match (generalizing:=false) o with | some (v,st)=>f v st | none=>none)=r:=h▸k
theorem qL {f:List V->St->Option β}{st:St} (h:o=some (v,st)) (k:f v st=r):(match (generalizing:=false) o with | some (v,st)=>f v st | none=>none)=r:=h▸k
theorem qR {f:List V->Gd->St->Option β}{st:St} (h:o=some (l,gd,st)) (k:f l gd st=r):(match (generalizing:=false) o with | some (v,gd,st)=>f v gd st | none=>none)=r:=h▸k
theorem qV {f:V->Option β} (h:o=some v) (k:f v=r):(match (generalizing:=false) o with | some v=>f v | none=>none)=r:=h▸k
theorem qS {f:St->Option β} (h:o=some v) (k:f v=r):(match (generalizing:=false) o with | some v=>f v | none=>none)=r:=h▸k
theorem qK {f:MK->Option β} (h:o=some v) (k:f v=r):(match (generalizing:=false) o with | some v=>f v | none=>none)=r:=h▸k
theorem qC {f:List (Str×Nat)->Option β} (h:o=some v) (k:f v=r):(match (generalizing:=false) o with | some v=>f v | none=>none)=r:=h▸k
theorem qT (h:o=some true) (k:a=r):(match (generalizing:=false) o with | some true=>a | some false=>b | none=>none)=r:=h▸k
theorem qF (h:o=some false) (k:b=r):(match (generalizing:=false) o with | some true=>a | some false=>b | none=>none)=r:=h▸k
theorem qM {α b:Type}{o:Option α}{f:α->b}{a:α}(h:o=some a):o.map f=some (f a):=h▸rfl
theorem TP {r:Ev}{st:St} (b:r.E cs x st=some (v,st1)) (a:r.E cs z st1=some (.int n,st2)) (d:0<=n/\n < 65536):eU r cs (.bin .Mult (.list [x]) z) st=some (.list (List.replicate n.toNat v),st2):=
 have e:fG r cs [x] st=some ([v],st1):=qE b rfl
 have c:Fp r cs z st1 [v]=some (.list (List.replicate n.toNat v),st2):=qE (f:=λw st=>Mi v st w) a (if_pos d)
 (if_pos rfl:(if isMul .Mult=true then Fm r cs z st (.list [x]) else none)=_).trans (qL (f:=λl st=>Fp r cs z st l) e c)
theorem zj {st:St} (h:Fm r cs b st a=some (o,st')) (k:∀l v c n,a=.list l->fG r cs l st=some ([v],c)->r.E cs b c=some (.int n,st')->0<=n/\n < 65536->o=.list (List.replicate n.toNat v)->G):G:=by
 cases a with
 | list l=>
  refine mL h λd c j h=>?_
  cases d with
  | nil=>exact nS h
  | cons v d=>cases d with
   | cons=>exact nS h
   | nil=>
    refine mE h λw i f h=>?_
    cases w with
    | int n=>exact dN h λe h=>fm h λg m=>k l v c n rfl j (m▸f) e g.symm
    | _=>exact nS h
 | _=>exact nS h
theorem Gu {cs:List Nat}{st:St} (a:cs[k]?=some i) (h:st.hp[i]?=some (.cell v)):kq cs (.cell k) st=v:=by
 show (match cs[k]? with
  | some i=>(match st.hp[i]? with
   | some (.cell v)=>v
   | _=>none)
  | none=>none)=_
 rw[a]
 show (match st.hp[i]? with
   | some (.cell v)=>v
   | _=>none)=_
 rw[h]
theorem ik {cs:List Nat}{st:St} (a:cs[k]?=some i) (h:st.hp[i]?=some (.cell w)):d9 cs (n+1) (.cell k) v st=some { st with hp:=st.hp.set i (.cell (some v)) }:=by
 show (match cs[k]? with
  | some i=>(match st.hp[i]? with
   | some (.cell _)=>some { st with hp:=st.hp.set i (.cell (some v)) }
   | _=>none)
  | none=>none)=_
 rw[a]
 show (match st.hp[i]? with
   | some (.cell _)=>some { st with hp:=st.hp.set i (.cell (some v)) }
   | _=>none)=_
 rw[h]
theorem nz {g:St->Option (List V×St)}{st:St} (c:gA st.hp gd=true) (d:d9 cs 5 t x st=some st1) (f:g st1=some (a,st2)) (e:gx cs t gd g l st2=some (b,st3)):gx cs t gd g (x::l) st=some (a++b,st3):=
 (if_pos c).trans (qS d (qL f (qL e rfl)))
theorem Cc {g:St->Option (List V×St)}{st:St} (a:gA st.hp gd=true):gx cs t gd g [] st=some ([],st):=if_pos a
theorem Dz {st:St} (a:fq r cs i st=some (l,gd,st1)) (b:gx cs t gd (λst=>match o9 r cs f st with
    | some (true,st)=>j0 r cs elt ts is fs st
    | some (false,st)=>some ([],st)
    | none=>none) l st1=o):j0 r cs elt (t::ts) (i::is) (f::fs) st=o:=qR a b
theorem w4 {r:Ev}{st:St} (h:r.E cs elt st=some (v,st1)):j0 r cs elt [] [] [] st=some ([v],st1):=qE h rfl
theorem xN {st:St} (c:fq r cs i st=some (l,gd,st1)) (a:gx cs t gd (λst=>match o9 r cs f st with
    | some (true,st)=>j0 r cs elt ts is fs st
    | some (false,st)=>some ([],st)
    | none=>none) l ⟨List.replicate n none,st1.hp⟩=some (vs,st2)) (b:vs.length<=65536):rV r cs elt (t::ts) (i::is) (f::fs) n 0 st=some (vs,⟨st1.loc,st2.hp⟩):=by
 rw[<- List.append_nil st1.hp] at a
 exact qR c (qL a (if_pos (decide_eq_true b)))
theorem mN {o:Option (V×St)}{f:St->Option β}(h:(match o with | some (.none,a)=>f a | _=>none)=some y) (k:∀a,o=some (.none,a)->f a=some y->G):G:=by
 cases o with
 | none=>exact nS h
 | some p=>
  obtain ⟨v,a⟩:=p
  cases v with
  | none=>exact k a rfl h
  | _=>exact nS h
theorem mF {o:Option (Fl×St)}{f:St->Option (Fl×St)}{b:Fl}{st':St}(h:(match o with | some (.next,a)=>f a | o=>o)=some (b,st')) (g:∀a,o=some (.next,a)->f a=some (b,st')->G) (c:∀v,o=some (.ret v,st')->b=.ret v->G):G:=by
 cases o with
 | none=>exact nS h
 | some p=>
  obtain ⟨q,a⟩:=p
  cases q with
  | next=>exact g a rfl h
  | ret v=>exact fm h λe d=>c v (d▸rfl) e.symm
theorem mT {a b:St->Option β} (h:(match o with | some (true,c)=>a c | some (false,c)=>b c | none=>none)=some y) (e:∀c,o=some (true,c)->a c=some y->G) (d:∀c,o=some (false,c)->b c=some y->G):G:=by
 cases o with
 | none=>exact nS h
 | some p=>
  obtain ⟨p,c⟩:=p
  cases p with
  | true=>exact e c rfl h
  | false=>exact d c rfl h
end
def gX (orc:er) (cs:List Nat) (b:List XS) (st:St):Option (V×List O):=match dX (ev orc 60) cs b st with
 | some (.ret v,st)=>some (v,st.hp)
 | some (.next,st)=>some (.none,st.hp)
 | none=>none
section
variable {A:Around}{W:Wd}{hp:List O}{d:Nat}
theorem Rep.eN {P:Params} (r:Rep P T I σ v c):Rep P T I σ (Vm.eN v) c:=by
 cases v with
 | dw s=>obtain ⟨t,rfl,_⟩:=r.inv;exact .str _ _
 | _=>exact r
theorem dJ.eN {P:Params}{v:List V} (r:dJ P T I σ v c):dJ P T I σ (v.map Vm.eN) c:=by
 induction v generalizing c with
 | nil=>exact r
 | cons v l b=>exact r.fC λ_ _ a r=>.cons a.eN (b r)
def iE (W:Wd) (a:Addr) (vs:List Value):Prop:=∃n,W.s.heap.get? a=some ⟨.type "list",none,.seq vs.toArray n,#[]⟩
def TupAt (W:Wd) (a:Addr) (vs:List Value):Prop:=∃n,W.s.heap.get? a=some ⟨.type "tuple",none,.seq vs.toArray n,#[]⟩
def DictAt (W:Wd) (a:Addr) (es:List ag):Prop:=∃n,W.s.heap.get? a=some ⟨.type "dict",none,.dict es.toArray n,#[]⟩
theorem iE.is (h:iE W a vs):W.s.heap.IsList a vs.toArray:=let ⟨n,e⟩:=h;⟨_,e,rfl,n,rfl⟩
theorem TupAt.is (h:TupAt W a vs):W.s.heap.IsTuple a vs.toArray:=let ⟨n,e⟩:=h;⟨_,e,rfl,n,rfl⟩
def gn (C:Ctx) (W:Wd) (c:Value):V->Prop
 | .none=>c=.none
 | .bool b=>c=.bool b
 | .int i=>∃t,c=.int i t
 | .str s=>∃t,c=.str s t
 | .tup l=>∃a e,c=.ref a/\TupAt W a e/\dF C W l e
 | .lst l=>∃a e,c=.ref a/\iE W a e/\dF C W l e
 | .dE g e=>∃a f,c=.ref a/\DictAt W a f/\dZ g/\eu C.w.params W.G.T W.G.I W.σ g e f
 | _=>True
theorem qB (H:dO C hp W) (r:dz C W v c):gn C W c v:=by
 cases v with
 | none | bool | int | str=>exact r.inv
 | tup l=>replace r:=r.inv;obtain ⟨a,b,n,e,q,r⟩:=r;exact ⟨a,b,e,⟨n,H.I _ _ q⟩,r⟩
 | lst l=>replace r:=r.inv;obtain ⟨a,b,n,e,q,r⟩:=r;exact ⟨a,b,e,⟨n,H.I _ _ q⟩,r⟩
 | dE l=>replace r:=r.inv;obtain ⟨a,b,n,e,q,k,r⟩:=r;exact ⟨a,b,e,⟨n,H.I _ _ q⟩,k,r⟩
 | _=>trivial
theorem vu (hp) (i):view hp (.ref i)=pE i hp[i]?:=rfl
theorem f' (H:dO C hp W) (r:dz C W v c):gn C W c (view hp v):=by
 cases v with
 | dw s=>exact qB H r.eN
 | ref i=>
  rw[vu]
  obtain ⟨a,e,h⟩:=r.inv
  obtain ⟨_,_,o,m,j,f,g⟩:=H.fe _ _ h
  rw[j]
  cases o with
  | list l=>obtain ⟨b,n,q,r⟩:=g.inv;exact ⟨a,b,e,⟨n,q▸f⟩,r⟩
  | dict p b=>obtain ⟨b,n,q,k,r⟩:=g.inv;exact ⟨a,b,e,⟨n,q▸f⟩,k,r⟩
  | _=>trivial
 | _=>exact qB H r
theorem pN (H:dO C hp W) (r:dz C W v c) (h:view hp v=.str s):∃t,c=.str s t:=(h▸f' H r:gn C W c (.str s))
theorem jC (H:dO C hp W) (r:dz C W v c) (h:view hp v=.lst l):∃a vs,c=.ref a/\iE W a vs/\dF C W l vs:=(h▸f' H r:gn C W c (.lst l))
theorem zi (H:dO C hp W) (r:dz C W (.tup l) c):∃a vs,c=.ref a/\TupAt W a vs/\dF C W l vs:=qB H r
theorem i6 (H:dO C hp W) (r:dz C W v c) (h:view hp v=.dE ks vs):∃a es,c=.ref a/\DictAt W a es/\dZ ks/\eu C.w.params W.G.T W.G.I W.σ ks vs es:=(h▸f' H r:gn C W c (.dE ks vs))
noncomputable def L_:V->Bool
 | .none | .bool _ | .int _ | .tup _ | .gf ..=>true
 | _=>false
theorem pD (h:L_ (view hp v)=true):view hp v=v:=by
 cases v with
 | ref i=>
  rw[vu] at h ⊢
  generalize hp[i]?=o at h ⊢
  rcases o with _ | o
  ·rfl
  ·cases o<;>first | rfl | exact fT h
 | dw=>exact fT h
 | _=>rfl
theorem Ez (h:view hp v=.int i):v=.int i:=(pD (by rw[h];rfl)).symm.trans h
theorem T1 (h:view hp v=.none):v=.none:=(pD (by rw[h];rfl)).symm.trans h
theorem T2 (h:view hp v=.bool i):v=.bool i:=(pD (by rw[h];rfl)).symm.trans h
theorem Vu (h:view hp v=.tup l):v=.tup l:=(pD (by rw[h];rfl)).symm.trans h
theorem dJ.length {P:Params} (r:dJ P T I σ l vs):l.length=vs.length:=by
 induction l generalizing vs with
 | nil=>exact r.i7 rfl
 | cons v l a=>exact r.fC λ_ _ _ r=>congrArg Nat.succ (a r)
theorem dJ.get {P:Params}{T:Tm}{I:Gm}{σ:List Addr}{l:List V}{vs:List Value}{j:Nat}{v:V}(r:dJ P T I σ l vs) (e:l[j]?=some v):∃c,vs[j]?=some c/\Rep P T I σ v c:=by
 induction l generalizing vs j with
 | nil=>exact nS e
 | cons w l b=>cases j with
  | zero=>exact r.fC λ_ _ a _=>⟨_,rfl,Option.some.inj e▸a⟩
  | succ j=>exact r.fC λ_ _ _ r=>(b r e :)
theorem dJ.append {P:Params} (r:dJ P T I σ l vs) (c:dJ P T I σ l' vs'):dJ P T I σ (l++l') (vs++vs'):=by
 induction l generalizing vs with
 | nil=>exact r.i7 c
 | cons v l b=>exact r.fC λ_ _ a r=>.cons a (b r)
theorem dJ.replicate {P:Params} (h:Rep P T I σ v c):∀n,dJ P T I σ (List.replicate n v) (List.replicate n c)
 | 0=>.nil
 | n+1=>.cons h (dJ.replicate h n)
theorem Pext0.lst (H:dO C hp W) (r:dF C W l vs) (t) (n:Nat:=0):∃W',Pext0 C W W'/\dz C W' (.lst l) (.ref W.s.heap.objs.size)/\
  W'.s={ W.s with heap:=W.s.heap.push ⟨.type "list",none,.seq vs.toArray n,#[]⟩,toks:=t }:=by
 have p:=Pext0.qH (W:=W) ⟨.type "list",none,.seq vs.toArray n,#[]⟩ rfl t H.fX
 exact ⟨_,p,.lst (Gm.ew _ _ _) (dF.mono r p.le),rfl⟩
theorem Pext0.tup (H:dO C hp W) (r:dF C W l vs) (t) (n:Nat:=0):∃W',Pext0 C W W'/\dz C W' (.tup l) (.ref W.s.heap.objs.size)/\
  W'.s={ W.s with heap:=W.s.heap.push ⟨.type "tuple",none,.seq vs.toArray n,#[]⟩,toks:=t }:=by
 have p:=Pext0.qH (W:=W) ⟨.type "tuple",none,.seq vs.toArray n,#[]⟩ rfl t H.fX
 exact ⟨_,p,.tup (Gm.ew _ _ _) (dF.mono r p.le),rfl⟩
theorem dP.tok {Q:Value->Shared->Prop} (h:∀a c,Pext0 C W a->dz C a v c->Q c a.s) (r:dz C W v c):Q c { W.s with toks:=t }:=
 h ⟨W.G,W.σ,_⟩ _ (Pext0.toks t) r
theorem g7 (x):∀(n:Nat) (acc:Array Value),List.foldl (λx1 x2=>x1++x2) acc (List.replicate n #[x])=(acc.toList++List.replicate n x).toArray
 | 0,acc=>by simp
 | n+1,acc=>by
  rw[List.replicate_succ,List.foldl_cons,g7 x n]
  simp[List.replicate_succ]
theorem dP.int {Q:Value->Shared->Prop} (h:some (V.int i)=some v) (b:∀a c,Pext0 C W a->dz C a v c->Q c a.s):Q (.int i u) { W.s with toks:=t }:=
 dP.tok b (Option.some.inj h▸.int _ _)
theorem dP.str {Q:Value->Shared->Prop} (h:some (V.str i)=some v) (b:∀a c,Pext0 C W a->dz C a v c->Q c a.s):Q (.str i u) { W.s with toks:=t }:=
 dP.tok b (Option.some.inj h▸.str _ _)
section
variable {op:Operator}{v:V}{x y:Value}{E:Value->Shared->Prop}{Q:Value->Shared->Prop}
theorem OG (i:dY d A) (h:Jk op a b=some v) (f:∀g c,Pext0 C W g->dz C g v c->Q c g.s):wpAny (model C.prog C.w) A (binaryOp op (.int a t) (.int b u)) Q E W.s:=by
 cases op with
 | Add=>exact PyProof.Rows.add_int (dP.int h f)
 | Sub=>exact sub_int (dP.int h f)
 | Mult=>exact dN h λe h=>mul_int (dP.int h f) (IntMulOk.of_le (Nat.le_refl _) (Nat.le_refl _) (Nat.le_trans (of_decide_eq_true e) (by decide)))
 | FloorDiv=>exact eO h λe h=>floordiv_int_or i.1 (λq=>absurd (.inl q) e) (λ_=>dP.int h f) (λ_=>.inl (eq_false_of_ne_true λz=>e (.inr z)))
 | Mod=>exact eO h λe h=>mod_int' (λq=>e (.inl q)) (dP.int h f)
 | Pow=>exact dN h λe h=>pow_int e.1 (Int.le_trans e.2 (by decide)) (dP.int h f)
 | LShift=>exact dN h λe h=>lshift_int_or i.1 (λq=>absurd e.1 (Int.not_le.mpr q)) (λ_=>Int.le_trans e.2 (by decide)) (λ_=>dP.int h f)
 | RShift=>exact dN h λe h=>rshift_int e (dP.int h f)
 | BitAnd=>exact and_int (dP.int h f)
 | BitOr=>exact or_int (dP.int h f)
 | BitXor=>exact xor_int (dP.int h f)
 | _=>exact nS h
theorem OC (h:Jg op a b=some v) (g:∀e c,Pext0 C W e->dz C e v c->Q c e.s):wpAny (model C.prog C.w) A (binaryOp op (.str a t) (.str b u)) Q E W.s:=by
 cases op with
 | Add=>exact dN h λf h=>add_str (λi j=>dP.str h g) (Nat.le_trans (of_decide_eq_true f) (by decide))
 | _=>exact nS h
theorem OD (h:Jh op a n=some v) (f:∀e c,Pext0 C W e->dz C e v c->Q c e.s):wpAny (model C.prog C.w) A (binaryOp op (.str a t) (.int n u)) Q E W.s:=by
 cases op with
 | Mult=>
  refine dN h λb h=>SB.mul ?_ (λg j=>dP.str h f)
  have i:a.cps.size*n.toNat<=65536:=of_decide_eq_true b.2.2
  exact mulOk_of a.cps.size n.toNat (Nat.le_refl _) (by have:=b.1;lia) (by have:=b.2.1;lia) (by lia) (by lia)
 | _=>exact nS h
theorem OE (H:dO C hp W){i g:Addr} (f:iE W i vs) (j:dF C W l vs) (b:iE W g ws) (k:dF C W m ws) (h:Ji op l m=some v) (o:∀a c,Pext0 C W a->dz C a v c->Q c a.s):wpAny (model C.prog C.w) A (binaryOp op (.ref i) (.ref g)) Q E W.s:=by
 cases op with
 | Add=>
  refine dN h λs h=>?_
  obtain ⟨t,f⟩:=f
  obtain ⟨n,b⟩:=b
  have e:vs.toArray++ws.toArray=(vs++ws).toArray:=List.append_toArray ..
  obtain ⟨a,p,r,q⟩:=Pext0.lst H (j.append k) W.s.toks
  refine concat_meets ⟨_,f,rfl⟩ ⟨_,b,rfl⟩ noFill_list_add seq_list_add PySem.F.slot_list_add PySem.F.entry_list_add (PySem.F.args_list_add_2 _ _) (list_addW i g vs.toArray ws.toArray t n none none #[] #[] ?_) ⟨f,b,?_⟩
  ·have:=of_decide_eq_true s
   rw[j.length,k.length] at this
   exact Nat.le_trans this (by decide)
  ·rw[e]
   have:=o a _ p (Option.some.inj h▸r)
   rw[q] at this
   exact this
 | _=>exact nS h
theorem OF (H:dO C hp W){g:Addr} (a:iE W g vs) (n:dF C W l vs) (h:Jj op l j=some v) (o:∀f c,Pext0 C W f->dz C f v c->Q c f.s):wpAny (model C.prog C.w) A (binaryOp op (.ref g) (.int j u)) Q E W.s:=by
 cases op with
 | Mult=>
  cases l with
  | nil=>exact nS h
  | cons w l=>cases l with
   | cons=>exact nS h
   | nil=>
   refine dN h λi h=>?_
   obtain ⟨b,_,rfl,s,t⟩:=n.inv
   cases t.inv
   obtain ⟨k,a⟩:=a
   obtain ⟨f,p,r,B⟩:=Pext0.lst H (dJ.replicate s j.toNat) W.s.toks
   have G:=i.1
   have I:=i.2
   have m:([b].toArray:Array Value).size*j.toNat=j.toNat:=Nat.one_mul _
   refine cC (T:="list") (U:="int") (by decide) ⟨_,a,rfl⟩ (λz=>typeIs_int z _ _) noFill_list_mul PySem.F.fills_int_mul PySem.F.slot_int_rmul repeat_list PySem.F.slot_int_index.lookup
    (a_ PySem.F.slot_int_rmul (typeIs_int _ _ _) PySem.F.entry_int_rmul (PySem.F.args_int_rmul_2 _ _) (cQ j _ g [b].toArray k)
     ⟨a,rfl,⟨_,a,rfl⟩,a_ PySem.F.slot_list_mul ⟨_,a,rfl⟩ PySem.F.entry_list_mul (PySem.F.args_list_mul_2 _ _)
      (bF g [b].toArray k j _ (by simp[bJ];lia) (by rw[m];lia) (by rw[m];simp[bQ,bk];lia))
      ⟨a,?_⟩⟩)
   have e:List.foldl (λD q=>D++q) #[] (List.replicate (if [b].toArray.isEmpty=true then 0 else j.toNat) [b].toArray)=(List.replicate j.toNat b).toArray:=
    g7 b j.toNat #[]
   rw[e]
   have:=o f _ p (Option.some.inj h▸r)
   rw[B] at this
   exact this
 | _=>exact nS h
theorem Tw (p:dY d A) (H:dO C hp W) (f:gn C W x a) (g:gn C W y b) (h:OH op a b=some v) (e:∀n c,Pext0 C W n->dz C n v c->Q c n.s):wpAny (model C.prog C.w) A (binaryOp op x y) Q E W.s:=by
 cases a with
 | int i=>cases b with
  | int j=>obtain ⟨_,rfl⟩:=f;obtain ⟨_,rfl⟩:=g;exact @OG A W _ _ v E Q _ _ _ _ p h e
  | _=>exact nS h
 | str i=>cases b with
  | str j=>obtain ⟨_,rfl⟩:=f;obtain ⟨_,rfl⟩:=g;exact @OC A W _ v E Q _ _ _ _ h e
  | int j=>obtain ⟨_,rfl⟩:=f;obtain ⟨_,rfl⟩:=g;exact @OD A W _ v E Q _ _ _ _ h e
  | _=>exact nS h
 | lst l=>cases b with
  | lst m=>obtain ⟨_,_,rfl,o,k⟩:=f;obtain ⟨_,_,rfl,r,q⟩:=g;exact OE H o k r q h e
  | int j=>obtain ⟨_,_,rfl,o,k⟩:=f;obtain ⟨_,rfl⟩:=g;exact OF H o k h e
  | _=>exact nS h
 | _=>exact nS h
end
theorem BA (e:dY d A) (H:dO C hp W) (g:dz C W a x) (i:dz C W b y) (h:eF hp op a b=some v) :
  dP C A (binaryOp op x y) (λW' c=>dz C W' v c) W:=
 dP.mk λ_ _ f=>Tw e H (f' H g) (f' H i) h f
theorem B' {op:UnaryOp} (e:dz C W a x) (h:HY op a=some v):dP C A (unaryOp op x) (λW' c=>dz C W' v c) W:=by
 refine dP.mk λQ E b=>?_
 cases a with
 | int i=>
  obtain ⟨_,rfl⟩:=e.inv
  cases op with
  | USub=>exact neg_int (dP.int h b)
  | Invert=>exact invert_int (dP.int h b)
  | _=>exact nS h
 | _=>exact nS h
end
end Vm
end
noncomputable section
open PySem PySem.W PyProof.Rows PySem.Calls PySem.Spec PySem.SeqAt
namespace Vm
section
variable {A:Around}{W:Wd}{hp:List O}{d:Nat}
theorem JC {b:Bool}{E:Value->Shared->Prop}{Q:Bool->Shared->Prop} (ha:gn C W x v) (h:vD v=some b) (hQ:∀t,Q b { W.s with toks:=t }):wpAny (model C.prog C.w) A (truthy x) Q E W.s:=by
 cases v with
 | none=>exact ha.symm▸truthy_none (Option.some.inj h▸hQ W.s.toks)
 | bool c=>exact ha.symm▸aG (Option.some.inj h▸hQ W.s.toks)
 | int i=>
  obtain ⟨_,rfl⟩:=ha
  refine PyProof.Rows.truthy_int ?_
  have:b=(i != 0):=(Option.some.inj h).symm.trans (by by_cases q:i=0<;>simp[q])
  exact this▸hQ W.s.toks
 | str s=>
  obtain ⟨_,rfl⟩:=ha
  refine dN h λDm h=>?_
  have h1:s.cps.size<=65536:=of_decide_eq_true Dm
  refine SBL.truthy (by show (s.cps.size:Int) < _;lia) ?_
  have:b=((s.cps.size:Int) != 0):=(Option.some.inj h).symm.trans (by by_cases q:s.cps.size=0<;>simp[q])
  exact this▸hQ _
 | lst l=>
  obtain ⟨a,vs,rfl,L,r⟩:=ha
  refine dN h λZm h=>?_
  have h1:l.length<=65536:=of_decide_eq_true Zm
  have h2:=r.length
  refine wpAny_truthy_list L.is (by simp only[List.size_toArray];lia) ?_
  have:b=!vs.toArray.isEmpty:=(Option.some.inj h).symm.trans (by rw[h2];cases vs<;>simp)
  exact this▸hQ _
 | _=>exact nS h
theorem je (i:dY d A) (H:dO C hp W){b:Bool} (g:dz C W v x) (h:ef hp v=some b) :
  dP C A (truthy x) (λW' c=>c=b) W:=
 dP.mk λ_ _ e=>JC (f' H g) h λt=>e ⟨W.G,W.σ,_⟩ _ (Pext0.toks t) rfl
@[elab_as_elim] theorem vk {G:Bool->Prop} (h:td o p=some r) (k:∀x y,o=some x->p=some y->G (x&&y)):G r:=
 ee h λx e h=>jl h λy c=>k x y e c
theorem KD {f:V->V->Option Bool}{a b:List V} (h:j3 f a b=some r):∃e:Nat->Bool,r=(List.range a.length).all e/\∀(j:Nat) v w,a[j]?=some v->b[j]?=some w->f v w=some (e j):=by
 induction a generalizing b r with
 | nil=>exact dN h λ_ h=>⟨λ_=>true,(Option.some.inj h).symm,λ_ _ _ e=>nS e⟩
 | cons x a l=>cases b with
  | nil=>exact nS h
  | cons y b=>
   refine vk h λp q m i=>?_
   obtain ⟨e,k,o⟩:=l i
   refine ⟨λj=>Nat.casesOn j p e,?_,λj v w=>?_⟩
   ·rw[List.length_cons,List.range_succ_eq_map,List.all_cons,List.all_map,k];rfl
   ·cases j with
    | zero=>exact λc g=>Option.some.inj c▸Option.some.inj g▸m
    | succ j=>exact o j v w
theorem getElem_of_get? {α:Type}{l:List α}{h:j < l.toArray.size}:l[j]?=some (l.toArray[j]):=by
 have:j < l.length:=by simpa using h
 rw[List.getElem?_eq_getElem this];simp
theorem dJ.at {P:Params}{T:Tm}{I:Gm}{σ:List Addr}{l:List V}{vs:List Value}(r:dJ P T I σ l vs) {j:Nat}{c:Value}(h:vs[j]?=some c):∃v,l[j]?=some v/\Rep P T I σ v c:=by
 have k:j < vs.length:=(List.getElem?_eq_some_iff.mp h).1
 have g:j < l.length:=by rw[r.length];exact k
 obtain ⟨m,e,i⟩:=r.get (List.getElem?_eq_getElem g)
 rw[h] at e;(refine Vm.sI e ?_;clear e;rintro rfl)
 exact ⟨_,List.getElem?_eq_getElem g,i⟩
theorem xu {n:Nat}{l m:List V}{vs ws:List Value}{r:Bool}(g:dF C W l vs) (u:dF C W m ws)
  (z:∀(a b:V) (r:Bool) (x y:Value),eQ n a b=some r->dz C W a x->dz C W b y->dg A.in1 W.s x y r)
  (h:j3 (eQ n) l m=some r):∃e:Nat->Bool,r=(List.range vs.toArray.size).all e/\∀j (k:j < vs.toArray.size) (i:j < ws.toArray.size),dg A.in1 W.s vs.toArray[j] ws.toArray[j] (e j):=by
 obtain ⟨e,p,q⟩:=KD h
 refine ⟨e,by rw[p,g.length];simp,λj k i=>?_⟩
 obtain ⟨v,t,s⟩:=g.at (getElem_of_get? (h:=k))
 obtain ⟨w,o,c⟩:=u.at (getElem_of_get? (h:=i))
 exact z v w _ _ _ (q j v w t o) s c
theorem vx:eN (view hp v)=view hp v:=by
 cases v with
 | ref i=>
  unfold view
  dsimp only
  rcases hp[i]? with _ | o
  ·rfl
  ·cases o<;>rfl
 | _=>rfl
theorem kr {α:Type} [DecidableEq α] [BEq α] [LawfulBEq α] (i j:α):decide (i=j)=(i==j):=by
 by_cases q:i=j<;>simp[q]
section
variable {n:Nat}{r:Bool}{x y:Value}{f:V->V->Option Bool}(hu:A.units < cLine)
theorem JV (c:gn C W y b) (h:U5 b=some r):RcAt A W.s .none y r/\cz A W.s .none y (!r):=by
 cases b with
 | none=>obtain rfl:=c;obtain rfl:=Option.some.inj h;exact ⟨.none_none,.none_none⟩
 | str s=>obtain ⟨t,rfl⟩:=c;obtain rfl:=Option.some.inj h;exact ⟨.none_str _ _,.none_str _ _⟩
 | _=>exact nS h
theorem Mo (c:gn C W y b) (h:U4 s b=some r):RcAt A W.s (.str s t) y r/\cz A W.s (.str s t) y (!r):=by
 cases b with
 | str s=>obtain ⟨t,rfl⟩:=c;obtain rfl:=Option.some.inj h;rw[kr];exact ⟨.str_str _ _ _ _,.str_str _ _ _ _⟩
 | none=>obtain rfl:=c;obtain rfl:=Option.some.inj h;exact ⟨.str_none _ _,.str_none _ _⟩
 | _=>exact nS h
theorem JW (c:gn C W y b) (h:eqB s b=some r):RcAt A W.s (.bool s) y r/\cz A W.s (.bool s) y (!r):=by
 cases b with
 | bool s=>obtain rfl:=c;obtain rfl:=Option.some.inj h;exact ⟨.bool_bool _ _,.bool_bool _ _⟩
 | _=>exact nS h
theorem Mq (c:gn C W y b) (h:U6 s b=some r):RcAt A W.s (.int s t) y r/\cz A W.s (.int s t) y (!r):=by
 cases b with
 | int s=>obtain ⟨t,rfl⟩:=c;obtain rfl:=Option.some.inj h;rw[kr];exact ⟨.int_int _ _ _ _,.int_int _ _ _ _⟩
 | _=>exact nS h
include hu
theorem Mn {c:Addr} (o:TupAt W c vs) (g:dF C W l vs) (w:gn C W y b) (t:∀(a b:V) (r:Bool) (x y:Value),eQ n a b=some r->dz C W a x->dz C W b y->dg A.in1 W.s x y r) (h:eqT (eQ n) l b=some r):RcAt A W.s (.ref c) y r/\cz A W.s (.ref c) y (!r):=by
 cases b with
 | tup m=>
  obtain ⟨z,q,rfl,k,j⟩:=w
  refine dN h λv h=>?_
  obtain ⟨e,s,p⟩:=xu g j t h
  have u:vs.toArray.size=q.toArray.size:=by simp only[List.size_toArray];rw[<- g.length,<-j.length,v]
  have:=RcAt.tuples o.is k.is hu p
  have i:=cz.tuples o.is k.is hu p
  rw[<- u,Nat.min_self,<-s] at this i
  simpa using And.intro this i
 | _=>exact nS h
theorem Mp {p:Addr} (i:iE W p vs) (k:dF C W l vs) (v:gn C W y b) (u:∀(a b:V) (r:Bool) (x y:Value),eQ n a b=some r->dz C W a x->dz C W b y->dg A.in1 W.s x y r) (h:N8 (eQ n) l b=some r):RcAt A W.s (.ref p) y r/\cz A W.s (.ref p) y (!r):=by
 cases b with
 | lst m=>
  obtain ⟨w,q,rfl,g,o⟩:=v
  by_cases j:l.length=m.length
  ·obtain ⟨e,t,s⟩:=xu k o u ((if_pos j).symm.trans h)
   have c:vs.toArray.size=q.toArray.size:=by simp only[List.size_toArray];rw[<- k.length,<-o.length,j]
   rw[t]
   exact ⟨RcAt.lists i.is g.is c hu s,cz.lists i.is g.is c hu s⟩
  ·obtain rfl:=Option.some.inj ((if_neg j).symm.trans h)
   have c:(vs.toArray.size != q.toArray.size)=true:=by simp only[List.size_toArray];rw[<- k.length,<-o.length];simpa using j
   exact ⟨RcAt.lists_lengths i.is g.is c hu,cz.lists_lengths i.is g.is c hu⟩
 | _=>exact nS h
theorem Mm (c:gn C W x a) (e:gn C W y b) (k:∀(a b:V) (r:Bool) (x y:Value),eQ n a b=some r->dz C W a x->dz C W b y->dg A.in1 W.s x y r) (h:qj (eQ n) a b=some r):RcAt A W.s x y r/\cz A W.s x y (!r):=by
 cases a with
 | none=>exact c.symm▸JV e h
 | bool s=>exact c.symm▸JW e h
 | int i=>obtain ⟨_,rfl⟩:=c;exact Mq e h
 | str i=>obtain ⟨_,rfl⟩:=c;exact Mo e h
 | tup l=>obtain ⟨_,_,rfl,j,g⟩:=c;exact Mn hu j g e k h
 | lst l=>obtain ⟨_,_,rfl,j,g⟩:=c;exact Mp hu j g e k h
 | _=>exact nS h
end
theorem toArray_inj {α:Type}{a b:List α} (h:a.toArray=b.toArray):a=b:=congrArg Array.toList h
noncomputable def kV:V->Nat
 | .none=>0 | .bool _=>1 | .int _=>2 | .str _=>3 | .tup _=>4 | .lst _=>5
 | _=>9
noncomputable def Nf:Option Obj->Nat
 | some o=>if o.cls==.type "tuple" then 4 else 5
 | none=>5
def kX (I:Gm):Value->Nat
 | .none=>0 | .bool _=>1 | .int _ _=>2 | .str _ _=>3
 | .ref a=>Nf (I a)
 | _=>9
theorem zR {f:V->V->Option Bool} (h:qj f a b=some r):kV a < 9:=by
 cases a with
 | none | bool | int | str | tup | lst=>exact Nat.lt_of_sub_pos (Nat.succ_pos _)
 | _=>exact nS h
section
variable {P:Params}{T:Tm}{I:Gm}{σ:List Addr}{a a' b:V}{x:Value}
theorem IE (r:Rep P T I σ a x) (h:kV a < 9):kX I x=kV a:=by
 cases a with
 | none | bool=>rw[r.inv];rfl
 | int | str=>obtain ⟨_,rfl⟩:=r.inv;rfl
 | tup=>obtain ⟨_,_,_,rfl,e,_⟩:=r.inv;exact (congrArg Nf e).trans rfl
 | lst=>obtain ⟨_,_,_,rfl,e,_⟩:=r.inv;exact (congrArg Nf e).trans rfl
 | _=>exact absurd h (Nat.lt_irrefl 9)
theorem CH {f g:V->V->Option Bool} (h:qj f a b=some r) (c:qj g a' b'=some r') (i:Rep P T I σ a x) (e:Rep P T I σ a' x):kV a=kV a':=(IE i (zR h)).symm.trans (IE e (zR c))
theorem nH (o:∃a vs n,x=.ref a/\I a=some ⟨.type s,none,.seq (List.toArray vs) n,#[]⟩/\dJ P T I σ l vs) (q:∃a vs n,x=.ref a/\I a=some ⟨.type s,none,.seq (List.toArray vs) n,#[]⟩/\dJ P T I σ m vs):∃vs,dJ P T I σ l vs/\dJ P T I σ m vs:=by
 obtain ⟨p,vs,n,rfl,e,r⟩:=o
 obtain ⟨h,i,t,g,k,j⟩:=q
 have g:p=h:=by injection g
 subst g
 have c:=Option.some.inj (e.symm.trans k)
 injection c with _ _ c _
 injection c with c _
 exact ⟨vs,r,toArray_inj c▸j⟩
end
theorem zz {i j:Nat}{G:Prop}(h:i=j) (k:Nat.beq i j=false):G:=absurd h (Nat.ne_of_beq_eq_false k)
theorem xy {f:V->V->Option Bool} (t:∀(a b:V) (r:Bool) (x:Value),f a b=some r->Rep P T I σ a x->Rep P T I σ b x->r=true) (h:j3 f l j=some r) (g:dJ P T I σ l vs) (i:dJ P T I σ j vs):r=true:=by
 induction l generalizing j vs r with
 | nil=>exact dN h λ_ h=>(Option.some.inj h).symm
 | cons a l k=>cases j with
  | nil=>exact nS h
  | cons b j=>
   replace g:=g.inv;obtain ⟨c,z,rfl,v,g⟩:=g
   replace i:=i.inv;obtain ⟨B,w,e,m,i⟩:=i
   injection e with e s
   subst e s
   exact vk h λp q u o=>by rw[t _ _ _ _ u v m,k o g i];rfl
theorem GI {f:V->V->Option Bool} (m:∀(a b:V) (r:Bool) (x:Value),f a b=some r->Rep P T I σ a x->Rep P T I σ b x->r=true){a:V} (h:qj f a b=some r) (c:Rep P T I σ a x) (g:Rep P T I σ b x):r=true:=by
 cases a with
 | none=>cases b with
  | none=>exact (Option.some.inj h).symm
  | str s=>obtain ⟨_,e⟩:=g.inv;exact Value.noConfusion (c.inv.symm.trans e)
  | _=>exact nS h
 | bool s=>cases b with
  | bool k=>
   have e:=c.inv.symm.trans g.inv
   injection e with e
   subst e
   exact (Option.some.inj h).symm.trans (beq_self_eq_true s)
  | _=>exact nS h
 | int s=>cases b with
  | int k=>
   obtain ⟨_,rfl⟩:=c.inv
   obtain ⟨_,e⟩:=g.inv
   injection e with e
   exact (Option.some.inj h).symm.trans (decide_eq_true e)
  | _=>exact nS h
 | str s=>cases b with
  | str k=>
   obtain ⟨_,rfl⟩:=c.inv
   obtain ⟨_,e⟩:=g.inv
   injection e with e
   exact (Option.some.inj h).symm.trans (decide_eq_true e)
  | none=>obtain ⟨_,e⟩:=c.inv;exact Value.noConfusion (g.inv.symm.trans e)
  | _=>exact nS h
 | tup l=>cases b with
  | tup o=>
   obtain ⟨p,i,j⟩:=nH c.inv g.inv
   exact dN h λ_ h=>xy m h i j
  | _=>exact nS h
 | lst l=>cases b with
  | lst o=>
   obtain ⟨p,i,j⟩:=nH c.inv g.inv
   exact xy m ((if_pos (i.length.trans j.length.symm)).symm.trans h) i j
  | _=>exact nS h
 | _=>exact nS h
theorem GJ (n):∀(a b:V) (r:Bool) (x:Value),eQ n a b=some r->Rep P T I σ a x->Rep P T I σ b x->r=true:=by
 induction n with
 | zero=>exact λ_ _ _ _ h=>nS h
 | succ n e=>exact λa b r x h g c=>GI e h g.eN c.eN
theorem W9 (c:gn C W x a) (g:gn C W y b) (m:RcAt A W.s x y r) (u:x=y->r=true) (h:qj (eQ n) a b=some r):dg A W.s x y r:=by
 have j:∀{o k:Addr},x=.ref o->y=.ref k->dg A W.s x y r:=λ{o k} t p=>by
  subst t p
  by_cases q:o=k
  ·subst q
   rw[u rfl]
   exact dg.same _
  ·exact dg.of_refs q m
 cases a with
 | none=>cases b with
  | none=>rw[show x=.none from c,show y=.none from g,<-Option.some.inj h];exact dg.same _
  | str=>obtain ⟨_,e⟩:=g;rw[show x=.none from c,e,<-Option.some.inj h];exact dg.none_str _ _
  | _=>exact nS h
 | bool s=>cases b with
  | bool s=>rw[show x=.bool _ from c,show y=.bool _ from g,<-Option.some.inj h];exact dg.bool_bool _ _
  | _=>exact nS h
 | int s=>cases b with
  | int s=>obtain ⟨_,e⟩:=g;obtain ⟨_,i⟩:=c;rw[e,i,<-Option.some.inj h,kr];exact dg.int_int _ _ _ _
  | _=>exact nS h
 | str s=>cases b with
  | str s=>obtain ⟨_,e⟩:=g;obtain ⟨_,i⟩:=c;rw[e,i,<-Option.some.inj h,kr];exact dg.str_str _ _ _ _
  | none=>obtain ⟨_,e⟩:=c;rw[show y=.none from g,e,<-Option.some.inj h];exact dg.str_none _ _
  | _=>exact nS h
 | tup l=>cases b with
  | tup l=>obtain ⟨_,_,e,_⟩:=c;obtain ⟨_,_,i,_⟩:=g;exact j e i
  | _=>exact nS h
 | lst l=>cases b with
  | lst l=>obtain ⟨_,_,e,_⟩:=c;obtain ⟨_,_,i,_⟩:=g;exact j e i
  | _=>exact nS h
 | _=>exact nS h
theorem xx (H:dO C hp W) (n):∀(A:Around),A.units+n < cLine->∀(a b:V) (r:Bool) (x y:Value),eQ n a b=some r->dz C W a x->dz C W b y->dg A W.s x y r:=by
 induction n with
 | zero=>exact λ_ _ _ _ _ _ _ h=>nS h
 | succ n i=>
  intro A hu a b r x y h g c
  exact W9 (qB H g.eN) (qB H c.eN) (Mm (by lia) (qB H g.eN) (qB H c.eN) (i A.in1 (by show A.units+1+n < _;lia)) h).1 (λe=>GJ (n+1) a b r x h g (e▸c)) h
end
section
structure Kd (prog:Program) (w:World) (K:Type) [DecidableEq K] where
 knd:PySem.KeyKind prog w K
 inj:K->V
 ke:∀a b,fK (inj a) (inj b)=some (decide (a=b))
 fwd:∀{T:Tm}{I:Gm}{σ:List Addr}{x:K}{v:V}{ks vs:List V}{e:ag}{es:List ag},knd.is x e.key=true->e.hash=knd.hash x->Rep w.params T I σ v e.val->eu w.params T I σ ks vs es->eu w.params T I σ (inj x::ks) (v::vs) (e::es)
 bwd:∀{T:Tm}{I:Gm}{σ:List Addr}{x:K}{ks vs:List V}{es:List ag},eu w.params T I σ (inj x::ks) vs es->∃v vs' e mv,vs=v::vs'/\es=e::mv/\knd.is x e.key=true/\e.hash=knd.hash x/\Rep w.params T I σ v e.val/\eu w.params T I σ ks vs' mv
noncomputable def gV (prog:Program) (w:World):Kd prog w Str where
 knd:=PySem.strKind prog w
 inj:=.str
 ke _ _:=rfl
 fwd {T I σ x v ks vs e es} h1 h2 h3 h4:=by
  obtain ⟨h,k,c⟩:=e
  obtain ⟨t,e1⟩:=Value.isStrOf_shape h1
  simp only at e1 h2 h3
  subst e1
  exact .str h2 h3 h4
 bwd {T I σ x ks vs es} h:=by
  cases vs with
  | nil=>exact (nomatch h.i7.1)
  | cons v vs=>exact h.fC.elim λe h=>h.elim λmv h=>⟨v,vs,e,mv,rfl,h.1,h.2.1.1.elim λt k=>by rw[k];exact beq_self_eq_true x,h.2.1.2,h.2.2⟩
noncomputable def nR (prog:Program) (w:World):Kd prog w Int where
 knd:=PySem.intKind prog w
 inj:=.int
 ke _ _:=rfl
 fwd {T I σ x v ks vs e es} h1 h2 h3 h4:=by
  obtain ⟨h,k,c⟩:=e
  obtain ⟨t,e1⟩:=Value.isInt_shape h1
  simp only at e1 h2 h3
  subst e1
  exact .int h2 h3 h4
 bwd {T I σ x ks vs es} h:=by
  cases vs with
  | nil=>exact (nomatch h.i7.1)
  | cons v vs=>exact h.fC.elim λe h=>h.elim λmv h=>⟨v,vs,e,mv,rfl,h.1,h.2.1.1.elim λt k=>by rw[k];exact beq_self_eq_true x,h.2.1.2,h.2.2⟩
section
variable {prog:Program}{w:World}{K:Type} [DecidableEq K] (D:Kd prog w K) {P:Params}{T:Tm}{I:Gm}{σ:List Addr}
theorem eu.split:∀{xs:List K}{vs:List V}{es:List ag},eu w.params T I σ (xs.map D.inj) vs es->
  ∃cs,dJ w.params T I σ vs cs/\xs.length=cs.length/\PySem.Pairs D.knd es (xs.zip cs)/\∀e∈es,∃k,D.knd.is k e.key=true/\e.hash=D.knd.hash k
 | [],vs,es,h=>by
  rw[h.MH.1,h.MH.2]
  exact ⟨[],.nil,rfl,.nil,λ_ h=>nomatch h⟩
 | x::xs,vs,es,h=>by
  obtain ⟨v,m,e,f,l,g,j,o,r,n⟩:=D.bwd h
  obtain ⟨cs,a,b,c,d⟩:=eu.split n
  exact ⟨e.val::cs,l▸.cons r a,congrArg (·+1) b,g▸.cons j rfl c,λi p=>(List.mem_cons.mp (g▸p:i∈e::f)).elim (λq=>q▸⟨x,j,o⟩) (d i)⟩
theorem CU (h:PySem.Pairs D.knd es []):es=[]:=by cases h;rfl
theorem AF (h:PySem.Pairs D.knd es (kv::kvs)):∃e a,es=e::a/\D.knd.is kv.1 e.key=true/\e.val=kv.2/\PySem.Pairs D.knd a kvs:=by
 cases h with | cons c g f=>exact ⟨_,_,rfl,c,g,f⟩
theorem qG (h:dJ P T I σ vs []):vs=[]:=by
 cases vs with
 | nil=>rfl
 | cons v vs=>exact h.inv.elim λc h=>h.elim λa h=>nomatch h.1
theorem tN (h:dJ P T I σ vs (c::cs)):∃v vs',vs=v::vs'/\Rep P T I σ v c/\dJ P T I σ vs' cs:=by
 cases vs with
 | nil=>exact (nomatch h.inv)
 | cons v vs=>exact h.inv.elim λe h=>h.elim λa h=>⟨v,vs,rfl,(List.cons.inj h.1).1▸h.2.1,(List.cons.inj h.1).2▸h.2.2⟩
theorem eu.join:∀{kvs:List (K×Value)}{vs:List V}{es:List ag},PySem.Pairs D.knd es kvs->(∀e∈es,∃k,D.knd.is k e.key=true/\e.hash=D.knd.hash k)->dJ w.params T I σ vs (kvs.map (·.2))->
  eu w.params T I σ ((kvs.map (·.1)).map D.inj) vs es
 | [],_,_,g,_,f=>by rw[CU D g,qG f];exact .nil
 | kv::kvs,_,_,g,c,f=>by
  obtain ⟨e,es,q,h,l,i⟩:=AF D g
  obtain ⟨v,vs,j,m,o⟩:=tN f
  rw[q] at c ⊢
  rw[j]
  obtain ⟨p,a,b⟩:=c e (.head _)
  exact D.fwd h (b.trans (congrArg D.knd.hash (D.knd.inj _ _ _ a h))) (l.symm▸m) (eu.join i (λe n=>c e (.tail _ n)) o)
end
theorem v_ {s:Str} (h:fK (.str s) v=some b):∃k,V.str k=v:=by
 cases v with
 | str y=>exact ⟨y,rfl⟩
 | _=>exact nS h
theorem wa {s:Int} (h:fK (.int s) v=some b):∃k,V.int k=v:=by
 cases v with
 | int y=>exact ⟨y,rfl⟩
 | _=>exact nS h
theorem wb {s:Str} (h:fK v (.str s)=some b):∃k,V.str k=v:=by
 cases v with
 | str y=>exact ⟨y,rfl⟩
 | _=>exact nS h
theorem wc {s:Int} (h:fK v (.int s)=some b):∃k,V.int k=v:=by
 cases v with
 | int y=>exact ⟨y,rfl⟩
 | _=>exact nS h
section
variable {K:Type}{inj:K->V}(sees:∀{s:K}{v:V}{b:Bool},fK (inj s) v=some b->∃k,inj k=v) (seen:∀{s:K}{v:V}{b:Bool},fK v (inj s)=some b->∃k,inj k=v)
include sees
theorem se:∀{ks:List V},(∀b∈ks,fK (inj s) b=some false)->∃xs:List K,xs.map inj=ks
 | [],_=>⟨[],rfl⟩
 | k::ks,h=>(sees (h k (.head _))).elim λy e=>(se λb a=>h b (.tail _ a)).elim λxs c=>⟨y::xs,congr (congrArg List.cons e) c⟩
theorem Ej (h:dZ (inj s::ks)):∃xs:List K,inj s::ks=xs.map inj:=(se sees (List.pairwise_cons.mp h).1).elim λxs e=>⟨s::xs,congrArg _ e.symm⟩
include seen
theorem pT {k:V}{ks:List V}{x:K}{α:Type}{a:α}{f:Bool->Option α}(h:dZ (k::ks)) (e:(fK k (inj x)).bind f=some a):∃xs:List K,k::ks=xs.map inj:=by
 obtain ⟨b,e,_⟩:=Option.bind_eq_some_iff.mp e
 obtain ⟨y,rfl⟩:=seen e
 exact Ej sees h
end
theorem lH (k) (ks) (v) (vs) (x):findKey (k::ks) (v::vs) x=(fK k x).bind λb=>if b=true then some (some v) else findKey ks vs x:=by
 show (match fK k x with | some true=>some (some v) | some false=>findKey ks vs x | none=>none)=_
 cases fK k x with
 | none=>rfl
 | some b=>cases b<;>rfl
theorem mM (k) (ks) (w) (vs) (x v):fW (k::ks) (w::vs) x v=(fK k x).bind λb=>if b=true then some (k::ks,v::vs) else (fW ks vs x v).bind λp=>some (k::p.1,w::p.2):=by
 show (match fK k x with | some true=>some (k::ks,v::vs) | some false=>(match fW ks vs x v with | some (a,b)=>some (k::a,w::b) | none=>none) | none=>none)=_
 cases fK k x with
 | none=>rfl
 | some b=>cases b with
  | true=>rfl
  | false=>
   show (match fW ks vs x v with | some (a,b)=>some (k::a,w::b) | none=>none)=(fW ks vs x v).bind _
   cases fW ks vs x v<;>rfl
theorem dZ.nodup {K:Type} [DecidableEq K] (D:Kd prog w K){xs:List K} (h:dZ (xs.map D.inj)):xs.Nodup:=by
 have:=List.pairwise_map.mp h
 refine this.imp λ{a b} h e=>?_
 subst e
 rw[D.ke] at h
 simp at h
theorem dZ.FD {K:Type} [DecidableEq K] (D:Kd prog w K){xs:List K} (h:xs.Nodup):dZ (xs.map D.inj):=by
 refine List.pairwise_map.mpr (h.imp λ{a b} h=>?_)
 rw[D.ke,decide_eq_false h]
structure TV {K:Type} [DecidableEq K] {prog:Program}{w:World}(D:Kd prog w K) (W:Wd) (a:Addr) (ks vs:List V) (xs:List K) (cs:List Value):Prop where
 ks:ks=xs.map D.inj
 rep:dJ w.params W.G.T W.G.I W.σ vs cs
 dict:W.s.heap.DictOf D.knd a (xs.zip cs)
 len:xs.length=cs.length
variable {A:Around}{W:Wd}{hp:List O}{d:Nat}
theorem j4 {K:Type} [DecidableEq K] (D:Kd C.prog C.w K){xs:List K} (g:DictAt W a es) (c:dZ (xs.map D.inj)) (i:eu C.w.params W.G.T W.G.I W.σ (xs.map D.inj) vs es) :
  ∃cs,TV D W a (xs.map D.inj) vs xs cs:=by
 obtain ⟨n,f⟩:=g
 obtain ⟨cs,p,q,r,t⟩:=eu.split D i
 refine ⟨cs,rfl,p,⟨_,es.toArray,n,f,⟨rfl,rfl,rfl⟩,rfl,λe h=>t e (by simpa using h),by simpa using r,?_⟩,q⟩
 rw[List.map_fst_zip (Nat.le_of_eq q)]
 exact c.nodup D
theorem g8 {prog:Program}{w:World}{K:Type} [DecidableEq K] (D:Kd prog w K) {P:Params}{T:Tm}{I:Gm}{σ:List Addr}{x:K}:∀{xs:List K}{vs:List V}{cs:List Value}{r:Option V},dJ P T I σ vs cs->findKey (xs.map D.inj) vs (D.inj x)=some r->
  (r=none/\PySem.valueAt (xs.zip cs) x=none)\/∃v c,r=some v/\PySem.valueAt (xs.zip cs) x=some c/\Rep P T I σ v c
 | [],[],_,_,a,h=>.inl ⟨(Option.some.inj h).symm,rfl⟩
 | [],_::_,_,_,_,h=>nS h
 | _::_,[],_,_,_,h=>nS h
 | y::xs,v::vs,cs,r,a,h=>by
  obtain ⟨c,cs,rfl,g,f⟩:=a.inv
  rw[List.map_cons,lH,D.ke] at h
  by_cases q:y=x
  ·exact .inr ⟨v,c,(Option.some.inj ((if_pos (decide_eq_true q)).symm.trans h)).symm,by simp[PySem.valueAt,q],g⟩
  ·have e:PySem.valueAt ((y::xs).zip (c::cs)) x=PySem.valueAt (xs.zip cs) x:=by simp[PySem.valueAt,q]
   rw[e]
   exact g8 D f ((if_neg (by rw[decide_eq_false q];exact Bool.false_ne_true)).symm.trans h)
theorem o8 (h:dZ ks) (e:findKey ks vs (.str x)=some r):∃xs:List Str,ks=xs.map V.str:=by
 cases ks with
 | nil=>exact ⟨[],rfl⟩
 | cons k ks=>cases vs with
  | nil=>exact nS e
  | cons v vs=>exact pT v_ wb h ((lH ..).symm.trans e)
theorem lE (h:dZ ks) (e:findKey ks vs (.int x)=some r):∃xs:List Int,ks=xs.map V.int:=by
 cases ks with
 | nil=>exact ⟨[],rfl⟩
 | cons k ks=>cases vs with
  | nil=>exact nS e
  | cons v vs=>exact pT wa wc h ((lH ..).symm.trans e)
theorem yA {K:Type} [DecidableEq K] {y:K}{xs:List K}{c0 c:Value}{cs:List Value}(g:y∉xs):PySem.stored ((y::xs).zip (c0::cs)) y c=(y,c)::xs.zip cs:=by
 unfold PySem.stored
 rw[if_pos (by simp)]
 simp only[List.zip_cons_cons,List.map_cons,if_true]
 congr 1
 refine (List.map_congr_left λf e=>?_).trans (List.map_id _)
 rw[if_neg (λz=>g (by rw[<- z];exact (List.of_mem_zip (a:=f.1) (b:=f.2) e).1))];rfl
theorem vV {K:Type} [DecidableEq K] {x y:K}{xs:List K}{c0 c:Value}{cs:List Value}(q:¬y=x):PySem.stored ((y::xs).zip (c0::cs)) x c=(y,c0)::PySem.stored (xs.zip cs) x c:=by
 unfold PySem.stored
 simp only[List.zip_cons_cons,List.any_cons,q,decide_false,Bool.false_or,List.map_cons,if_false]
 split<;>simp
theorem oG {prog:Program}{w:World}{K:Type} [DecidableEq K] (D:Kd prog w K) {P:Params}{T:Tm}{I:Gm}{σ:List Addr}{x:K}{v:V}{c:Value}(l:Rep P T I σ v c):∀{xs:List K}{vs:List V}{cs:List Value}{a vs':List V},xs.Nodup->xs.length=cs.length->dJ P T I σ vs cs->fW (xs.map D.inj) vs (D.inj x) v=some (a,vs')->
  a=((PySem.stored (xs.zip cs) x c).map (·.1)).map D.inj/\dJ P T I σ vs' ((PySem.stored (xs.zip cs) x c).map (·.2))
 | [],[],_,_,_,_,n,i,h=>by
  obtain ⟨rfl,rfl⟩:=af (Option.some.inj h)
  rw[i.inv]
  exact ⟨rfl,.cons l .nil⟩
 | [],_::_,_,_,_,_,_,_,h=>nS h
 | _::_,[],_,_,_,_,_,_,h=>nS h
 | y::xs,u::vs,cs,a,vs',g,n,i,h=>by
  obtain ⟨B,cs,rfl,r,m⟩:=i.inv
  rw[List.map_cons,mM,D.ke] at h
  have g:=List.nodup_cons.mp g
  have e:xs.length=cs.length:=Nat.succ.inj n
  by_cases q:y=x
  ·obtain ⟨j,f⟩:=af (Option.some.inj ((if_pos (decide_eq_true q)).symm.trans h))
   rw[<- q,yA g.1,<-j,<-f]
   refine ⟨?_,?_⟩
   ·rw[List.map_cons,List.map_fst_zip (Nat.le_of_eq e)];rfl
   ·rw[List.map_cons,List.map_snd_zip (Nat.le_of_eq e.symm)];exact .cons l m
  ·obtain ⟨p,j,f⟩:=Option.bind_eq_some_iff.mp ((if_neg (by rw[decide_eq_false q];exact Bool.false_ne_true)).symm.trans h)
   obtain ⟨o,z⟩:=oG D l g.2 e m (j:_=some (p.1,p.2))
   obtain ⟨f,t⟩:=af (Option.some.inj f)
   rw[vV q,<-f,<-t,List.map_cons,List.map_cons,List.map_cons,<-o]
   exact ⟨rfl,.cons r z⟩
theorem yB (h:dZ ks) (e:fW ks vs (.str x) v=some (jy,vs')):∃xs:List Str,ks=xs.map V.str:=by
 cases ks with
 | nil=>exact ⟨[],rfl⟩
 | cons k ks=>cases vs with
  | nil=>exact nS e
  | cons w vs=>exact pT v_ wb h ((mM ..).symm.trans e)
theorem yC (h:dZ ks) (e:fW ks vs (.int x) v=some (jy,vs')):∃xs:List Int,ks=xs.map V.int:=by
 cases ks with
 | nil=>exact ⟨[],rfl⟩
 | cons k ks=>cases vs with
  | nil=>exact nS e
  | cons w vs=>exact pT wa wc h ((mM ..).symm.trans e)
theorem lK {K:Type} [DecidableEq K] (D:Kd C.prog C.w K) {h:Heap}{a:Addr}{kvs:List (K×Value)}{T:Tm}{I:Gm}{σ:List Addr}{vs:List V}(q:h.DictOf D.knd a kvs) (r:dJ C.w.params T I σ vs (kvs.map (·.2))) :
  ∃es n,h.get? a=some ⟨.type "dict",none,.dict (List.toArray es) n,#[]⟩/\dZ ((kvs.map (·.1)).map D.inj)/\eu C.w.params T I σ ((kvs.map (·.1)).map D.inj) vs es:=by
 obtain ⟨⟨o,u,j,x⟩,es,n,l,⟨g,f,i⟩,c,p,hp,t⟩:=q
 simp only at g f i c
 subst g f i c
 exact ⟨es.toList,n,by simpa using l,.FD D t,eu.join D hp (λe m=>p e (by simpa using m)) r⟩
end
section
variable {A:Around}{W:Wd}{hp:List O}{d:Nat}
theorem zS {f:V->V->Option Bool}{P:Params} (G:∀(a n b:V) (r j:Bool) (x:Value),f a b=some r->f n b=some j->Rep P T I σ a x->Rep P T I σ n x->r=j){r:Bool} (h:j3 f l m=some r) (u:j3 f k m=some j) (i:dJ P T I σ l vs) (g:dJ P T I σ k vs):r=j:=by
 induction l generalizing k m vs r j with
 | nil=>
  obtain rfl:=i.inv
  cases k with
  | nil=>exact Option.some.inj (h.symm.trans u)
  | cons=>obtain ⟨_,_,e,_⟩:=g.inv;exact Wx e
 | cons a l o=>
  replace i:=i.inv;obtain ⟨c,L,rfl,B,i⟩:=i
  cases k with
  | nil=>exact I9 g.inv
  | cons n k=>cases m with
   | nil=>exact nS h
   | cons b m=>
    replace g:=g.inv;obtain ⟨N,H,e,v,g⟩:=g
    injection e with e D
    subst e D
    exact vk h λp q z w=>vk u λJ M t s=>by rw[G _ _ _ _ _ _ z t B v,o w s i g]
theorem Ys (h:0=kV a):a=.none:=by cases a with | none=>rfl | _=>exact zz h rfl
theorem Yr (h:1=kV a):∃b,a=.bool b:=by cases a with | bool b=>exact ⟨b,rfl⟩ | _=>exact zz h rfl
theorem Yq (h:2=kV a):∃b,a=.int b:=by cases a with | int b=>exact ⟨b,rfl⟩ | _=>exact zz h rfl
theorem Yp (h:3=kV a):∃b,a=.str b:=by cases a with | str b=>exact ⟨b,rfl⟩ | _=>exact zz h rfl
theorem Yo (h:4=kV a):∃b,a=.tup b:=by cases a with | tup b=>exact ⟨b,rfl⟩ | _=>exact zz h rfl
theorem Yn (h:5=kV a):∃b,a=.lst b:=by cases a with | lst b=>exact ⟨b,rfl⟩ | _=>exact zz h rfl
theorem Kz {f:V->V->Option Bool}{P:Params} (v:∀(a a' b:V) (r p:Bool) (x:Value),f a b=some r->f a' b=some p->Rep P T I σ a x->Rep P T I σ a' x->r=p){a:V}{r:Bool} (h:qj f a b=some r) (c:qj f a' b=some p) (i:Rep P T I σ a x) (g:Rep P T I σ a' x):r=p:=by
 have k:=CH h c i g
 cases a with
 | none=>exact Option.some.inj (h.symm.trans (Ys k▸c))
 | bool s=>
  obtain ⟨n,q⟩:=Yr k
  rw[q] at c g
  have e:s=n:=Value.bool.inj (i.inv.symm.trans g.inv)
  exact Option.some.inj (h.symm.trans (e▸c))
 | int s=>
  obtain ⟨n,q⟩:=Yq k
  rw[q] at c g
  obtain ⟨_,t⟩:=i.inv
  obtain ⟨_,u⟩:=g.inv
  have e:s=n:=(Value.int.inj (t.symm.trans u)).1
  exact Option.some.inj (h.symm.trans (e▸c))
 | str s=>
  obtain ⟨n,q⟩:=Yp k
  rw[q] at c g
  obtain ⟨_,t⟩:=i.inv
  obtain ⟨_,u⟩:=g.inv
  have e:s=n:=(Value.str.inj (t.symm.trans u)).1
  exact Option.some.inj (h.symm.trans (e▸c))
 | tup l=>
  obtain ⟨w,q⟩:=Yo k
  rw[q] at c g
  obtain ⟨B,j,o⟩:=nH i.inv g.inv
  cases b with
  | tup m=>exact dN h λ_ h=>dN c λ_ c=>zS v h c j o
  | _=>exact nS h
 | lst l=>
  obtain ⟨w,q⟩:=Yn k
  rw[q] at c g
  obtain ⟨B,j,o⟩:=nH i.inv g.inv
  cases b with
  | lst m=>
   by_cases q:l.length=m.length
   ·exact zS v ((if_pos q).symm.trans h) ((if_pos ((o.length.trans j.length.symm).trans q)).symm.trans c) j o
   ·exact Option.some.inj (((if_neg q).symm.trans h).symm.trans ((if_neg λz=>q ((j.length.trans o.length.symm).trans z)).symm.trans c))
  | _=>exact nS h
 | _=>exact nS h
theorem KC {P:Params} (n):∀(a a' b:V) (r c:Bool) (x:Value),eQ n a b=some r->eQ n a' b=some c->Rep P T I σ a x->Rep P T I σ a' x->r=c:=by
 induction n with
 | zero=>exact λ_ _ _ _ _ _ h=>nS h
 | succ n i=>exact λa a' b r c x h g f e=>Kz i h g f.eN e.eN
open Classical in
def mn (C:Ctx) (W:Wd) (l:List V) (x:V) (y:Value):Bool:=decide (∃v,v∈l/\dz C W v y/\eQ 8 v x=some true)
open Classical in
theorem w0 {x:V} (b:v∈l) (a:dz C W v y) (h:eQ 8 v x=some r):mn C W l x y=r:=by
 unfold mn
 cases r with
 | true=>exact decide_eq_true ⟨v,b,a,h⟩
 | false=>
  refine decide_eq_false ?_
  rintro ⟨f,g,e,c⟩
  exact Bool.noConfusion (KC 8 _ _ _ _ _ _ h c a e)
theorem Np {x:V} (h:zC x l=some r):(∀v∈l,∃q,eQ 8 v x=some q)/\r=l.any (λv=>(eQ 8 v x).getD false):=by
 induction l generalizing r with
 | nil=>exact ⟨λ_ h=>absurd h List.not_mem_nil,(Option.some.inj h).symm⟩
 | cons y l f=>
  refine ee h λa c h=>jl h λb e=>?_
  obtain ⟨p,q⟩:=f e
  refine ⟨λv hv=>?_,?_⟩
  ·rcases List.mem_cons.mp hv with rfl | hv
   ·exact ⟨a,c⟩
   ·exact p v hv
  ·rw[List.any_cons,c,q];rfl
theorem qI {x:V} (r:dF C W l vs) (f:∀v∈l,v∈l0/\∃q,eQ 8 v x=some q) :
  (∀y∈vs,∃v∈l,dz C W v y)/\vs.any (mn C W l0 x)=l.any (λv=>(eQ 8 v x).getD false)/\vs.countP (mn C W l0 x)=l.countP (λv=>(eQ 8 v x).getD false):=by
 induction l generalizing vs with
 | nil=>exact r.i7 ⟨λ_ h=>absurd h List.not_mem_nil,rfl,rfl⟩
 | cons v l c=>
  replace r:=r.inv;obtain ⟨_,_,rfl,a,r⟩:=r
  replace c:=c r
  obtain ⟨k,n,i⟩:=c λv o=>f v (.tail _ o)
  obtain ⟨m,q,b⟩:=f v (.head _)
  have e:=w0 m a b
  refine ⟨λy hy=>?_,?_,?_⟩
  ·rcases List.mem_cons.mp hy with rfl | hy
   ·exact ⟨v,.head _,a⟩
   ·obtain ⟨u,j,g⟩:=k y hy;exact ⟨u,.tail _ j,g⟩
  ·rw[List.any_cons,List.any_cons,n,e,b];rfl
  ·rw[List.countP_cons,List.countP_cons,i,e,b];rfl
theorem zG (H:dO C hp W){A:Around} (h:A.units+8 < cLine){x:V} (r:dF C W l vs) (g:dz C W x c) (e:∀v∈l,∃q,eQ 8 v x=some q) :
  ∀y,y∈vs.toArray->dg A W.s y c (mn C W l x y):=λy i=>by
 obtain ⟨v,a,b⟩:=(qI (l0:=l) r λv a=>⟨a,e v a⟩).1 y (by simpa using i)
 obtain ⟨q,f⟩:=e v a
 rw[w0 a b f]
 exact xx H 8 A h _ _ _ _ _ f b g
theorem lL (H:dO C hp W) (r:dz C W v (.ref a)) (h:view hp v=.dE ks vs):(a==aK)=false:=by
 refine beq_eq_false_iff_ne.mpr λe=>?_
 obtain ⟨f,i,g,_⟩:=H.tab _ C.sys
 cases v with
 | dE=>
  obtain ⟨_,_,_,b,c,_⟩:=r.inv
  injection b with b
  rw[<- b,e,f] at c;exact nS c
 | ref=>
  obtain ⟨_,b,c⟩:=r.inv
  injection b with b
  exact g (e▸b▸List.mem_of_getElem? c)
 | _=>exact V.noConfusion h
theorem GL (h:rW (k::ks) (v::vs) jy us=some r) :
  (findKey jy us k=some none/\r=false)\/∃c p q,findKey jy us k=some (some c)/\eQ 8 v c=some p/\rW ks vs jy us=some q/\r=(p&&q):=by
 have g:∀(o i:Option Bool),(match o,i with | some a,some b=>some (a&&b) | _,_=>none)=some r->∃p q,o=some p/\i=some q/\r=(p&&q):=by
  intro o i h
  cases o with
  | none=>exact nS h
  | some p=>cases i with
   | none=>exact nS h
   | some q=>exact ⟨p,q,rfl,rfl,(Option.some.inj h).symm⟩
 have j:∀f:Option (Option V),(match f with | some (some c)=>(match eQ 8 v c,rW ks vs jy us with | some a,some b=>some (a&&b) | _,_=>none) | some none=>some false | none=>none)=some r->
   (f=some none/\r=false)\/∃c p q,f=some (some c)/\eQ 8 v c=some p/\rW ks vs jy us=some q/\r=(p&&q):=by
  intro f h
  cases f with
  | none=>exact nS h
  | some f=>cases f with
   | none=>exact .inl ⟨rfl,(Option.some.inj h).symm⟩
   | some c=>
    obtain ⟨p,q,e⟩:=g _ _ h
    exact .inr ⟨c,p,q,rfl,e⟩
 exact j _ h
theorem GK (H:dO C hp W){A:Around} (l:A.units+8 < cLine){xs k:List Str}:∀{vs i:List V}{r:Bool},dF C W vs cs->dF C W i ds->xs.length=cs.length->rW (xs.map V.str) vs (k.map V.str) i=some r->
  KeqHits A W.s (k.zip ds) (xs.zip cs) r:=by
 induction xs generalizing cs with
 | nil=>
  intro vs i r b f g h
  cases cs with
  | nil=>obtain rfl:=qG b;obtain rfl:=Option.some.inj h;exact .nil
  | cons=>cases g
 | cons x xs u=>
  intro vs i r b f g h
  cases vs with
  | nil=>exact nS h
  | cons v vs=>
   obtain ⟨c,w,q,a,b⟩:=b.inv
   rw[q] at g ⊢
   rcases GL h with ⟨j,e⟩ | ⟨z,p,q,j,n,o,e⟩
   ·rw[e]
    rcases g8 (gV C.prog C.w) f j with ⟨_,e⟩ | ⟨_,_,e,_⟩
    ·exact .miss e
    ·exact Vm.nS e
   ·rw[e]
    rcases g8 (gV C.prog C.w) f j with ⟨e,_⟩ | ⟨m,c,e,s,t⟩
    ·exact Vm.sN e
    ·exact .hit s (xx H 8 A l _ _ _ _ _ n a (Option.some.inj e▸t)) (u b f (Nat.succ.inj g) o)
theorem strs_of_all {ks:List V} (h:ks.all gh=true):∃xs:List Str,ks=xs.map V.str:=by
 induction ks with
 | nil=>exact ⟨[],rfl⟩
 | cons k ks a=>
  rw[List.all_cons,Bool.and_eq_true] at h
  obtain ⟨xs,e⟩:=a h.2
  cases k with
  | str x=>exact ⟨x::xs,by rw[e];rfl⟩
  | _=>cases h.1
def RC (C:Ctx) (A:Around) (W:Wd) (op a:b9) (x y:Value) (r:Bool):Prop:=
 (∀{E:Value->Shared->Prop}{Q:Value->Shared->Prop},Q (.bool r) W.s->wpAny (model C.prog C.w) A (compareOp op x y) Q E W.s)/\
 (∀{E:Value->Shared->Prop}{Q:Value->Shared->Prop},Q (.bool (!r)) W.s->wpAny (model C.prog C.w) A (compareOp a x y) Q E W.s)
theorem GV (N:dY d A) (H:dO C hp W) (G:dz C W a x) (I:dz C W b y) (p:view hp a=.dE ks vs) (t:view hp b=.dE jy vs') (h:Bk ks vs jy vs'=some r) :
  RC C A W .Eq .NotEq x y r:=by
 refine dN h λD h=>?_
 obtain ⟨c,ex⟩:=strs_of_all D.1
 obtain ⟨f,J⟩:=strs_of_all D.2
 rw[ex] at p h
 rw[J] at t h
 obtain ⟨a1,es,rfl,D1,k1,Y⟩:=i6 H G p
 obtain ⟨T,mv,rfl,D2,L,M⟩:=i6 H I t
 obtain ⟨m,j⟩:=j4 (gV C.prog C.w) D1 k1 Y
 obtain ⟨o,n⟩:=j4 (gV C.prog C.w) D2 L M
 have hu:=N.2.2
 have s:(c.zip m).length=c.length:=by rw[List.length_zip,j.len,Nat.min_self]
 have v:(f.zip o).length=f.length:=by rw[List.length_zip,n.len,Nat.min_self]
 have w:=lL H G p
 have B:=lL H I t
 have k:A.units < cLine:=by show A.units < 9900;lia
 have i:∀g,(c.length=f.length->rW (c.map V.str) vs (f.map V.str) vs'=some g)->(c.zip m).length=(f.zip o).length->KeqHits A.in1 W.s (f.zip o) (c.zip m) g:=λg U e=>
  GK H (by show A.units+1+8 < 9900;lia) j.rep n.rep j.len (U (by rw[<- s,<-v,e]))
 have l:∀g,(c.length=f.length->rW (c.map V.str) vs (f.map V.str) vs'=some g)->((c.zip m).length==(f.zip o).length&&g)=r->RC C A W .Eq .NotEq (.ref a1) (.ref T) r:=λg h e=>
  ⟨λu=>keq_eq w B j.dict n.dict k (i g h) (by rw[e];exact u),λu=>keq_ne w B j.dict n.dict k (i g h) (by rw[e];exact u)⟩
 simp only[List.length_map] at h
 by_cases q:c.length=f.length
 ·exact l r (λ_=>(if_pos q).symm.trans h) (by rw[s,v,q];simp)
 ·exact l true (λz=>absurd z q) (by rw[s,v,<-Option.some.inj ((if_neg q).symm.trans h)];simpa using q)
theorem SE (e:dY d A) (H:dO C hp W) (g:dz C W a x) (f:dz C W b y) (h:eQ 8 (view hp a) (view hp b)=some r) :
  RC C A W .Eq .NotEq x y r:=by
 have i:=e.2.2
 have:=Mm (A:=A) (by show A.units < 9900;lia) (f' H g) (f' H f) (xx H 7 A.in1 (by show A.units+1+7 < 9900;lia)) ((congr (congrArg (qj (eQ 7)) vx) vx).symm.trans h)
 exact ⟨λc=>this.1 _ _ _ _ c,λc=>this.2 _ _ _ _ c⟩
theorem R9 (n:dY d A) (H:dO C hp W) (q:dz C W a x) (s:dz C W b y) (e:view hp b=.lst l) (h:zC a l=some r) :
  RC C A W .In .NotIn x y r:=by
 obtain ⟨t,o,rfl,k,g⟩:=jC H s e
 obtain ⟨m,p⟩:=Np h
 have u:=n.2.2
 have j:=zG (A:=A.in1) H (by show A.units+1+8 < 9900;lia) g q m
 have i:o.toArray.any (mn C W l a)=r:=by
  rw[p,<-(qI (l0:=l) g λv f=>⟨f,m v f⟩).2.1];simp
 exact ⟨λc=>in_listAt _ k.is j (by rw[i];exact c),λc=>notIn_listAt _ k.is j (by rw[i];exact c)⟩
theorem mP {o:Option Bool} (h:o.map not=some b):o=some (!b):=jl h λx e=>e.trans (by rw[Bool.not_not])
theorem bool_beq (a b):(Value.bool a==Value.bool b)=(a==b):=by cases a<;>cases b<;>rfl
section
variable {r:Bool}{x y:Value}{E:Value->Shared->Prop}{Q:Value->Shared->Prop}
theorem DX (f:dY d A) (H:dO C hp W) (g:dz C W a x) (j:dz C W b y) (h:Bs (view hp a) (view hp b)=some r) :
  RC C A W .Eq .NotEq x y r:=by
 have i:=SE f H (r:=r) g j
 cases c:view hp a with
 | dE m n=>
  rw[c] at h
  cases e:view hp b with
  | dE l k=>rw[e] at h;exact GV f H g j c e h
  | _=>rw[e] at h;exact nS h
 | _=>rw[c] at h i;exact i h
theorem Ni (f:gn C W x a) (c:gn C W y b) (h:Nj a b=some r):plainIs x y=true/\(x==y)=r:=by
 cases a with
 | none=>cases b with
  | none=>rw[show x=.none from f,show y=.none from c,<-Option.some.inj h];exact ⟨rfl,rfl⟩
  | _=>exact nS h
 | str=>cases b with
  | none=>obtain ⟨_,e⟩:=f;rw[e,show y=.none from c,<-Option.some.inj h];exact ⟨rfl,rfl⟩
  | _=>exact nS h
 | int=>cases b with
  | none=>obtain ⟨_,e⟩:=f;rw[e,show y=.none from c,<-Option.some.inj h];exact ⟨rfl,rfl⟩
  | _=>exact nS h
 | bool=>cases b with
  | bool=>rw[show x=.bool _ from f,show y=.bool _ from c,<-Option.some.inj h];exact ⟨rfl,bool_beq _ _⟩
  | _=>exact nS h
 | _=>exact nS h
theorem A7 {f:Int->Int->Bool} (g:gn C W x a) (k:gn C W y b) (h:Dk f a b=some r):∃i j t u,x=.int i t/\y=.int j u/\f i j=r:=by
 cases a with
 | int i=>cases b with
  | int j=>obtain ⟨_,e⟩:=g;obtain ⟨_,c⟩:=k;exact ⟨i,j,_,_,e,c,Option.some.inj h⟩
  | _=>exact nS h
 | _=>exact nS h
def Ve (C:Ctx) (A:Around) (W:Wd) (x y:Value) (r:Bool):Prop:=
  (∀{E:Value->Shared->Prop}{Q:Value->Shared->Prop},(∀t,Q (.bool r) { W.s with toks:=t })->wpAny (model C.prog C.w) A (compareOp .In x y) Q E W.s)/\
  (∀{E:Value->Shared->Prop}{Q:Value->Shared->Prop},(∀t,Q (.bool (!r)) { W.s with toks:=t })->wpAny (model C.prog C.w) A (compareOp .NotIn x y) Q E W.s)
theorem Nq (H:dO C hp W) (B:gn C W x a) (l:dz C W b y) (g:view hp b=.dE ks vs) (h:inD ks vs a=some r) :
  Ve C A W x y r:=by
 cases a with
 | int i=>
  obtain ⟨_,rfl⟩:=B
  refine jl h λq n=>?_
  obtain ⟨D,w,rfl,z,m,p⟩:=i6 H l g
  obtain ⟨t,rfl⟩:=lE m n
  obtain ⟨s,f⟩:=j4 (nR C.prog C.w) z m p
  have o:(PySem.valueAt (t.zip s) i).isSome=q.isSome:=by
   rcases g8 (nR C.prog C.w) f.rep n with ⟨e,e3⟩ | ⟨v,c,e,e3,_⟩<;>rw[e3,e]<;>rfl
  have u:=congrArg not o
  exact ⟨λj=>wpAny_in_of (k:=i) (knd:=(nR C.prog C.w).knd) (beq_self_eq_true i) (lL H l g) f.dict.mapOf (o▸j _),
   λj=>wpAny_notIn_of (k:=i) (knd:=(nR C.prog C.w).knd) (beq_self_eq_true i) (lL H l g) f.dict.mapOf (u▸j _)⟩
 | _=>exact nS h
theorem Nl (i:dY d A) (H:dO C hp W) (f:dz C W a x) (g:dz C W b y) (h:Nn a (view hp a) (view hp b)=some r) :
  Ve C A W x y r:=by
 cases c:view hp b with
 | lst l=>
  rw[c] at h
  have:=R9 i H f g c h
  exact ⟨λe=>this.1 (e W.s.toks),λe=>this.2 (e W.s.toks)⟩
 | dE j k=>rw[c] at h;exact Nq H (f' H f) g c h
 | _=>rw[c] at h;exact nS h
theorem WK (k:dY d A) (H:dO C hp W) (g:dz C W a x) (j:dz C W b y) (h:Uy a (view hp a) (view hp b)=some r) (f:∀t,Q (.bool r) { W.s with toks:=t }):wpAny (model C.prog C.w) A (compareOp .In x y) Q E W.s:=by
 have i:=Nl k H (r:=r) g j
 cases e:view hp b with
 | str s=>
  obtain ⟨_,rfl⟩:=pN H j e
  rw[e] at h
  cases c:view hp a with
  | str l=>
   rw[c] at h
   obtain ⟨_,rfl⟩:=pN H g c
   obtain rfl:=Option.some.inj h
   exact in_str (f W.s.toks)
  | _=>rw[c] at h;exact nS h
 | _=>rw[e] at h i;exact (i h).1 f
theorem SN (k:dY d A) (H:dO C hp W) (c:dz C W a x) (f:dz C W b y) (h:xP op a (view hp a) (view hp b)=some r) (l:∀t,Q (.bool r) { W.s with toks:=t }):wpAny (model C.prog C.w) A (compareOp op x y) Q E W.s:=by
 have g:Q (.bool r) W.s:=l W.s.toks
 cases op with
 | Eq=>exact (DX k H c f h).1 g
 | NotEq=>exact (DX k H c f (mP h)).2 ((Bool.not_not r).symm▸g)
 | Lt=>obtain ⟨i,j,t,u,rfl,rfl,e⟩:=A7 (f' H c) (f' H f) h;exact lt_int (e.symm▸g)
 | LtE=>obtain ⟨i,j,t,u,rfl,rfl,e⟩:=A7 (f' H c) (f' H f) h;exact le_int (e.symm▸g)
 | Gt=>obtain ⟨i,j,t,u,rfl,rfl,e⟩:=A7 (f' H c) (f' H f) h;exact gt_int (e.symm▸g)
 | GtE=>obtain ⟨i,j,t,u,rfl,rfl,e⟩:=A7 (f' H c) (f' H f) h;exact ge_int (e.symm▸g)
 | Is=>obtain ⟨m,n⟩:=Ni (f' H c) (f' H f) h;exact wpAny_is_plain m (n.symm▸g)
 | IsNot=>obtain ⟨m,n⟩:=Ni (f' H c) (f' H f) (mP h);exact wpAny_isNot_plain m (by rw[n,Bool.not_not];exact g)
 | In=>exact WK k H c f h l
 | NotIn=>exact (Nl k H c f (mP h)).2 λt=>(Bool.not_not r).symm▸l t
end
theorem iK (e:dY d A) (H:dO C hp W) (g:dz C W a x) (i:dz C W b y) (h:fy hp op a b=some r) :
  dP C A (compareOp op x y) (λW' c=>c=.bool r) W:=
 dP.mk λ_ _ f=>SN e H g i h λt=>f ⟨W.G,W.σ,_⟩ _ (Pext0.toks t) rfl
end
section
variable {A:Around}{W:Wd}{hp:List O}{d:Nat}
theorem oK (h:place i n=some j):seqIndex? i n=some j/\j < n/\((0<=i/\j=i.toNat)\/(i < 0/\-(n:Int)<=i/\j=(i+n).toNat)):=by
 refine dN h λa h=>?_
 obtain rfl:=Option.some.inj h
 by_cases q:i < 0
 ·simp only[q,if_true] at a ⊢
  exact ⟨PySem.seqIndex_neg q (by lia),by lia,.inr ⟨trivial,by lia,trivial⟩⟩
 ·simp only[q,if_false] at a ⊢
  refine ⟨?_,by lia,.inl ⟨a.1,trivial⟩⟩
  unfold seqIndex?
  simp only[q,if_false]
  rw[if_pos (by simp only[Bool.and_eq_true,decide_eq_true_eq];lia)]
theorem dictGet (H:dO C hp W){K:Type} [DecidableEq K] (D:Kd C.prog C.w K){x:K} (hk:D.knd.is x key=true) (r:dz C W v c) (e:view hp v=.dE ks vs) (hs:∃xs:List K,ks=xs.map D.inj) (h:findKey ks vs (D.inj x)=some (some w)) :
  dP C A (getItem c key) (λW' c=>dz C W' w c) W:=by
 refine dP.mk λQ E hQ=>?_
 obtain ⟨a2,mv,rfl,D2,k2,n2⟩:=i6 H r e
 obtain ⟨xs,rfl⟩:=hs
 obtain ⟨cs,d1⟩:=j4 D D2 k2 n2
 rcases g8 D d1.rep h with ⟨e,e3⟩ | ⟨v,c,e,e3,r3⟩
 ·exact Vm.sN e
 ·(refine Vm.sI e ?_;clear e;rintro rfl)
  exact wpAny_getItem_of hk d1.dict.mapOf e3 (hQ ⟨W.G,W.σ,_⟩ _ (Pext0.toks _) r3)
section
variable {v:V}{x y:Value}{E:Value->Shared->Prop}{Q:Value->Shared->Prop}
theorem Sb (L:iE W a vs) (r:dF C W l vs) (m:gn C W y i) (h:A8 l i=some v) (e:∀c,dz C W v c->Q c W.s):wpAny (model C.prog C.w) A (getItem (.ref a) y) Q E W.s:=by
 cases i with
 | int j=>
  obtain ⟨_,rfl⟩:=m
  refine dN h λg h=>ee h λp o n=>?_
  replace g:l.length<=65536:=of_decide_eq_true g
  obtain ⟨B,w,t⟩:=oK o
  obtain ⟨c,f,k⟩:=r.get n
  have s:=r.length
  rcases t with ⟨b,rfl⟩ | ⟨b,u,rfl⟩
  ·exact wpAny_getItem_list L.is b (by lia) (by simpa using f) (e _ k)
  ·exact wpAny_getItem_list_neg L.is b (by simp only[List.size_toArray];lia) (by lia) (by simp only[List.size_toArray];rw[<- s];simpa using f) (e _ k)
 | _=>exact nS h
theorem R' (L:TupAt W a vs) (r:dF C W l vs) (e:gn C W y i) (h:A8 l i=some v) (g:∀c,dz C W v c->Q c W.s):wpAny (model C.prog C.w) A (getItem (.ref a) y) Q E W.s:=by
 cases i with
 | int j=>
  obtain ⟨_,rfl⟩:=e
  refine dN h λb h=>ee h λp m f=>?_
  replace b:l.length<=65536:=of_decide_eq_true b
  obtain ⟨o,u,t⟩:=oK m
  obtain ⟨c,k,n⟩:=r.get f
  have s:=r.length
  exact getItem_tuple (j:=p) L.is (by lia) (by lia) (by simp only[List.size_toArray];rw[<- s];exact o) (by simpa using k) (g _ n)
 | _=>exact nS h
theorem Sa (b:gn C W y i) (h:Nr s i=some v) (f:∀c t,dz C W v c->Q c { W.s with toks:=t }):wpAny (model C.prog C.w) A (getItem (.str s t) y) Q E W.s:=by
 cases i with
 | int j=>
  obtain ⟨_,rfl⟩:=b
  refine dN h λa h=>ee h λp k e=>?_
  replace a:s.cps.size<=65536:=of_decide_eq_true a
  obtain ⟨c,g,l⟩:=Option.map_eq_some_iff.mp e
  subst l
  obtain ⟨m,n,o⟩:=oK k
  refine P.getItem_str (by simp only[Bool.or_eq_false_iff,decide_eq_false_iff_not];lia) (c:=c) ?_ (f _ _ (.str _ _))
  show (seqIndex? j s.cps.size).bind _=_
  rw[m];exact g
 | _=>exact nS h
end
theorem QP (H:dO C hp W) (e:dz C W o x) (b:view hp o=.dE ks vs) (g:dz C W i0 y) (j:view hp i0=i) (h:Nt ks vs i=some v):dP C A (getItem x y) (λW' c=>dz C W' v c) W:=by
 obtain ⟨_,_,_,_,f,_⟩:=i6 H e b
 cases i with
 | int i=>
  cases Ez j;obtain ⟨_,rfl⟩:=g.inv
  obtain ⟨_,a,rfl⟩:=Option.bind_eq_some_iff.mp h
  exact dictGet H (nR C.prog C.w) (beq_self_eq_true _) e b (lE f a) a
 | str s=>
  obtain ⟨t,rfl⟩:=pN H g j
  obtain ⟨_,a,rfl⟩:=Option.bind_eq_some_iff.mp h
  exact dictGet H (gV C.prog C.w) (beq_self_eq_true _) e b (o8 f a) a
 | _=>exact nS h
theorem rj (k:dY d A) (H:dO C hp W) (j:dz C W o x) (g:dz C W i y) (h:fx hp o i=some v) :
  dP C A (getItem x y) (λW' c=>dz C W' v c) W:=by
 have h:ET (view hp o) (view hp i)=some v:=h
 have f:=f' H j
 have a:∀{Q:Value->Shared->Prop},(∀W' c,Pext0 C W W'->dz C W' v c->Q c W'.s)->∀c,dz C W v c->Q c W.s:=λb c r=>b W c (Pext0.refl W) r
 cases e:view hp o with
 | lst l=>rw[e] at h f;obtain ⟨_,_,rfl,L,r⟩:=f;exact dP.mk λ_ _ b=>Sb L r (f' H g) h (a b)
 | tup l=>rw[e] at h f;obtain ⟨_,_,rfl,L,r⟩:=f;exact dP.mk λ_ _ b=>R' L r (f' H g) h (a b)
 | str s=>rw[e] at h f;obtain ⟨_,rfl⟩:=f;exact dP.mk λ_ _ b=>Sa (f' H g) h λc t r=>b ⟨W.G,W.σ,_⟩ _ (Pext0.toks _) r
 | dE m n=>rw[e] at h;exact QP H j e g rfl h
 | _=>rw[e] at h;exact nS h
theorem dJ.pick {P:Params} (r:dJ P T I σ l vs):∀(is:List Nat),dJ P T I σ (is.filterMap (l[·]?)) (is.filterMap (vs[·]?))
 | []=>.nil
 | i::is=>by
  cases h:l[i]? with
  | none=>
   have a:vs[i]?=none:=by rw[List.getElem?_eq_none_iff] at h ⊢;rw[<- r.length];exact h
   rw[List.filterMap_cons_none h,List.filterMap_cons_none a]
   exact r.pick is
  | some v=>
   obtain ⟨c,a,b⟩:=r.get h
   rw[List.filterMap_cons_some h,List.filterMap_cons_some a]
   exact .cons b (r.pick is)
theorem rz (h:AD v=some p) (r:dz C W v x):∃q:Option (Int×Tok),x=partValue q/\q.map (·.1)=p/\IsPart x p:=by
 cases v with
 | none=>obtain rfl:=Option.some.inj h;obtain rfl:=r.inv;exact ⟨none,rfl,rfl,.none⟩
 | int i=>obtain rfl:=Option.some.inj h;obtain ⟨_,rfl⟩:=r.inv;exact ⟨some (_,_),rfl,rfl,.int _ _⟩
 | _=>exact nS h
section
variable {E:Value->Shared->Prop}{Q:Value->Shared->Prop}{y z:Value}{p q:Option Int}{sl:Addr}
theorem QV (H:dO C hp W) (L:iE W a vs) (r:dF C W l vs) (m:W.s.heap.get? sl=some { cls:=.type "slice",data:=.fields #[y,z,.none] }) (h:IsPart y p) (e:IsPart z q) (hz:dQ l.length=true) (g:∀b c,Pext0 C W b->dz C b (.lst (Io l p q)) c->Q c b.s):wpAny (model C.prog C.w) A (getItem (.ref a) (.ref sl)) Q E W.s:=by
 replace hz:l.length<=65536:=of_decide_eq_true hz
 obtain ⟨b,k,f,i⟩:=Pext0.lst H (r.pick (aO (ae p q none l.length).1 (ae p q none l.length).2.1 (ae p q none l.length).2.2)) W.s.toks
 refine wpAny_getItem_list_slice L.is ⟨_,m,rfl,rfl⟩ h e .none (by simp) ?_ (by simp only[List.size_toArray];rw[<- r.length];exact Nat.le_trans hz (by decide))
 have:=g b _ k f
 rw[i] at this
 have j:slicePick vs.toArray p q none=(List.filterMap (λx=>vs[x]?) (aO (ae p q none l.length).1 (ae p q none l.length).2.1 (ae p q none l.length).2.2)).toArray:=by
  unfold slicePick
  rw[List.size_toArray,<-r.length]
  simp
 rw[j]
 exact this
theorem Ig {s:Str} (ZG:W.s.heap.IsSlice sl q1 q2 none) (m1:q1.map (·.1)=p) (m2:q2.map (·.1)=q) (hz:dQ s.cps.size=true) (same:aM s p q=s->Q (.str s t) W.s) (new:Q (.str (aM s p q) W.s.toks) { W.s with toks:=W.s.toks+1 }):wpAny (model C.prog C.w) A (getItem (.str s t) (.ref sl)) Q E W.s:=by
 replace hz:s.cps.size<=65536:=of_decide_eq_true hz
 have eT:(⟨((slicePicked s q1 q2 none).filterMap (s.cps[·]?)).toArray⟩:Str)=⟨((aJ.Str.strSliceIndices p q 1 s.length).filterMap (s.cps[·]?)).toArray⟩:=by unfold slicePicked;rw[m1,m2];rfl
 refine wpAny_getItem_str_slice ZG rfl ?_
 unfold sliceMade
 have eS:aM s p q=if ((((none:Option (Int×Tok)).map (·.1)).getD 1==1&&(slicePicked s q1 q2 none).length==s.length)=true) then s else ⟨((slicePicked s q1 q2 none).filterMap (s.cps[·]?)).toArray⟩:=by
  unfold aM
  rw[eT]
  unfold slicePicked
  rw[m1,m2]
  rfl
 split
 ·rename_i c
  exact same (eS.trans (if_pos c))
 ·rename_i c
  rw[if_neg c] at eS
  rw[<- eS]
  exact ⟨Nat.le_trans (Txt.slice_le s p q) (Nat.le_trans hz (by decide)),new⟩
end
theorem As (hr:dY d A) (H:dO C hp W){I:V} (g:dz C W o x) (hl:dz C W I y) (hh:dz C W hi z) (h:nG hp o I hi=some v) (B:W.s.heap.get? sl=some { cls:=.type "slice",data:=.fields #[y,z,.none] }) :
  dP C A (getItem x (.ref sl)) (λW' c=>dz C W' v c) W:=by
 refine ee h λp n h=>ee h λq u h=>dP.mk λQ E f=>?_
 obtain ⟨J,N,w,T⟩:=rz n hl
 obtain ⟨M,e2,G,p2⟩:=rz u hh
 have b:W.s.heap.IsSlice sl J M none:=⟨_,B,rfl,by rw[N,e2];rfl⟩
 have D:=f' H g
 cases e:view hp o with
 | lst l=>
  rw[e] at h D
  obtain ⟨a,vs,rfl,L,r⟩:=D
  exact dN h λj h=>QV H L r B T p2 j (Option.some.inj h▸f)
 | str s=>
  rw[e] at h
  refine dN h λj h=>?_
  cases o with
  | dw k=>
   obtain rfl:k=s:=V.str.inj e
   obtain rfl:=Option.some.inj h
   obtain ⟨t,rfl,U⟩:=g.inv
   exact Ig b w G j (λm=>f W _ (Pext0.refl W) (m.symm▸.dw U)) (f ⟨W.G.Az W.s.toks _,W.σ,_⟩ _ (Pext0.tok _ H.nX) (.dw (Tm.ew _ _ _)))
  | str k=>
   obtain rfl:k=s:=V.str.inj e
   obtain rfl:=Option.some.inj h
   obtain ⟨t,rfl⟩:=g.inv
   exact Ig b w G j (λm=>f W _ (Pext0.refl W) (m.symm▸.str _ _)) (f ⟨W.G,W.σ,_⟩ _ (Pext0.toks _) (.str _ _))
  | ref i=>
   obtain ⟨t,Y⟩:=pN H g e
   obtain ⟨_,e',_⟩:=g.inv
   exact Value.noConfusion (Y.symm.trans e')
  | _=>exact V.noConfusion e
 | _=>rw[e] at h;exact nS h
end
section
variable {A:Around}{W:Wd}{hp:List O}{d:Nat}
theorem Dg {α:Type}{c:Nat->Nat->(Bool->Shared->Prop)->Shared->Prop}{f:Nat->Nat->Bool} (m:∀i j,i < n->j < n->∀C:Bool->Shared->Prop,C (f i j) s->c i j C s){Q:α->Shared->Prop} :
  ∀t:KasT α,ky n t=true->Q (runK f t) s->t.kasWp c Q s:=by
 intro t
 induction t with
 | ret a=>exact λ_ h=>h
 | ask i j k o=>
  intro e h
  have e:=(Bool.and_eq_true _ _).mp (show (decide (i < n)&&decide (j < n)&&ky n (k true)&&ky n (k false))=true from e)
  have l:=(Bool.and_eq_true _ _).mp e.1
  have g:=(Bool.and_eq_true _ _).mp l.1
  exact m i j (of_decide_eq_true g.1) (of_decide_eq_true g.2) _ (o (f i j) (Bool.casesOn (motive:=λb=>ky n (k b)=true) (f i j) e.2 l.2) h)
noncomputable def te (h:Heap) (L:Addr):List (Addr×Obj):=(List.range h.objs.size).filterMap λa=>if a=L then none else (h.get? a).map λo=>(a,o)
theorem mX {h:Heap} (a:b≠L) (e:h.get? b=some o):(b,o)∈te h L:=
 List.mem_filterMap.mpr ⟨b,List.mem_range.mpr (Heap.lt_size e),by rw[if_neg a,e];rfl⟩
theorem ur (a):({}:Heap).get? a=none:=by
 cases q:({}:Heap).get? a with
 | none=>rfl
 | some o=>exact absurd (Heap.lt_size q) (Nat.not_lt_zero _)
theorem BI:News {} L h (te h L):=λp hp=>by
 obtain ⟨a,_,b⟩:=List.mem_filterMap.mp hp
 exact eO b λq b=>dK b λo e k=>k▸⟨e,q,ur _⟩
theorem N3 {h:Heap}{m:Str->Option Value} (a:h.Ns L m):Fr {} L h m:=⟨a,λb o e=>(by rw[ur] at e;exact Vm.nS e),Nat.zero_le _⟩
inductive fw (h:Heap):List Value->List (Int×Int)->Prop
 | nil:fw h [] []
 | cons {a:Addr}{x y:Int}{t u:Tok}{n:Nat}{vs:List Value}{ps:List (Int×Int)}:h.get? a=some ⟨.type "tuple",none,.seq #[.int x t,.int y u] n,#[]⟩->fw h vs ps->fw h (.ref a::vs) ((x,y)::ps)
theorem fw.length (p:fw h vs ps):vs.length=ps.length:=by induction p<;>simp_all
theorem fw.get (p:fw h vs ps):∀{i:Nat},i < vs.length->∃a t u n,vs.getD i Value.none=.ref a/\h.get? a=some ⟨.type "tuple",none,.seq #[.int (ps.getD i (0,0)).1 t,.int (ps.getD i (0,0)).2 u] n,#[]⟩:=by
 induction p with
 | nil=>intro i h;exact absurd h (Nat.not_lt_zero _)
 | cons e _ c=>
  intro i h
  cases i with
  | zero=>exact ⟨_,_,_,_,rfl,e⟩
  | succ i=>obtain ⟨a,t,u,n,f,b⟩:=c (i:=i) (by simpa using h);exact ⟨a,t,u,n,by simpa using f,by simpa using b⟩
theorem fw.Vz (p:fw h vs g):∃fs,KatTups h vs fs/\fs.length=vs.length/\∀v∈fs,∃i t,v=.int i t:=by
 induction p with
 | nil=>exact ⟨[],.nil,rfl,λ_ h=>by cases h⟩
 | @cons _ x y t u n vs g e _ f=>
  obtain ⟨fs,a,b,c⟩:=f
  exact ⟨.int x t::fs,.cons e rfl rfl rfl a,by simp[b],λv hv=>by
   rcases List.mem_cons.mp hv with rfl | hv
   ·exact ⟨_,_,rfl⟩
   ·exact c v hv⟩
theorem fw.keep {a:Heap} (p:fw h vs ps) (k:∀b o,h.get? b=some o->(∃f n,o.data=.seq f n)->a.get? b=some o):fw a vs ps:=by
 induction p with
 | nil=>exact .nil
 | cons e _ c=>exact .cons (k _ _ e ⟨_,_,rfl⟩) c
theorem uH {E:Value->Shared->Prop}{m:Str->Option Value} (hm:W.s.heap.Ns L m){vs:List Value} (hl:W.s.heap.IsList l vs.toArray) (hp:fw W.s.heap vs ps) (h2:2<=vs.length) (G:vs.length < 64) (y:ky vs.length (kas_sort vs.length)=true) :
  wpAny (model C.prog C.w) A (call (.builtin "sorted") [.ref l]) (λr s'=>∃D n,r=.ref D/\s'.heap.get? D=some ⟨.type "list",none,.seq ((runK (λi j=>oV (ps.getD i (0,0)) (ps.getD j (0,0))) (kas_sort vs.length)).toList.map λi=>vs.getD i Value.none).toArray n,#[]⟩/\
   (∀b o,b≠L->W.s.heap.get? b=some o->s'.heap.get? b=some o)/\(∀q∈te W.s.heap L,q.1 < D)/\D≠L/\s'.heap.Ns L m/\s'.gens=W.s.gens/\s'.os=W.s.os) E W.s:=by
 refine kat_sorted (N3 hm) (BI (L:=L)) hl h2 G λD e1 I F' U hD=>?_
 have w:∀b o,b≠L->W.s.heap.get? b=some o->I.get? b=some o:=λb o Q e=>(U (b,o) (.tail _ (mX Q e))).1
 have H:∀b o,W.s.heap.get? b=some o->(∃Y n,o.data=.seq Y n)->b≠L:=λb o e ⟨Y,n,q⟩ z=>by
  subst z
  obtain ⟨o',es,ep,N,d',_⟩:=hm
  rw[e] at N;(refine Vm.sI N ?_;clear N;rintro rfl)
  rw[q] at d';cases d'
 have g:fw I vs ps:=hp.keep λb o e q=>w b o (H b o e q) e
 obtain ⟨fs,t1,t2,t3⟩:=g.Vz
 refine kat_kind (s:={ W.s with heap:=I }) (T:=.type "int") t1 (by lia) (λv hv=>by obtain ⟨i,t,rfl⟩:=t3 v hv;exact Looks.now) rfl ?_
 refine Dg (f:=λi j=>oV (ps.getD i (0,0)) (ps.getD j (0,0))) (λi j hi hj C' k=>?_) _ y ?_
 ·obtain ⟨a,t,u,n,q1,q2⟩:=g.get hi
  obtain ⟨a',t',u',n',B,M⟩:=g.get hj
  show wpAny _ _ (keyLt' _ (vs.getD i Value.none) (vs.getD j Value.none)) C' (λ_ _=>False) _
  rw[q1,B]
  refine kat_lt q2 rfl M rfl ?_
  refine kat_cons (wpAny_eqBool_int ?_)
  refine kat_go (λe=>kat_yes (kat_cons (wpAny_eqBool_int (kat_go (λx=>kat_yes (kat_nil ?_)) λx=>kat_no (kat_one _ _ (lt_int ?_)))))) (λe=>kat_no (oneLt_int ?_))
  ·have e:=eq_of_beq e
   have x:=eq_of_beq x
   have:oV (ps.getD i (0,0)) (ps.getD j (0,0))=false:=by unfold oV;rw[e,x];simp
   rw[this] at k
   exact k
  ·have e:=eq_of_beq e
   have:oV (ps.getD i (0,0)) (ps.getD j (0,0))=decide ((ps.getD i (0,0)).2 < (ps.getD j (0,0)).2):=by unfold oV;rw[e];simp
   rw[this] at k
   exact k
  ·have e:¬(ps.getD i (0,0)).1=(ps.getD j (0,0)).1:=by simpa using e
   have:oV (ps.getD i (0,0)) (ps.getD j (0,0))=decide ((ps.getD i (0,0)).1 < (ps.getD j (0,0)).1):=by unfold oV;rw[decide_eq_false e,Bool.false_and,Bool.or_false]
   rw[this] at k
   exact k
 ·refine KasFin.intro F' U (.head λp hp=>Nat.ne_of_lt (hD p hp)) λNV c J h=>?_
  refine ⟨D,c,rfl,(h _ (.head _)).1,λb o Q e=>(h (b,o) (.tail _ (mX Q e))).1,hD,(h _ (.head _)).2.1,J.ns,rfl,rfl⟩
theorem vZ {st:St}{vs:List Value} (a:At C κ cs env st W) (J:W.s.heap.IsList l vs.toArray) (g:fw W.s.heap vs ps) (L:2<=vs.length) (p:vs.length < 64) (h:ky vs.length (kas_sort vs.length)=true) (b:dF C W out ((runK (λi j=>oV (ps.getD i (0,0)) (ps.getD j (0,0))) (kas_sort vs.length)).toList.map λi=>vs.getD i Value.none)) :
  Tr C κ cs env A (call (.builtin "sorted") [.ref l]) st (λW' c=>dz C W' (.lst out) c) W:=λQ E G=>by
 obtain ⟨m,M,N⟩:=a.L.ns
 refine wpAny_toks (wpAny_mono (uH M J g L p h) (λr y U T=>?_) λ_ _ e=>e)
 obtain ⟨D,n,rfl,H,k,d,w,Y,B,I⟩:=U
 have t:W.s.heap.get? D=none:=by
  cases q:W.s.heap.get? D with
  | none=>rfl
  | some o=>exact absurd (d _ (mX w q)) (Nat.lt_irrefl _)
 have u:W.G.I D=none:=by
  cases q:W.G.I D with
  | none=>rfl
  | some o=>exact sN ((a.H.I _ _ q).symm.trans t)
 have s:∀o,W.le ⟨W.G.gK D o,W.σ,y⟩:=λo=>⟨Gh.jH u,ea.refl _⟩
 exact G ⟨W.G.gK D _,W.σ,y⟩ _ (s _) ⟨a.ok,DC a.H (a.H.keep env.locals k a.L.I a.L.F a.L.σ a.L.T B I T) H t u,⟨m,Y,λi x v e f=>(N i x v e f).elim λc z=>⟨c,z.1,z.2.mono (s _)⟩⟩,(Gm.eV w.symm).trans a.L.I,a.L.F,a.L.σ,a.L.T⟩ (.lst (Gm.ew _ _ _) (dF.mono b (s _)))
end
section
variable {A:Around}{W:Wd}{hp:List O}{d:Nat}
noncomputable def i3:Bf->Value
 | .len=>.builtin "len" | .sum=>.builtin "sum" | .sorted=>.builtin "sorted" | .chr=>.builtin "chr" | .ord=>.builtin "ord"
 | .min=>.builtin "min" | .max=>.builtin "max" | .abs=>.builtin "abs" | .divmod=>.builtin "divmod"
 | .range=>.type "range" | .list=>.type "list" | .set=>.type "set"
section
variable {α:Type}{P:Params}{T:Tm}{I:Gm}{σ:List Addr}{a:V}{x:Value}{as:List V}{xs:List Value}{v:α}
@[elab_as_elim] theorem iR {f:Int->Option α}{G:Value->Prop} (b:Rep P T I σ a x) (h:iV f a=some v) (k:∀i t,f i=some v->G (.int i t)):G x:=by
 cases a with
 | int i=>exact b.WI λt=>k i t h
 | _=>exact nS h
@[elab_as_elim] theorem sR {f:Str->Option α}{G:Value->Prop} (b:Rep P T I σ a x) (h:sV f a=some v) (k:∀i t,f i=some v->G (.str i t)):G x:=by
 cases a with
 | str i=>exact b.VK λt=>k i t h
 | _=>exact nS h
theorem tR {f:Str->Option α}{G:Prop}(b:Rep P T I σ a x) (h:tV f a=some v) (k:∀i t,x=.str i t->T t=some i->f i=some v->G):G:=by
 cases a with
 | dw i=>obtain ⟨t,e,q⟩:=b.inv;exact k i t e q h
 | _=>exact nS h
@[elab_as_elim] theorem O8 {G:List Value->Prop} (b:dJ P T I σ as xs) (h:a0 f as=some v) (k:f=some v->G []):G xs:=by
 cases as with
 | nil=>exact b.i7 (k h)
 | _=>exact nS h
@[elab_as_elim] theorem nr {f:V->Option α}{G:List Value->Prop} (b:dJ P T I σ as xs) (h:a1 f as=some v) (k:∀a x,Rep P T I σ a x->f a=some v->G [x]):G xs:=by
 cases as with
 | nil=>exact nS h
 | cons a as=>cases as with
  | nil=>exact b.fC λ_ _ r q=>q.i7 (k a _ r h)
  | _=>exact nS h
@[elab_as_elim] theorem O7 {f:V->V->Option α}{G:List Value->Prop} (e:dJ P T I σ as xs) (h:a2 f as=some v) (k:∀a b x y,Rep P T I σ a x->Rep P T I σ b y->f a b=some v->G [x,y]):G xs:=by
 cases as with
 | nil=>exact nS h
 | cons a as=>cases as with
  | nil=>exact nS h
  | cons b as=>cases as with
   | nil=>exact e.fC λ_ _ r q=>q.fC λ_ _ c q=>q.i7 (k a b _ _ r c h)
   | _=>exact nS h
theorem lS {f:List V->Option α}{G:Prop}(h:lV f a=some v) (k:∀l,a=.lst l->f l=some v->G):G:=by
 cases a with
 | lst l=>exact k l rfl h
 | _=>exact nS h
theorem rL (r:dJ P T I σ l vs) (h:intsOf l=some ns):cp vs ns:=by
 induction l generalizing vs ns with
 | nil=>exact r.i7 (Option.some.inj h▸.nil)
 | cons x l b=>exact r.fC λ_ _ a r=>iR a h λi t h=>jl h λe c=>.cons _ _ (b r c)
end
theorem Ct (j:A.handled=none){vs:List Value} (k:W.s.heap.IsList l vs.toArray) (e:cp vs ns) :
  dP C A (call (.builtin "sum") [.ref l]) (λW' c=>∃t,c=.int ns.sum t) W:=by
 refine dP.mk λQ E i=>?_
 obtain ⟨xs,f⟩:=e.allInts.items
 have b:W.s.heap.IsList l (intItems xs):=f▸k
 refine sum_intListG j b λo p n g=>?_
 have h:ns=xs.toList.map (·.1):=by
  rw[<- nums_intItems,<-f]
  exact (show numsOf vs.toArray.toList=ns from e.numsOf).symm
 have m:preSum (numAt xs) xs.size=ns.sum:=by
  rw[preSum_eq,List.take_of_length_le (by simp),h]
 rw[m]
 exact i ⟨W.G,W.σ,_⟩ _ (Pext0.ext g rfl rfl) ⟨_,rfl⟩
theorem wU (h:cp vs ns):dJ P T I σ (ns.map .int) vs:=by
 induction h with
 | nil=>exact .nil
 | cons _ _ _ b=>exact .cons (.int _ _) b
theorem wV (x) (l):(ins x l).Perm (x::l):=by
 induction l with
 | nil=>exact List.Perm.refl _
 | cons y l b=>
  show (if x<=y then x::y::l else y::ins x l).Perm _
  exact Ng (G:=λz:List Int=>z.Perm (x::y::l)) (λ_=>List.Perm.refl _) λ_=>(b.cons y).trans (List.Perm.swap ..)
theorem rJ:∀l,(pU l).Perm l
 | []=>List.Perm.refl _
 | x::l=>(wV x _).trans ((rJ l).cons x)
theorem A5 (x) (l:List Int):l.Pairwise (·<=·)->(ins x l).Pairwise (·<=·):=by
 induction l with
 | nil=>exact λ_=>List.pairwise_singleton _ _
 | cons y l f=>
  intro h
  have c:=List.pairwise_cons.mp h
  show (if x<=y then x::y::l else y::ins x l).Pairwise (·<=·)
  exact Ng (G:=λz:List Int=>z.Pairwise (·<=·)) (λq=>List.pairwise_cons.mpr ⟨List.forall_mem_cons.mpr ⟨q,λz b=>Int.le_trans q (c.1 z b)⟩,h⟩)
   λq=>List.pairwise_cons.mpr ⟨λz b=>(List.mem_cons.mp ((wV x l).mem_iff.mp b)).elim (λe=>e▸Int.le_of_lt (Int.not_le.mp q)) (c.1 z),f c.2⟩
theorem oZ:∀l:List Int,(pU l).Pairwise (·<=·)
 | []=>.nil
 | x::l=>A5 x _ (oZ l)
theorem tI:∀{a b:List Int},a.Perm b->a.Pairwise (·<=·)->b.Pairwise (·<=·)->a=b
 | [],b,h,_,_=>by simpa using h.symm
 | x::a,[],h,_,_=>by simp at h
 | x::a,y::b,h,g,k=>by
  obtain ⟨i,f⟩:=List.pairwise_cons.mp g
  obtain ⟨j,c⟩:=List.pairwise_cons.mp k
  have e:x=y:=by
   have p:=h.mem_iff.mp (List.mem_cons_self (a:=x) (l:=a))
   have q:=h.mem_iff.mpr (List.mem_cons_self (a:=y) (l:=b))
   rcases List.mem_cons.mp p with p | p
   ·exact p
   ·rcases List.mem_cons.mp q with q | q
    ·exact q.symm
    ·exact Int.le_antisymm (i y q) (j x p)
  subst e
  rw[tI (List.Perm.cons_inv h) f c]
theorem v3 {vs:List Value} (H:dO C hp W) (u:W.s.heap.IsList l vs.toArray) (m:cp vs ns) (h:vs.length < 64) :
  dP C A (call (.builtin "sorted") [.ref l]) (λW' c=>dz C W' (.lst ((pU ns).map .int)) c) W:=by
 refine dP.mk λQ E p=>sorted_ints u m h λf g s k t=>?_
 have e:g=pU ns:=tI (k.trans (rJ ns).symm) t (oZ ns)
 subst e
 obtain ⟨e,r⟩:=sortedAll_at W.s.heap vs f
 have j:W.s.heap.get? (W.s.heap.objs.size+1)=none:=Heap.get?_none_of_le (Nat.le_succ _)
 have i:W.G.I (W.s.heap.objs.size+1)=none:=by
  cases q:W.G.I (W.s.heap.objs.size+1) with
  | none=>rfl
  | some o=>rw[H.I _ _ q] at j;exact Vm.sN j
 refine p ⟨W.G.gK (W.s.heap.objs.size+1) _,W.σ,_⟩ _ (Pext0.N2 (λb o q=>sortedAll_old q) r j i rfl rfl) ?_
 refine Rep.lst (vs:=f.toList) (n:=e) ?_ (wU s)
 show (W.G.I.put _ _) _=_
 rw[Gm.ew]
theorem yD {l:List V}{vs:List Value} (h:l.length=vs.length) (k:∀(j:Nat) c,vs[j]?=some c->∃v,l[j]?=some v/\Rep P T I σ v c):dJ P T I σ l vs:=by
 induction l generalizing vs with
 | nil=>cases vs with
  | nil=>exact .nil
  | cons=>exact nomatch h
 | cons v l f=>cases vs with
  | nil=>exact nomatch h
  | cons c vs=>exact .cons (by obtain ⟨w,e,r⟩:=k 0 c rfl;exact Option.some.inj e▸r) (f (Nat.succ.inj h) λj b e=>k (j+1) b e)
theorem Fx {v:V} (h:h_ v=some p):v=.tup [.int p.1,.int p.2]:=by
 cases v with
 | tup l=>cases l with
  | nil=>exact nS h
  | cons x l=>cases l with
   | nil=>exact nS h
   | cons y l=>cases l with
    | cons=>exact nS h
    | nil=>cases x with
     | int i=>cases y with
      | int j=>exact Option.some.inj h▸rfl
      | _=>exact nS h
     | _=>exact nS h
 | _=>exact nS h
theorem Fy (H:dO C hp W){v:V} (r:dz C W v c) (h:h_ v=some p):∃a t u n,c=.ref a/\W.s.heap.get? a=some ⟨.type "tuple",none,.seq #[.int p.1 t,.int p.2 u] n,#[]⟩/\v=.tup [.int p.1,.int p.2]:=by
 have e:=Fx h
 subst e
 refine gk λP k=>?_
 obtain ⟨a,j,n,g,e,r⟩:=r.inv
 obtain ⟨x,i,rfl,b,r⟩:=r.inv
 obtain ⟨y,l,rfl,f,r⟩:=r.inv
 obtain rfl:=r.inv
 obtain ⟨t,rfl⟩:=b.inv
 obtain ⟨u,rfl⟩:=f.inv
 exact k ⟨a,t,u,n,g,H.I _ _ e,rfl⟩
theorem CW (H:dO C hp W) (r:dF C W l vs) (h:wt l=some ps):fw W.s.heap vs ps/\∀i,i < vs.length->dz C W (.tup [.int (ps.getD i (0,0)).1,.int (ps.getD i (0,0)).2]) (vs.getD i Value.none):=by
 induction l generalizing vs ps with
 | nil=>obtain rfl:=r.inv;obtain rfl:=Option.some.inj h;exact ⟨.nil,λi h=>absurd h (Nat.not_lt_zero _)⟩
 | cons x l j=>
  refine ee h λp k h=>jl h λm g=>?_
  replace r:=r.inv;obtain ⟨_,_,rfl,a,r⟩:=r
  obtain ⟨b,c⟩:=j r g
  obtain ⟨o,t,u,n,rfl,e,rfl⟩:=Fy H a k
  refine ⟨.cons e b,λi f=>?_⟩
  cases i with
  | zero=>exact a
  | succ i=>exact c i (Nat.lt_of_succ_lt_succ f)
noncomputable def oX (n:Nat):KasT (Array Nat)->Bool
 | .ret a=>a.toList.all λi=>decide (i < n)
 | .ask _ _ k=>oX n (k true)&&oX n (k false)
theorem oI (f:Nat->Nat->Bool):∀t:KasT (Array Nat),oX n t=true->∀i∈(runK f t).toList,i < n
 | .ret a,h,i,b=>of_decide_eq_true (List.all_eq_true.mp h i b)
 | .ask x y k,h,i,b=>by
  have h:=(Bool.and_eq_true _ _).mp (show (oX n (k true)&&oX n (k false))=true from h)
  refine oI f (k (f x y)) ?_ i b
  cases f x y
  ·exact h.2
  ·exact h.1
theorem Av (b:n<=3) (c:2<=n) (f:Nat->Nat->Bool):∀i∈(runK f (kas_sort n)).toList,i < n:=by
 have h:n=2\/n=3:=by lia
 rcases h with rfl | rfl
 ·exact oI f _ (by decide +kernel)
 ·exact oI f _ (by decide +kernel)
theorem CR {n:Nat}{is:List Nat}{vs:List Value}{b:List (Int×Int)}(c:∀i∈is,i < vs.length) (q:∀i,i < vs.length->dz C W (.tup [.int (b.getD i (0,0)).1,.int (b.getD i (0,0)).2]) (vs.getD i Value.none)) (g:vs.length=n) :
  dF C W (is.map ((λp:Int×Int=>V.tup [.int p.1,.int p.2]) ∘ λi=>b.getD i (0,0))) (is.map λi=>vs.getD i Value.none):=by
 induction is with
 | nil=>exact .nil
 | cons i is e=>exact .cons (q i (c i (.head _))) (e λj f=>c j (.tail _ f))
section
variable {v:V}{x:Value}{xs:List Value}{as:List V}
theorem OR (H:dO C hp W) (m:dz C W a x) (h:FU (view hp a)=some v):dP C A (call (.builtin "len") [x]) (λW' c=>dz C W' v c) W:=by
 have f:=f' H m
 refine dP.mk λQ E k=>?_
 have b:∀{n:Nat}{t j:Tok},some (V.int n)=some v->Q (.int n t) { W.s with toks:=j }:=λh=>dP.int h k
 cases e:view hp a with
 | lst l=>
  rw[e] at h f
  obtain ⟨a,i,rfl,L,r⟩:=f
  refine dN h λg h=>call_len_list L.is (by have:l.length<=65536:=of_decide_eq_true g;have:=r.length;simp only[List.size_toArray];lia) ?_
  exact b (by rw[List.size_toArray,<-r.length];exact h)
 | tup l=>
  rw[e] at h f
  obtain ⟨a,i,rfl,L,r⟩:=f
  refine dN h λg h=>len_tuple (items:=i.toArray) L.is (by have:l.length<=65536:=of_decide_eq_true g;have:=r.length;simp only[List.size_toArray];lia) ?_
  exact b (by rw[List.size_toArray,<-r.length];exact h)
 | str s=>
  rw[e] at h f
  obtain ⟨t,rfl⟩:=f
  exact dN h λg h=>P.len_str (by have:s.cps.size<=65536:=of_decide_eq_true g;show ¬(s.cps.size:Int)≥_;lia) (b h)
 | _=>rw[e] at h;exact nS h
theorem sC (H:dO C hp W){a:Int}{Q:Value->Shared->Prop} (h:some (V.gf a b c)=some v) (f:∀e c,Pext0 C W e->dz C e v c->Q c e.s):Q (.ref W.s.heap.objs.size) { W.s with heap:=W.s.heap.push ⟨.type "range",none,.fields #[.int a t,.int b u,.int c r],#[]⟩,toks:=tk }:=
 f ⟨W.G.gK W.s.heap.objs.size _,W.σ,_⟩ _ (Pext0.qH _ rfl _ H.fX) (Option.some.inj h▸.gf (Gm.ew _ _ _))
theorem OO (H:dO C hp W) (l:dF C W as xs) (h:Mh as=some v):dP C A (call (.type "range") xs) (λW' c=>dz C W' v c) W:=by
 cases as with
 | nil=>exact nS h
 | cons a as=>cases as with
  | nil=>exact l.fC λ_ _ r q=>q.i7 (iR r h λi t h=>dP.mk λQ E e=>call_range_1 (sC H h e))
  | cons b as=>cases as with
   | nil=>exact l.fC λ_ _ r q=>q.fC λ_ _ g q=>q.i7 (iR r h λi t h=>iR g h λj u h=>dP.mk λQ E e=>call_range_2 (sC H h e))
   | cons c as=>cases as with
    | nil=>exact l.fC λ_ _ r q=>q.fC λ_ _ g q=>q.fC λ_ _ f q=>q.i7 (iR r h λi t h=>iR g h λj u h=>iR f h λk w h=>eO h λm h=>
      dP.mk λQ E e=>call_range_3 (λz=>m (.inl z)) (sC H h e) (.inl (eq_false_of_ne_true λz=>m (.inr z))))
    | _=>exact nS h
theorem ON {st:St} (b:At C κ cs env st W){a:Addr} (L:iE W a vs) (r:dF C W l vs) (h:vX l=some v):Tr C κ cs env A (call (.builtin "sorted") [.ref a]) st (λW' c=>dz C W' v c) W:=by
 refine dN h λp h=>?_
 have q:=r.length
 cases e:intsOf l with
 | some s=>
  rw[e] at h
  exact Option.some.inj h▸(v3 b.H L.is (rL r e) (by lia)).tr b
 | none=>
  rw[e] at h
  refine dN h λg h=>jl h λk e=>?_
  obtain ⟨m,o⟩:=CW b.H r e
  have f:=m.length
  rw[q] at g
  refine vZ b L.is m g.1 (by lia) g.2.2 ?_
  have n:uZ k=(runK (λi j=>oV (k.getD i (0,0)) (k.getD j (0,0))) (kas_sort vs.length)).toList.map λi=>k.getD i (0,0):=by unfold uZ;rw[f]
  rw[n,List.map_map]
  exact CR (Av g.2.1 g.1 _) o f
theorem OQ (o:dY d A) (H:dO C hp W) (w:dz C W a x) (h:MU a=some v):dP C A (call (.type "list") [x]) (λW' c=>dz C W' v c) W:=by
 cases a with
 | gf a b g=>
  obtain ⟨t,u,G,L,rfl,e⟩:=w.inv
  refine dN h λi h=>?_
  obtain rfl:=Option.some.inj h
  unfold l_ at i
  simp only[Bool.and_eq_true,decide_eq_true_eq] at i
  obtain ⟨⟨N,m⟩,s⟩:=i
  have D:0<=ao a b g:=by
   unfold ao
   split
   ·rename_i q
    split
    ·have:=Int.ediv_nonneg (a:=b - a - 1) (b:=g) (by lia) (by lia);lia
    ·lia
   ·split
    ·have:=Int.ediv_nonneg (a:=a - b - 1) (b:=-g) (by lia) (by lia);lia
    ·lia
  have M:gI a b g<=65536:=of_decide_eq_true s
  refine dP.mk λQ E p=>call_list_range (n:=gI a b g) o.1 (H.I _ _ e) m (by unfold gI;lia) (by lia) λB J k y i z f=>?_
  refine p ⟨W.G.gK W.s.heap.objs.size _,W.σ,_⟩ _ (Pext0.N2 i z (Heap.get?_none_of_le (Nat.le_refl _)) H.fX rfl rfl) ?_
  refine Rep.lst (vs:=k.toList) (n:=y) (Gm.ew _ _ _) ?_
  refine yD (by show (jD a b g).length=_;unfold jD;rw[List.length_map,rangeInts_length];exact (Array.length_toList▸f.1).symm) λj c l=>?_
  obtain ⟨t,rfl⟩:=f.2 j c (by simpa using l)
  have r:j < gI a b g:=by
   have:=(List.getElem?_eq_some_iff.mp l).1
   rw[Array.length_toList,f.1] at this;exact this
  exact ⟨.int (a+j*g),by unfold jD;rw[List.getElem?_map,rangeInts_get r];rfl,.int _ _⟩
 | _=>exact nS h
theorem Fz (h:AH s=some v):∃c:Nat,s=⟨#[c]⟩/\v=.int c:=by
 obtain ⟨⟨l⟩⟩:=s
 cases l with
 | nil=>exact nS h
 | cons c l=>cases l with
  | nil=>exact ⟨c,rfl,(Option.some.inj h).symm⟩
  | cons=>exact nS h
theorem D' {st:St} (n:dY d A) (f:At C κ cs env st W) (k:dF C W as xs) (h:iP st.hp b as=some v) :
  Tr C κ cs env A (call (i3 b) xs) st (λW' c=>dz C W' v c) W:=by
 have H:=f.H
 have h:OS st.hp b (as.map eN)=some v:=h
 replace k:=k.eN
 generalize as.map eN=as at k h
 cases b with
 | len=>exact nr k h λ_ _ r h=>(OR H r h).tr f
 | range=>exact (OO H k h).tr f
 | sum=>
  exact nr k h λa x r h=>lS h λl e h=>jl h λM B=>by
   obtain ⟨a,y,rfl,L,r⟩:=jC H r e
   exact dP.tr (λQ E g=>Ct n.1 L.is (rL r B) Q E λW' c p ⟨t,e⟩=>g W' c p (e▸.int _ _)) f
 | sorted=>
  exact nr k h λa x r h=>lS h λl e h=>by
   obtain ⟨a,y,rfl,L,r⟩:=jC H r e
   exact ON f L r h
 | list=>exact nr k h λ_ _ r h=>(OQ n H r h).tr f
 | chr=>
  exact nr k h λ_ _ r h=>iR r h λi t h=>dN h λm h=>by
   unfold nQ at m
   simp only[Bool.or_eq_true,decide_eq_true_eq] at m
   exact (dP.mk λQ E g=>chr_of_range (by lia) (by lia) (dP.str h g)).tr f
 | ord=>
  exact nr k h λ_ _ r h=>sR r h λs t h=>by
   obtain ⟨c,rfl,rfl⟩:=Fz h
   exact (dP.mk λQ E g=>P.ord_of_char (dP.int rfl g)).tr f
 | min=>
  exact O7 k h λ_ _ _ _ r o h=>iR r h λi t h=>iR o h λj u h=>dP.tr (dP.mk λQ E g=>min_two_ints n.1 λJ D m=>by
   obtain rfl:=Option.some.inj h
   by_cases q:j < i
   ·rw[if_pos q] at g ⊢;exact g ⟨W.G,W.σ,_⟩ _ (Pext0.ext m rfl rfl) (.int _ _)
   ·rw[if_neg q] at g ⊢;exact g ⟨W.G,W.σ,_⟩ _ (Pext0.ext m rfl rfl) (.int _ _)) f
 | abs=>exact nr k h λ_ _ r h=>iR r h λi t h=>(dP.mk λQ E g=>call_abs_int λu D=>dP.int h g).tr f
 | divmod=>
  exact O7 k h λ_ _ _ _ r o h=>iR r h λi t h=>iR o h λj u h=>eO h λw h=>dP.tr (dP.mk λQ E g=>divmod_int (λz=>w (.inl z)) (by
   obtain ⟨W',p,r,G⟩:=Pext0.tup (l:=[.int _,.int _]) (vs:=[.int (Int.fdiv i j) W.s.toks,.int (Int.fmod i j) (W.s.toks+1)]) H (.cons (.int _ _) (.cons (.int _ _) .nil)) (W.s.toks+1+1)
   have:=g W' _ p (Option.some.inj h▸r)
   rw[G] at this
   exact this) (.inl (eq_false_of_ne_true λz=>w (.inr z)))) f
 | _=>exact nS h
end
end
section
variable {A:Around}{W:Wd}{hp:List O}{d:Nat}
structure Kept (C:Ctx) (W W':Wd):Prop where
 le:W.le W'
 off:∀L o,W.s.heap.get? L=some o->W.G.I L=none->L∉W.σ->L∉C.tabs->W'.s.heap.get? L=some o/\W'.G.I L=none/\L∉W'.σ
theorem Pext0.kept (p:Pext0 C W W'):Kept C W W':=⟨p.le,λL o a b c _=>⟨p.hk L o a,p.new L b (by rw[a];rfl),by rw[p.σ];exact c⟩⟩
theorem At.kept {st:St} (h:At C κ cs env st W) (k:Kept C W W') (H:dO C hp' W'):At C κ cs env ⟨st.loc,hp'⟩ W':=by
 obtain ⟨m,n,l⟩:=h.L.ns
 obtain ⟨o,j,b,g,a⟩:=id n
 obtain ⟨x,y,z⟩:=k.off _ o g h.L.I h.L.σ h.L.T
 exact ⟨h.ok.mono k.le.σ,H,⟨m,⟨o,j,b,x,a⟩,λi x v e f=>by
  obtain ⟨c,q,r⟩:=l i x v e f
  exact ⟨c,q,r.mono k.le⟩⟩,y,by rw[k.le.G.F];exact h.L.F,z,h.L.T⟩
def TH {α:Type} (C:Ctx) (A:Around) (t:Sem α) (R:Wd->α->Prop) (hp':List O) (W:Wd):Prop:=
 ∀(Q:α->Shared->Prop) (E:Value->Shared->Prop),(∀a c,Kept C W a->dO C hp' a->R a c->Q c a.s)->wpAny (model C.prog C.w) A t Q E W.s
theorem dP.th {α:Type}{t:Sem α}{R:Wd->α->Prop}(h:dP C A t R W) (H:dO C hp W):TH C A t R hp W:=λQ E a=>h Q E λb c p r=>a b c p.toPext0.kept (p.hp p.tk _ H) r
noncomputable def zr:MK->String
 | .gv | .i8 | .nc=>"list"
 | .n3=>"dict"
 | .rM=>"int"
 | _=>"str"
noncomputable def mkId:MK->String
 | .gv=>"list.append" | .i8=>"list.reverse" | .nc=>"list.count"
 | .oH=>"str.count" | .rt=>"str.join" | .nI=>"str.replace" | .uW=>"str.find" | .m7=>"str.lower"
 | .n3=>"dict.get" | .rM=>"int.bit_length"
structure pX (W:Wd) (x:Value) (m:Mt) (k:MK):Prop where
 pa:PlainAttrs (zr k)
 sl:Slot (zr k) (jk m) (mkId k)
 ty:typeOf (.builtin (mkId k))=pure (.type "method_descriptor")
 is:W.s.TypeIs x (zr k)
 ob:∀a,x=.ref a->∃ob,W.s.heap.get? a=some ob/\ob.dict=none
theorem noRef {x:Value}{P:Addr->Prop}(h:(match x with | .ref _=>false | _=>true)=true):∀a,x=.ref a->P a:=λa e=>by subst e;exact fT h
theorem C0 {W:Wd}{o:Obj} (h:W.s.heap.get? b=some o) (k:o.dict=none):∀a,Value.ref b=.ref a->∃c,W.s.heap.get? a=some c/\c.dict=none:=λa e=>by injection e with e;subst e;exact ⟨_,h,k⟩
theorem sO (s:gn C W x (.lst l)) (e:zr k="list") (b:Slot "list" (jk m) (mkId k)) (c:typeOf (.builtin (mkId k))=pure (.type "method_descriptor")):pX W x m k:=by
 obtain ⟨a,f,rfl,⟨n,L⟩,_⟩:=s
 exact ⟨e▸F.plainAttrs_list,e▸b,c,e▸⟨_,L,rfl⟩,C0 L rfl⟩
theorem oT (s:gn C W x (.str l)) (e:zr k="str") (a:Slot "str" (jk m) (mkId k)) (b:typeOf (.builtin (mkId k))=pure (.type "method_descriptor")):pX W x m k:=by
 obtain ⟨t,rfl⟩:=s
 exact ⟨e▸F.plainAttrs_str,e▸a,b,e▸typeIs_str _ _ _,noRef rfl⟩
theorem Ux {a k:MK}{o:V}{G:Prop}(h:kL a o=some k) (g:∀l,o=.lst l->a=k->G):G:=by
 cases o with
 | lst l=>exact g l rfl (Option.some.inj h)
 | _=>exact nS h
theorem IG {a k:MK}{o:V}{G:Prop}(h:kS a o=some k) (g:∀l,o=.str l->a=k->G):G:=by
 cases o with
 | str l=>exact g l rfl (Option.some.inj h)
 | _=>exact nS h
theorem WB (s:gn C W x o) (h:oU m o=some k):pX W x m k:=by
 cases m with
 | append=>exact Ux h λl e b=>by subst e b;exact sO s rfl F.slot_list_append F.type_list_append
 | reverse=>exact Ux h λl e b=>by subst e b;exact sO s rfl F.slot_list_reverse F.type_list_reverse
 | join=>exact IG h λl e b=>by subst e b;exact oT s rfl F.slot_str_join F.type_str_join
 | replace=>exact IG h λl e b=>by subst e b;exact oT s rfl F.slot_str_replace F.type_str_replace
 | find=>exact IG h λl e b=>by subst e b;exact oT s rfl F.slot_str_find F.type_str_find
 | lower=>exact IG h λl e b=>by subst e b;exact oT s rfl F.slot_str_lower F.type_str_lower
 | count=>cases o with
  | lst l=>obtain rfl:=Option.some.inj h;exact sO s rfl F.slot_list_count F.type_list_count
  | str l=>obtain rfl:=Option.some.inj h;exact oT s rfl F.slot_str_count F.type_str_count
  | _=>exact nS h
 | get=>cases o with
  | dE f g=>
   obtain rfl:=Option.some.inj h
   obtain ⟨a,c,rfl,⟨n,L⟩,_⟩:=s
   exact ⟨F.plainAttrs_dict,F.slot_dict_get,F.type_dict_get,⟨_,L,rfl⟩,C0 L rfl⟩
  | _=>exact nS h
 | lO=>cases o with
  | int i=>
   obtain rfl:=Option.some.inj h
   obtain ⟨t,rfl⟩:=s
   exact ⟨F.plainAttrs_int,F.slot_int_bit_length,F.type_int_bit_length,typeIs_int _ _ _,noRef rfl⟩
  | _=>exact nS h
 | _=>exact nS h
theorem FK (H:dO C hp W) (a:dz C W o x) (h:oU m (view hp o)=some k):pX W x m k:=WB (f' H a) h
theorem DP {x:V} (h:lM x l=some r):(∀v∈l,∃q,eQ 8 v x=some q)/\r=l.countP (λv=>(eQ 8 v x).getD false):=by
 induction l generalizing r with
 | nil=>exact ⟨λ_ h=>absurd h List.not_mem_nil,(Option.some.inj h).symm⟩
 | cons y l f=>
  refine ee h λa c h=>jl h λb e=>?_
  obtain ⟨p,q⟩:=f e
  refine ⟨λv hv=>?_,?_⟩
  ·rcases List.mem_cons.mp hv with rfl | hv
   ·exact ⟨a,c⟩
   ·exact p v hv
  ·rw[List.countP_cons,c,q];rfl
theorem Ap {P:Params} (r:dJ P T I σ l vs) (h:strsOf l=some ns):∃xs:List (Str×Tok),vs=strValues xs/\xs.map (·.1)=ns:=by
 induction l generalizing vs ns with
 | nil=>exact ⟨[],r.inv,Option.some.inj h⟩
 | cons x l f=>
  replace r:=r.inv;obtain ⟨c,b,rfl,a,r⟩:=r
  exact sR (G:=λc=>∃xs:List (Str×Tok),c::b=strValues xs/\xs.map (·.1)=ns) a.eN h λi t h=>jl h λj g=>
   (f r g).elim λxs e=>⟨(i,t)::xs,congrArg (Value.str i t::·) e.1,congrArg (i::·) e.2⟩
theorem xG (H:dO C hp W){K:Type} [DecidableEq K] (D:Kd C.prog C.w K){x:K} (n:D.knd.is x key=true) (m:dz C W v c) (e:view hp v=.dE ks vs) (t:∃xs:List K,ks=xs.map D.inj) (h:findKey ks vs (D.inj x)=some r) :
  (dP C A (call (.builtin "dict.get") [c,key]) (λW' c=>dz C W' (kg r .none) c) W)/\
  ∀{l:V}{j:Value},dz C W l j->dP C A (call (.builtin "dict.get") [c,key,j]) (λW' c=>dz C W' (kg r l) c) W:=by
 obtain ⟨k,u,rfl,y,q,s⟩:=i6 H m e
 have p:=lL H m e
 obtain ⟨xs,rfl⟩:=t
 obtain ⟨z,g⟩:=j4 D y q s
 have f:=g.dict.mapOf
 refine ⟨dP.mk λQ E b=>?_,λw=>dP.mk λQ E b=>?_⟩
 ·refine call_meetsIn F.slot_dict_get f.typeIs F.entry_dict_get (F.args_dict_get_2 _ _) (meets_dict_get D.knd k n p) ⟨_,f,?_⟩
  rcases g8 D g.rep h with ⟨e,a⟩ | ⟨v,c,e,a,i⟩
  ·subst e;rw[a];exact b ⟨W.G,W.σ,_⟩ _ (Pext0.toks _) .none
  ·subst e;rw[a];exact b ⟨W.G,W.σ,_⟩ _ (Pext0.toks _) i
 ·refine call_meetsIn F.slot_dict_get f.typeIs F.entry_dict_get (F.args_dict_get_3 _ _ _) (meets_dict_get_default D.knd k n p _) ⟨_,f,?_⟩
  rcases g8 D g.rep h with ⟨e,a⟩ | ⟨v,c,e,a,i⟩
  ·subst e;rw[a];exact b ⟨W.G,W.σ,_⟩ _ (Pext0.toks _) w
  ·subst e;rw[a];exact b ⟨W.G,W.σ,_⟩ _ (Pext0.toks _) i
theorem I4 (H:dO C hp W){v:V} (b:dz C W o x) (e:view hp o=.dE ks vs) (l:wR k=true) (h:dz C W k y) (a:findKey ks vs k=some r) :
  (dP C A (call (.builtin "dict.get") [x,y]) (λW' c=>dz C W' (kg r .none) c) W)/\
  ∀{j:V}{g:Value},dz C W j g->dP C A (call (.builtin "dict.get") [x,y,g]) (λW' c=>dz C W' (kg r j) c) W:=by
 obtain ⟨_,_,_,_,f,_⟩:=i6 H b e
 cases k with
 | str s=>obtain ⟨_,rfl⟩:=h.inv;exact xG H (gV C.prog C.w) (x:=s) (key:=.str s _) (beq_self_eq_true s) b e (o8 f a) a
 | int i=>obtain ⟨_,rfl⟩:=h.inv;exact xG H (nR C.prog C.w) (x:=i) (key:=.int i _) (beq_self_eq_true i) b e (lE f a) a
 | _=>exact fT l
section
variable {o v:V}{x:Value}{as:List V}{xs:List Value}
theorem MN (H:dO C hp W) (g:dz C W o x) (a:dF C W as xs) (e:view hp o=.dE ks vs) (h:NZ ks vs as=some v):dP C A (call (.builtin "dict.get") (x::xs)) (λW' c=>dz C W' v c) W:=by
 cases as with
 | nil=>exact nS h
 | cons k as=>
  replace a:=a.inv;obtain ⟨_,_,rfl,i,a⟩:=a
  cases as with
  | nil=>obtain rfl:=a.inv;exact dN h λf h=>jl h λr b=>(I4 (v:=.none) H g e f i b).1
  | cons d as=>
   replace a:=a.inv;obtain ⟨_,_,rfl,j,a⟩:=a
   cases as with
   | nil=>obtain rfl:=a.inv;exact dN h λf h=>jl h λr b=>(I4 (v:=.none) H g e f i b).2 j
   | cons=>exact nS h
theorem FJ (i:dY d A) (H:dO C hp W) (t:dz C W o x) (e:view hp o=.lst l) (m:dz C W w y) (h:((lM w l).map λ(n:Nat)=>V.int (n:Int))=some v):dP C A (call (.builtin "list.count") [x,y]) (λW' c=>dz C W' v c) W:=by
 refine jl h λn k=>?_
 have u:=i.2.2
 obtain ⟨a,b,rfl,L,r⟩:=jC H t e
 obtain ⟨p,q⟩:=DP k
 obtain ⟨g,L⟩:=L
 refine dP.mk λQ E j=>?_
 refine a_ F.slot_list_count ⟨_,L,rfl⟩ F.entry_list_count (F.args_list_count_2 _ _) (list_countAt a b.toArray g none #[] _ (mn C W l w))
  ⟨L,zG H (A:=A.in1) (by show A.units+1+8 < 9900;lia) r m p,?_⟩
 have s:b.countP (mn C W l w)=n:=by
  rw[q,<-(qI (l0:=l) r λv f=>⟨f,p v f⟩).2.2]
 rw[show b.toArray.toList=b from rfl,s]
 exact dP.int rfl j
theorem wd {α:Type}{f:Str->Option α}{v:α}{G:Prop}(H:dO C hp W) (b:dz C W o x) (h:sV f (view hp o)=some v) (k:∀s t,x=.str s t->f s=some v->G):G:=by
 have a:=f' H b
 cases e:view hp o with
 | str s=>rw[e] at h a;obtain ⟨t,rfl⟩:=a;exact k s t rfl h
 | _=>rw[e] at h;exact nS h
theorem AN (u:dY d A) (H:dO C hp W) (j:dz C W o x) (f:dF C W as xs) (h:MP hp m (view hp o) as=some v) :
  dP C A (call (.builtin (mkId m)) (x::xs)) (λW' c=>dz C W' v c) W:=by
 cases m with
 | nc=>exact lS h λl e h=>nr f h λw y g h=>FJ u H j e g h
 | oH=>exact wd H j h λs t e h=>e▸nr f h λw y g h=>sR g h λG p h=>dP.mk λQ E b=>SC.count (dP.int h b)
 | rt=>
  exact wd H j h λs t e h=>e▸nr f h λw y g h=>lS h λl I h=>ee h λT z h=>dN h λn h=>by
   obtain ⟨a,M,rfl,L,r⟩:=jC H g I
   obtain ⟨xs,rfl,D⟩:=Ap r z
   exact dP.mk λQ E b=>SC.join L.is D n λp k=>dP.str h b
 | uW=>exact wd H j h λs t e h=>e▸nr f h λw y g h=>sR g h λG p h=>dP.mk λQ E b=>SC.find (dP.int h b)
 | m7=>
  exact wd H j h λs t e h=>e▸O8 f h λh=>dN h λJ h=>by
   have B:(a8 s).length<=65536:=of_decide_eq_true J
   exact dP.mk λQ E b=>SC.lower (by unfold b0;rw[bu];exact decide_eq_false (by lia)) (dP.str h b)
 | n3=>cases e:view hp o with
  | dE N M=>rw[e] at h;exact MN H j f e h
  | _=>rw[e] at h;exact nS h
 | rM=>cases e:view hp o with
  | int i=>
   rw[e] at h
   have q:=f' H j
   rw[e] at q
   obtain ⟨t,rfl⟩:=q
   exact O8 f h λh=>dP.mk λQ E b=>call_int_bit_length (dP.int h b)
  | _=>rw[e] at h;exact nS h
 | _=>exact nS h
end
theorem yM (y) (u) (c:u≠0):isSame (.str y u) (.str y u)=pure true:=by
 have a:(u==0||u==0)=false:=by simp[c]
 have b:(u==u)=true:=by simp
 show (if (u==0||u==0)=true then _ else if (u==u)=true then pure true else _:Sem Bool)=_
 rw[a,b]
 rfl
open Builtin Builtin.Str in
theorem o6 (x y) (t u) (a:u≠0):Gives («str.replace» ⟨[.str x t,.str y u,.str y u],[]⟩) (.val (.str x t)):=by
 show Gives (if ((occurrences x y 0 x.length (x.length+1)).isEmpty||(y.length==0&&y.length==0))=true then (do rule "str.replace.nothing";ret (.str x t)) else
     (do
    let same←isSame (.str y u) (.str y u)
    if same=true then (do rule "str.replace.old-is-new";ret (.str x t)) else
    if tooLong (x.length+(occurrences x y 0 x.length (x.length+1)).length*y.length)=true then cU "str.replace:memory" else
    retStr (glued y (partsBetween x (occurrences x y 0 x.length (x.length+1)) y.length)))) _
 cases b:((occurrences x y 0 x.length (x.length+1)).isEmpty||(y.length==0&&y.length==0))
 ·rw[yM y u a]
  exact .rule (.of_eq rfl)
 ·exact .rule (.of_eq rfl)
theorem yE (H:dO C hp W) (G:dz C W o x) (t:dF C W as xs) (h:uX (view hp o) as=some v) :
  dP C A (call (.builtin "str.replace") (x::xs)) (λW' c=>dz C W' v c) W:=by
 refine wd H G h λs I e h=>e▸O7 t h λa b y z w r h=>tR w h λa u e m h=>tR r h λb v D n h=>dN h λl h=>?_
 subst e D
 have q:s.length+(s.length+1)*b.length<=16777216:=of_decide_eq_true l
 have i:u≠0:=Nat.ne_of_gt (H.T _ _ m).1
 have p:v≠0:=Nat.ne_of_gt (H.T _ _ n).1
 refine dP.mk λQ E j=>?_
 by_cases g:a=b
 ·subst g
  by_cases f:u=v
  ·subst f
   refine call_gives F.slot_str_replace (typeIs_str _ _ _) F.entry_str_replace (F.args_str_replace_3 _ _ _) (o6 s a I u i) ?_
   exact j W _ (Pext0.refl W) (by rw[<- Option.some.inj h,Txt.replace_self];exact .str _ _)
  ·exact SC.replaceA i p f q (λB k=>dP.str h j) (C.nb _ λa o e=>H.I a o (H.top a o e))
 ·have f:u≠v:=λz=>by subst z;exact g (Option.some.inj (m.symm.trans n))
  exact SC.replace i p f (by simpa using g) q λB k=>dP.str h j
theorem dJ.reverse {P:Params} (r:dJ P T I σ l vs):dJ P T I σ l.reverse vs.reverse:=by
 induction l generalizing vs with
 | nil=>exact r.i7 .nil
 | cons v l b=>exact r.fC λ_ _ a r=>by rw[List.reverse_cons,List.reverse_cons];exact dJ.append (b r) (.cons a .nil)
structure Em (C:Ctx) (W:Wd) (hp:List O) (i:Nat) (a:Addr) (o:O) (ob:Obj):Prop where
 at_:W.s.heap.get? a=some ob
 rep:eb C.w.params W.G.T W.G.I W.σ ob o
 kept:∀s':Shared,(∀b o,b≠a->W.s.heap.get? b=some o->s'.heap.get? b=some o)->Kept C W ⟨W.G,W.σ,s'⟩
 ns:(a==aK)=false
theorem q_ (H:dO C hp W){o:O} (e:W.σ[i]?=some a) (h:hp[i]?=some o):∃c,Em C W hp i a o c:=by
 obtain ⟨s,m,n,c,g,f,j⟩:=H.fe _ _ e
 have b:a∈W.σ:=List.mem_of_getElem? e
 exact ⟨c,f,Option.some.inj (g.symm.trans h)▸j,λl k=>⟨⟨Gh.le.refl _,ea.refl _⟩,λL o p q r t=>⟨k L o (λz=>r (z▸b)) p,q,r⟩⟩,
  beq_eq_false_iff_ne.mpr λz=>(H.tab _ C.sys).2.2.1 (z▸b)⟩
theorem nA (H:dO C hp W) (e:W.σ[i]?=some a) (h:hp[i]?=some (.list l)):∃vs n,Em C W hp i a (.list l) ⟨.type "list",none,.seq (List.toArray vs) n,#[]⟩/\dF C W l vs/\l.length=vs.length:=by
 obtain ⟨b,t⟩:=q_ H e h
 obtain ⟨vs,n,rfl,r⟩:=t.rep.inv
 exact ⟨vs,n,t,r,r.length⟩
theorem sr (H:dO C hp W) (e:W.σ[i]?=some a) (t:Em C W hp i a (.list l) ⟨.type "list",none,.seq (List.toArray vs) n,#[]⟩){f:Array Value->Array Value}{vs':List Value} (q:f vs.toArray=vs'.toArray) (r:dF C W l' vs'){Q:Value->Shared->Prop} (s:hp.set i (.list l')=hp') (j:dz C W v w) (m:∀h c,Kept C W h->dO C hp' h->dz C h v c->Q c h.s):Q w { W.s with heap:=W.s.heap.update a (Obj.mapSeq f) }:=by
 have g:=cb (c:="list") (xs:=vs.toArray) t.at_ f
 have k:=λ(b:Addr) (o:Obj) (z:b≠a) (p:W.s.heap.get? b=some o)=>((Heap.SameBut.update W.s.heap a (Obj.mapSeq f)).2 b z).trans p
 rw[q] at g
 exact m ⟨W.G,W.σ,_⟩ _ (t.kept _ k) (s▸H.upd e k g (.list r) rfl rfl (Nat.le_refl _)) j
theorem C6 (H:dO C hp W) (w:dz C W o x) (u:dF C W as xs) (h:zq hp m o as=some (v,hp')) :
  TH C A (call (.builtin (mkId m)) (x::xs)) (λW' c=>dz C W' v c) hp' W:=by
 cases o with
 | ref i=>
  obtain ⟨a,rfl,e⟩:=w.inv
  have h:(match hp[i]? with | some (.list l)=>C8 hp i m as l | _=>none)=some (v,hp'):=h
  cases b:hp[i]? with
  | none=>rw[b] at h;exact nS h
  | some o=>cases o with
   | list l=>
    rw[b] at h
    obtain ⟨g,n,t,r,B⟩:=nA H e b
    cases m with
    | gv=>
     refine nr u h λy q z h=>dN h λs h=>λQ E k=>?_
     have j:l.length<=65536:=of_decide_eq_true s
     refine a_ F.slot_list_append ⟨_,t.at_,rfl⟩ F.entry_list_append (F.args_list_append_2 _ _) (aW a g.toArray n q (by simp only[List.size_toArray,bu];lia)) ⟨t.at_,?_⟩
     exact fm h λb p=>sr H e t (f:=(·.push q)) (vs':=g++[q]) (by simp) (dJ.append r (.cons z .nil)) p (b▸.none) k
    | i8=>
     refine O8 u h λh=>dN h λs h=>λQ E k=>?_
     have j:l.length<=65536:=of_decide_eq_true s
     refine a_ F.slot_list_reverse ⟨_,t.at_,rfl⟩ F.entry_list_reverse (F.args_list_reverse_1 _) (AutoListH.list_reverse_list_0 a g.toArray n (by simp only[List.size_toArray,bu];lia)) ⟨t.at_,?_⟩
     exact fm h λb p=>sr H e t (f:=(·.reverse)) (vs':=g.reverse) (by simp) (dJ.reverse r) p (b▸.none) k
    | _=>exact nS h
   | _=>rw[b] at h;exact nS h
 | _=>exact nS h
theorem C5 (i:dY d A) (H:dO C hp W) {m:MK}{o v:V}{as:List V}{x:Value}{xs:List Value}{hp':List O}(g:dz C W o x) (b:dF C W as xs) (h:mj hp m o as=some (v,hp')) :
  TH C A (call (.builtin (mkId m)) (x::xs)) (λW' c=>dz C W' v c) hp' W:=by
 unfold mj at h
 split at h
 ·exact C6 H g b h
 ·split at h
  ·rename_i e
   subst e
   obtain ⟨w,f,a⟩:=Option.map_eq_some_iff.mp h
   cases a
   exact (yE H g b f).th H
  ·obtain ⟨w,f,a⟩:=Option.map_eq_some_iff.mp h
   cases a
   exact (AN i H g b.eN f).th H
end
section
structure Pa (C:Ctx) (g:Glob):Prop where
 top:∀x v,g.top.lookup x=some v->C.mg x=some v
 miss:∀x,g.top.lookup x=none->C.mg x=none
 blt:∀x v,g.blt.lookup x=some v->C.mb x=some v
 vals:∀x v,g.vals.lookup x=some v->∃c,C.mg x=some c/\∀W:Wd,Gm.le C.fu W.G.I->dz C W v c
variable {d:Nat}{κ:K}{cs:List Nat}{st st' dy dC:St}
def TT (C:Ctx) (d:Nat) (κ:K) (cs:List Nat) (e:Expr) (st:St) (b:Bool) (st':St):Prop:=
 ∀(A:Around) (a:Env) (W:Wd),dY d A->At C κ cs a st W->Tr C κ cs a A (bG e a (eval e a)) st' (λ_ c=>c=b) W
def TL (C:Ctx) (d:Nat) (κ:K) (cs:List Nat) (es:List Expr) (st:St) (vs:List V) (st':St):Prop:=
 ∀(A:Around) (a:Env) (W:Wd),dY d A->At C κ cs a st W->Tr C κ cs a A (spliced (es.map λe=>(false,eval e a))) st' (λb cs=>dF C b vs cs) W
theorem jI:∀{l:List Str}{x:Str}{i:Nat},idx l x=some i->l[i]?=some x:=by
 intro l x i h
 unfold idx at h
 obtain ⟨a,b,c⟩:=List.findIdx?_eq_some_iff_getElem.mp h
 rw[List.getElem?_eq_getElem a,eq_of_beq b]
theorem TE.Bp:TE C d κ cs (.Constant (.bool b) k pos) st (.bool b) st:=
 λA a W e c Q E h=>wpAny_Constant_bool (h W _ (Wd.le.refl _) c (.bool b))
theorem TE.const_none:TE C d κ cs (.Constant .none k pos) st .none st:=
 λA a W c b Q E h=>wpAny_Constant_none (h W _ (Wd.le.refl _) b .none)
theorem TE.uv:TE C d κ cs (.Constant (.str s) k pos) st (.dw s) st:=
 λA b W c a Q E h=>wpAny_Constant_str (h ⟨W.G.Az W.s.toks s,W.σ,_⟩ _ (Pext0.tok s a.H.nX).le (a.el ((Pext0.tok s a.H.nX).strict (Nat.le_succ _))) (.dw (Tm.ew _ _ _)))
theorem TE.cell {x:Str}{pos:Pos}{k i:Nat}{v:V}(hx:κ.cells[k]?=some x) (hk:κ.scope.names.lookup x=some .cell\/(κ.scope.names.lookup x=some .free/\(x==("__classdict__":Str))=false)) (hc:cs[k]?=some i) (hv:st.hp[i]?=some (.cell (some v))) (hd:(x==("__debug__":Str))=false) :
  TE C d κ cs (.Name x pos) st v st:=λA env W hr ha Q E h=>by
 obtain ⟨i',a,e1,e2,e3⟩:=ha.ok.cell k x hx (by rcases hk with h | h;exact .inl h;exact .inr h.1)
 rw[hc] at e1;(refine Vm.sI e1 ?_;clear e1;rintro rfl)
 obtain ⟨_,_,o,ob,h1,h2,h3⟩:=ha.H.fe _ _ e2
 rw[hv] at h1;(refine Vm.sI h1 ?_;clear h1;rintro rfl)
 obtain ⟨_,rfl,r⟩:=h3.inv
 refine wpAny_Name ?_ hd
 rcases hk with hk | hk
 ·exact cZ (by rw[ha.ok.scope];exact ha.ok.fn) (by unfold Env.kindOf;rw[ha.ok.scope];exact hk) e3 ⟨_,h2,rfl⟩ (h W _ (Wd.le.refl _) ha r)
 ·exact wpAny_loadName_free (by rw[ha.ok.scope];exact ha.ok.fn) (by unfold Env.kindOf;rw[ha.ok.scope];exact hk.1) e3 ⟨_,h2,rfl⟩ (h W _ (Wd.le.refl _) ha r) hk.2
theorem At.glob {W:Wd} (b:At C κ cs env st W):W.s.heap.Ns env.globals C.mg/\W.s.heap.Ns env.builtins C.mb:=by
 rw[b.ok.globals,b.ok.builtins]
 exact C.gl _ λa o e=>b.H.I a o (b.H.top a o e)
theorem TE.glob (f:κ.scope.names.lookup x=some .globalImplicit) (b:C.mg x=some c\/(C.mg x=none/\C.mb x=some c)) (e:∀W:Wd,Gm.le C.fu W.G.I->dz C W v c) (j:(x==("__debug__":Str))=false) :
  TE C d κ cs (.Name x pos) st v st:=λA i W _ a Q E h=>by
 refine Name_function_global (by rw[a.ok.scope];exact a.ok.fn) (by unfold Env.kindOf;rw[a.ok.scope];exact f) ?_ j
 rcases b with b | ⟨b,g⟩
 ·exact loadGlobal_global a.glob.1 b (h W _ (Wd.le.refl _) a (e W a.H.top))
 ·exact loadGlobal_builtin a.glob.1 b a.glob.2 g (h W _ (Wd.le.refl _) a (e W a.H.top))
theorem TE.bin (c:TE C d κ cs l st a dy) (g:TE C d κ cs r dy b dC) (f:eF dC.hp op a b=some v):TE C d κ cs (.BinOp l op r pos) st v dC:=
 .binop c g λA W x y e H h i=>BA e H h i f
theorem TE.un (n:TE C d κ cs x st a dy) (o:HY op a=some v):TE C d κ cs (.UnaryOp op x pos) st v dy:=
 λA j W l m Q E h=>by
  refine wpAny_UnaryOp (n A j W l m _ _ λk c e g f=>?_)
  exact B' f o _ _ λb c p i=>h b c (e.trans p.le) (g.el p) i
theorem TT.plain (r:TE C d κ cs e st v dy) (o:ef dy.hp v=some b) (hp:∀g a,bG e g a=(do let v←a;standAt e.pos;aP [v] (truthy v))):TT C d κ cs e st b dy:=
 λA g W m q Q E h=>by
  refine isTrue_plain (r A g W m q _ _ λn c j f k=>?_) (hp _ _)
  exact je m f.H k o _ _ λi c p l=>h i c (j.trans p.le) (f.el p) l
theorem TE.not (o:TE C d κ cs x st a dy) (q:ef dy.hp a=some b):TE C d κ cs (.UnaryOp .Not x pos) st (.bool (!b)) dy:=
 λA k W l n Q E h=>by
  refine wpAny_UnaryOp (o A k W l n _ _ λm c g e i=>?_)
  refine not_of ?_
  exact je l e.H i q _ _ λf c p j=>by subst j;exact h f _ (g.trans p.le) (e.el p) (.bool _)
theorem TT.not (j:TT C d κ cs x st b dy):TT C d κ cs (.UnaryOp .Not x pos) st (!b) dy:=
 λA i W k l Q E h=>isTrue_not (j A i W k l _ _ λf c a g e=>h f _ a g (by rw[e]))
theorem TE.dT (r:TT C d κ cs c st t dy) (p:TE C d κ cs (if t then a else b) dy v dC):TE C d κ cs (.IfExp c a b pos) st v dC:=
 λA m W o q Q E h=>by
  refine wpAny_IfExp (r A m W o q _ _ λn x f i g=>?_)
  subst g
  have:=p A m n o i Q E λe y l k j=>h e y (f.trans l) k j
  cases x<;>exact this
theorem TT.dT (r:TT C d κ cs c st t dy) (p:TT C d κ cs (if t then a else b) dy v dC):TT C d κ cs (.IfExp c a b pos) st v dC:=
 λA m W o q Q E h=>by
  refine isTrue_IfExp (r A m W o q _ _ λn x f i g=>?_)
  subst g
  have:=p A m n o i Q E λe y l k j=>h e y (f.trans l) k j
  cases x<;>exact this
theorem TE.Je (a:TE C d κ cs x st v dy):TE C d κ cs (.BoolOp op [x] pos) st v dy:=a
theorem vt {E:Value->Shared->Prop}{Q:Value->Shared->Prop} (h:wpAny M A x (λv b=>wpAny M A (truthy v) (λt a=>match op,t with | .And,false=>Q v a | .Or,true=>Q v a | _,_=>wpAny M A (boolOp pos op (y::rest)) Q E a) E b) E s) :
  wpAny M A (boolOp pos op (x::y::rest)) Q E s:=by
 show wpAny M A (do
  let v←x
  standAt pos
  let t←aP [v] (truthy v)
  match op,t with
  | .And,false | .Or,true=>pure v
  | _,_=>boolOp pos op (y::rest)) Q E s
 refine wpAny_bind (wpAny_mono h (λv b e=>wpAny_bind (wpAny_standAt (wpAny_bind (ai (wpAny_mono e (λt a c=>?_) λ_ _ x=>x))))) λ_ _ x=>x)
 cases op<;>cases t<;>first | exact wpAny_pure c | exact c
theorem TE.lN (u:TE C d κ cs x st v dy) (s:ef dy.hp v=some t) (D:t=(match op with | .And=>true | .Or=>false)) (B:TE C d κ cs (.BoolOp op (y::l) pos) dy w dC) :
  TE C d κ cs (.BoolOp op (x::y::l) pos) st w dC:=λA k W q G Q E h=>by
 refine vt (u A k W q G _ _ λr c n a j=>?_)
 refine je q a.H j s _ _ λe b p o=>?_
 subst o D
 have:=B A k e q (a.el p) Q E λi z m g f=>h i z ((n.trans p.le).trans m) g f
 cases op<;>exact this
theorem TE.jK (r:TE C d κ cs x st v dy) (o:ef dy.hp v=some t) (n:t=(match op with | .And=>false | .Or=>true)) :
  TE C d κ cs (.BoolOp op (x::y::l) pos) st v dy:=λA j W k q Q E h=>by
 refine vt (r A j W k q _ _ λm c g e a=>?_)
 refine je k e.H a o _ _ λf b p i=>?_
 subst i n
 have:=h f c (g.trans p.le) (e.el p) (a.mono p.le)
 cases op<;>exact this
theorem TT.z5:TT C d κ cs (.BoolOp op [] pos) st (op==.And) st:=λA a W c b Q E h=>by
 show wpAny _ _ (allTrue op [] a) _ _ _
 exact wpAny_pure (h W _ (Wd.le.refl _) b rfl)
theorem TT.lN (r:TT C d κ cs x st t dy) (p:t=(match op with | .And=>true | .Or=>false)) (s:TT C d κ cs (.BoolOp op l pos) dy b dC) :
  TT C d κ cs (.BoolOp op (x::l) pos) st b dC:=λA a W o q Q E h=>by
 show wpAny _ _ (allTrue op (x::l) a) _ _ _
 refine wpAny_bind (r A a W o q _ _ λm c f k j=>?_)
 subst j p
 have:=s A a m o k Q E λi z n g e=>h i z (f.trans n) g e
 cases op<;>exact this
theorem TT.jK (m:TT C d κ cs x st t dy) (j:t=(match op with | .And=>false | .Or=>true)) :
  TT C d κ cs (.BoolOp op (x::l) pos) st t dy:=λA f W i k Q E h=>by
 show wpAny _ _ (allTrue op (x::l) f) _ _ _
 refine wpAny_bind (m A f W i k _ _ λg c a e b=>?_)
 subst b j
 have:=h g _ a e rfl
 cases op<;>exact wpAny_pure this
theorem TL.nil:TL C d κ cs [] st [] st:=λA a W c b Q E h=>spliced_nil (h W _ (Wd.le.refl _) b .nil)
theorem TL.cons (q:TE C d κ cs e st v dy) (o:TL C d κ cs es dy vs dC):TL C d κ cs (e::es) st (v::vs) dC:=
 λA l W n p Q E h=>spliced_cons (q A l W n p _ _ λm c f i g=>o A l m n i _ _ λb r a k j=>h b _ (f.trans a) k (.cons (g.mono a) j))
inductive fS (C:Ctx) (d:Nat) (κ:K) (cs:List Nat):List Expr->St->List V->St->Prop
 | nil {st:St}:fS C d κ cs [] st [] st
 | cons {e:Expr}{es:List Expr}{v:V}{vs:List V}{st dy dC:St}:TE C d κ cs e st v dy->fS C d κ cs es dy vs dC->fS C d κ cs (e::es) st (v::vs) dC
theorem fS.tl (h:fS C d κ cs es st vs st'):TL C d κ cs es st vs st':=by
 induction h with
 | nil=>exact .nil
 | cons a _ b=>exact .cons a b
theorem fS.length (h:fS C d κ cs es st vs st'):vs.length=es.length:=by
 induction h<;>simp_all
theorem fS.QR (h:fS C d κ cs [] st vs st'):st=st':=by cases h;rfl
theorem fS.oR (h:fS C d κ cs [] st ls st'):ls=[]/\st=st':=by cases h;exact ⟨rfl,rfl⟩
theorem fS.zW (h:fS C d κ cs (e::es) st ls st'):∃v l st1,ls=v::l/\TE C d κ cs e st v st1/\fS C d κ cs es st1 l st':=by
 cases h with | cons a b=>exact ⟨_,_,_,rfl,a,b⟩
theorem uG (h:noStar e=true):starEach (e::es) env=(false,eval e env)::starEach es env:=by
 cases e<;>first | rfl | exact Vm.fT h
theorem ff:∀{es:List Expr},es.all noStar=true->starEach es env=es.map λe=>(false,eval e env)
 | [],_=>rfl
 | e::es,h=>by
  rw[List.all_cons,Bool.and_eq_true] at h
  rw[uG h.1,ff h.2]
  rfl
theorem gi (es:List Expr):cN pos (es.map λe=>(false,eval e env))=es.map λe=>(false,eval e env):=by
 unfold cN
 rw[List.map_map]
 refine List.map_congr_left λe _=>?_
 rfl
theorem TE.tup {es:List Expr} (t:es.all noStar=true) (o:TL C d κ cs es st vs dy) (s:es.length<=65536) (m:vs.length=es.length):TE C d κ cs (.Tuple es k pos) st (.tup vs) dy:=
 λA i W l n Q E h=>by
  refine wpAny_Tuple ?_
  rw[ff t,gi]
  refine o A i W l n _ _ λg c e b a=>⟨?_,?_⟩
  ·rw[<- a.length,m];exact Nat.le_trans s (by decide)
  ·obtain ⟨q,p,r,f⟩:=Pext0.tup b.H a g.s.toks
   have j:=p.strict (by rw[f];exact Nat.le_refl _)
   have:=h q _ (e.trans j.le) (b.el j) r
   rw[f] at this
   exact this
end
section
variable {d:Nat}{κ:K}{cs:List Nat}{st st' dy dC:St}{W:Wd}{hp:List O}
structure Off (C:Ctx) (W:Wd) (a:Addr) (o:Obj):Prop where
 at_:W.s.heap.get? a=some o
 I:W.G.I a=none
 F:W.G.F a=none
 σ:a∉W.σ
 T:a∉C.tabs
theorem Gm.wo {I:Gm} (h:(I.put a o) b=some x):(b=a/\x=o)\/(b≠a/\I b=some x):=by
 unfold Gm.put at h
 by_cases q:b=a
 ·rw[if_pos q] at h;(refine Vm.sI h ?_;clear h;rintro rfl);exact .inl ⟨q,rfl⟩
 ·rw[if_neg q] at h;exact .inr ⟨q,h⟩
theorem Off.sG (h:Off C W a o) (H:dO C hp W):dS C (W.G.sG a o) W.σ hp W.s where
 I:=H.I
 F b x e:=by
  rcases Gm.wo e with ⟨rfl,rfl⟩ | ⟨_,e⟩
  ·exact h.at_
  ·exact H.F b x e
 IF b e:=by
  show (W.G.F.put a o) b=none
  have hb:b≠a:=λz=>e (by show W.G.I b=none;rw[z];exact h.I)
  rw[Gm.eV hb]
  exact H.IF b e
 top:=H.top
 tab P hP:=by
  obtain ⟨x,y,z⟩:=H.tab P hP
  refine ⟨x,?_,z⟩
  show (W.G.F.put a o) P=none
  have hb:P≠a:=λq=>h.T (by rw[<- q];exact hP)
  rw[Gm.eV hb];exact y
 len:=H.len
 nd:=H.nd
 fe i b e:=by
  obtain ⟨p,q,z⟩:=H.fe i b e
  refine ⟨p,?_,z⟩
  show (W.G.F.put a o) b=none
  have hb:b≠a:=λz=>h.σ (by rw[<- z];exact List.mem_of_getElem? e)
  rw[Gm.eV hb];exact q
 gens:=H.gens
 os:=H.os
 pos:=H.pos
 T:=H.T
theorem dS.u7 {F:Gm} (H:dS C G σ hp s) (h:∀b x,F b=some x->G.F b=some x):dS C ⟨G.I,F,G.T⟩ σ hp s where
 I:=H.I
 F b x e:=H.F b x (h b x e)
 IF b e:=by
  show F b=none
  cases q:F b with
  | none=>rfl
  | some x=>have:=h b x q;rw[H.IF b e] at this;exact Vm.nS this
 top:=H.top
 tab P hP:=by
  obtain ⟨x,y,z⟩:=H.tab P hP
  refine ⟨x,?_,z⟩
  cases q:F P with
  | none=>exact q
  | some x=>have:=h P x q;rw[y] at this;exact Vm.nS this
 len:=H.len
 nd:=H.nd
 fe i b e:=by
  obtain ⟨p,q,z⟩:=H.fe i b e
  refine ⟨p,?_,z⟩
  cases q':F b with
  | none=>exact q'
  | some x=>have:=h b x q';rw[q] at this;exact Vm.nS this
 gens:=H.gens
 os:=H.os
 pos:=H.pos
 T:=H.T
def Wd.hold (W:Wd) (a:Addr) (o:Obj):Wd:=⟨W.G.sG a o,W.σ,W.s⟩
noncomputable def Wd.gp (W:Wd) (F:Gm):Wd:=⟨⟨W.G.I,F,W.G.T⟩,W.σ,W.s⟩
theorem At.hold (b:At C κ cs env st W) (h:Off C W a o) (c:a≠env.locals):At C κ cs env st (W.hold a o):=
 ⟨b.ok,h.sG b.H,⟨b.L.ns,b.L.I,by show (W.G.F.put a o) env.locals=none;rw[Gm.eV (aN c)];exact b.L.F,b.L.σ,b.L.T⟩⟩
theorem iu {α:Type}{A:Around}{env:Env}{t:Sem α}{R:Tm->Gm->List Addr->α->Prop}{a:Addr}{o:Obj}(k:Off C W a o)
  (h:Tr C κ cs env A t st' (λc x=>R c.G.T c.G.I c.σ x) (W.hold a o)) (Q:α->Shared->Prop) (E:Value->Shared->Prop)
  (s:∀c x,W.le c->At C κ cs env st' c->R c.G.T c.G.I c.σ x->Off C c a o->Q x c.s):wpAny (model C.prog C.w) A t Q E W.s:=by
 refine h Q E λc x l f r=>?_
 have n:c.G.F=W.G.F.put a o:=l.G.F
 have g:∀b x,W.G.F b=some x->c.G.F b=some x:=λb x e=>by
  rw[n]
  by_cases q:b=a
  ·subst q;rw[k.F] at e;exact Vm.nS e
  ·rw[Gm.eV q];exact e
 have j:c.G.F a=some o:=by rw[n,Gm.ew]
 have u:W.le (c.gp W.G.F):=⟨⟨l.G.I,rfl,l.G.T⟩,l.σ⟩
 have m:At C κ cs env st' (c.gp W.G.F):=⟨f.ok,f.H.u7 g,⟨f.L.ns,f.L.I,(by
   show W.G.F env.locals=none
   cases q:W.G.F env.locals with
   | none=>rfl
   | some x=>have:=g _ _ q;rw[f.L.F] at this;exact Vm.nS this),f.L.σ,f.L.T⟩⟩
 refine s (c.gp W.G.F) x u m r ⟨f.H.F _ _ j,?_,k.F,?_,k.T⟩
 ·cases q:c.G.I a with
  | none=>exact q
  | some x=>have:=f.H.IF a (by rw[q];exact λz=>by exact Vm.sN z);rw[j] at this;exact Vm.sN this
 ·intro z
  obtain ⟨i,p,e⟩:=List.getElem_of_mem z
  obtain ⟨_,q,_⟩:=f.H.fe i a (by rw[<- e];exact List.getElem?_eq_getElem p)
  rw[j] at q;exact Vm.sN q
def qo (C:Ctx) (d:Nat) (κ:K) (cs:List Nat) (a:V) (ops:List b9) (es:List Expr) (st:St) (b:Bool) (st':St):Prop:=
 ∀(A:Around) (e:Env) (W:Wd) (x:Value) (f:Pos),dY d A->At C κ cs e st W->dz C W a x->
  Tr C κ cs e A (compareChain f x ops (evalEach es e)) st' (λ_ c=>c=.bool b) W/\Tr C κ cs e A (testChain f x ops (evalEach es e)) st' (λ_ c=>c=b) W
theorem qo.last (s:TE C d κ cs e st b dy) (o:fy dy.hp op a b=some r):qo C d κ cs a [op] [e] st r dy:=
 λA l W x u n q t=>⟨λQ E h=>by
  rw[evalEach,evalEach]
  refine chain_last (s A l W n q _ _ λm y f g j=>?_)
  exact iK n g.H (t.mono f) j o _ _ λi c p k=>h i c (f.trans p.le) (g.el p) k,λQ E h=>by
  rw[evalEach,evalEach]
  refine test_last (s A l W n q _ _ λm y f g j=>?_)
  refine iK n g.H (t.mono f) j o _ _ λi c p k=>?_
  subst k
  exact aG (h i _ (f.trans p.le) (g.el p) rfl)⟩
theorem qo.go (B:TE C d κ cs e st b dy) (w:fy dy.hp op a b=some true) (D:qo C d κ cs b (v::ops) (I::es) dy r dC):qo C d κ cs a (op::v::ops) (e::I::es) st r dC:=
 λA q W x u s H G=>⟨λQ E h=>by
  rw[evalEach,evalEach]
  refine chain_link (B A q W s H _ _ λt y i g f=>?_)
  refine iK s g.H (G.mono i) f w _ _ λj c p o=>?_
  subst o
  refine aG ?_
  have:=(D A q j y u s (g.el p) (f.mono p.le)).1 Q E λm z n l k=>h m z ((i.trans p.le).trans n) l k
  rw[evalEach] at this
  exact this,λQ E h=>by
  rw[evalEach,evalEach]
  refine test_link (B A q W s H _ _ λt y i g f=>?_)
  refine iK s g.H (G.mono i) f w _ _ λj c p o=>?_
  subst o
  refine aG ?_
  have:=(D A q j y u s (g.el p) (f.mono p.le)).2 Q E λm z n l k=>h m z ((i.trans p.le).trans n) l k
  rw[evalEach] at this
  exact this⟩
theorem qo.stop (r:TE C d κ cs e st b dy) (o:fy dy.hp op a b=some false):qo C d κ cs a (op::Yg::ops) (e::e'::es) st false dy:=
 λA l W x t n q s=>⟨λQ E h=>by
  rw[evalEach,evalEach]
  refine chain_link (r A l W n q _ _ λm y f g j=>?_)
  refine iK n g.H (s.mono f) j o _ _ λi c p k=>?_
  subst k
  exact aG (h i _ (f.trans p.le) (g.el p) rfl),λQ E h=>by
  rw[evalEach,evalEach]
  refine test_link (r A l W n q _ _ λm y f g j=>?_)
  refine iK n g.H (s.mono f) j o _ _ λi c p k=>?_
  subst k
  exact aG (h i _ (f.trans p.le) (g.el p) rfl)⟩
theorem lq:∀{ops:List b9}{es:List Expr},(ops.zip es).any (λx=>bS x.1 x.2)=false->bC ops es=false
 | [],_,_=>by simp[bC]
 | [op],[e],h=>by simpa[bC] using h
 | _::_,[],_=>by simp[bC]
 | [_],_::_::_,_=>by simp[bC]
 | _::_::_,[_],_=>by simp[bC]
 | _::o::ops,_::e::es,h=>by
  rw[List.zip_cons_cons,List.any_cons,Bool.or_eq_false_iff] at h
  have:=lq (ops:=o::ops) (es:=e::es) h.2
  simpa[bC] using this
theorem TE.cmp {ops:List b9} (r:(ops.zip es).any (λx=>bS x.1 x.2)=false) (s:TE C d κ cs l st a dy) (q:qo C d κ cs a ops es dy b dC) :
  TE C d κ cs (.Compare l ops es pos) st (.bool b) dC:=λA j W p t Q E h=>by
 rw[arm_eval_Compare,c7 _ _ _ (lq r)]
 refine wpAny_bind (s A j W p t _ _ λk x m g f=>?_)
 exact (q A j k x pos p g f).1 Q E λe c o i n=>by subst n;exact h e _ (m.trans o) i (.bool _)
theorem TT.cmp {ops:List b9} (r:(ops.zip es).any (λx=>bS x.1 x.2)=false) (s:TE C d κ cs l st a dy) (q:qo C d κ cs a ops es dy b dC) :
  TT C d κ cs (.Compare l ops es pos) st b dC:=λA e W p t Q E h=>by
 show wpAny _ _ (do testChain pos (← eval l e) ops (markedEach ops es (evalEach es e))) _ _ _
 rw[c7 _ _ _ (lq r)]
 refine wpAny_bind (s A e W p t _ _ λk x m i g=>?_)
 exact (q A e k x pos p i g).2 Q E λf c o j n=>h f _ (m.trans o) j n
theorem sv (e) (x y):∃l,subscripted e false x y=operate l (getItem x y):=by
 cases e with
 | Slice a b c p=>cases c<;>exact ⟨_,rfl⟩
 | _=>exact ⟨_,rfl⟩
theorem vQ {R:Wd->Value->Prop}{id:String} (i:W.s.TypeIs x T) (n:aA (.type T) "__getitem__"=pure (some (.builtin id))) (h:dP C A (getItem x y) R W):dP C A (subscriptTail f b x y) R W:=λQ E k=>by
 unfold subscriptTail
 refine wpAny_bind ?_
 rw[getitemInPython_of_ne i.not_modules]
 refine wpAny_bind (bb i n ?_)
 have g:wpAny (model C.prog C.w) A (subscripted b false x y) (λr a=>wpAny (model C.prog C.w) A (cu f x r>>=λ_=>pure r) Q E a) E W.s:=by
  have j:=h (λr a=>wpAny (model C.prog C.w) A (cu f x r>>=λ_=>pure r) Q E a) E λm c p r=>wpAny_bind (wpAny_letTemporaryGo (wpAny_pure (k m c p r)))
  obtain ⟨l,e⟩:=sv b x y
  rw[e]
  exact wpAny_operating j
 first
  | exact wpAny_pure (wpAny_bind g)
  | exact wpAny_bind (wpAny_pure (wpAny_bind g))
  | exact wpAny_bind g
noncomputable def Ao:V->Bool
 | .lst _ | .tup _ | .str _ | .dE _ _=>true
 | _=>false
theorem tv (s:gn C W x v) (h:Ao v=true):∃T id,W.s.TypeIs x T/\aA (.type T) "__getitem__"=pure (some (.builtin id)):=by
 cases v with
 | lst l=>obtain ⟨a,b,rfl,L,r⟩:=s;exact ⟨"list",_,L.is.typeIs,F.slot_list_getitem.lookup⟩
 | tup l=>obtain ⟨a,b,rfl,⟨n,L⟩,r⟩:=s;exact ⟨"tuple",_,⟨_,L,rfl⟩,F.slot_tuple_getitem.lookup⟩
 | str l=>obtain ⟨t,rfl⟩:=s;exact ⟨"str",_,typeIs_str _ _ _,F.slot_str_getitem.lookup⟩
 | dE e b=>obtain ⟨a,c,rfl,⟨n,L⟩,r⟩:=s;exact ⟨"dict",_,⟨_,L,rfl⟩,F.slot_dict_getitem.lookup⟩
 | _=>exact fT h
theorem Cu (h:ET o i=some v):Ao o=true:=by
 cases o with
 | lst | tup | str | dE=>rfl
 | _=>exact nS h
theorem TE.sub (z:TE C d κ cs o st a dy) (w:TE C d κ cs i dy b dC) (u:fx dC.hp a b=some v):TE C d κ cs (.Subscript o i pos) st v dC:=λA m W s D Q E h=>by
 refine Subscript_ (z A m W s D _ _ λn x q l g=>w A m n s l _ _ λt y f e r=>?_)
 obtain ⟨T,H,G,B⟩:=tv (f' e.H (g.mono f)) (Cu u)
 exact vQ G B (rj s e.H (g.mono f) r u) _ _ λk c p j=>h k c ((q.trans f).trans p.le) (e.el p) j
def uA (C:Ctx) (d:Nat) (κ:K) (cs:List Nat) (e:Option Expr) (st:St) (v:V) (st':St):Prop:=
 ∀(A:Around) (a:Env) (W:Wd),dY d A->At C κ cs a st W->Tr C κ cs a A (evalPart e a) st' (λb c=>dz C b v c) W
theorem uA.none:uA C d κ cs none st .none st:=λA a W c b Q E h=>
 wpAny_pure (h W _ (Wd.le.refl _) b .none)
theorem uA.some (h1:TE C d κ cs e st v dy):uA C d κ cs (some e) st v dy:=λA env W hr ha Q E h=>
 h1 A env W hr ha Q E h
theorem CA {a:Option Int} (h:L9 o a hi w=some v):Ao w=true:=by
 cases w with
 | lst | str=>rfl
 | _=>exact nS h
theorem TE.k_ {o:Expr}{lo Y:Option Expr}{p pos:Pos}{f:St}{a b c v:V}(h1:TE C d κ cs o st a dy) (h2:uA C d κ cs lo dy b dC) (h3:uA C d κ cs Y dC c f) (h4:nG f.hp a b c=some v) :
  TE C d κ cs (.Subscript o (.Slice lo Y none p) pos) st v f:=λA k W H ha Q E h=>by
 refine Subscript_ (h1 A k W H ha _ _ λs x w r q=>wpAny_Slice (h2 A k s H r _ _ λB y m I L=>h3 A k B H I _ _ λn z j G D=>?_))
 refine uA.none (d:=d) (κ:=κ) (cs:=cs) (st:=f) A k n H G _ _ λe u g U N=>?_
 subst N
 have J:hZ C e ⟨e.G,e.σ,{ e.s with heap:=e.s.heap.push { cls:=.type "slice",data:=.fields #[y,z,.none] },toks:=e.s.toks }⟩:=(Pext0.push _ _).strict (Nat.le_refl _)
 have i:=U.el J
 have l:=((((q.mono m).mono j).mono g).mono J.le)
 obtain ⟨T,id,t1,t2⟩:=tv (f' i.H l) (ee h4 λ_ _ h=>ee h λ_ _ h=>CA h)
 exact vQ t1 t2 (As H i.H l (((L.mono j).mono g).mono J.le) ((D.mono g).mono J.le) h4 (Heap.get?_push_size _ rfl)) _ _ λt c p M=>h t c (((((w.trans m).trans j).trans g).trans J.le).trans p.le) (i.el p) M
end
section
variable {d:Nat}{κ:K}{cs:List Nat}{st st' dy dC:St}{W:Wd}{hp:List O}
def TF (C:Ctx) (d:Nat) (κ:K) (cs:List Nat) (e:Expr) (st:St) (o:O) (st':St):Prop:=
 ∀(A:Around) (b:Env) (W:Wd),dY d A->At C κ cs b st W->
  Tr C κ cs b A (eval e b) st' (λf c=>∃a g,c=.ref a/\a≠b.locals/\Off C f a g/\eb C.w.params f.G.T f.G.I f.σ g o) W
theorem At.freeze (b:At C κ cs env st W) (h:Off C W a o) (g:a≠env.locals):At C κ cs env st ⟨W.G.gK a o,W.σ,W.s⟩:=
 ⟨b.ok,b.H.freeze h.at_ h.I h.F h.σ h.T,⟨by
  obtain ⟨m,x,y⟩:=b.L.ns
  exact ⟨m,x,λi x v e f=>by obtain ⟨c,p,q⟩:=y i x v e f;exact ⟨c,p,dz.mono q (W':=⟨W.G.gK a o,W.σ,W.s⟩) ⟨Gh.jH h.I,ea.refl _⟩⟩⟩,by
  show (W.G.I.put a o) env.locals=none
  rw[Gm.eV (aN g)];exact b.L.I,b.L.F,b.L.σ,b.L.T⟩⟩
theorem At.nB (b:At C κ cs env st W) (h:Off C W a ob) (g:a≠env.locals) (r:eb C.w.params W.G.T W.G.I W.σ ob o):At C κ cs env ⟨st.loc,st.hp++[o]⟩ ⟨W.G,W.σ++[a],W.s⟩:=
 ⟨b.ok.mono (ea.push _ _),b.H.nB h.at_ h.I h.F h.σ h.T (r.mono (Tm.le.refl _) (Gm.le.refl _) (ea.push _ _)),⟨by
  obtain ⟨m,x,y⟩:=b.L.ns
  exact ⟨m,x,λi x v e f=>by obtain ⟨c,p,q⟩:=y i x v e f;exact ⟨c,p,dz.mono q (W':=⟨W.G,W.σ++[a],W.s⟩) ⟨Gh.le.refl _,ea.push _ _⟩⟩⟩,b.L.I,b.L.F,by
  intro q
  rcases List.mem_append.mp q with q | q
  ·exact b.L.σ q
  ·exact g (List.mem_singleton.mp q).symm,b.L.T⟩⟩
theorem TF.frozen (v:TF C d κ cs e st o dy) (t:(∃l,o=.list l)\/∃p q,o=.dict p q):TE C d κ cs e st (sU o) dy:=λA m W s x Q E h=>by
 refine v A m W s x _ _ λb c j i ⟨a,n,u,w,g,r⟩=>?_
 subst u
 have f:b.le ⟨b.G.gK a n,b.σ,b.s⟩:=⟨Gh.jH g.I,ea.refl _⟩
 refine h ⟨b.G.gK a n,b.σ,b.s⟩ _ (j.trans f) (i.freeze g w) ?_
 rcases t with ⟨l,rfl⟩ | ⟨p,q,rfl⟩
 ·replace r:=r.inv;obtain ⟨_,_,rfl,r⟩:=r;exact .lst (Gm.ew _ _ _) (dF.mono r f)
 ·replace r:=r.inv;obtain ⟨_,_,rfl,k,r⟩:=r;exact .dE (Gm.ew _ _ _) k (eu.mono f.G.T f.G.I f.σ r)
theorem TF.tracked (n:TF C d κ cs e st o dy):TE C d κ cs e st (.ref dy.hp.length) ⟨dy.loc,dy.hp++[o]⟩:=λA j W k l Q E h=>by
 refine n A j W k l _ _ λb c g f ⟨a,q,m,p,i,r⟩=>?_
 subst m
 exact h ⟨b.G,b.σ++[a],b.s⟩ _ (g.trans ⟨Gh.le.refl _,ea.push _ _⟩) (f.nB i p r) (.ref (by rw[<- f.H.len,List.getElem?_concat_length]))
theorem At.lt (a:At C κ cs env st W):env.locals < W.s.heap.objs.size:=by
 obtain ⟨m,⟨o,b,c,e,_⟩,_⟩:=a.L.ns
 exact Heap.lt_size e
theorem m9 {o:Obj} (H:dO C hp W) (a:o.isFreed=false):Off C ⟨W.G,W.σ,{ W.s with heap:=W.s.heap.push o,toks:=t }⟩ W.s.heap.objs.size o:=
 ⟨Heap.get?_push_size _ a,H.fX,H.jo,H.iI,H.freshT⟩
theorem TF.list {es:List Expr} (n:es.all noStar=true) (l:TL C d κ cs es st vs dy) (m:es.length<=65536) (j:vs.length=es.length):TF C d κ cs (.List es pos) st (.list vs) dy:=
 λA g W i k Q E h=>by
  refine wpAny_List ?_
  rw[ff n,gi]
  refine l A g W i k _ _ λa c f b e=>⟨?_,?_⟩
  ·rw[<- e.length,j];exact Nat.le_trans m (by decide)
  ·have p:hZ C a ⟨a.G,a.σ,{ a.s with heap:=a.s.heap.push ⟨.type "list",none,.seq c.toArray 0,#[]⟩,toks:=a.s.toks }⟩:=(Pext0.push _ _).strict (Nat.le_refl _)
   exact h ⟨a.G,a.σ,_⟩ _ (f.trans p.le) (b.el p) ⟨_,_,rfl,Nat.ne_of_gt b.lt,m9 b.H rfl,.list (dF.mono e p.le)⟩
theorem TF.SG:TF C d κ cs (.Dict [] [] pos) st (.dict [] []) st:=λA b W c a Q E h=>by
 refine wpAny_Dict_empty ?_
 have p:hZ C W ⟨W.G,W.σ,{ W.s with heap:=W.s.heap.push ⟨.type "dict",none,.dict #[] 0,#[]⟩,toks:=W.s.toks }⟩:=(Pext0.push _ _).strict (Nat.le_refl _)
 exact h ⟨W.G,W.σ,_⟩ _ p.le (a.el p) ⟨_,_,rfl,Nat.ne_of_gt a.lt,m9 a.H rfl,.dict (es:=[]) .nil .nil⟩
theorem uy:∀{ks:List V},sf ks=true->dZ ks
 | [],_=>.nil
 | k::ks,h=>by
  unfold sf at h
  rw[Bool.and_eq_true] at h
  exact List.pairwise_cons.mpr ⟨λx a=>eq_of_beq (List.all_eq_true.mp h.1 x a),uy h.2⟩
def Ab (T:Tm) (I:Gm) (σ:List Addr) (P:Params) (xs:List Str) (vs:List V) (b:List (Value×Value)):Prop:=
 ∃cs,dJ P T I σ vs cs/\xs.length=cs.length/\b.length=xs.length/\∀(a:Program) (w:World),Carries (PySem.strKind a w) b (xs.zip cs)
noncomputable def lr (env:Env) (pos:Pos):List (Str×Nat×Pos)->List Expr->List (Sem Value×Sem Value)
 | (x,k,p)::b,e::a=>(eval (.Constant (.str x) k p) env,do let x←eval e env;standAt pos;pure x)::lr env pos b a
 | _,_=>[]
theorem d8 {α e:Type}{f:α->Option e}{a:α}{l:List α}{r:List e}(h:dI f (a::l)=some r):∃b c,f a=some b/\dI f l=some c/\r=b::c:=by
 have g:∀(p:Option e) (q:Option (List e)),(match p with | some b=>(match q with | some r=>some (b::r) | none=>none) | none=>none)=some r->∃b c,p=some b/\q=some c/\r=b::c:=by
  intro p q h
  cases p with
  | none=>exact nS h
  | some b=>cases q with
   | none=>exact nS h
   | some c=>exact ⟨b,c,rfl,rfl,(Option.some.inj h).symm⟩
 exact g _ _ h
theorem Km (h:FY k=some x):∃l:Str×Nat×Pos,k=some (.Constant (.str l.1) l.2.1 l.2.2)/\x=.k (.dw l.1):=
 ee h λe a h=>ee h λc b h=>dK h λs g f=>(KN b).elim λn q=>q.elim λp q=>⟨(s,n,p),by rw[a,q,JL g],f.symm⟩
theorem rG:∀{ks:List (Option Expr)}{xs:List X},dI FY ks=some xs->∃ls:List (Str×Nat×Pos),ks=ls.map (λl=>some (.Constant (.str l.1) l.2.1 l.2.2))/\xs=ls.map (λl=>.k (.dw l.1))
 | [],xs,h=>by (refine Vm.sI h ?_;clear h;rintro rfl);exact ⟨[],rfl,rfl⟩
 | k::ks,xs,h=>by
  obtain ⟨b,c,e,a,rfl⟩:=d8 h
  obtain ⟨ls,rfl,rfl⟩:=rG a
  obtain ⟨l,rfl,rfl⟩:=Km e
  exact ⟨l::ls,rfl,rfl⟩
theorem nf:∀{ls:List (Str×Nat×Pos)}{es:List Expr},ls.length=es.length->
  (evalEachOpt (ls.map λl=>some (.Constant (.str l.1) l.2.1 l.2.2)) env).zip ((evalEach es env).map λv=>do let x←v;standAt pos;pure x)=(lr env pos ls es).map λp=>(some p.1,p.2)
 | [],[],_=>rfl
 | (x,k,p)::ls,e::es,h=>by
  exact congrArg (List.cons _) (nf (ls:=ls) (es:=es) (Nat.succ.inj h))
 | [],_::_,h=>by cases h
 | _::_,[],h=>by cases h
theorem jn:∀{ls:List (Str×Nat×Pos)}{es:List Expr},ls.length=es.length->(lr env pos ls es).length=ls.length
 | [],[],_=>rfl
 | (x,k,p)::ls,e::es,h=>congrArg (·+1) (jn (ls:=ls) (es:=es) (Nat.succ.inj h))
 | [],_::_,h=>by cases h
 | _::_,[],h=>by cases h
theorem vF (y:dY d A):∀{ls:List (Str×Nat×Pos)}{es:List Expr}{vs:List V}{st st':St}{W:Wd},ls.length=es.length->fS C d κ cs es st vs st'->At C κ cs env st W->
  Tr C κ cs env A (evalPairs (lr env pos ls es)) st' (λW' G=>Ab W'.G.T W'.G.I W'.σ C.w.params (ls.map (·.1)) vs G) W
 | [],[],_,_,_,W,c,h,z=>by
  rw[h.oR.1,<-h.oR.2]
  exact λQ E h=>evalPairs_nil (h W _ (Wd.le.refl _) z ⟨[],.nil,rfl,rfl,λ_ _=>trivial⟩)
 | (x,k,p)::ls,e::es,_,st,_,W,c,h,z=>by
  obtain ⟨v,vs,T,q,N,M⟩:=h.zW
  rw[q]
  refine λQ E h=>evalPairs_cons (TE.uv (d:=d) (κ:=κ) (cs:=cs) (st:=st) A env W y z _ _ λo D r m l=>wpAny_bind (N A env o y m _ _ λB f u n s=>wpAny_bind (wpAny_standAt (wpAny_pure ?_))))
  refine vF y (Nat.succ.inj c) M n _ _ λj G a i ⟨b,H,I,J,L⟩=>h j _ ((r.trans u).trans a) i ⟨f::b,.cons (s.mono a) H,congrArg (·+1) I,congrArg (·+1) J,λg w=>?_⟩
  obtain ⟨t,rfl,_⟩:=l.inv
  exact ⟨beq_self_eq_true x,rfl,L g w⟩
 | [],_::_,_,_,_,_,c,_,_=>by cases c
 | _::_,[],_,_,_,_,c,_,_=>by cases c
theorem TF.dict {ls:List (Str×Nat×Pos)}{es:List Expr} (B:ls.length=es.length) (hn:ls≠[]) (Y:ls.length<=15) (h1:fS C d κ cs es st vs dy) (hk:dZ (ls.map λl=>V.str l.1)) :
  TF C d κ cs (.Dict (ls.map λl=>some (.Constant (.str l.1) l.2.1 l.2.2)) es pos) st (.dict (ls.map λl=>.str l.1) vs) dy:=λA g W hr M Q E h=>by
 have H:lr g pos ls es≠[]:=by
  intro q
  have:=jn (env:=g) (pos:=pos) B
  rw[q] at this
  exact hn (List.length_eq_zero_iff.mp this.symm)
 have J:(ls.map (·.1)).Nodup:=by
  have e:(ls.map λl=>V.str l.1)=(ls.map (·.1)).map V.str:=by rw[List.map_map];rfl
  rw[e] at hk
  exact dZ.nodup (gV C.prog C.w) hk
 refine wpAny_Dict_pairs (knd:=PySem.strKind C.prog C.w) (nf B) H (by rw[jn B];exact Y) ?_
 have p:hZ C W ⟨W.G,W.σ,{ W.s with heap:=W.s.heap.push ⟨.type "dict",none,.dict #[] 0,#[]⟩,toks:=W.s.toks }⟩:=(Pext0.push _ _).strict (Nat.le_refl _)
 have w:=m9 (W:=W) (hp:=st.hp) (o:=⟨.type "dict",none,.dict #[] 0,#[]⟩) M.H rfl (t:=W.s.toks)
 have k:W.s.heap.objs.size≠g.locals:=Nat.ne_of_gt M.lt
 refine iu (R:=λT I σ r=>Ab T I σ C.w.params (ls.map (·.1)) vs r) (W:=⟨W.G,W.σ,_⟩) w (vF hr B h1 ((M.el p).hold w k)) _ _ λa r j f ⟨L,q1,q2,q3,q4⟩ c=>?_
 have hz:((ls.map (·.1)).zip L).map (·.1)=ls.map (·.1):=List.map_fst_zip (Nat.le_of_eq q2)
 have G:((ls.map (·.1)).zip L).map (·.2)=L:=List.map_snd_zip (Nat.le_of_eq q2.symm)
 refine ⟨_,q4 _ _,⟨_,#[],0,c.at_,⟨rfl,rfl,rfl⟩,rfl,λe he=>by simp at he,.nil,.nil⟩,λD hd hs=>?_⟩
 rw[merged_nil_of_nodup _ (by rw[hz];exact J)] at hd
 obtain ⟨mv,n,e1,U,N⟩:=lK (gV C.prog C.w) (I:=a.G.I) (σ:=a.σ) (T:=a.G.T) (vs:=vs) hd (by rw[G];exact q1)
 rw[hz] at U N
 have eK:(ls.map (·.1)).map (gV C.prog C.w).inj=ls.map λl=>V.str l.1:=by rw[List.map_map];rfl
 rw[eK] at U N
 have tk:a.s.toks<=a.s.toks+r.length:=Nat.le_add_right _ _
 have i:∀b o,b≠W.s.heap.objs.size->a.s.heap.get? b=some o->D.get? b=some o:=λb o z e=>(hs.2 b z).trans e
 have s:dO C dy.hp ⟨a.G,a.σ,{ a.s with heap:=D,toks:=a.s.toks+r.length }⟩:=
  f.H.keep (s':={ a.s with heap:=D,toks:=a.s.toks+r.length }) _ i c.I c.F c.σ c.T rfl rfl tk
 have v:At C κ cs g dy ⟨a.G,a.σ,{ a.s with heap:=D,toks:=a.s.toks+r.length }⟩:=⟨f.ok,s,⟨by
  obtain ⟨m,x,y⟩:=f.L.ns
  obtain ⟨o,es,ep,z,u⟩:=x
  exact ⟨m,⟨o,es,ep,i _ _ k.symm z,u⟩,y⟩,f.L.I,f.L.F,f.L.σ,f.L.T⟩⟩
 exact h ⟨a.G,a.σ,_⟩ _ ⟨(p.le.trans j).G,(p.le.trans j).σ⟩ v ⟨_,_,rfl,k,⟨e1,c.I,c.F,c.σ,c.T⟩,.dict U N⟩
end
section
variable {d:Nat}{κ:K}{cs:List Nat}{st st' dy dC:St}{W:Wd}{hp:List O}
theorem At.th (a:At C κ cs env st W) (h:TH C A t (λW' c=>dz C W' v c) hp' W):Tr C κ cs env A t ⟨st.loc,hp'⟩ (λW' c=>dz C W' v c) W:=
 λQ E b=>h Q E λW' c k H r=>b W' c k.le (a.kept k H) r
theorem pH (m:fS C d κ cs es st vs st') (j:dY d A) (g:At C κ cs env st W) :
  Tr C κ cs env A (cw f true (es.map λe=>(false,eval e env)) []) st' (λW' a=>a.kw=[]/\dF C W' vs a.pos) W:=λQ E h=>by
 cases m with
 | nil=>exact evalArgs_nil3 (h W _ (Wd.le.refl _) g ⟨rfl,.nil⟩)
 | cons a b=>
  have:=(fS.cons a b).tl A env W j g (λvs k=>Q ⟨vs,[]⟩ k) E λW' c l i r=>h W' _ l i ⟨rfl,r⟩
  exact Calls.evalArgs_plain this
theorem mA (es:List Expr):((es.map λe=>(false,eval e env)).any (·.1))=false:=by
 induction es with
 | nil=>rfl
 | cons e es a=>rw[List.map_cons,List.any_cons,a];rfl
theorem yT {E:Value->Shared->Prop}{e:List (Bool×Sem Value)}{Q:Value->Shared->Prop} (c:e.any (·.1)=false) (h:wpAny M A (cw (i3 b) true e []) (λa f=>wpAny M A (call (i3 b) a.pos a.kw) Q E f) E s):wpAny M A (bo pos (i3 b) [] e []) Q E s:=by
 cases b with
 | range | list | set=>exact PySem.callWith_type c h
 | _=>exact cj c h
theorem TE.bf {es:List Expr} (t:TE C d κ cs (.Name x np) st (.con (i3 b)) st) (w:es.all noStar=true) (u:fS C d κ cs es st vs dy) (s:iP dy.hp b vs=some v) :
  TE C d κ cs (.Call (.Name x np) es [] pos) st v dy:=λA p W o z Q E h=>by
 refine dm (t A p W o z _ _ λr c k i g=>?_)
 subst g
 rw[ff w,gi]
 refine yT (mA es) ?_
 refine pH u o i _ _ λq a n j ⟨y,m⟩=>?_
 rw[y]
 exact D' o j m s _ _ λf c l a e=>h f c ((k.trans n).trans l) a e
theorem n9 (h:gZ o=true):attributeBase o name env (eval o env)=eval o env:=by
 cases o with
 | Call f a k p=>cases f with
  | Name x q=>cases a with
   | nil=>cases k with
    | nil=>exact Vm.fT h
    | cons _ _=>rfl
   | cons _ _=>rfl
  | _=>rfl
 | _=>rfl
theorem TE.mt {f pos:Pos}{es:List Expr} (hn:name=jk m) (hb:gZ o=true) (U:es.all noStar=true) (T:es.length < 25) (n:(f.endLine==pos.line)=true) (J:TE C d κ cs o st a dy) (hk:oU m (view dy.hp a)=some k) (N:fS C d κ cs es dy vs dC) (I:mj dC.hp k a vs=some (v,hp')) :
  TE C d κ cs (.Call (.Attribute o name f) es [] pos) st v ⟨dC.loc,hp'⟩:=λA b W w ha Q E h=>by
 have B:cN pos (starEach es b)=es.map λe=>(false,eval e b):=by rw[ff U,gi]
 refine wpAny_Call_method_late (n9 hb) ?_ n B (J A b W w ha _ _ λD x t i g=>?_)
 ·rw[B]
  have M:keywordEach [] b=[]:=rfl
  simp only[List.all_map,M,aX,List.map_nil,List.all_nil,Bool.and_true,List.isEmpty_nil,if_true,Bool.and_eq_true,decide_eq_true_eq,List.length_nil]
  exact ⟨List.all_eq_true.mpr λ_ _=>rfl,by lia⟩
 ·subst hn
  obtain ⟨G,L,H,Y,f5⟩:=FK i.H g hk
  refine ⟨zr k,mkId k,G,L,H,Y,f5,cj (mA es) ?_⟩
  refine pH N w i _ _ λz ar l j ⟨y,u⟩=>?_
  rw[y]
  exact j.th (C5 w j.H (g.mono l) u I) Q E λr c s q p=>h r c ((t.trans l).trans s) q p
end
section
variable {d:Nat}{κ:K}{cs:List Nat}{st st' dy dC:St}{W:Wd}{hp:List O}
def Vd (C:Ctx) (d:Nat) (κ:K) (cs:List Nat) (t:Expr) (v:V) (st st':St):Prop:=
 ∀(A:Around) (a:Env) (W:Wd) (c:Value),dY d A->At C κ cs a st W->dz C W v c->Tr C κ cs a A (assign t a c) st' (λ_ _=>True) W
theorem tH (ha:At C κ cs env st W) (hx:κ.slots[i]?=some x) (hk:κ.scope.names.lookup x=some .local) (hi:i < st.loc.length) (r:dz C W v c) :
  Tr C κ cs env A (storeName env x c) { st with loc:=st.loc.set i (some v) } (λ_ _=>True) W:=λQ E h=>by
 obtain ⟨m,hn,hm⟩:=ha.L.ns
 have Si:env.scope.kind=.function:=by rw[ha.ok.scope];exact ha.ok.fn
 refine wpAny_storeName_local (by unfold Env.kindOf;rw[ha.ok.scope];exact hk) hn (λh' Dt hs=>?_) (by rw[Si];rfl)
 have k:∀b o,b≠env.locals->W.s.heap.get? b=some o->h'.get? b=some o:=λb o z e=>(hs.2 b z).trans e
 have tk:W.s.toks<=W.s.toks+1:=Nat.le_succ _
 have H':dO C st.hp ⟨W.G,W.σ,{ W.s with heap:=h',toks:=W.s.toks+1 }⟩:=ha.H.keep (s':={ W.s with heap:=h',toks:=W.s.toks+1 }) env.locals k ha.L.I ha.L.F ha.L.σ ha.L.T rfl rfl tk
 refine h ⟨W.G,W.σ,_⟩ _ ⟨Gh.le.refl _,ea.refl _⟩ ⟨ha.ok,H',⟨⟨_,Dt,λj y w e f=>?_⟩,ha.L.I,ha.L.F,ha.L.σ,ha.L.T⟩⟩ trivial
 by_cases q:j=i
 ·subst q
  rw[hx] at e;(refine Vm.sI e ?_;clear e;rintro rfl)
  replace f:(st.loc.set j (some v))[j]?=some (some w):=f
  rw[List.getElem?_set_self hi] at f
  cases f
  exact ⟨c,if_pos rfl,r⟩
 ·replace f:(st.loc.set i (some v))[j]?=some (some w):=f
  rw[List.getElem?_set_ne (aN q)] at f
  obtain ⟨c',e1,e2⟩:=hm j y w e f
  have lA:y≠x:=λz=>q (by
   subst z
   have hj:j < κ.slots.length:=(List.getElem?_eq_some_iff.mp e).1
   exact (List.getElem?_inj hj ha.ok.nd).mp (e.trans hx.symm))
  exact ⟨c',by rw[if_neg lA];exact e1,e2⟩
theorem EZ (ha:At C κ cs env st W) (hx:κ.slots[i]?=some x) (hk:κ.scope.names.lookup x=some .local) (hi:i < st.loc.length) (r:dz C W v c) :
  Tr C κ cs env A (bindName env x c) { st with loc:=st.loc.set i (some v) } (λ_ _=>True) W:=λQ E h=>wpAny_bindName (tH ha hx hk hi r Q E h)
theorem vr {E:Value->Shared->Prop}{s:Shared}{env:Env}{Q:Unit->Shared->Prop} (hk:env.scope.kind=.function) (hl:env.kindOf name=some .cell) (hc:env.cells.lookup name=some c) (hv:s.heap.get? c=some ⟨.type "cell",none,.cell Lu,#[]⟩) (h:∀h',h'.get? c=some ⟨.type "cell",none,.cell (some v),#[]⟩->Heap.SameBut c s.heap h'->Q () { s with heap:=h' }):wpAny M A (storeName env name v) Q E s:=by
 unfold storeName
 rw[hl,hk]
 show wpAny M A (da env name>>=λc=>cellSet c (some v)) Q E s
 refine wpAny_bind (wpAny_cellOf hc ?_)
 unfold cellSet
 refine wpAny_bind (bT hv ?_)
 exact wpAny_update hv (h _ (Heap.get?_update_self _ hv rfl) (Heap.SameBut.update ..))
theorem EW {A:Around}{env:Env}{x:Str}{k i:Nat}{v:V}{Lu:Option V}{c:Value}(ha:At C κ cs env st W) (hx:κ.cells[k]?=some x) (hk:κ.scope.names.lookup x=some .cell) (hi:cs[k]?=some i) (hv:st.hp[i]?=some (.cell Lu)) (r:dz C W v c) :
  Tr C κ cs env A (storeName env x c) { st with hp:=st.hp.set i (.cell (some v)) } (λ_ _=>True) W:=λQ E h=>by
 obtain ⟨i',a,e1,e2,e3⟩:=ha.ok.cell k x hx (.inl hk)
 rw[hi] at e1;(refine Vm.sI e1 ?_;clear e1;rintro rfl)
 obtain ⟨aI,aF,o,ob,h1,h2,h3⟩:=ha.H.fe _ _ e2
 rw[hv] at h1;(refine Vm.sI h1 ?_;clear h1;rintro rfl)
 have yd:a∈W.σ:=List.mem_of_getElem? e2
 obtain ⟨aaO,ho⟩:=h3.KP
 subst ho
 refine vr (by rw[ha.ok.scope];exact ha.ok.fn) (by unfold Env.kindOf;rw[ha.ok.scope];exact hk) e3 h2 λh' hc hs=>?_
 have k':=λ(b:Addr) (o:Obj) (z:b≠a) (p:W.s.heap.get? b=some o)=>(hs.2 b z).trans p
 have kept:Kept C W ⟨W.G,W.σ,{ W.s with heap:=h' }⟩:=⟨⟨Gh.le.refl _,ea.refl _⟩,λL o p q r t=>⟨k' L o (λz=>r (z▸yd)) p,q,r⟩⟩
 exact h ⟨W.G,W.σ,_⟩ _ ⟨Gh.le.refl _,ea.refl _⟩ (ha.kept kept (ha.H.upd (s':={ W.s with heap:=h' }) e2 k' hc (.cell r) rfl rfl (Nat.le_refl _))) trivial
theorem iH {E:Value->Shared->Prop}{Q:Unit->Shared->Prop} (h:wpAny M A (bindName env x v) Q E s):wpAny M A (assign (.Name x pos) env v) Q E s:=by
 show wpAny M A (do standAt pos;bindName env x v) Q E s
 exact wpAny_bind (wpAny_standAt h)
inductive gj (κ:K):Expr->Tg->Prop
 | loc {x:Str}{p:Pos}{i:Nat}:κ.scope.names.lookup x=some .local->κ.slots[i]?=some x->gj κ (.Name x p) (.loc i)
 | cell {x:Str}{p:Pos}{i:Nat}:κ.scope.names.lookup x=some .cell->κ.cells[i]?=some x->gj κ (.Name x p) (.cell i)
theorem gR (h:fO κ (n+1) (.Name x p)=some t):gj κ (.Name x p) t:=by
 have b:∀o,κ.scope.names.lookup x=o->(match o with | some .local=>(idx κ.slots x).map .loc | some .cell=>(idx κ.cells x).map .cell | _=>none)=some t->gj κ (.Name x p) t:=by
  intro o e h
  cases o with
  | none=>exact nS h
  | some o=>cases o with
   | «local»=>
    obtain ⟨i,a,rfl⟩:=Option.map_eq_some_iff.mp h
    exact .loc e (jI a)
   | cell=>
    obtain ⟨i,a,rfl⟩:=Option.map_eq_some_iff.mp h
    exact .cell e (jI a)
   | _=>exact nS h
 exact b _ rfl h
theorem JQ (h:d9 cs (n+1) (.cell k) v st=some st'):∃i w,cs[k]?=some i/\st.hp[i]?=some (.cell w)/\{ st with hp:=st.hp.set i (.cell (some v)) }=st':=by
 have a:∀(y:St) (r:Option O),(match r with | some (.cell _)=>some y | _=>none)=some st'->∃w,r=some (.cell w)/\y=st':=by
  intro y r h
  cases r with
  | none=>exact nS h
  | some o=>cases o with
   | cell w=>exact ⟨w,rfl,Option.some.inj h⟩
   | _=>exact nS h
 have b:∀p:Option Nat,(match p with | some i=>(match st.hp[i]? with | some (.cell _)=>some { st with hp:=st.hp.set i (.cell (some v)) } | _=>none) | none=>none)=some st'->∃i w,p=some i/\st.hp[i]?=some (.cell w)/\{ st with hp:=st.hp.set i (.cell (some v)) }=st':=by
  intro p h
  cases p with
  | none=>exact nS h
  | some i=>
   obtain ⟨w,c,e⟩:=a _ _ h
   exact ⟨i,w,rfl,c,e⟩
 exact b _ h
theorem sx (h:d9 cs (n+1) (.loc i) v st=some st'):i < st.loc.length/\{ st with loc:=st.loc.set i (some v) }=st':=dN (h:(if i < st.loc.length then some { st with loc:=st.loc.set i (some v) } else none)=some st') λa b=>⟨a,Option.some.inj b⟩
theorem zh (h:d9 cs (n+1) (.tup l) v st=some st'):∃vs,v=.tup vs/\l.length=vs.length/\(l.zip vs).foldl (λr x=>r.bind λst=>d9 cs n x.1 x.2 st) (some st)=some st':=by
 cases v with
 | tup vs=>exact dN (h:(if l.length=vs.length then (l.zip vs).foldl (λr x=>r.bind λst=>d9 cs n x.1 x.2 st) (some st) else none)=some st') λa b=>⟨vs,rfl,a,b⟩
 | _=>exact nS h
theorem pf (k:∀{e:Expr}{t:Tg},fO κ n e=some t->noStar e=true):∀{l:List Expr}{ts:List Tg},dI (fO κ n) l=some ts->∀e∈l,noStar e=true
 | [],_,_,e,he=>by cases he
 | x::l,ts,h,e,he=>by
  obtain ⟨b,f,a,c,_⟩:=d8 h
  rcases List.mem_cons.mp he with q | he
  ·exact q▸k a
  ·exact pf k c e he
theorem vE (g:gj κ (.Name x p) t) (h:d9 cs (n+1) t v st=some st') (f:At C κ cs env st W) (r:dz C W v c) :
  Tr C κ cs env A (storeName env x c) st' (λ_ _=>True) W:=by
 cases g with
 | loc b a=>exact (sx h).2▸tH f a b (sx h).1 r
 | cell b a=>exact (JQ h).elim λi e=>e.elim λw e=>e.2.2▸EW f a b e.1 e.2.1 r
theorem kH (a:gj κ (.Name x p) t) (h:d9 cs (n+1) t v st=some st') (b:At C κ cs env st W) (r:dz C W v c) :
  Tr C κ cs env A (bindName env x c) st' (λ_ _=>True) W:=λQ E k=>wpAny_bindName (vE a h b r Q E k)
theorem jt:∀{l:List Expr},(∀e∈l,noStar e=true)->dd l env=l.map λt=>(false,assign t env)
 | [],_=>rfl
 | e::l,h=>by
  have a:=h e (.head _)
  have:=jt (env:=env) (l:=l) λe a=>h e (.tail _ a)
  rw[List.map_cons,<-this]
  cases e<;>first | rfl | exact Vm.fT a
theorem assignInOrder_cons {E:Value->Shared->Prop}{t:Value->Sem Unit}{ts:List (Value->Sem Unit)}{Q:Unit->Shared->Prop} (h:wpAny M A (t x) (λ_ a=>wpAny M A (assignInOrder ts xs) Q E a) E s):wpAny M A (assignInOrder (t::ts) (x::xs)) Q E s:=by
 exact wpAny_bind (ai (wpAny_mono h (λ_ _ x=>x) λ_ _ x=>x))
theorem rR {α a:Type}{f:a->α->Option a}:∀(l:List α),l.foldl (λr x=>r.bind λs=>f s x) none=none
 | []=>rfl
 | x::l=>by rw[List.foldl_cons];exact rR l
theorem rQ {α c:Type}{f:c->α->Option c}{x:α}{l:List α}{b r:c}(h:(x::l).foldl (λr x=>r.bind λs=>f s x) (some b)=some r):∃a,f b x=some a/\l.foldl (λr x=>r.bind λs=>f s x) (some a)=some r:=by
 have e:∀p:Option c,l.foldl (λr x=>r.bind λs=>f s x) p=some r->∃a,p=some a/\l.foldl (λr x=>r.bind λs=>f s x) (some a)=some r:=by
  intro p h
  cases p with
  | none=>exact nS ((rR l).symm.trans h)
  | some a=>exact ⟨a,rfl,h⟩
 exact e _ h
theorem qk (h:fO κ n e=some t):noStar e=true:=by
 cases n with
 | zero=>exact nS h
 | succ n=>exact oE h (λx a _=>(nK a).elim λp q=>q▸rfl) λ_ h=>oE h (λx a _=>(pG a).elim λk q=>q.elim λp q=>q▸rfl) λ_ h=>nS h
theorem rd {f:Expr->V->St->Option St} (hr:dY d A):∀{l:List Expr}{vs:List V}{ws:List Value}{st st':St}{W:Wd},
  (∀e∈l,∀v st st',f e v st=some st'->Vd C d κ cs e v st st')->(l.zip vs).foldl (λr x=>r.bind λst=>f x.1 x.2 st) (some st)=some st'->l.length=vs.length->dF C W vs ws->At C κ cs env st W->
  Tr C κ cs env A (assignInOrder (l.map λt=>assign t env) ws) st' (λ_ _=>True) W
 | [],[],_,_,_,W,_,h,_,rs,ha=>by
  rw[rs.inv,<-Option.some.inj h]
  exact λQ E hq=>wpAny_pure (hq W _ (Wd.le.refl _) ha trivial)
 | e::l,v::vs,_,st,st',W,hf,h,hl,rs,ha=>by
  obtain ⟨c,ws,q,r,rs⟩:=rs.inv
  obtain ⟨st1,hs,h⟩:=rQ (f:=λst (x:Expr×V)=>f x.1 x.2 st) h
  rw[q]
  exact λQ E hq=>assignInOrder_cons (hf e (.head _) v st st1 hs A env W _ hr ha r _ _ λdR _ jF i_ _=>rd hr (λe he=>hf e (.tail _ he)) h (Nat.succ.inj hl) (dF.mono rs jF) i_ Q E λti x wJ yc q=>hq ti x (jF.trans wJ) yc q)
 | [],_::_,_,_,_,_,_,_,hl,_,_=>by cases hl
 | _::_,[],_,_,_,_,_,_,hl,_,_=>by cases hl
theorem pY {f:Tg->V->St->Option St}{g:Expr->Option Tg}:∀{l:List Expr}{ts:List Tg}{vs:List V}{r:Option St},dI g l=some ts->(ts.zip vs).foldl (λr x=>r.bind λst=>f x.1 x.2 st) r=(l.zip vs).foldl (λr x=>r.bind λst=>(g x.1).bind λt=>f t x.2 st) r
 | [],ts,vs,r,h=>by (refine Vm.sI h ?_;clear h;rintro rfl);rfl
 | e::l,ts,[],r,h=>by obtain ⟨b,i,a,c,rfl⟩:=d8 h;rfl
 | e::l,ts,v::vs,r,h=>by
  obtain ⟨b,i,a,c,rfl⟩:=d8 h
  rw[List.zip_cons_cons,List.zip_cons_cons,List.foldl_cons,List.foldl_cons,pY c,a]
  rfl
theorem mQ {α c:Type}{f:α->Option c}:∀{l:List α}{r:List c},dI f l=some r->r.length=l.length
 | [],r,h=>by (refine Vm.sI h ?_;clear h;rintro rfl);rfl
 | a::l,r,h=>by obtain ⟨b,g,_,e,rfl⟩:=d8 h;rw[List.length_cons,List.length_cons,mQ e]
theorem tA:∀(n m:Nat) (t:Expr) (D:Tg) (v:V) (st st':St),fO κ n t=some D->d9 cs m D v st=some st'->Vd C d κ cs t v st st'
 | 0,_,_,_,_,_,_,h,_=>by exact Vm.nS h
 | n+1,0,_,_,_,_,_,_,h=>by exact Vm.nS h
 | n+1,m+1,t,D,v,st,st',hc,w=>by
  intro A u W c J B r Q E I
  refine oE hc (λx s _=>(nK s).elim λp q=>?_) λ_ h=>oE h (λl U h2=>(pG U).elim λk q=>q.elim λp q=>dK h2 λts s e=>?_) λ_ h=>nS h
  ·subst q
   exact iH (kH (gR hc) w B r Q E I)
  ·subst q e
   obtain ⟨N,rfl,hl,w⟩:=zh w
   obtain ⟨a,Y,rfl,L,g⟩:=zi B.H r
   have Zk:=mQ s
   have z:=jt (env:=u) (pf qk s)
   have Zi:=g.length
   refine wpAny_assign_Tuple (items:=Y.toArray) J.1 L.is (by rw[z];simp;lia) (by rw[z];simp[List.findIdx?_map,List.findIdx?_eq_none_iff]) λG M=>?_
   rw[z,List.map_map]
   have hk:∀b o,W.s.heap.get? b=some o->G.get? b=some o:=λb o e=>M b o (Nat.ne_of_lt (Heap.lt_size e)) e
   have H:hZ C W ⟨W.G,W.σ,{ W.s with heap:=G }⟩:=(Pext0.ext (W:=W) (s':={ W.s with heap:=G }) hk rfl rfl).strict (Nat.le_refl _)
   have e3:=pY (f:=λt v st=>d9 cs m t v st) (vs:=N) (r:=some st) s
   rw[e3] at w
   exact rd (d:=d) (f:=λe v st=>(fO κ n e).bind λt=>d9 cs m t v st) J (λe M v st st' h=>by
    obtain ⟨t,q1,T⟩:=Option.bind_eq_some_iff.mp h
    exact tA n m e t v st st' q1 T) w (by lia) (dF.mono g H.le) (B.el H) Q E λi x y j q=>I i x (H.le.trans y) j q
end
section
variable {d:Nat}{κ:K}{cs:List Nat}{st st' dy dC:St}{W:Wd}{hp:List O}
def yr (C:Ctx) (a:Fl) (W:Wd) (f:cF):Prop:=match a with
 | .next=>f=.next
 | .ret v=>∃c,f=.ret c/\dz C W v c
def TS (C:Ctx) (d:Nat) (κ:K) (cs:List Nat) (s:Stmt) (st:St) (b:Fl) (st':St):Prop:=
 ∀(A:Around) (a:Env) (W:Wd),dY d A->At C κ cs a st W->Tr C κ cs a A (exec s a) st' (yr C b) W
def j7 (C:Ctx) (d:Nat) (κ:K) (cs:List Nat) (s:List Stmt) (st:St) (b:Fl) (st':St):Prop:=
 ∀(A:Around) (a:Env) (W:Wd),dY d A->At C κ cs a st W->Tr C κ cs a A (execs s a) st' (yr C b) W
theorem j7.nil:j7 C d κ cs [] st .next st:=λA a W c b Q E h=>bH (h W _ (Wd.le.refl _) b rfl)
theorem j7.cons (q:TS C d κ cs s st .next dy) (o:j7 C d κ cs l dy fl dC):j7 C d κ cs (s::l) st fl dC:=λA k W n p Q E h=>by
 refine wpAny_execs_cons (q A k W n p _ _ λm f b e c=>?_)
 subst c
 exact o A k m n e Q E λa f j i g=>h a f (b.trans j) i g
theorem j7.ret (n:TS C d κ cs s st (.ret v) dy):j7 C d κ cs (s::l) st (.ret v) dy:=λA j W k m Q E h=>by
 refine wpAny_execs_cons (n A j W k m _ _ λi f b e a=>?_)
 have g:=a
 obtain ⟨c,rfl,r⟩:=a
 exact h i _ b e g
theorem TS.ret (h1:TE C d κ cs e st v dy):TS C d κ cs (.Return (some e) pos) st (.ret v) dy:=λA env W hr ha Q E h=>
 wpAny_Return_some (h1 A env W hr ha _ _ λdR c jF i_ qD=>h dR _ jF i_ ⟨c,rfl,qD⟩)
theorem TS.Wc:TS C d κ cs (.Return none pos) st (.ret .none) st:=λA a W c b Q E h=>
 wpAny_Return_none (h W _ (Wd.le.refl _) b ⟨_,rfl,.none⟩)
theorem TS.dT (s:TT C d κ cs c st t dy) (q:j7 C d κ cs (if t then a else b) dy fl dC):TS C d κ cs (.If c a b pos) st fl dC:=λA n W p r Q E h=>by
 refine wpAny_If (s A n W p r _ _ λo x g j i=>?_)
 subst i
 have:=q A n o p j Q E λe f m l k=>h e f (g.trans m) l k
 cases x<;>exact this
theorem TS.expr (m:TE C d κ cs (.Call f as kws p) st .none dy):TS C d κ cs (.Expr (.Call f as kws p) pos) st .next dy:=λA g W k j Q E h=>by
 have l:interactive g=false:=by
  unfold interactive
  rw[j.ok.scope,j.ok.fn]
  rfl
 refine wpAny_Expr (m A g W k j _ _ λi c a e b=>?_) l rfl
 subst b
 exact h i _ a e rfl
theorem TS.j_ (n:j7 C d κ cs body st fl dy):TS C d κ cs (.Try body (k::hs) [] [] pos) st fl dy:=λA j W l m Q E h=>by
 refine wpAny_Try_except (n A j W l m _ _ λg f b e a=>?_)
 cases fl with
 | next=>subst a;exact bH (h g _ b e rfl)
 | ret v=>
  have i:=a
  obtain ⟨c,rfl,r⟩:=a
  exact h g _ b e i
theorem ot (h:kR e=true):aU e t n env=pure false:=by
 cases e<;>first | rfl | cases h
theorem rg {c c':Prop} [Decidable c] [Decidable c'] {y:Option (Option (List Str))}{b:Sem (Option (List Str))}{r:Option (List Str)}(h:(if c then some none else y)=some r) (e:c'↔c) (k:y=some r->b=pure r):(if c' then pure none else b)=pure r:=by
 by_cases q:c
 ·exact (if_pos (e.mpr q)).trans (congrArg pure (Option.some.inj ((if_pos q).symm.trans h)))
 ·exact (if_neg λz=>q (e.mp z)).trans (k ((if_neg q).symm.trans h))
theorem EN {c:Prop} [Decidable c] {y r:Option (List Str)}{a:Sem (Option (List Str))}(h:(if c then none else some y)=some r):(if c then a else pure y)=pure r:=by
 by_cases q:c
 ·exact nS ((if_pos q).symm.trans h)
 ·exact (if_neg q).trans (congrArg pure (Option.some.inj ((if_neg q).symm.trans h)))
theorem Cq (ok:g9 κ cs σ env) (h:Cr κ ts vs=some r):ax [.Tuple ts k p] (.Tuple vs k' p') env=pure r:=by
 have hk:(env.blockKind != .function)=false:=by
  unfold Env.blockKind
  rw[ok.scope,ok.fn];decide
 have hn:env.kindOf=λid=>κ.scope.names.lookup id:=funext λid=>by unfold Env.kindOf;rw[ok.scope]
 unfold ax
 rw[hn]
 exact rg h (by rw[hk,Bool.or_false]) λh=>rg h Iff.rfl λh=>rg h Iff.rfl λh=>rg h Iff.rfl λh=>EN h
theorem CC {l:List (Nat×V)}{x:Nat×V}{a:List (Option V)}(h:∀y∈l,y.1≠x.1):l.foldl (λa y=>a.set y.1 (some y.2)) (a.set x.1 (some x.2))=(l.foldl (λa y=>a.set y.1 (some y.2)) a).set x.1 (some x.2):=by
 induction l generalizing a with
 | nil=>rfl
 | cons y l b=>
  rw[List.foldl_cons,List.foldl_cons,List.set_comm _ _ (aN (h y (.head _))),b λz c=>h z (.tail _ c)]
theorem v7:∀{l:List (Nat×V)}{a:List (Option V)},(l.map (·.1)).Nodup->l.reverse.foldl (λa y=>a.set y.1 (some y.2)) a=l.foldl (λa y=>a.set y.1 (some y.2)) a
 | [],_,_=>rfl
 | x::l,a,h=>by
  obtain ⟨b,c⟩:=List.nodup_cons.mp h
  rw[List.reverse_cons,List.foldl_append,v7 c,List.foldl_cons,List.foldl_nil,List.foldl_cons,CC λy e z=>b (by show x.1∈_;rw[<- z];exact List.mem_map.mpr ⟨y,e,rfl⟩)]
theorem vG (p:dY d A):∀{l:List (Str×Nat)}{vs:List V}{ws:List Value}{st:St}{W:Wd},(∀x∈l,κ.slots[x.2]?=some x.1/\κ.scope.names.lookup x.1=some .local/\x.2 < st.loc.length)->l.length=vs.length->dF C W vs ws->At C κ cs env st W->
  Tr C κ cs env A (assignInOrder (l.map λx=>bindName env x.1) ws) { st with loc:=((l.map (·.2)).zip vs).foldl (λz y=>z.set y.1 (some y.2)) st.loc } (λ_ _=>True) W
 | [],[],_,_,W,_,b,h,m=>by
  rw[h.inv]
  exact λQ E k=>wpAny_pure (k W _ (Wd.le.refl _) m trivial)
 | x::l,v::vs,_,st,W,j,b,h,m=>by
  obtain ⟨c,ws,q,r,h⟩:=h.inv
  obtain ⟨t,w,s⟩:=j x (.head _)
  rw[q]
  exact λQ E k=>assignInOrder_cons (EZ m t w s r _ _ λo _ a f _=>vG p (λy n=>⟨(j y (.tail _ n)).1,(j y (.tail _ n)).2.1,List.length_set.symm▸(j y (.tail _ n)).2.2⟩) (Nat.succ.inj b) (dF.mono h a) f Q E λe u i g q=>k e u (a.trans i) g q)
 | [],_::_,_,_,_,_,b,_,_=>by cases b
 | _::_,[],_,_,_,_,b,_,_=>by cases b
theorem oq:∀{xs:List Str}{ts:List Tg},kK κ xs ts=true->∃l:List (Str×Nat),xs=l.map (·.1)/\ts=l.map (λx=>.loc x.2)/\∀x∈l,κ.slots[x.2]?=some x.1/\κ.scope.names.lookup x.1=some .local
 | [],[],_=>⟨[],rfl,rfl,λ_ h=>by cases h⟩
 | x::xs,.loc i::ts,h=>by
  have h:(κ.slots[i]?==some x&&κ.scope.names.lookup x==some .local&&kK κ xs ts)=true:=h
  rw[Bool.and_eq_true,Bool.and_eq_true,beq_iff_eq,beq_iff_eq] at h
  obtain ⟨l,c,f,b⟩:=oq h.2
  exact ⟨(x,i)::l,congrArg _ c,congrArg _ f,λy a=>(List.mem_cons.mp a).elim (λe=>e▸h.1) (b y)⟩
 | [],_::_,h=>by exact Vm.fT h
 | _::_,[],h=>by exact Vm.fT h
 | _::_,.cell _::_,h=>by exact Vm.fT h
 | _::_,.tup _::_,h=>by exact Vm.fT h
theorem rp:∀{l:List (Str×Nat)}{vs:List V}{st st':St},((l.map λx=>Tg.loc x.2).zip vs).foldl (λr x=>r.bind λst=>d9 cs (m+1) x.1 x.2 st) (some st)=some st'->l.length=vs.length->
  (∀x∈l,x.2 < st.loc.length)/\st'={ st with loc:=((l.map (·.2)).zip vs).foldl (λlo y=>lo.set y.1 (some y.2)) st.loc }
 | [],_,st,st',h,_=>by (refine Vm.sI h ?_;clear h;rintro rfl);exact ⟨(λ_ h=>by cases h),rfl⟩
 | x::l,[],_,_,_,h=>by cases h
 | x::l,v::vs,st,st',h,hl=>by
  obtain ⟨st1,e,h⟩:=rQ (f:=λst (x:Tg×V)=>d9 cs (m+1) x.1 x.2 st) h
  obtain ⟨hi,e⟩:=sx e
  rw[<- e] at h
  obtain ⟨h1,h2⟩:=rp h (Nat.succ.inj hl)
  exact ⟨λy hy=>(List.mem_cons.mp hy).elim (λq=>q▸hi) λhy=>Nat.lt_of_lt_of_eq (h1 y hy) List.length_set,h2⟩
theorem yW {α e:Type}:∀{a:List α}{b:List e},a.length=b.length->a.reverse.zip b.reverse=(a.zip b).reverse
 | [],[],_=>rfl
 | x::a,y::b,h=>by
  have c:a.length=b.length:=by simpa using h
  rw[List.reverse_cons,List.reverse_cons,List.zip_append (by simpa using c),yW c]
  show _=((x,y)::a.zip b).reverse
  rw[List.reverse_cons]
  rfl
 | [],_::_,h=>by cases h
 | _::_,[],h=>by cases h
theorem TS.K8 (h1:TE C d κ cs (.Tuple es k' vp) st (.tup vs) dy) (hw:Cr κ ts es=some (some names)) (hf:kK κ names tgs=true) (uh:names.Nodup) (hs:d9 cs (m+2) (.tup tgs) (.tup vs) dy=some dC):TS C d κ cs (.Assign [.Tuple ts k tp] (.Tuple es k' vp) pos) st .next dC:=λA env W hr ha Q E h=>by
 obtain ⟨_,e,hlen,hs⟩:=zh hs
 cases e
 obtain ⟨l,rfl,rfl,hl⟩:=oq hf
 rw[List.length_map] at hlen
 obtain ⟨hb,rfl⟩:=rp hs hlen
 refine Assign_Tuple_swapped (names:=l.map (·.1)) (h1 A env W hr ha _ _ λdR c jF i_ qD=>?_) rfl (Cq ha.ok hw)
 obtain ⟨a,ws,rfl,L,T6⟩:=zi i_.H qD
 have Zi:=T6.length
 have e1:(l.map (·.1)).length=ws.toArray.size:=by simp;lia
 rw[e1]
 refine wpAny_unpackItems_tuple (items:=ws.toArray) hr.1 L.is λh' he=>?_
 have hk:∀b o,dR.s.heap.get? b=some o->h'.get? b=some o:=λb o e=>he b o (Nat.ne_of_lt (Heap.lt_size e)) e
 have pe:hZ C dR ⟨dR.G,dR.σ,{ dR.s with heap:=h' }⟩:=(Pext0.ext (W:=dR) (s':={ dR.s with heap:=h' }) hk rfl rfl).strict (Nat.le_refl _)
 have e2:(l.map (·.1)).reverse.map (λn=>bindName env n)=l.reverse.map λx=>bindName env x.1:=by rw[<- List.map_reverse,List.map_map];rfl
 rw[e2]
 have Nx:=vG (d:=d) (A:=A) (env:=env) hr (l:=l.reverse) (vs:=vs.reverse) (ws:=ws.reverse) (st:=dy) (λx hx=>by
  have hx:=List.mem_reverse.mp hx
  exact ⟨(hl x hx).1,(hl x hx).2,hb x hx⟩) (by simpa using hlen) (dF.mono (dJ.reverse T6) pe.le) (i_.el pe)
 have e3:((l.reverse.map (·.2)).zip vs.reverse)=((l.map (·.2)).zip vs).reverse:=by
  rw[List.map_reverse,yW (by simpa using hlen)]
 have WT:(((l.map (·.2)).zip vs).map (·.1)).Nodup:=by
  rw[List.map_fst_zip (by simp;lia)]
  refine List.pairwise_map.mpr ?_
  have:=List.pairwise_map.mp uh
  refine List.Pairwise.imp_of_mem (λ{x y} hx hy lA YZ=>lA ?_) this
  have p:=(hl x hx).1
  have q:=(hl y hy).1
  rw[YZ,q] at p
  exact (Option.some.inj p).symm
 rw[e3,v7 WT] at Nx
 exact Nx _ _ λti _ wJ yc _=>h ti _ ((jF.trans pe.le).trans wJ) yc rfl
end
section
variable {d:Nat}{κ:K}{cs:List Nat}{st st' dy dC fi uS:St}{W:Wd}{hp:List O}
theorem sd (l:dY d A){a:V} (g:dz C W a x) (k:dz C W b y) (h:jL op a b=some v):dP C A (inplaceOp op x y) (λW' c=>dz C W' v c) W:=by
 refine dP.mk λQ E f=>?_
 cases a with
 | int i=>cases b with
  | int j=>
   obtain ⟨_,rfl⟩:=g.inv
   obtain ⟨_,rfl⟩:=k.inv
   cases op with
   | Add=>exact PyProof.Rows.iadd_int (dP.int h f)
   | Sub=>exact PyProof.Rows.isub_int (dP.int h f)
   | FloorDiv=>exact eO h λe h=>ifloordiv_int (λz=>e (.inl z)) (dP.int h f) (.inl (eq_false_of_ne_true λz=>e (.inr z)))
   | LShift=>exact dN h λe h=>ilshift_int e.1 (Int.le_trans e.2 (by decide)) (dP.int h f)
   | RShift=>exact dN h λe h=>irshift_int e (dP.int h f)
   | _=>exact nS h
  | _=>exact nS h
 | _=>exact nS h
theorem Kr (h:kq cs (.cell k) st=some v):∃i,cs[k]?=some i/\st.hp[i]?=some (.cell (some v)):=by
 have b:∀r:Option O,(match r with | some (.cell v)=>v | _=>none)=some v->r=some (.cell (some v)):=by
  intro r h
  cases r with
  | none=>exact nS h
  | some o=>cases o with
   | cell w=>exact congrArg (λw=>some (O.cell w)) (h:w=some v)
   | _=>exact nS h
 have c:∀p:Option Nat,(match p with | some i=>(match st.hp[i]? with | some (.cell v)=>v | _=>none) | none=>none)=some v->∃i,p=some i/\st.hp[i]?=some (.cell (some v)):=by
  intro p h
  cases p with
  | none=>exact nS h
  | some i=>exact ⟨i,rfl,b _ h⟩
 exact c _ h
theorem JG (J:gj κ (.Name x p) t) (h:kq cs t st=some v) (b:At C κ cs env st W):Tr C κ cs env A (loadName env x) st (λW' c=>dz C W' v c) W:=λQ E s=>by
 have q:env.scope.kind=.function:=by rw[b.ok.scope];exact b.ok.fn
 cases J with
 | @loc _ _ i g n=>
  obtain ⟨m,M,H⟩:=b.L.ns
  obtain ⟨w,e,f⟩:=Option.bind_eq_some_iff.mp (h:(st.loc[i]?).bind id=some v)
  replace f:w=some v:=f
  subst f
  obtain ⟨c,G,r⟩:=H i x v n e
  exact cS q (by unfold Env.kindOf;rw[b.ok.scope];exact g) M G (s W c (Wd.le.refl _) b r)
 | @cell _ _ k g n=>
  obtain ⟨i,D,L⟩:=Kr h
  obtain ⟨T,a,e,f,I⟩:=b.ok.cell k x n (.inl g)
  rw[D] at e;(refine Vm.sI e ?_;clear e;rintro rfl)
  obtain ⟨_,_,o,N,l,u,B⟩:=b.H.fe _ _ f
  rw[L] at l;(refine Vm.sI l ?_;clear l;rintro rfl)
  obtain ⟨_,rfl,r⟩:=B.inv
  exact cZ q (by unfold Env.kindOf;rw[b.ok.scope];exact g) I ⟨_,u,rfl⟩ (s W _ (Wd.le.refl _) b r)
theorem Ag {E:Value->Shared->Prop}{Q:cF->Shared->Prop} (h:wpAny M A (loadName env x) (λb f=>wpAny M A (eval c env) (λv e=>wpAny M A (inplaceOp op b v)
   (λr g=>wpAny M A (bindName env x r) (λ_=>Q .next) E g) E e) E f) E s) :
  wpAny M A (exec (.AugAssign (.Name x pos') op c pos) env) Q E s:=by
 show wpAny M A (do
  standAt pos'
  let b←loadName env x
  let v←aP [b] (eval c env)
  standAt pos
  let new←operate [b,v] (inplaceOp op b v)
  standAt pos'
  bindName env x new
  pure .next) Q E s
 refine wpAny_bind (wpAny_standAt (wpAny_bind (wpAny_mono h (λb f l=>wpAny_bind (ai (wpAny_mono l (λv e m=>wpAny_bind (wpAny_standAt (wpAny_bind (wpAny_operating (wpAny_mono m (λr g k=>?_) λ_ _ x=>x))))) λ_ _ x=>x))) λ_ _ x=>x)))
 exact wpAny_bind (wpAny_standAt (wpAny_bind (wpAny_mono k (λ_ _ x=>wpAny_pure x) λ_ _ x=>x)))
theorem TS.aug {a:V} (L:gj κ (.Name x np) t) (M:kq cs t st=some a) (T:TE C d κ cs e st b dy) (N:jL op a b=some v) (U:d9 cs (n+1) t v dy=some dC) :
  TS C d κ cs (.AugAssign (.Name x np) op e pos) st .next dC:=λA w W G Y Q E h=>by
 refine Ag (JG L M Y _ _ λq I r m l=>T A w q G m _ _ λB D c o s=>?_)
 refine sd G (l.mono c) s N _ _ λH J p g=>?_
 exact kH L U (o.el p) g _ _ λk _ f u _=>h k _ (((r.trans c).trans p.le).trans f) u rfl
theorem Af {prog:Program}{w:World}{A:Around}{E:Value->Shared->Prop}{s:Shared}{l:Addr}{items:Array Value}{n:Nat}{k:Int}{t:Tok}{v:Value}{Q:Unit->Shared->Prop}(c:s.heap.get? l=some ⟨.type "list",none,.seq items n,#[]⟩)
  (g:0<=k) (b:k < 2 ^ 63) (o:k < items.size)
  (h:Q () { s with heap:=s.heap.update l (Obj.mapSeq (·.setIfInBounds k.toNat v)) }) :
  wpAny (model prog w) A (setItem (.ref l) (.int k t) v) Q E s:=by
 have f:s.heap.IsList l items:=⟨_,c,rfl,n,rfl⟩
 unfold setItem
 try with_reducible refine ai ?_
 first | refine wpAny_bind (wpAny_pure ?_) | skip
 refine wpAny_bind (wpAny_sequenceKey f.typeIs (by decide) ?_)
 refine wpAny_bind (bB (name:=Str.ofString "__setitem__") f.typeIs dn
  (bA dn f.typeIs entry_list_setitem ?_ (args_list_setitem _ _ _)))
 show wpAny _ _ (aJ.List.listSubscript? (.int k t)>>=_) _ _ s
 refine wpAny_bind (wpAny_listSubscript_int (fitsIndex_of g b) ?_)
 clear b
 obtain ⟨j,rfl⟩:=Int.eq_ofNat_of_zero_le g
 have m:j < items.size:=by lia
 have e:items[j]?=some items[j]:=Array.getElem?_eq_getElem m
 show wpAny _ _ ((seqItemAt l j>>=λr=>pure (r.map (j,·)))>>=_) _ _ s
 refine wpAny_bind (wpAny_bind (wpAny_seqItemAt c rfl (wpAny_pure ?_)))
 rw[e]
 show wpAny _ _ (setSeqItemAt l j v>>=_) _ _ s
 refine wpAny_bind (wpAny_setSeqItemAt c rfl ?_)
 first
  | exact wpAny_bind (wpAny_pure (wpAny_pure ⟨.none,rfl,wpAny_pure h⟩))
  | exact wpAny_pure ⟨.none,rfl,wpAny_pure h⟩
theorem dJ.set {P:Params} (e:Rep P T I σ v c){i:Nat} (r:dJ P T I σ l vs):dJ P T I σ (l.set i v) (vs.set i c):=by
 induction l generalizing vs i with
 | nil=>exact r.i7 .nil
 | cons w l b=>
  refine r.fC λ_ _ a r=>?_
  cases i with
  | zero=>exact .cons e r
  | succ i=>exact .cons a (b r)
section
variable {A:Around}{j:Nat}{a:Addr}{i v:V}{y z:Value}{hp':List O}
theorem Q3 (H:dO C hp W) {l:List V}(e:W.σ[j]?=some a) (w:hp[j]?=some (.list l)) (s:dz C W i y) (B:dz C W v z) (h:putL hp j l v i=some hp'):TH C A (setItem (.ref a) y z) (λ_ _=>True) hp' W:=by
 cases i with
 | int k=>
  obtain ⟨_,rfl⟩:=s.inv
  obtain ⟨g,n,t,r,I⟩:=nA H e w
  refine dN h λG h=>dN h λD h=>λQ E x=>?_
  have u:l.length<=65536:=of_decide_eq_true G
  have f:=cb (c:="list") (xs:=g.toArray) t.at_ (·.setIfInBounds k.toNat z)
  have m:=λ(b:Addr) (o:Obj) (q:b≠a) (p:W.s.heap.get? b=some o)=>((Heap.SameBut.update W.s.heap a (Obj.mapSeq (·.setIfInBounds k.toNat z))).2 b q).trans p
  refine Af t.at_ D.1 (by lia) (by simp only[List.size_toArray];lia) ?_
  refine x ⟨W.G,W.σ,_⟩ _ (t.kept _ m) (Option.some.inj h▸H.upd e m f ?_ rfl rfl (Nat.le_refl _)) trivial
  have:=eb.list (n:=if (g.toArray.setIfInBounds k.toNat z).size==g.toArray.size then n else n+1) (dJ.set B (i:=k.toNat) r)
  simpa using this
 | _=>exact nS h
theorem Ik (H:dO C hp W) {K:Type} [DecidableEq K] (D:Kd C.prog C.w K) {q:K}{ks vs:List V}{x:List V×List V}(e:W.σ[j]?=some a) (h:hp[j]?=some (.dict ks vs)) (hv:dz C W v z) (L:D.knd.is q y=true) (k:dZ ks->∃f:List K,ks=f.map D.inj) (c:fW ks vs (D.inj q) v=some x) (hsz:ks.length<=65536) :
  TH C A (setItem (.ref a) y z) (λ_ _=>True) (hp.set j (.dict x.1 x.2)) W:=by
 obtain ⟨ob,t⟩:=q_ H e h
 obtain ⟨es,n,rfl,m,r⟩:=t.rep.inv
 obtain ⟨f,rfl⟩:=k m
 intro Q E G
 obtain ⟨Y,g⟩:=j4 D (W:=W) (a:=a) ⟨n,t.at_⟩ m r
 have hn:f.Nodup:=dZ.nodup D m
 obtain ⟨h,M⟩:=oG D hv hn g.len g.rep c
 have l:(f.zip Y).length<=bk:=by
  rw[List.length_zip,<-g.len,Nat.min_self]
  rw[List.length_map] at hsz
  exact Nat.le_trans hsz (by decide)
 refine wpAny_setItem_pairs L g.dict (λJ hd U=>?_) l
 obtain ⟨N,n',B,s,u⟩:=lK D (I:=W.G.I) (σ:=W.σ) (T:=W.G.T) (vs:=x.2) hd M
 have w:=λ(b:Addr) (o:Obj) (q:b≠a) (p:W.s.heap.get? b=some o)=>(U.2 b q).trans p
 rw[<- h] at s u
 exact G ⟨W.G,W.σ,_⟩ _ (t.kept _ w) (H.upd (s':={ W.s with heap:=J,toks:=W.s.toks+1 }) e w B (.dict s u) rfl rfl (Nat.le_succ _)) trivial
theorem oJ (H:dO C hp W) (n:dz C W o x) (f:dz C W i y) (k:dz C W v z) (h:jV hp o i v=some hp'):TH C A (setItem x y z) (λ_ _=>True) hp' W:=by
 cases o with
 | ref j=>
  obtain ⟨a,rfl,e⟩:=n.inv
  have h:Ft hp j (eN i) v hp[j]?=some hp':=h
  cases c:hp[j]? with
  | none=>rw[c] at h;exact nS h
  | some o=>cases o with
   | list l=>rw[c] at h;exact Q3 H e c f.eN k h
   | dict p q=>
    rw[c] at h
    refine dN h λb h=>jl h λx g=>?_
    have f:=f.eN
    generalize eN i=u at f b g
    cases u with
    | str s=>obtain ⟨_,rfl⟩:=f.inv;exact Ik H (gV C.prog C.w) e c k (beq_self_eq_true s) (λm=>yB m g) g b.2
    | int s=>obtain ⟨_,rfl⟩:=f.inv;exact Ik H (nR C.prog C.w) e c k (beq_self_eq_true s) (λm=>yC m g) g b.2
    | _=>exact fT b.1
   | _=>rw[c] at h;exact nS h
 | _=>exact nS h
end
theorem TS.ji {i:Expr}{a:V} (M:kR e=true) (N:TE C d κ cs e st v dy) (L:TE C d κ cs o dy a dC) (T:TE C d κ cs i dC b fi) (U:jV fi.hp a b v=some hp') :
  TS C d κ cs (.Assign [.Subscript o i p] e pos) st .next ⟨fi.loc,hp'⟩:=λA l W B Y Q E h=>by
 refine wpAny_Assign_Subscript (N A l W B Y _ _ λu I w s r=>L A l u B s _ _ λm D g t x=>T A l m B t _ _ λG J c f n=>?_) (ot M)
 exact oJ f.H (x.mono c) n ((r.mono g).mono c) U _ _ λq _ k H _=>h q _ (((w.trans g).trans c).trans k.le) (f.kept k H) rfl
theorem TS.nq {i:Expr}{a y:V} (h1:TE C d κ cs o st a dy) (h2:TE C d κ cs i dy b dC) (h3:fx dC.hp a b=some x) (h4:TE C d κ cs e dC y fi) (h5:jL op x y=some v) (h6:jV fi.hp a b v=some hp') (hs:∀lo T q,i≠.Slice lo T none q):TS C d κ cs (.AugAssign (.Subscript o i p) op e pos) st .next ⟨fi.loc,hp'⟩:=λA t W J ha Q E h=>by
 refine wpAny_AugAssign_SubscriptAny (h1 A t W J ha _ _ λB c₁ G w m=>h2 A t B J w _ _ λti N l n r=>?_) ?_
 ·refine rj J n.H (m.mono l) r h3 _ _ λu Y g I=>h4 A t u J (n.el g) _ _ λaa5 aaZ f s M=>?_
  refine sd J (I.mono f) M h5 _ _ λaa4 U c L=>?_
  exact oJ (s.el c).H ((((m.mono l).mono g.le).mono f).mono c.le) (((r.mono g.le).mono f).mono c.le) L h6 _ _ λD _ k H _=>h D _ (((((G.trans l).trans g.le).trans f).trans c.le).trans k.le) ((s.el c).kept k H) rfl
 ·intro ov iv new
  cases i with
  | Slice lo T step q=>cases step with
   | none=>exact absurd rfl (hs _ _ _)
   | some=>rfl
  | _=>rfl
end
section
variable {d:Nat}{κ:K}{cs:List Nat}{st st' dy dC fi uS:St}{W:Wd}{hp:List O}
structure Wd.kh (W W':Wd):Prop where
 I:Gm.le W.G.I W'.G.I
 T:Tm.le W.G.T W'.G.T
 σ:ea W.σ W'.σ
theorem Wd.le.kh {W:Wd} (h:W.le W'):W.kh W':=⟨h.G.I,h.G.T,h.σ⟩
theorem Wd.kh.trans {a:Wd} (h:a.kh b) (k:b.kh c):a.kh c:=⟨h.I.trans k.I,h.T.trans k.T,h.σ.trans k.σ⟩
def LoopAt (C:Ctx) (I:Addr) (l:List V) (gd:Gd) (W0:Wd) (St:Nat->Heap->Prop):Prop:=
 ∃(P:Nat->Value->Prop),
  (∀(A:Around),A.handled=none->∀(i:Nat) (s:Shared) (Q:Option Value->Shared->Prop) (E:Value->Shared->Prop),i < l.length->St i s.heap->
   (∀v h' tk,P i v->St (i+1) h'->(∀b o,b≠I->s.heap.get? b=some o->h'.get? b=some o)->Q (some v) { s with heap:=h',toks:=tk })->wpAny (model C.prog C.w) A (pyNext (.ref I)) Q E s)/\
  (∀(A:Around),A.handled=none->∀(s:Shared) (Q:Option Value->Shared->Prop) (E:Value->Shared->Prop),St l.length s.heap->
   (∀h' tk,(∀b o,b≠I->s.heap.get? b=some o->h'.get? b=some o)->Q none { s with heap:=h',toks:=tk })->wpAny (model C.prog C.w) A (pyNext (.ref I)) Q E s)/\
  (∀(A:Around),A.handled=none->∀(i:Nat) (s:Shared) (Q:Value->Shared->Prop) (E:Value->Shared->Prop),St i s.heap->Q (.ref I) s->wpAny (model C.prog C.w) A (pyIter (.ref I)) Q E s)/\
  (∀i v,P i v->∃x,l[i]?=some x/\dz C W0 x v)/\
  (∀i h,St i h->∃o,h.get? I=some o)/\
  ∀i (W W':Wd) hp,W0.kh W->W.kh W'->dO C hp W'->gA hp gd=true->(∀o,W.s.heap.get? I=some o->W'.s.heap.get? I=some o)->St i W.s.heap->St i W'.s.heap
theorem Dy {h:Heap} (x:h.IsListIter I l i):∃o,h.get? I=some o:=let ⟨o,e,_⟩:=x;⟨o,e⟩
theorem t9 {n:Nat} (lA:a≠I) (r:dF C W l vs) (gd:Gd) (hk:∀(W1:Wd) hp,W.kh W1->dO C hp W1->gA hp gd=true->W1.s.heap.IsList a vs.toArray):LoopAt C I l gd W (λi h=>h.IsListIter I a i/\h.IsList a vs.toArray):=by
 have hl:=r.length
 refine ⟨λi v=>vs.toArray[i]?=some v,λA hA i s Q E hi st hQ=>?_,λA hA s Q E st hQ=>?_,λA hA i s Q E st hQ=>?_,λi v h=>?_,λi h st=>Dy st.1,λi W1 W2 hp l1 l2 H g hI st=>?_⟩
 ·exact (cE (prog:=C.prog) (w:=C.w) hA I a lA vs.toArray).item i s Q E (by simp;lia) st λv h' tk p q k=>hQ v h' tk p q λb o hb=>k b o (by simp;exact hb)
 ·exact (cE (prog:=C.prog) (w:=C.w) hA I a lA vs.toArray).done s Q E (by simpa[hl] using st) λh' tk k=>hQ h' tk λb o hb=>k b o (by simp;exact hb)
 ·exact (cE (prog:=C.prog) (w:=C.w) hA I a lA vs.toArray).self i s Q E st hQ
 ·have h':vs[i]?=some v:=by simpa using h
  exact r.at h'
 ·exact ⟨st.1.at λo e=>hI o e,hk W2 hp (l1.trans l2) H g⟩
theorem AQ (lA:a≠I) (r:dF C W l vs) (hk:∀(W1:Wd) hp,W.kh W1->dO C hp W1->W1.s.heap.IsTuple a vs.toArray):LoopAt C I l none W (λi h=>h.IsTupleIter I a i/\h.IsTuple a vs.toArray):=by
 have hl:=r.length
 refine ⟨λi v=>vs.toArray[i]?=some v,λA hA i s Q E hi st hQ=>?_,λA hA s Q E st hQ=>?_,λA hA i s Q E st hQ=>?_,λi v h=>?_,λi h st=>let ⟨o,e,_⟩:=st.1;⟨o,e⟩,λi W1 W2 hp l1 l2 H g hI st=>?_⟩
 ·exact (cx (prog:=C.prog) (w:=C.w) hA I a lA vs.toArray).item i s Q E (by simp;lia) st λv h' tk p q k=>hQ v h' tk p q λb o hb=>k b o (by simp;exact hb)
 ·exact (cx (prog:=C.prog) (w:=C.w) hA I a lA vs.toArray).done s Q E (by simpa[hl] using st) λh' tk k=>hQ h' tk λb o hb=>k b o (by simp;exact hb)
 ·exact (cx (prog:=C.prog) (w:=C.w) hA I a lA vs.toArray).self i s Q E st hQ
 ·have h':vs[i]?=some v:=by simpa using h
  exact r.at h'
 ·exact ⟨st.1.at λo e=>hI o e,hk W2 hp (l1.trans l2) H⟩
theorem AR:LoopAt C I ((rangeInts a c n).map .int) none W (λi h=>IsRangeIter h I (a+(i:Nat)*c) ((n:Int) - (i:Nat)) c):=by
 have hl:((rangeInts a c n).map V.int).length=n:=by rw[List.length_map,rangeInts_length]
 refine ⟨λi v=>i < n/\∃t,v=.int (a+i*c) t,λA hA i s Q E hi st hQ=>?_,λA hA s Q E st hQ=>?_,λA hA i s Q E st hQ=>?_,λi v ⟨hi,t,e⟩=>?_,λi h st=>⟨_,st⟩,λi W1 W2 hp l1 l2 H g hI st=>hI _ st⟩
 ·rw[hl] at hi
  exact (cy (prog:=C.prog) (w:=C.w) hA I a c n).item i s Q E hi st λv h' tk p q k=>hQ v h' tk ⟨hi,p⟩ q λb o hb=>k b o (by simp;exact hb)
 ·rw[hl] at st
  exact (cy (prog:=C.prog) (w:=C.w) hA I a c n).done s Q E st λh' tk k=>hQ h' tk λb o hb=>k b o (by simp;exact hb)
 ·exact (cy (prog:=C.prog) (w:=C.w) hA I a c n).self i s Q E st hQ
 ·subst e
  exact ⟨.int (a+i*c),by rw[List.getElem?_map,rangeInts_get hi];rfl,.int _ _⟩
def f_ (C:Ctx) (d:Nat) (κ:K) (cs:List Nat) (e:Expr) (st:St) (l:List V) (gd:Gd) (st':St):Prop:=
 ∀(A:Around) (a:Env) (W:Wd),dY d A->At C κ cs a st W->∀(Q:Value->Shared->Prop) (E:Value->Shared->Prop),
  (∀b I o f,W.le b->At C κ cs a st' b->Off C b I o->I≠a.locals->LoopAt C I l gd b f->f 0 b.s.heap->Q (.ref I) b.s)->
  wpAny (model C.prog C.w) A (eval e a) (λx c=>wpAny (model C.prog C.w) A (pyIter x) Q E c) E W.s
theorem gb (o):hZ C W ⟨W.G,W.σ,{ W.s with heap:=W.s.heap.push o }⟩:=(Pext0.push o W.s.toks).strict (Nat.le_refl _)
theorem gY {o:Obj} (H:dO C hp W) (a:o.isFreed=false):Off C ⟨W.G,W.σ,{ W.s with heap:=W.s.heap.push o }⟩ W.s.heap.objs.size o:=
 ⟨Heap.get?_push_size _ a,H.fX,H.jo,H.iI,H.freshT⟩
theorem tO:∀{a:List Nat},il l=some a->l=a.map V.ref:=by
 induction l with
 | nil=>exact λh=>Option.some.inj h▸rfl
 | cons v l b=>cases v with
  | ref i=>exact λh=>dK h λr c e=>e▸congrArg (V.ref i::·) (b c)
  | _=>exact λh=>nS h
theorem CI {b:List Nat}:∀{vs ws:List Value},dF C W (b.map V.ref) vs->W.kh W'->dF C W' (b.map V.ref) ws->ws=vs:=by
 induction b with
 | nil=>exact λh _ f=>f.inv.trans h.inv.symm
 | cons i b m=>
  intro vs ws h l f
  obtain ⟨c,cs,rfl,a,r⟩:=h.inv
  obtain ⟨o,n,rfl,g,j⟩:=f.inv
  obtain ⟨_,rfl,e⟩:=a.inv
  obtain ⟨_,rfl,k⟩:=g.inv
  rw[m r l j,Option.some.inj ((l.σ _ _ e).symm.trans k)]
theorem f_.tracked (J:TE C d κ cs e st (.ref i) dy) (H:dy.hp[i]?=some (.list l)) (M:il l=some ids):f_ C d κ cs e st l (some (i,ids)) dy:=λA s W D ha Q E h=>by
 refine J A s W D ha _ _ λc x j b g=>?_
 obtain ⟨a,rfl,w⟩:=g.inv
 obtain ⟨aI,aF,o,ob,q,v,B⟩:=b.H.fe _ _ w
 rw[H] at q;(refine Vm.sI q ?_;clear q;rintro rfl)
 obtain ⟨vs,n,rfl,r⟩:=B.inv
 have hl:=tO M
 have k:c.s.heap.IsList a vs.toArray:=⟨_,v,rfl,n,rfl⟩
 refine dk k ?_
 have m:=gb (W:=c) { cls:=.type "list_iterator",data:=.fields #[.ref a,.int 0 0] }
 refine h ⟨c.G,c.σ,_⟩ _ _ _ (j.trans m.le) (b.el m) (gY b.H rfl) (Nat.ne_of_gt b.lt) (t9 (a:=a) (n:=n) (Nat.ne_of_lt (Heap.lt_size v)) (dF.mono r m.le) _ λW2 u y N f=>?_) ⟨⟨_,Heap.get?_push_size _ rfl,rfl,rfl⟩,k.push _⟩
 cases p:u[i]? with
 | none=>rw[gA,p] at f;exact fT f
 | some o=>cases o with
  | list l'=>
   rw[gA,p] at f
   have L:=eq_of_beq f
   obtain ⟨_,_,o2,T,I,U,G⟩:=N.fe i a (y.σ _ _ w)
   obtain rfl:=Option.some.inj (I.symm.trans p)
   obtain ⟨ws,z,rfl,Y⟩:=G.inv
   have t:=tO L
   subst hl t
   have:=CI (dF.mono r m.le) y Y
   subst this
   exact ⟨_,U,rfl,z,rfl⟩
  | _=>rw[gA,p] at f;exact fT f
theorem f_.list (s:TE C d κ cs e st (.lst l) dy):f_ C d κ cs e st l none dy:=λA k W p q Q E h=>by
 refine s A k W p q _ _ λc x f b g=>?_
 obtain ⟨a,t,n,rfl,o,r⟩:=g.inv
 have m:=b.H.I _ _ o
 have i:c.s.heap.IsList a t.toArray:=⟨_,m,rfl,n,rfl⟩
 refine dk i ?_
 have j:=gb (W:=c) { cls:=.type "list_iterator",data:=.fields #[.ref a,.int 0 0] }
 exact h ⟨c.G,c.σ,_⟩ _ _ _ (f.trans j.le) (b.el j) (gY b.H rfl) (Nat.ne_of_gt b.lt) (t9 (a:=a) (n:=n) (Nat.ne_of_lt (Heap.lt_size m)) (dF.mono r j.le) _ λz v u w y=>⟨_,w.I _ _ (u.I _ _ o),rfl,n,rfl⟩) ⟨⟨_,Heap.get?_push_size _ rfl,rfl,rfl⟩,i.push _⟩
theorem f_.tup (s:TE C d κ cs e st (.tup l) dy):f_ C d κ cs e st l none dy:=λA k W p q Q E h=>by
 refine s A k W p q _ _ λc x f b g=>?_
 obtain ⟨a,t,n,rfl,o,r⟩:=g.inv
 have m:=b.H.I _ _ o
 have i:c.s.heap.IsTuple a t.toArray:=⟨_,m,rfl,n,rfl⟩
 refine wpAny_pyIter_tuple i ?_
 have j:=gb (W:=c) { cls:=.type "tuple_iterator",data:=.fields #[.ref a,.int 0 0] }
 exact h ⟨c.G,c.σ,_⟩ _ _ _ (f.trans j.le) (b.el j) (gY b.H rfl) (Nat.ne_of_gt b.lt) (AQ (a:=a) (Nat.ne_of_lt (Heap.lt_size m)) (dF.mono r j.le) λy v u w=>⟨_,w.I _ _ (u.I _ _ o),rfl,n,rfl⟩) ⟨⟨_,Heap.get?_push_size _ rfl,rfl,rfl⟩,i.push _⟩
theorem Aw (h:l_ a b c=true):c≠0/\bW a b c=true/\ao a b c=(gI a b c:Int):=by
 unfold l_ at h
 simp only[Bool.and_eq_true,decide_eq_true_eq] at h
 obtain ⟨⟨f,e⟩,i⟩:=h
 refine ⟨f,e,?_⟩
 have g:0<=ao a b c:=by
  unfold ao
  split
  ·split
   ·have:=Int.ediv_nonneg (a:=b - a - 1) (b:=c) (by lia) (by lia);lia
   ·lia
  ·split
   ·have:=Int.ediv_nonneg (a:=a - b - 1) (b:=-c) (by lia) (by lia);lia
   ·lia
 unfold gI;lia
theorem f_.gf (r:TE C d κ cs e st (.gf a b c) dy) (w:l_ a b c=true):f_ C d κ cs e st (jD a b c) none dy:=λA l W p y Q E h=>by
 refine r A l W p y _ _ λg x j f i=>?_
 obtain ⟨t,u,v,z,rfl,k⟩:=i.inv
 obtain ⟨B,o,s⟩:=Aw w
 refine wpAny_pyIter_range (f.H.I _ _ k) o ?_
 have m:=gb (W:=g) { cls:=.type "range_iterator",data:=.fields #[aB a,aB (ao a b c),aB c] }
 refine h ⟨g.G,g.σ,_⟩ _ _ _ (j.trans m.le) (f.el m) (gY f.H rfl) (Nat.ne_of_gt f.lt) (AR (n:=gI a b c)) ?_
 show IsRangeIter _ _ _ _ _
 rw[s]
 have q:a+((0:Nat):Int)*c=a:=by simp
 have k:((gI a b c:Nat):Int) - ((0:Nat):Int)=(gI a b c:Int):=by simp
 rw[q,k]
 exact Heap.get?_push_size _ rfl
end
section
variable {d:Nat}{κ:K}{cs:List Nat}{st st' dy dC fi uS:St}{W:Wd}{hp:List O}
theorem wL {x:Str} (m:∀A:Around,A.handled=none->Walks C.prog C.w A I [I] [I] x.cps.size (SignAt x) (λi h=>h.IsStrIter I ty x t i)):LoopAt C I (x.cps.toList.map λc=>.str (one c)) none W (λi h=>h.IsStrIter I ty x t i):=by
 refine ⟨SignAt x,λA j i f Q E y st a=>?_,λA j f Q E st a=>?_,λA j i f Q E st a=>(m A j).self i f Q E st a,λi v B=>?_,λi h st=>let ⟨o,e,_⟩:=st;⟨o,e⟩,λi W1 J hp D G H g z st=>let ⟨o,e,r⟩:=st;⟨o,z o e,r⟩⟩
 ·exact (m A j).item i f Q E (by simpa using y) st λv n s p q k=>a v n s p q λb o w=>k b o (by simp;exact w)
 ·exact (m A j).done f Q E (by simpa using st) λn s k=>a n s λb o w=>k b o (by simp;exact w)
 ·obtain ⟨c,u,e,rfl⟩:=B
  refine ⟨.str (one c),?_,.str _ _⟩
  rw[List.getElem?_map,Array.getElem?_toList,e];rfl
theorem f_.str (p:TE C d κ cs e st v dy) (n:eN v=.str s):f_ C d κ cs e st (s.cps.toList.map λc=>.str (one c)) none dy:=λA env W m o Q E h=>by
 refine p A env W m o _ _ λdR x b a g=>?_
 have f:=g.eN
 rw[n] at f
 obtain ⟨t,rfl⟩:=f.inv
 cases k:s.cps.all (· < 128)
 ·refine wpAny_pyIter_wide k ?_
  have i:=gb (W:=dR) { cls:=.type "str_iterator",data:=.fields #[.str s t,.int 0 0] }
  exact h ⟨dR.G,dR.σ,_⟩ _ _ _ (b.trans i.le) (a.el i) (gY a.H rfl) (Nat.ne_of_gt a.lt) (wL λA j=>Walks.strWide j _ s t) ⟨_,Heap.get?_push_size _ rfl,rfl,rfl⟩
 ·refine wpAny_pyIter_ascii k ?_
  have i:=gb (W:=dR) { cls:=.type "str_ascii_iterator",data:=.fields #[.str s t,.int 0 0] }
  exact h ⟨dR.G,dR.σ,_⟩ _ _ _ (b.trans i.le) (a.el i) (gY a.H rfl) (Nat.ne_of_gt a.lt) (wL λA j=>Walks.strAscii j _ s t) ⟨_,Heap.get?_push_size _ rfl,rfl,rfl⟩
def qr (C:Ctx) (d:Nat) (κ:K) (cs:List Nat) (e:Tg) (a:List Stmt) (gd:Gd):List V->St->Fl->St->Prop
 | [],st,fl,st'=>gA st.hp gd=true/\fl=.next/\st'=st
 | x::l,st,fl,st'=>gA st.hp gd=true/\∃b,d9 cs 5 e x st=some b/\((∃c,j7 C d κ cs a b .next c/\qr C d κ cs e a gd l c fl st')\/∃v,fl=.ret v/\j7 C d κ cs a b (.ret v) st')
theorem J6:∀{l:List V},qr C d κ cs tg body gd l st fl st'->gA st.hp gd=true
 | [],h=>h.1
 | _::_,h=>h.1
noncomputable abbrev Wd.tG (W:Wd) (h:Heap) (t:Tok):Wd:=⟨W.G,W.σ,{ W.s with heap:=h,toks:=t }⟩
theorem At.tG {f:Heap} (c:At C κ cs env fV W0) (a:Off C W0 I o0) (e:I≠env.locals) (g:∀b o,b≠I->W0.s.heap.get? b=some o->f.get? b=some o) (j:W0.s.toks<=tk):At C κ cs env fV (W0.tG f tk):=
 ⟨c.ok,c.H.keep (s':={ W0.s with heap:=f,toks:=tk }) I g a.I a.F a.σ a.T rfl rfl j,⟨c.L.ns.elim λm h=>⟨m,h.1.elim λo h=>h.elim λk h=>h.elim λi h=>⟨o,k,i,g _ _ e.symm h.1,h.2⟩,h.2⟩,c.L.I,c.L.F,c.L.σ,c.L.T⟩⟩
section
variable {A:Around}{env:Env}{I:Addr}{l:List V}{gd:Gd}{dR W0:Wd}{Sx:Nat->Heap->Prop}{fV:St}{o0:Obj}{Q:Option Value->Shared->Prop}{E:Value->Shared->Prop}
theorem t_ (hL:LoopAt C I l gd dR Sx) (hA:A.handled=none) (lB:i < l.length) (a0:At C κ cs env fV W0) (oN:Off C W0 I o0) (rP:I≠env.locals) (lw:dR.le W0) (hS:Sx i W0.s.heap) (k:∀v xv W1 o1,l.drop i=xv::l.drop (i+1)->dz C W1 xv v->dR.le W1->W0.le W1->At C κ cs env fV W1->Off C W1 I o1->(∀a o,a≠I->Off C W0 a o->Off C W1 a o)->(∀W3 ug,W1.le W3->dO C ug W3->gA ug gd=true->Off C W3 I o1->Sx (i+1) W3.s.heap)->Q (some v) W1.s) :
  wpAny (model C.prog C.w) A (pyNext (.ref I)) Q E W0.s:=by
 obtain ⟨P,Sk,_,_,hP,ZJ,Y5⟩:=hL
 refine wpAny_toks (Sk A hA i W0.s _ _ lB hS λv h' tk ZD Dv hk IL=>?_)
 obtain ⟨xv,hx,rx⟩:=hP i v ZD
 obtain ⟨o1,UE⟩:=ZJ _ _ Dv
 refine k v xv (W0.tG h' tk) o1 (List.drop_eq_getElem_cons lB▸congrArg (·::l.drop (i+1)) (Option.some.inj ((List.getElem?_eq_getElem lB).symm.trans hx))) (dz.mono rx (W':=W0.tG h' tk) ⟨lw.G,lw.σ⟩) ⟨lw.G,lw.σ⟩ ⟨Gh.le.refl _,ea.refl _⟩ (a0.tG oN rP hk IL) ⟨UE,oN.I,oN.F,oN.σ,oN.T⟩ (λa o ne z=>⟨hk _ _ ne z.at_,z.I,z.F,z.σ,z.T⟩)
  λW3 ug l3 H3 g3 AJ=>Y5 (i+1) (W0.tG h' tk) W3 ug (Wd.le.kh ⟨lw.G,lw.σ⟩) l3.kh H3 g3 (λo e=>(Option.some.inj (UE.symm.trans e))▸AJ.at_) Dv
theorem ua (p:LoopAt C I l gd dR Sx) (m:A.handled=none) (q:At C κ cs env fV W0) (c:Off C W0 I o0) (e:I≠env.locals) (g:dR.le W0) (n:Sx l.length W0.s.heap) (k:∀W1,dR.le W1->W0.le W1->At C κ cs env fV W1->(∀a o,a≠I->Off C W0 a o->Off C W1 a o)->Q none W1.s):wpAny (model C.prog C.w) A (pyNext (.ref I)) Q E W0.s:=by
 obtain ⟨_,_,b,_,_,_,_⟩:=p
 exact wpAny_toks (b A m W0.s _ _ n λj r h f=>k (W0.tG j r) ⟨g.G,g.σ⟩ ⟨Gh.le.refl _,ea.refl _⟩ (q.tG c e h f) λa o i z=>⟨h _ _ i z.at_,z.I,z.F,z.σ,z.T⟩)
end
theorem v8 {j:Unit->Shared->Prop}{k:Value->Shared->Prop} (o:gj κ (.Name x px) tg) (e:d9 cs 5 tg xv fV=some st1) (r:At C κ cs env fV W1) (a:Off C W1 I o1) (h:I≠env.locals) (m:dz C W1 xv v) (s:∀c,W1.le c->At C κ cs env st1 c->Off C c I o1->j () c.s):wpAny (model C.prog C.w) A (assign (.Name x px) env v) j k W1.s:=
 iu (κ:=κ) (cs:=cs) (env:=env) (st':=st1) (R:=λ_ _ _ (_:Unit)=>True) a (λq p f=>iH (kH (n:=4) o e (r.hold a h) m q p f)) j k λc _ g i _ b=>s c g i b
def tn (C:Ctx) (d:Nat) (κ:K) (cs:List Nat) (e:Tg) (b:List Stmt) (gd:Gd) (env:Env) (l:List V) (I:Addr) (f:Nat->Heap->Prop) (c:Wd) (g:Fl) (a:St) (n:Nat) (s:Shared):Prop:=
 ∃(i:Nat) (fV:St) (W0:Wd) (o0:Obj),n=l.length+1 - i/\i<=l.length/\s=W0.s/\c.le W0/\At C κ cs env fV W0/\Off C W0 I o0/\f i W0.s.heap/\qr C d κ cs e b gd (l.drop i) fV g a
section
variable {A:Around}{env:Env}{I:Addr}{l:List V}{gd:Gd}{dR W1:Wd}{Sx:Nat->Heap->Prop}{fV:St}{o1:Obj}{tg:Tg}{body:List Stmt}{fl:Fl}
@[elab_as_elim] theorem tn.elim {G:Nat->Shared->Prop} (h:tn C d κ cs tg body gd env l I Sx dR fl dC n s) (k:∀i fV W0 o0,i<=l.length->dR.le W0->At C κ cs env fV W0->Off C W0 I o0->Sx i W0.s.heap->qr C d κ cs tg body gd (l.drop i) fV fl dC->G (l.length+1 - i) W0.s):G n s:=by
 obtain ⟨i,fV,W0,o0,rfl,b,rfl,f,g,a,c,e⟩:=h
 exact k i fV W0 o0 b f g a c e
theorem tn.intro (i) (b:i<=l.length) (g:dR.le W0) (e:At C κ cs env fV W0) (c:Off C W0 I o0) (f:Sx i W0.s.heap) (a:qr C d κ cs tg body gd (l.drop i) fV fl dC):tn C d κ cs tg body gd env l I Sx dR fl dC (l.length+1 - i) W0.s:=
 ⟨i,fV,W0,o0,rfl,b,rfl,g,e,c,f,a⟩
theorem DD {D:cF->Shared->Prop}{EB:Value->Shared->Prop}{E':Value->Shared->Prop} (G:dY d A) (N:gj κ (.Name x px) tg) (hE:qr C d κ cs tg body gd (U::l) fV fl dC) (L:At C κ cs env fV W1) (h:Off C W1 I o1) (g:I≠env.locals) (M:dz C W1 U v) (hn:∀p b,W1.le b->At C κ cs env p b->Off C b I o1->qr C d κ cs tg body gd l p fl dC->D .next b.s) (r:∀w c b,fl=.ret w->W1.le b->At C κ cs env dC b->dz C b w c->D (.ret c) b.s) :
  wpAny (model C.prog C.w) A (assign (.Name x px) env v) (λ_ s'=>wpAny (model C.prog C.w) A (execs body env) D EB s') E' W1.s:=by
 obtain ⟨_,st1,H,⟨p,t,Y⟩ | ⟨w,e,t⟩⟩:=hE
 ·exact v8 N H L h g M λW2 o s a=>iu (R:=λ_ _ _ f=>f=cF.next) a (λy B k=>t A env _ G (s.hold a g) y B λu f m q j=>k u f m q j) _ _ λb f n z j i=>j.symm▸hn _ b (o.trans n) z i Y
 ·exact v8 N H L h g M λW2 o s a=>iu (R:=λT I' σ f=>∃c,f=cF.ret c/\Rep C.w.params T I' σ w c) a (λy B k=>t A env _ G (s.hold a g) y B λu f m q j=>k u f m q j) _ _ λb f n z j i=>j.elim λc J=>J.1.symm▸r w c b e (o.trans n) z J.2
end
theorem TS.fI {iter:Expr} (hi:∀es k p,iter≠.Set es k p) (hs:f_ C d κ cs iter st l gd dy) (ht:gj κ (.Name x px) tg) (hb:qr C d κ cs tg body gd l dy fl dC) :
  TS C d κ cs (.For (.Name x px) iter body [] pos) st fl dC:=λA env W hr ha Q E h=>by
 refine wpAny_For (hs A env W hr ha _ _ λdR I o Sx jF i_ off rP hL hS=>?_) λv=>?_
 ·refine codeAny_forLoop_any (tn C d κ cs tg body gd env l I Sx dR fl dC) (λn s hI=>tn.elim hI λi fV W0 o0 Zp lw a0 oN UP hE=>?_) (l.length+1) (.intro 0 (Nat.zero_le _) (Wd.le.refl _) i_ off hS hb)
  by_cases lB:i < l.length
  ·refine t_ hL hr.1 lB a0 oN rP lw UP λv xv W1 o1 hd rv IB _ a1 Wu _ Ml=>?_
   show wpAny _ _ (b_ (.Name x px) (.ref I) v) _ _ _
   exact aY (a:=()) rfl (DD hr ht (hd▸hE) a1 Wu rP rv
    (λst2 W3 IA a3 AJ g4=>⟨l.length+1 - (i+1),Nat.sub_lt_sub_left (Nat.lt_succ_of_lt lB) (Nat.lt_succ_self i),.intro (i+1) lB (IB.trans IA) a3 AJ (Ml W3 st2.hp IA a3.H (J6 g4) AJ) g4⟩)
    λw c W3 hf IA a3 rc=>h W3 _ (jF.trans (IB.trans IA)) a3 (hf▸⟨c,rfl,rc⟩))
  ·have e:l.drop i=[]:=List.drop_eq_nil_of_le (Nat.not_lt.mp lB)
   have ei:i=l.length:=Nat.le_antisymm Zp (Nat.not_lt.mp lB)
   have q:qr C d κ cs tg body gd [] fV fl dC:=e▸hE
   exact ua hL hr.1 a0 oN rP lw (ei▸UP) λW1 IB _ a1 _=>bH (h W1 _ (jF.trans IB) (q.2.2▸a1) ((congrArg (λfl=>yr C fl W1 cF.next) q.2.1).mpr rfl))
 ·cases iter with
  | Set es k p=>exact absurd rfl (hi es k p)
  | _=>rfl
end
section
variable {d:Nat}{κ:K}{cs:List Nat}{st st' dy dC fi uS:St}{W:Wd}{hp:List O}
def Ac (C:Ctx) (d:Nat) (κ:K) (cs:List Nat) (c:Expr) (a:List Stmt):Nat->St->Fl->St->Prop
 | 0,_,_,_=>False
 | n+1,st,f,st'=>(f=.next/\TT C d κ cs c st false st')\/(∃b e,TT C d κ cs c st true b/\j7 C d κ cs a b .next e/\Ac C d κ cs c a n e f st')\/∃b v,f=.ret v/\TT C d κ cs c st true b/\j7 C d κ cs a b (.ret v) st'
theorem Es {D:cF->Shared->Prop}{N:Shared->Prop}{M J:Value->Shared->Prop} (p:dY d A) (h:Ac C d κ cs c l n fV fl st') (w:At C κ cs env fV W0) (I:∀a,W0.le a->fl=.next->At C κ cs env st' a->N a.s) (G:∀m i j,m < n->W0.le j->At C κ cs env i j->Ac C d κ cs c l m i fl st'->D .next j.s) (L:∀f j,W0.le j->At C κ cs env st' j->yr C fl j f->(∃v,fl=.ret v)->D f j.s) :
  wpAny (model C.prog C.w) A (bG c env (eval c env)) (λb k=>if b=true then wpAny (model C.prog C.w) A (execs l env) D J k else N k) M W0.s:=by
 cases n with
 | zero=>exact h.elim
 | succ n=>
  rcases h with ⟨e,g⟩ | ⟨E,i,x,t,H⟩ | ⟨E,v,e,x,t⟩
  ·exact g A env W0 p w _ _ λa b r s o=>(if_neg (λq=>tF (q.symm.trans o))).mpr (I a r e s)
  ·exact x A env W0 p w _ _ λa b r s o=>(if_pos o).mpr (t A env a p s _ _ λB f z u y=>(y:f=.next).symm▸G n i B (Nat.lt_succ_self _) (r.trans z) u H)
  ·exact x A env W0 p w _ _ λa b r s o=>(if_pos o).mpr (t A env a p s _ _ λB f z u y=>L f B (r.trans z) u (e.symm▸y) ⟨v,e⟩)
theorem TS.yZ (y:Ac C d κ cs c body n st fl st'):TS C d κ cs (.While c body [] pos) st fl st':=λA l W r G Q E h=>
 wpAny_While (codeAny_whileLoop (λk s=>∃(b:St) (i:Wd),s=i.s/\W.le i/\At C κ cs l b i/\Ac C d κ cs c body k b fl st') (λk s a=>a.elim λb a=>a.elim λi a=>a.1.symm ▸
  Es r a.2.2.2 a.2.2.1 (λB w e z=>bH (h B _ (a.2.1.trans w) z (e.symm▸rfl))) (λm p g x j o u=>⟨m,x,p,g,rfl,a.2.1.trans j,o,u⟩)
   λf g j o H D=>D.elim λv e=>(e▸H:yr C (.ret v) g f).elim λt q=>q.1.symm▸h g _ (a.2.1.trans j) o (e.symm▸⟨t,rfl,q.2⟩)) n ⟨st,W,rfl,Wd.le.refl _,G,y⟩)
end
theorem hF:Slot "list_reverseiterator" "__next__" "list_reverseiterator.__next__":=
 .of (owner:="list_reverseiterator") (n:="__next__") (by rw[av,ah];kernel_rfl) (by decide +kernel) (by decide +kernel) (by decide +kernel)
  (by first | exact .inl (by decide +kernel) | exact .inr (by decide +kernel)) (by rw[au];kernel_rfl)
theorem ng:bL cV "list_reverseiterator.__next__"=some aJ.«list_reverseiterator.__next__»:=bE (by kernel_rfl)
theorem oy (a):bO "list_reverseiterator.__next__" ⟨[a],[]⟩:=by unfold bO;kernel_rfl
theorem ou:Slot "list_reverseiterator" "__iter__" "list_reverseiterator.__iter__":=
 .of (owner:="list_reverseiterator") (n:="__iter__") (by rw[av,ah];kernel_rfl) (by decide +kernel) (by decide +kernel) (by decide +kernel)
  (by first | exact .inl (by decide +kernel) | exact .inr (by decide +kernel)) (by rw[au];kernel_rfl)
theorem sZ:bL cV "list_reverseiterator.__iter__"=some aJ.«dict_keyiterator.__iter__»:=
 entryFor_alias (id':="dict_keyiterator.__iter__") (by kernel_rfl) rfl (by decide +kernel) (by kernel_rfl)
theorem uP (a):bO "list_reverseiterator.__iter__" ⟨[a],[]⟩:=by unfold bO;kernel_rfl
def IsRevIter (h:Heap) (a l:Addr) (k:Nat):Prop:=∃o,h.get? a=some o/\o.cls=.type "list_reverseiterator"/\o.data=.fields #[.ref l,.int ((k:Int) - 1) 0]
section
variable {prog:Program}{w:World}{A:Around}{E:Value->Shared->Prop}{s:Shared}
theorem IsRevIter.typeIs (x:IsRevIter s.heap it l k):s.TypeIs (.ref it) "list_reverseiterator":=let ⟨o,a,b,_⟩:=x;⟨o,a,b⟩
theorem ry {Q:Value->Shared->Prop} (a:IsRevIter s.heap it l k) (h:Q (.ref it) s):wpAny (model prog w) A (pyIter (.ref it)) Q E s:=by
 refine wpAny_pyIter_slot a.typeIs ou (bA ou a.typeIs sZ ?_ (uP _))
 show wpAny _ _ (ret (.ref it)) _ _ s
 exact wpAny_pure ⟨_,rfl,"list_reverseiterator",_,a.typeIs,hF.lookup,h⟩
theorem ru {Q:Option Value->Shared->Prop} (hit:IsRevIter s.heap it l (k+1)) (hl:s.heap.IsList l items) (hx:items[k]?=some x) (hQ:∀h',IsRevIter h' it l k->Heap.SameBut it s.heap h'->Q (some x) { s with heap:=h' }):wpAny (model prog w) A (pyNext (.ref it)) Q E s:=by
 obtain ⟨o,ho,hc,hd⟩:=id hit
 obtain ⟨ol,Y9,_,nl,Zt⟩:=hl
 have e0:((k+1:Nat):Int) - 1=(k:Int):=by lia
 rw[e0] at hd
 unfold pyNext
 refine wpAny_bind (wpAny_attempt (bB (name:=Str.ofString "__next__") hit.typeIs hF
  (bA hF hit.typeIs ng ?_ (oy _))))
 show wpAny _ _ (field (.ref it) 1>>=_) _ _ s
 refine wpAny_bind (cT ho hd (x:=.int k 0) rfl ?_)
 show wpAny _ _ (if (k:Int) < 0 then _ else _) _ _ s
 rw[if_neg (by lia)]
 show wpAny _ _ (field (.ref it) 0>>=_) _ _ s
 refine wpAny_bind (cT ho hd (x:=.ref l) rfl ?_)
 show wpAny _ _ (seqItems? (.ref l)>>=_) _ _ s
 refine wpAny_bind (wpAny_seqItems Y9 Zt ?_)
 simp only[Int.toNat_natCast,hx]
 refine wpAny_bind (wpAny_setField ho hd (by simp) (wpAny_pure ⟨x,rfl,wpAny_pure (hQ _ ?_ (Heap.SameBut.update ..))⟩))
 exact ⟨_,Heap.get?_update_self _ ho (Obj.isFreed_of_fields (Obj.data_mapFields hd _)),(Obj.cls_mapFields ..).trans hc,by
  rw[Obj.data_mapFields hd];simp[aB]⟩
theorem sF {Q:Option Value->Shared->Prop} (hh:A.handled=none) (hit:IsRevIter s.heap it l 0) (hQ:∀h',Heap.ExtBut it s.heap h'->Q none { s with heap:=h' }):wpAny (model prog w) A (pyNext (.ref it)) Q E s:=by
 obtain ⟨o,ho,hc,hd⟩:=id hit
 unfold pyNext
 refine wpAny_bind (wpAny_attempt (bB (name:=Str.ofString "__next__") hit.typeIs hF
  (bA hF hit.typeIs ng ?_ (oy _))))
 show wpAny _ _ (field (.ref it) 1>>=_) _ _ s
 refine wpAny_bind (cT ho hd (x:=.int (((0:Nat):Int) - 1) 0) rfl ?_)
 show wpAny _ _ (if (((0:Nat):Int) - 1) < 0 then _ else _) _ _ s
 rw[if_pos (by lia)]
 refine wpAny_bind (wpAny_rule (wpAny_bind ?_))
 show wpAny _ _ (newExc (.type "StopIteration") []>>=_) _ _ _
 refine wpAny_bind ?_
 simp only[newExc,newTuple]
 refine wpAny_bind (bq ?_ (by size_fits))
 refine wpAny_bind (m:=firstArgMember _ _) (aY (a:=Value.none) (by first | rfl | (simp only[firstArgMember];rfl)) ?_)
 refine bq ?_ (by size_fits)
 unfold raiseNew
 refine wpAny_bind (wpAny_handled ?_)
 first | rw[show A.in1.handled=none from hh] | rw[hh]
 refine wpAny_bind (wpAny_pure (wpAny_throw ?_))
 refine wpAny_bind (b6 (T:="StopIteration") (b:=true) ⟨_,Heap.get?_push_size _ rfl,rfl⟩ isSubtype_stop ?_)
 exact wpAny_pure (hQ _ (((Heap.ExtBut.refl _ _).push _).push _))
end
theorem sM:mroOf (.type "reversed")=pure [.type "reversed",.type "object"]:=by rw[mroOf_type];kernel_rfl
theorem sP:aA (.type "reversed") "__new__"=pure (some (.builtin "reversed.__new__")):=by rw[av,ah];kernel_rfl
theorem uM:bL cV "reversed.__new__"=some aJ.«reversed.__new__»:=bE (by kernel_rfl)
theorem FO:Bind.madeBy (.type "reversed")=pure (some "reversed.__new__"):=madeBy_type sM sP (by decide +kernel)
theorem ze:bD (.type "reversed") (.type "reversed")=pure true:=by rw[au];kernel_rfl
theorem EO:bD (.type "list_reverseiterator") (.type "reversed")=pure false:=by rw[au];kernel_rfl
section
variable {prog:Program}{w:World}{A:Around}{E:Value->Shared->Prop}{s:Shared}
theorem wi {R:Result->Shared->Prop} (ho:s.heap.get? l=some ⟨.type "list",none,.seq items n,#[]⟩) (h:R (.ok (.ret (.ref s.heap.objs.size))) { s with heap:=s.heap.push { cls:=.type "list_reverseiterator",data:=.fields #[.ref l,aB ((items.size:Int) - 1)] } }) :
  wpAny (model prog w) A.in1 (aJ.«reversed.__new__» ⟨[.type "reversed",.ref l],[]⟩) (λfin s'=>match fin with | .done f=>R (.ok f) s' | .again c'=>c'.quiet=true/\bw (model prog w) A c' R s') (λe s'=>R (.error e) s') s:=by
 have hT:s.TypeIs (.ref l) "list":=⟨_,ho,rfl⟩
 have h1:=sM
 have h2:=ze
 have h3:=F.slot_list_reversed.lookup
 have h4:=F.slot_list_reversed.bind (.ref l)
 obtain ⟨hp,g,d,tk,os⟩:=s
 wp_walk
 refine codeAny_mono (aH (R:=λr s'=>r=.ok (.ret (.ref hp.objs.size))/\s'=⟨hp.push { cls:=.type "list_reverseiterator",data:=.fields #[.ref l,aB ((items.size:Int) - 1)] },g,d,tk,os⟩) F.slot_list_reversed.plain F.entry_list_reversed
  (F.slot_list_reversed.check _ _ _ _ _ _ _ _ hT (F.args_list_reversed_1 _) (AutoListH.list___reversed___list_0 l items n prog w A.in1 (λr s'=>r=.ok (.ret (.ref hp.objs.size))/\s'=⟨hp.push { cls:=.type "list_reverseiterator",data:=.fields #[.ref l,aB ((items.size:Int) - 1)] },g,d,tk,os⟩) _ ⟨ho,rfl,rfl⟩))) λr s' hr=>?_
 obtain ⟨rfl,rfl⟩:=hr
 exact wpAny_pure h
theorem uO {Q:Value->Shared->Prop} (ho:s.heap.get? l=some ⟨.type "list",none,.seq items n,#[]⟩) (h:Q (.ref s.heap.objs.size) { s with heap:=s.heap.push { cls:=.type "list_reverseiterator",data:=.fields #[.ref l,aB ((items.size:Int) - 1)] } }) :
  wpAny (model prog w) A (call (.type "reversed") [.ref l]) Q E s:=by
 have aaV:=sM
 have aaJ:=FO
 have Nu:=ze
 have hct:checkTypeCall "reversed" ⟨[.ref l],[]⟩=pure ():=by kernel_rfl
 have Zw:checkBuiltinCall "reversed.__new__" ⟨[.type "reversed",.ref l],[]⟩=pure ():=by kernel_rfl
 refine ct (cf ?_)
 show wpAny _ _ (callAny (.type "reversed") _) _ _ _
 refine wpAny_pure ⟨cK _ (by decide +kernel),codeAny_builtin F.entry_type_call ?_⟩
 rw[Around.under_plain (weight_type_call_type "reversed" [.ref l] []) (units_type_call_type "reversed" [.ref l] [])]
 have h1:(Value.type "reversed"==Value.type "type")=false:=by decide +kernel
 have h2:((cJ "reversed").bind (·.mro.findSome? λt=>(cJ t).bind λb=>if b.noNew then some true else if b.attrs.any (·.1=="__new__") then some false else none)).getD false=false:=by decide +kernel
 repeat (any_goals (first | assumption | wp_step))
 refine codeAny_mono (aH (R:=λr s'=>r=.ok (.ret (.ref s.heap.objs.size))/\s'={ s with heap:=s.heap.push { cls:=.type "list_reverseiterator",data:=.fields #[.ref l,aB ((items.size:Int) - 1)] } }) (by decide +kernel) uM
  (aY Zw (wi (A:=A.in1) (R:=λr s'=>r=.ok (.ret (.ref s.heap.objs.size))/\s'={ s with heap:=s.heap.push { cls:=.type "list_reverseiterator",data:=.fields #[.ref l,aB ((items.size:Int) - 1)] } }) ho ⟨rfl,rfl⟩))) λr nE hr=>?_
 obtain ⟨rfl,rfl⟩:=hr
 have hT:(({ s with heap:=s.heap.push { cls:=.type "list_reverseiterator",data:=.fields #[.ref l,aB ((items.size:Int) - 1)] } }:Shared)).TypeIs (.ref s.heap.objs.size) "list_reverseiterator":=⟨_,Heap.get?_push_size _ rfl,rfl⟩
 have h3:=EO
 repeat (any_goals (first | assumption | wp_step))
end
section
variable {d:Nat}{κ:K}{cs:List Nat}{st st' dy dC fi uS:St}{W:Wd}{hp:List O}
theorem FP (p:a≠I) (r:dF C W l vs) (L:∀(n:Wd) hp,W.kh n->dO C hp n->n.s.heap.IsList a vs.toArray):LoopAt C I l.reverse none W (λi h=>∃k,i+k=vs.length/\IsRevIter h I a k/\h.IsList a vs.toArray):=by
 have T:=r.length
 refine ⟨λi v=>∃k,i+(k+1)=vs.length/\vs[k]?=some v,λA u i s Q E z st m=>?_,λA u s Q E st m=>?_,λA u i s Q E st m=>?_,λi v ⟨k,e,h⟩=>?_,λi h st=>?_,λi n N hp D M H g B st=>?_⟩
 ·obtain ⟨k,e,c,f⟩:=st
  rw[List.length_reverse] at z
  obtain ⟨k,rfl⟩:∃J,k=J+1:=⟨k - 1,by lia⟩
  have j:k < vs.length:=by lia
  refine ru c f (x:=vs[k]) (by simp[j]) λt q y=>?_
  have:=m vs[k] t s.toks ⟨k,e,by simp[j]⟩ ⟨k,by lia,q,f.extBut y.extBut p⟩ λb o w e=>(y.2 b w).trans e
  exact this
 ·obtain ⟨k,e,c,f⟩:=st
  rw[List.length_reverse] at e
  have:k=0:=by lia
  subst this
  exact sF u c λt G=>m t s.toks λb o w e=>G b o w e
 ·obtain ⟨k,e,c,f⟩:=st
  exact ry c m
 ·obtain ⟨x,c,f⟩:=r.at h
  refine ⟨x,?_,f⟩
  have j:k < l.length:=(List.getElem?_eq_some_iff.mp c).1
  rw[List.getElem?_reverse (by lia)]
  rw[<- c];congr 1;lia
 ·obtain ⟨k,e,⟨o,c,_⟩,_⟩:=st;exact ⟨o,c⟩
 ·obtain ⟨k,e,⟨o,c,f⟩,_⟩:=st
  exact ⟨k,e,⟨o,B o c,f⟩,L N hp (D.trans M) H⟩
theorem f_.rev (hn:noStar e=true) (hf:TE C d κ cs (.Name x np) st (.con (.type "reversed")) st) (h1:TE C d κ cs e st (.lst l) dy):f_ C d κ cs (.Call (.Name x np) [e] [] pos) st l.reverse none dy:=λA env W hr ha Q E h=>by
 refine dm (hf A env W hr ha _ _ λaa6 c WD XB V8=>?_)
 subst V8
 have hs:[e].all noStar=true:=by simp[hn]
 rw[ff hs,gi]
 refine PySem.callWith_type (mA [e]) ?_
 refine pH (fS.cons h1 .nil) hr XB _ _ λdR ar jF i_ ⟨Zn,qD⟩=>?_
 rw[Zn]
 generalize ar.pos=p at *
 obtain ⟨_,_,rfl,Wf,rn⟩:=qD.inv
 obtain rfl:=rn.inv
 obtain ⟨a,vs,n,rfl,e1,r⟩:=Wf.inv
 have q2:=i_.H.I _ _ e1
 refine uO q2 ?_
 have pe:=gb (W:=dR) { cls:=.type "list_reverseiterator",data:=.fields #[.ref a,aB ((vs.toArray.size:Int) - 1)] }
 have UT:IsRevIter (dR.s.heap.push { cls:=.type "list_reverseiterator",data:=.fields #[.ref a,aB ((vs.toArray.size:Int) - 1)] }) dR.s.heap.objs.size a vs.length:=⟨_,Heap.get?_push_size _ rfl,rfl,by simp[aB]⟩
 refine ry (s:={ dR.s with heap:=dR.s.heap.push { cls:=.type "list_reverseiterator",data:=.fields #[.ref a,aB ((vs.toArray.size:Int) - 1)] } }) UT ?_
 exact h ⟨dR.G,dR.σ,_⟩ _ _ _ ((WD.trans jF).trans pe.le) (i_.el pe) (gY i_.H rfl) (Nat.ne_of_gt i_.lt) (FP (a:=a) (Nat.ne_of_lt (Heap.lt_size q2)) (dF.mono r pe.le) λW2 lx l2 H2=>⟨_,H2.I _ _ (l2.I _ _ e1),rfl,n,rfl⟩) ⟨vs.length,by lia,UT,⟨_,Heap.get?_push_of_some _ q2,rfl,n,rfl⟩⟩
end
end Vm
end
noncomputable section
open PySem PySem.W PyProof.Rows PySem.Calls PySem.Spec PySem.SeqAt
namespace PySem
section
variable {prog:Program}{w:World}{K:Type} [DecidableEq K] {knd:PySem.KeyKind prog w K}{A:Around}{E:Value->Shared->Prop}{s:Shared}
theorem qw {Q:Unit->Shared->Prop} (a:knd.is k key=true) (L:s.heap.DictOf knd d kvs) (G:∀t,t.DictOf knd d (stored kvs k v)->Heap.SameBut d s.heap t->Q () { s with heap:=t }) (hsz:kvs.length<=bk) :
  wpAny (model prog w) A (cm d (knd.hash k) key v) Q E s:=by
 obtain ⟨o,c,D,j,H,h,u,p,B⟩:=L
 have r:c.size<=bk:=(Array.length_toList (xs:=c))▸p.length▸hsz
 unfold cm
 refine wpAny_bind (wpAny_dictFind_of a j h u ?_)
 have b:(c.findIdx? λe=>knd.is k e.key)=kvs.findIdx? λm=>decide (m.1=k):=by
  rw[<- p.findIdx k];obtain ⟨l⟩:=c;simp
 cases n:c.findIdx? λe=>knd.is k e.key with
 | some i=>
  refine wpAny_updateDict j h (G _ ⟨_,_,D,Heap.get?_update_self _ j (Obj.isFreed_of_dict (Obj.data_mapDict h _)),
   H.mapDict _,Obj.data_mapDict h _,u.modify _ _,?_,?_⟩ (Heap.SameBut.update ..))
  ·rw[stored,if_pos (c8 (b▸n))]
   have N:(c.toList.findIdx? λe=>knd.is k e.key)=some i:=by rw[<- n];obtain ⟨l⟩:=c;simp
   have:=p.modify B N v
   obtain ⟨l⟩:=c
   simpa using this
  ·rw[stored,if_pos (c8 (b▸n)),keys_map_store];exact B
 | none=>
  have f:k∉kvs.map (·.1):=not_mem_of_findIdx_none (b▸n)
  have g:¬(kvs.any λm=>decide (m.1=k))=true:=by
   rw[List.any_eq_true];rintro ⟨m,q,M⟩
   exact f (List.mem_map.mpr ⟨m,q,of_decide_eq_true M⟩)
  refine wpAny_updateDictKeys (hz:=r) j h (G _ ⟨_,_,D+1,Heap.get?_update_self _ j (Obj.isFreed_of_dict (Obj.data_mapDictKeys h _)),
   H.mapDictKeys _,Obj.data_mapDictKeys h _,u.push a _,?_,?_⟩ (Heap.SameBut.update ..))
  ·rw[stored,if_neg g]
   have:=p.append a (knd.hash k) v
   obtain ⟨l⟩:=c
   simpa using this
  ·rw[stored,if_neg g,List.map_append,List.nodup_append]
   refine ⟨B,by simp,?_⟩
   intro x J y I
   simp only[List.map_cons,List.map_nil,List.mem_singleton] at I
   subst I
   exact λz=>f (z▸J)
theorem Eu {Q:Unit->Shared->Prop} (Zv:d≠a) (ha:(a==aK)=false) (hd:s.heap.DictOf (PySem.strKind prog w) d kvs) (hm:s.heap.DictOf (PySem.strKind prog w) a more) (hsz:kvs.length+more.length<=bk) (hQ:∀h',h'.DictOf (PySem.strKind prog w) d (merged kvs more)->h'.DictOf (PySem.strKind prog w) a more->Heap.SameBut d s.heap h'->Q () { s with heap:=h' }) :
  wpAny (model prog w) A (mergeMapping d (.ref a) false) Q E s:=by
 have hT:=hm.typeIs
 obtain ⟨oa,es,ep,IQ,Zx,sS,NN,Dn,Za⟩:=id hm
 obtain ⟨od,es0,ep0,Y_,UJ,Zu,hkd,hpd,uh⟩:=id hd
 have hlen:more.length=es.size:=by rw[<- Dn.length];exact Array.length_toList
 have loop:wpAny (model prog w) A (do
   let size:=(← bM a).size
   let SF←dictEpoch a
   for i in List.range size do
    let some e:=(← bM a)[i]? | cU "dict.changed-during-merge"
    aP [e.key,e.val] do
     if false=true then
      if (← cX d e.key e.hash).isSome then do rule "dict.merge.duplicate-key";raiseNew (← newExc (.type "KeyError") [e.key])
     cm d e.hash e.key e.val
    if (← dictEpoch a) != SF then cU "dict.changed-during-merge") Q E s:=by
  refine wpAny_bind (br IQ sS ?_)
  refine wpAny_bind (wpAny_dictEpoch IQ sS ?_)
  rw[List.range_eq_range']
  refine wpAny_bind ?_
  refine b7 _
   (λrest _ s'=>∃h' i,s'={ s with heap:=h' }/\rest=List.range' i (es.size - i)/\i<=es.size/\h'.DictOf (PySem.strKind prog w) d (merged kvs (more.take i))/\h'.get? a=some oa/\Heap.SameBut d s.heap h')
   _ ?_ ?_ _ _ ⟨s.heap,0,rfl,by simp,Nat.zero_le _,by simpa[merged] using hd,IQ,Heap.SameBut.refl _ _⟩
  ·intro x rest b s' hI
   refine Vm.gk λP kP=>?_
   obtain ⟨h',i,mv,hr,hi,zH,A',Dm⟩:=hI
   have lB:i < es.size:=(Nat.lt_or_ge i es.size).elim id λh=>by rw[Nat.sub_eq_zero_of_le h] at hr;exact nomatch hr
   have e:es.size - i=(es.size - (i+1))+1:=by lia
   rw[e,List.range'_succ] at hr
   have hx:x=i:=(List.cons.inj hr).1
   have A9:=(List.cons.inj hr).2
   have UG:=List.getElem?_eq_getElem (l:=more) (i:=i) (by rw[hlen];exact lB)
   have lx:=Dn.get? (e:=es[i]) (by rw[Array.getElem?_toList];exact Array.getElem?_eq_getElem lB) UG
   obtain ⟨k',Sj,Sl⟩:=NN es[i] (Array.getElem_mem lB)
   have Zo:=(PySem.strKind prog w).inj _ _ _ Sj lx.1
   have Zh:(merged kvs (more.take i)).length<=bk:=Nat.le_trans (merged_length_le kvs (more.take i)) (Nat.le_trans (Nat.add_le_add_left (List.length_take_le' ..) _) hsz)
   refine kP ?_
   rw[mv,hx]
   refine wpAny_bind (br A' sS ?_)
   rw[Array.getElem?_eq_getElem lB]
   dsimp only
   rw[if_neg Bool.false_ne_true,Sl,Zo,lx.2]
   refine wpAny_bind (ai (qw (knd:=PySem.strKind prog w) (hsz:=Zh) lx.1 zH λNV WV Nw=>?_))
   have IP:NV.get? a=some oa:=(Nw.2 a (aN Zv)).trans A'
   refine wpAny_bind (wpAny_dictEpoch IP sS ?_)
   rw[if_neg (by rw[bne_self_eq_false];exact Bool.false_ne_true)]
   exact wpAny_pure ⟨NV,i+1,rfl,A9,lB,by rw[merged_take_succ kvs more i _ UG];exact WV,IP,Dm.trans Nw⟩
  ·intro b s' hI
   refine Vm.gk λP kP=>?_
   obtain ⟨h',i,mv,hr,hi,zH,A',Dm⟩:=hI
   have IT:i=es.size:=Nat.le_antisymm hi (Nat.le_of_sub_eq_zero (List.range'_eq_nil_iff.mp hr.symm))
   rw[IT,<-hlen,List.take_length] at zH
   exact kP (mv.symm▸wpAny_pure (hQ h' zH ⟨oa,es,ep,A',Zx,sS,NN,Dn,Za⟩ Dm))
 unfold mergeMapping
 refine wpAny_bind ?_
 refine wpAny_bind (wpAny_typeOf hT (aY PySem.F.sub_dict_dict ?_))
 rw[if_pos rfl]
 refine wpAny_bind (bb hT PySem.F.slot_dict_iter.lookup ?_)
 refine wpAny_bind (wpAny_pure ?_)
 have e1:((some (Value.builtin "dict.__iter__"))==some (Value.builtin "dict.__iter__"))=true:=by decide +kernel
 rw[e1]
 dsimp only
 rw[if_neg (by rw[ha];exact Bool.false_ne_true)]
 refine wpAny_bind (br Y_ Zu ?_)
 split
 ·refine wpAny_bind (br IQ sS ?_)
  refine wpAny_bind ?_
  rw[<- Array.forIn_toList]
  refine b7 _ (λrest _ s'=>s'=s/\∀e∈rest,e∈es.toList) _ ?_ ?_ _ _ ⟨rfl,λ_ h=>h⟩
  ·exact λe rest b s' hI=>(NN e (Array.mem_toList_iff.mp (hI.2 e (.head _)))).elim λk' hk=>(Value.isStrOf_shape hk.1).elim λt ht=>by
    rw[ht]
    exact wpAny_pure ⟨hI.1,λx hx=>hI.2 x (.tail _ hx)⟩
  ·exact λb s' hI=>hI.1.symm▸loop
 ·exact loop
end
section
variable {prog:Program}{w:World}{A:Around}{E:Value->Shared->Prop}{s:Shared}
def m6 (M:Model) (A:Around) (d:Addr) (Q:Value->Shared->Prop) (E:Value->Shared->Prop):List (Sem Value)->Shared->Prop
 | [],s=>Q (.ref d) s
 | t::b,s=>wpAny M A t (λm c=>wpAny M A (mergeMapping d m false) (λ_ a=>m6 M A d Q E b a) (λ_ _=>False) c) E s
theorem JB {Q:Value->Shared->Prop} (lA:ts≠[]) (h:m6 (model prog w) A s.heap.objs.size Q E ts { s with heap:=s.heap.push { cls:=.type "dict",data:=.dict #[] } }) :
  wpAny (model prog w) A (bN (ts.map λt=>(none,t))) Q E s:=by
 unfold bN
 refine wpAny_bind ?_
 refine b7 _ (λrest b s'=>∃tw,rest=tw.map (λt=>(none,t))/\((b=(none,[])/\tw≠[]/\s'=s/\tw=ts)\/(b=(some s.heap.objs.size,[])/\m6 (model prog w) A s.heap.objs.size Q E tw s'))) _ ?_ ?_ _ _ ⟨ts,rfl,.inl ⟨rfl,lA,rfl,rfl⟩⟩
 ·rintro x rest b s' ⟨tw,e,hh⟩
  have go:∀(t:Sem Value) (kl:List (Sem Value)) (nE:Shared),m6 (model prog w) A s.heap.objs.size Q E (t::kl) nE->∀(R:ForInStep (Option Addr×List (Sem Value×Sem Value))->Shared->Prop),(∀oD,m6 (model prog w) A s.heap.objs.size Q E kl oD->R (.yield (some s.heap.objs.size,[])) oD)->
    wpAny (model prog w) A (do
     let m←aP [Value.ref s.heap.objs.size] t
     (((aP [Value.ref s.heap.objs.size,m] (mergeMapping s.heap.objs.size m false)).onRaise λx=>do
           let _←aP [Value.ref s.heap.objs.size,m,x] (runValue (cq "proto.let_go" { }))
           pure ()).tryCatch
         λe=>do
         let iB←isInstance e (Value.type "AttributeError")
         have Aa:Unit->Sem Unit:=λVc=>throw e
         if iB=true then do
           rule "dict.display.not-a-mapping"
           let iB←typeNameOf m
           let Vc ←
            raiseErrorMade "TypeError"
              (toString "'"++toString iB++toString "' object is not a mapping")
           Aa Vc
          else Aa ()).onRaise
       λx=>do
       let _←aP [Value.ref s.heap.objs.size,x] (runValue (cq "proto.let_go" { }))
       pure ()
     pure (ForInStep.yield (some s.heap.objs.size,[]))) R E nE:=by
   intro t kl nE h1 R hR
   refine wpAny_bind (ai ?_)
   refine wpAny_mono h1 (λm oD h2=>?_) λ_ _ e=>e
   refine wpAny_bind (wpAny_onRaise (wpAny_tryCatch (wpAny_onRaise (ai ?_))))
   exact wpAny_mono h2 (λ_ VJ h3=>wpAny_pure (hR VJ h3)) λ_ _ e=>e.elim
  cases tw with
  | nil=>cases e
  | cons t kl=>
   rw[List.map_cons] at e
   injection e with e1 e2
   subst e1 e2
   rcases hh with ⟨rfl,_,rfl,rfl⟩ | ⟨rfl,hh⟩
   ·refine wpAny_bind (wpAny_pure ?_)
    refine wpAny_bind (bK ?_)
    exact go t kl _ h _ λoD h2=>⟨kl,rfl,.inr ⟨rfl,h2⟩⟩
   ·refine wpAny_bind (wpAny_pure ?_)
    refine wpAny_bind (wpAny_pure ?_)
    exact go t kl _ hh _ λoD h2=>⟨kl,rfl,.inr ⟨rfl,h2⟩⟩
 ·rintro b s' ⟨tw,e,hh⟩
  cases tw with
  | cons t kl=>cases e
  | nil=>
   rcases hh with ⟨_,hn,_⟩ | ⟨rfl,hh⟩
   ·exact absurd rfl hn
   ·exact wpAny_bind (wpAny_pure (wpAny_pure hh))
end
end PySem
end
noncomputable section
open PySem PySem.W PyProof.Rows PySem.Calls PySem.Spec PySem.SeqAt
namespace Vm
section
variable {d:Nat}{κ:K}{cs:List Nat}{st st' dy dC:St}{W:Wd}{hp:List O}
theorem vo {α c:Type}:∀l:List (α×c),(l.map (·.1)).zip (l.map (·.2))=l
 | []=>rfl
 | (a,b)::l=>by rw[List.map_cons,List.map_cons,List.zip_cons_cons,vo l]
theorem vW {K:Type} [DecidableEq K] {kvs:List (K×Value)}{k:K}{c:Value}(h:(kvs.map (·.1)).Nodup):((PySem.stored kvs k c).map (·.1)).Nodup:=by
 unfold PySem.stored
 split
 ·have:(kvs.map λe=>if e.1=k then (e.1,c) else e).map (·.1)=kvs.map (·.1):=by
   rw[List.map_map]
   refine List.map_congr_left λe _=>?_
   show (if e.1=k then (e.1,c) else e).1=e.1
   split<;>rfl
  rw[this];exact h
 ·rename_i i
  rw[List.map_append,List.nodup_append]
  refine ⟨h,by simp,λx g y f=>?_⟩
  simp only[List.map_cons,List.map_nil,List.mem_singleton] at f
  subst f
  rintro rfl
  obtain ⟨e,a,b⟩:=List.mem_map.mp g
  exact i (List.any_eq_true.mpr ⟨e,a,decide_eq_true b⟩)
theorem yJ (h:iq ks vs (k::jy) (v::vs')=some r):∃p,fW ks vs k v=some p/\iq p.1 p.2 jy vs'=some r:=by
 have c:∀p:Option (List V×List V),(match p with | some (a,b)=>iq a b jy vs' | none=>none)=some r->∃q,p=some q/\iq q.1 q.2 jy vs'=some r:=by
  intro p h
  cases p with
  | none=>exact nS h
  | some q=>exact ⟨q,rfl,h⟩
 exact c _ h
theorem tZ {K:Type} [DecidableEq K] (D:Kd prog w K){P:Params}:∀{more kvs:List (K×Value)}{vs vs2 c vs':List V},(kvs.map (·.1)).Nodup->dJ P T I σ vs (kvs.map (·.2))->dJ P T I σ vs2 (more.map (·.2))->
  iq ((kvs.map (·.1)).map D.inj) vs ((more.map (·.1)).map D.inj) vs2=some (c,vs')->c=((PySem.merged kvs more).map (·.1)).map D.inj/\dJ P T I σ vs' ((PySem.merged kvs more).map (·.2))
 | [],kvs,vs,_,c,vs',g,r,f,h=>by
  rw[qG f] at h
  obtain ⟨m,n⟩:=af (Option.some.inj h)
  exact ⟨m.symm,n▸r⟩
 | kc::more,kvs,vs,_,c,vs',g,r,f,h=>by
  obtain ⟨v,l,q,k,f⟩:=tN f
  rw[q] at h
  obtain ⟨⟨a,b⟩,e,h⟩:=yJ h
  obtain ⟨j,i⟩:=oG D k g (by simp) r e
  rw[vo] at j i
  have h:iq a b (more.map (·.1) |>.map D.inj) l=some (c,vs'):=h
  rw[j] at h
  exact tZ D (kvs:=PySem.stored kvs kc.1 kc.2) (vW g) i f h
theorem uK (h:mergeAll ks vs (v::l)=some r) :
  ∃c f p,v=.dE c f/\(c.all gh=true/\ks.length+c.length<=65536)/\iq ks vs c f=some p/\mergeAll p.1 p.2 l=some r:=by
 cases v with
 | dE c f=>
  have g:∀p:Option (List V×List V),(match p with | some (a,b)=>mergeAll a b l | none=>none)=some r->∃q,p=some q/\mergeAll q.1 q.2 l=some r:=by
   intro p h
   cases p with
   | none=>exact nS h
   | some q=>exact ⟨q,rfl,h⟩
  exact dN (h:(if c.all gh=true/\ks.length+c.length<=65536 then (match iq ks vs c f with | some (a,b)=>mergeAll a b l | none=>none) else none)=some r) λi h=>(g _ h).elim λp e=>⟨c,f,p,rfl,i,e⟩
 | _=>exact nS h
theorem EV (xs:List Str):(xs.map V.str).all gh=true:=by
 rw[List.all_map];exact List.all_eq_true.mpr λ_ _=>rfl
theorem Cx {env:Env} (hL:a≠env.locals){Q:Shared->Prop} (g:At C κ cs env st dR) (f:Off C dR a ob) (r':eb C.w.params dR.G.T dR.G.I dR.σ ob (.dict ks vs)) (j:dz C dR (.dE kk vv) c) (hk:ks.all gh=true) (hh:kk.all gh=true/\ks.length+kk.length<=65536) (J:iq ks vs kk vv=some p) (hQ:∀h q,dR.le ⟨dR.G,dR.σ,{ dR.s with heap:=h }⟩->At C κ cs env st ⟨dR.G,dR.σ,{ dR.s with heap:=h }⟩->Off C ⟨dR.G,dR.σ,{ dR.s with heap:=h }⟩ a q->eb C.w.params dR.G.T dR.G.I dR.σ q (.dict p.1 p.2)->p.1.all gh=true->Q { dR.s with heap:=h }) :
  wpAny (model C.prog C.w) A (mergeMapping a c false) (λ_=>Q) (λ_ _=>False) dR.s:=by
 refine gk λP k=>?_
 obtain ⟨E,Y⟩:=strs_of_all hk
 obtain ⟨ys,ey⟩:=strs_of_all hh.1
 rw[Y] at r' J
 rw[ey] at j J
 obtain ⟨b,mv,n,ec,D,M,en⟩:=j.inv
 obtain ⟨G,aaS,eo,kd,s⟩:=r'.inv
 have H:a≠b:=λz=>nS (f.I.symm.trans ((congrArg dR.G.I z).trans D))
 have N:(b==aK)=false:=beq_eq_false_iff_ne.mpr λz=>nS ((g.H.tab _ C.sys).1.symm.trans ((congrArg dR.G.I z).symm.trans D))
 obtain ⟨U,t⟩:=j4 (gV C.prog C.w) (W:=dR) ⟨_,eo▸f.at_⟩ kd s
 obtain ⟨l,w⟩:=j4 (gV C.prog C.w) (W:=dR) ⟨_,g.H.I _ _ D⟩ M en
 have z1:=List.map_fst_zip (Nat.le_of_eq t.len)
 have z2:=List.map_snd_zip (Nat.le_of_eq t.len.symm)
 have z3:=List.map_fst_zip (Nat.le_of_eq w.len)
 have z4:=List.map_snd_zip (Nat.le_of_eq w.len.symm)
 have B:(E.zip U).length+(ys.zip l).length<=bk:=by
  have:=hh.2
  rw[Y,ey,List.length_map,List.length_map] at this
  rw[List.length_zip,List.length_zip,<-t.len,<-w.len,Nat.min_self,Nat.min_self]
  exact Nat.le_trans this (by decide)
 have L:((E.zip U).map (·.1)).Nodup:=z1.symm▸kd.nodup (gV C.prog C.w)
 obtain ⟨q1,q2⟩:=tZ (gV C.prog C.w) (P:=C.w.params) (T:=dR.G.T) (I:=dR.G.I) (σ:=dR.σ) (more:=ys.zip l) (kvs:=E.zip U) (vs:=vs) (vs2:=vv) L (z2.symm▸t.rep) (z4.symm▸w.rep) (by rw[z1,z3];exact J)
 refine k (ec▸PySem.Eu H N t.dict w.dict B λh hd _ hs=>?_)
 obtain ⟨aaY,n'',e1,e2,e3⟩:=lK (gV C.prog C.w) hd q2
 rw[<- q1] at e2 e3
 have i:∀v o,v≠a->dR.s.heap.get? v=some o->h.get? v=some o:=λv o z e=>(hs.2 v z).trans e
 have r:dO C st.hp ⟨dR.G,dR.σ,{ dR.s with heap:=h }⟩:=g.H.keep (s':={ dR.s with heap:=h }) _ i f.I f.F f.σ f.T rfl rfl (Nat.le_refl _)
 exact hQ h _ ⟨Gh.le.refl _,ea.refl _⟩ ⟨g.ok,r,⟨by
  obtain ⟨m,x,y⟩:=g.L.ns
  obtain ⟨o,es,ep,z,u⟩:=x
  exact ⟨m,⟨o,es,ep,i _ _ hL.symm z,u⟩,y⟩,g.L.I,g.L.F,g.L.σ,g.L.T⟩⟩ ⟨e1,f.I,f.F,f.σ,f.T⟩ (.dict e2 e3) (by rw[q1];exact EV _)
theorem zb {env:Env} (z:dY d A) (u:a≠env.locals){Q:Value->Shared->Prop}{E:Value->Shared->Prop}:∀{es:List Expr}{ls:List V}{st st':St}{W:Wd}{m:Obj}{ks vs g vs':List V}{pos:Pos},fS C d κ cs es st ls st'->At C κ cs env st W->Off C W a m->
  eb C.w.params W.G.T W.G.I W.σ m (.dict ks vs)->ks.all gh=true->mergeAll ks vs ls=some (g,vs')->
  (∀W' f,W.le W'->At C κ cs env st' W'->Off C W' a f->eb C.w.params W'.G.T W'.G.I W'.σ f (.dict g vs')->Q (.ref a) W'.s)->
  PySem.m6 (model C.prog C.w) A a Q E ((evalEach es env).map λv=>do let x←v;standAt pos;pure x) W.s
 | [],_,st,st',W,m,ks,vs,g,vs',pos,h,w,s,r,B,j,t=>by
  obtain ⟨D,Y⟩:=h.oR
  rw[D] at j
  obtain ⟨U,G⟩:=af (Option.some.inj j)
  exact t W m (Wd.le.refl _) (Y▸w) s (U▸G▸r)
 | e::es,_,st,_,W,m,ks,vs,g,vs',pos,h,w,s,r,B,j,t=>by
  obtain ⟨v,ls,L,q,N,M⟩:=h.zW
  rw[q] at j
  obtain ⟨kk,vv,p,q,hh,em,j⟩:=uK j
  refine wpAny_bind (iu (R:=λT I H c=>Rep C.w.params T I H v c) s (N A env _ z (w.hold s u)) _ _ λy c b n k i=>wpAny_bind (wpAny_standAt (wpAny_pure ?_)))
  exact Cx u n i (r.mono b.G.T b.G.I b.σ) (q▸k) B hh em λh' f l a o r ks=>zb z u M a o r ks j λW' f J a o r=>t W' f ((b.trans l).trans J) a o r
theorem p0:∀{ks:List (Option Expr)}{es:List Expr},ks.all (·.isNone)=true->ks.length=es.length->
  (evalEachOpt ks env).zip ((evalEach es env).map λv=>do let x←v;standAt pos;pure x)=((evalEach es env).map λv=>do let x←v;standAt pos;pure x).map λt=>(none,t)
 | [],[],_,_=>rfl
 | k::ks,e::es,h,a=>by
  rw[List.all_cons,Bool.and_eq_true] at h
  cases k with
  | some _=>cases h.1
  | none=>exact congrArg (List.cons _) (p0 (ks:=ks) (es:=es) h.2 (Nat.succ.inj a))
 | [],_::_,_,a=>by cases a
 | _::_,[],_,a=>by cases a
theorem TF.star {j:List (Option Expr)}{es:List Expr} (v:j.all (·.isNone)=true) (w:j.length=es.length) (c:es≠[]) (s:fS C d κ cs es st ls dy) (n:mergeAll [] [] ls=some (ks,vs)) :
  TF C d κ cs (.Dict j es pos) st (.dict ks vs) dy:=λA g W m i Q E h=>by
 rw[PySem.arm_eval_Dict,p0 v w]
 refine wpAny_bind (wpAny_standAt ?_)
 refine PySem.JB ?_ ?_
 ·intro q
  cases es with
  | nil=>exact c rfl
  | cons e es=>exact nomatch q
 ·have p:hZ C W ⟨W.G,W.σ,{ W.s with heap:=W.s.heap.push ⟨.type "dict",none,.dict #[] 0,#[]⟩,toks:=W.s.toks }⟩:=(Pext0.push _ _).strict (Nat.le_refl _)
  have f:=m9 (W:=W) (hp:=st.hp) (o:=⟨.type "dict",none,.dict #[] 0,#[]⟩) i.H rfl (t:=W.s.toks)
  have b:W.s.heap.objs.size≠g.locals:=Nat.ne_of_gt i.lt
  exact zb (W:=⟨W.G,W.σ,_⟩) m b s (i.el p) f (.dict (es:=[]) .nil .nil) rfl n λu k l a o r=>h u _ (p.le.trans l) a ⟨_,k,rfl,b,o,r⟩
end
section
variable {d:Nat}{κ:K}{cs:List Nat}{st st' dy dC:St}{W:Wd}{hp:List O}
theorem n7 (f:Str×NameKind->List (Str×Addr)->Sem (ForInStep (List (Str×Addr)))) (p:∀n k c,f (n,k) c=(if (k==.free)=true then do let a←da env n;pure (.yield ((n,a)::c)) else pure (.yield c))) :
  ∀(names:List (Str×NameKind)) (acc:List (Str×Addr)),(∀x∈names,x.2=.free->∃a,env.cells.lookup x.1=some a)->(∀x a,acc.lookup x=some a->env.cells.lookup x=some a)->
   ∃g,forIn names acc f=pure g/\(∀x a,g.lookup x=some a->env.cells.lookup x=some a)/\(∀x,(∃a,acc.lookup x=some a)\/(x,.free)∈names->∃a,g.lookup x=some a)
 | [],acc,_,l=>⟨acc,rfl,l,λx h=>h.elim id λq=>nomatch q⟩
 | (n,k)::names,acc,h,l=>by
  rw[List.forIn_cons,p]
  by_cases j:(k==NameKind.free)=true
  ·obtain ⟨a,e⟩:=h (n,k) (.head _) (by simpa using j)
   obtain ⟨g,r,m,o⟩:=n7 f p names ((n,a)::acc) (λx hx=>h x (.tail _ hx)) (λx b i=>by
    rw[List.lookup_cons] at i
    split at i
    ·rename_i q;(refine Vm.sI i ?_;clear i;rintro rfl);rw[eq_of_beq q];exact e
    ·exact l x b i)
   refine ⟨g,?_,m,λx hx=>o x ?_⟩
   ·rw[if_pos j]
    have:da env n=pure a:=by unfold da;rw[e]
    rw[this]
    exact r
   ·rcases hx with ⟨b,s⟩ | hx
    ·refine .inl ?_
     rw[List.lookup_cons]
     split
     ·exact ⟨a,rfl⟩
     ·exact ⟨b,s⟩
    ·rcases List.mem_cons.mp hx with q | q
     ·cases q
      exact .inl ⟨a,by rw[List.lookup_cons,beq_self_eq_true]⟩
     ·exact .inr q
  ·obtain ⟨g,r,m,o⟩:=n7 f p names acc (λx hx=>h x (.tail _ hx)) l
   refine ⟨g,?_,m,λx hx=>o x ?_⟩
   ·rw[if_neg j];exact r
   ·rcases hx with hx | hx
    ·exact .inl hx
    ·rcases List.mem_cons.mp hx with q | q
     ·cases q;exact absurd rfl j
     ·exact .inr q
theorem ox {env:Env}{sc:Scope} (h:∀x∈sc.names,x.2=.free->∃a,env.cells.lookup x.1=some a) :
  ∃c,c_ sc env=pure c/\(∀x a,c.lookup x=some a->env.cells.lookup x=some a)/\(∀x,(x,.free)∈sc.names->∃a,c.lookup x=some a):=by
 unfold c_
 obtain ⟨c,k,g,i⟩:=n7 (env:=env) (λx r=>match x with
  | (b,f)=>do
   if (f==.free)=true then do
    let a←da env b
    pure (.yield ((b,a)::r))
   else pure (.yield r)) (λ_ _ _=>rfl) sc.names [] h (λ_ _ e=>nomatch e)
 refine ⟨c,?_,g,λx j=>i x (.inr j)⟩
 show (forIn sc.names ([]:List (Str×Addr)) _>>=pure)=pure c
 exact (congrArg (·>>=pure) k).trans rfl
end
section
variable {d:Nat}{κ:K}{cs:List Nat}{st st' dy dC:St}{W:Wd}{hp:List O}
noncomputable def ownOf (names:List (Str×NameKind)):List Str:=(names.filter λx=>x.2==.cell).map (·.1)
theorem rA:ownOf ((n,k)::names)=if (k==.cell)=true then n::ownOf names else ownOf names:=by
 unfold ownOf
 rw[List.filter_cons]
 by_cases h:(k==NameKind.cell)=true
 ·rw[if_pos h,if_pos h];rfl
 ·rw[if_neg h,if_neg h]
structure TO (C:Ctx) (W:Wd) (hp:List O) (names:List (Str×NameKind)) (acc:List (Str×Addr)) (as:List Addr):Prop where
 len:as.length=(ownOf names).length
 H:dO C (hp++List.replicate (ownOf names).length (.cell none)) ⟨W.G,W.σ++as,{ W.s with heap:=aE W.s.heap names }⟩
 own:(ownOf names).Nodup->∀(k:Nat) (x:Str),(ownOf names)[k]?=some x->∃a,as[k]?=some a/\(a9 W.s.heap.objs.size names acc).lookup x=some a
 rest:∀x,x∉ownOf names->(a9 W.s.heap.objs.size names acc).lookup x=acc.lookup x
 hk:∀b o,W.s.heap.get? b=some o->(aE W.s.heap names).get? b=some o
 new:∀a∈as,W.s.heap.get? a=none
theorem u9:∀(names:List (Str×NameKind)) (acc:List (Str×Addr)) (W:Wd) (hp:List O),dO C hp W->∃as,TO C W hp names acc as
 | [],acc,W,hp,H=>⟨[],rfl,by simpa[ownOf,aE] using H,λ_ k x h=>(nomatch (by simpa[ownOf] using h:False)),λ_ _=>rfl,λ_ _ e=>e,λ_ h=>nomatch h⟩
 | (n,k)::names,acc,W,hp,H=>by
  by_cases hk:(k==NameKind.cell)=true
  ·have H0:dO C hp ⟨W.G,W.σ,{ W.s with heap:=W.s.heap.push { cls:=.type "cell",data:=.cell none } }⟩:=H.push _ (Nat.le_refl _)
   have H1:dO C (hp++[.cell none]) ⟨W.G,W.σ++[W.s.heap.objs.size],{ W.s with heap:=W.s.heap.push { cls:=.type "cell",data:=.cell none } }⟩:=
    dS.nB H0 (Heap.get?_push_size _ rfl) H.fX H.jo H.iI H.freshT .Tq
   obtain ⟨as,L⟩:=u9 names ((n,W.s.heap.objs.size)::acc) _ _ H1
   have e1:ownOf ((n,k)::names)=n::ownOf names:=by rw[rA,if_pos hk]
   have e2:aE W.s.heap ((n,k)::names)=aE (W.s.heap.push { cls:=.type "cell",data:=.cell none }) names:=by rw[aE,if_pos hk]
   have e3:a9 W.s.heap.objs.size ((n,k)::names) acc=a9 (W.s.heap.objs.size+1) names ((n,W.s.heap.objs.size)::acc):=by rw[a9,if_pos hk]
   have e4:(W.s.heap.push { cls:=.type "cell",data:=.cell none }).objs.size=W.s.heap.objs.size+1:=Heap.size_push ..
   have own:=L.own
   have rest:=L.rest
   dsimp only at own rest
   rw[e4] at own rest
   refine ⟨W.s.heap.objs.size::as,by rw[e1];simp[L.len],?_,?_,?_,?_,?_⟩
   ·have h:=L.H
    rw[e1,e2]
    simpa[List.replicate_succ,List.append_assoc] using h
   ·rw[e1,e3]
    intro hn j x hx
    obtain ⟨Zg,Zf⟩:=List.nodup_cons.mp hn
    cases j with
    | zero=>
     cases (Option.some.inj hx:n=x)
     exact ⟨_,rfl,by rw[rest _ Zg,List.lookup_cons,beq_self_eq_true]⟩
    | succ j=>
     obtain ⟨a,h1,h2⟩:=own Zf j x (by simpa using hx)
     exact ⟨a,by simpa using h1,h2⟩
   ·rw[e1,e3]
    intro x hx
    rw[List.mem_cons,not_or] at hx
    rw[rest x hx.2,List.lookup_cons]
    have:(x==n)=false:=beq_eq_false_iff_ne.mpr hx.1
    rw[this]
   ·rw[e2]
    exact λb o e=>L.hk b o (Heap.get?_push_of_some _ e)
   ·intro a ha
    rcases List.mem_cons.mp ha with rfl | ha
    ·cases q:W.s.heap.get? W.s.heap.objs.size with
     | none=>rfl
     | some o=>exact absurd (Heap.lt_size q) (Nat.lt_irrefl _)
    ·cases q:W.s.heap.get? a with
     | none=>rfl
     | some o=>
      have:=L.new a ha
      have q':=Heap.get?_push_of_some { cls:=.type "cell",data:=.cell none } q
      rw[q'] at this;exact Vm.sN this
  ·obtain ⟨as,L⟩:=u9 names acc W hp H
   have e1:ownOf ((n,k)::names)=ownOf names:=by rw[rA,if_neg hk]
   have e2:aE W.s.heap ((n,k)::names)=aE W.s.heap names:=by rw[aE,if_neg hk]
   have e3:a9 W.s.heap.objs.size ((n,k)::names) acc=a9 W.s.heap.objs.size names acc:=by rw[a9,if_neg hk]
   exact ⟨as,by rw[e1];exact L.len,by rw[e1,e2];exact L.H,by rw[e1,e3];exact L.own,by rw[e1,e3];exact L.rest,by rw[e2];exact L.hk,L.new⟩
end
section
variable {d:Nat}{κ:K}{cs:List Nat}{st st' dy dC:St}{W:Wd}{hp:List O}
theorem lb {out:Scope}:∀{names:List (Str×NameKind)},(names.map λ(n,k)=>if (k==.free&&out.kind==.function&&out.names.lookup n==some .cell) then (n,NameKind.cell) else (n,k)).lookup x=some k->
  ∃f,names.lookup x=some f/\(x,f)∈names/\(k=f\/(f=.free/\k=.cell))
 | [],h=>nomatch h
 | (n,k1)::names,h=>by
  rw[List.map_cons] at h
  dsimp only at h
  by_cases q:(x==n)=true
  ·have e:=eq_of_beq q
   subst e
   refine ⟨k1,by rw[List.lookup_cons,beq_self_eq_true],.head _,?_⟩
   split at h
   ·rename_i i
    rw[List.lookup_cons,beq_self_eq_true] at h
    (refine Vm.sI h ?_;clear h;rintro rfl)
    rw[Bool.and_eq_true,Bool.and_eq_true] at i
    exact .inr ⟨eq_of_beq i.1.1,rfl⟩
   ·rw[List.lookup_cons,beq_self_eq_true] at h
    (refine Vm.sI h ?_;clear h;rintro rfl)
    exact .inl rfl
  ·have g:(x==n)=false:=by simpa using q
   have j:(names.map λ(n,k)=>if (k==.free&&out.kind==.function&&out.names.lookup n==some .cell) then (n,NameKind.cell) else (n,k)).lookup x=some k:=by
    split at h<;>(rw[List.lookup_cons,g] at h;exact h)
   obtain ⟨f,a,b,c⟩:=lb j
   exact ⟨f,by rw[List.lookup_cons,g];exact a,.tail _ b,c⟩
theorem Ax (a:g9 κ cs W.σ env):ck sc env=Ay sc κ.scope:=by
 unfold ck Ay Env.kindOf
 rw[a.scope]
structure j8 (κ:K) (sc:Scope):Prop where
 fn:sc.kind=.function
 free:∀x,(x,.free)∈sc.names->κ.scope.names.lookup x=some .cell\/κ.scope.names.lookup x=some .free
 has:∀x,(x,.free)∈sc.names->x∈κ.cells
 own:∀x∈d7 sc,x∉κ.cells
 nd:(sc.names.map (·.1)).Nodup
theorem Bl {cl:List (Str×Addr)}{as:List Addr} (ho:g9 κ cs W.σ env) (hn:W.σ.length=hp.length) (hc:j8 κ sc) (h1:∀x a,cl.lookup x=some a->env.cells.lookup x=some a) (h2:∀x,(x,.free)∈sc.names->∃a,cl.lookup x=some a){cells:List (Str×Addr)} (own:∀(k:Nat) (x:Str),(ownOf sc.names)[k]?=some x->∃a,as[k]?=some a/\cells.lookup x=some a) (rest:∀x,x∉ownOf sc.names->cells.lookup x=cl.lookup x) :
  g9 (κ.comp sc) ((List.range (d7 sc).length).map (hp.length+·)++cs) (W.σ++as) { (newEnv sc L env.globals cells env.qual none .none (some env) aC) with scope:=ck sc env } where
 scope:=Ax ho
 fn:=hc.fn
 nd:=by
  show ((sc.names.filter λx=>x.2==.local&&x.1 != (".0":Str)).map (·.1)).Nodup
  exact (List.Sublist.map _ List.filter_sublist).nodup hc.nd
 globals:=ho.globals
 builtins:=ho.builtins
 qual:=ho.qual
 code:=ho.code
 cell k x hk hl:=by
  have hk:(d7 sc++κ.cells)[k]?=some x:=hk
  show ∃i a,_/\_/\cells.lookup x=some a
  by_cases q:k < (d7 sc).length
  ·rw[List.getElem?_append_left q] at hk
   obtain ⟨a,e1,e2⟩:=own k x hk
   refine ⟨hp.length+k,a,?_,?_,e2⟩
   ·rw[List.getElem?_append_left (by simpa using q)]
    simp[q]
   ·rw[List.getElem?_append_right (by lia),hn,Nat.add_sub_cancel_left];exact e1
  ·rw[List.getElem?_append_right (by lia)] at hk
   have hx:x∈κ.cells:=List.mem_of_getElem? hk
   have Dr:x∉ownOf sc.names:=λz=>hc.own x z hx
   obtain ⟨k0,f1,f2,f3⟩:∃k0,sc.names.lookup x=some k0/\(x,k0)∈sc.names/\k0=.free:=by
    rcases hl with hl | hl
    ·obtain ⟨k0,a,b,c⟩:=lb (out:=κ.scope) hl
     rcases c with c | ⟨c,_⟩
     ·subst c
      exact absurd (List.mem_map.mpr ⟨(x,.cell),List.mem_filter.mpr ⟨b,rfl⟩,rfl⟩) Dr
     ·exact ⟨k0,a,b,c⟩
    ·obtain ⟨k0,a,b,c⟩:=lb (out:=κ.scope) hl
     rcases c with c | ⟨c,z⟩
     ·exact ⟨k0,a,b,c.symm⟩
     ·cases z
   subst f3
   obtain ⟨a,e⟩:=h2 x f2
   have e':=h1 x a e
   obtain ⟨i,a',g1,g2,g3⟩:=ho.cell (k - (d7 sc).length) x hk (hc.free x f2)
   rw[e'] at g3;(refine Vm.sI g3 ?_;clear g3;rintro rfl)
   refine ⟨i,a,?_,?_,by rw[rest x Dr];exact e⟩
   ·rw[List.getElem?_append_right (by simpa using q)]
    simpa using g1
   ·rw[List.getElem?_append_left (List.getElem?_eq_some_iff.mp g2).1];exact g2
end
section
variable {d:Nat}{κ:K}{cs:List Nat}{st st' dy dC:St}{W:Wd}{hp:List O}
theorem ea.uY (σ a):ea σ (σ++a):=λi x e=>by
 rw[List.getElem?_append_left (List.getElem?_eq_some_iff.mp e).1];exact e
theorem Bq (ha:At C κ cs env st W) (hc:j8 κ sc){cl:List (Str×Addr)} (h1:∀x a,cl.lookup x=some a->env.cells.lookup x=some a) (h2:∀x,(x,.free)∈sc.names->∃a,cl.lookup x=some a){Q:Env->Shared->Prop}{E:Value->Shared->Prop} (hQ:∀kb W',W.le W'->(∀b o,W.s.heap.get? b=some o->W'.s.heap.get? b=some o)->W'.G=W.G->kb.locals=W.s.heap.objs.size->(∀a,a∈W'.σ->a∈W.σ\/W.s.heap.get? a=none)->
   At C κ cs env ⟨st.loc,st.hp++List.replicate (d7 sc).length (.cell none)⟩ W'->
   At C (κ.comp sc) ((List.range (d7 sc).length).map (st.hp.length+·)++cs) { kb with scope:=ck sc env } ⟨List.replicate (κ.comp sc).slots.length none,st.hp++List.replicate (d7 sc).length (.cell none)⟩ W'->Q kb W'.s) :
  wpAny (model C.prog C.w) A (bl sc env.globals cl [] env.qual none .none (some env)) Q E W.s:=by
 simp only[bl,Option.isSome_some,if_true]
 refine wpAny_bind (bK ?_)
 refine wpAny_bind (wpAny_layCells _ (λname kind cells=>by cases NM:kind==NameKind.cell<;>simp[NM]) _ _ _ _ ?_)
 have p:=gb (W:=W) { cls:=.type "dict",data:=.dict #[] }
 have a1:=ha.el p
 have off:=gY (W:=W) (o:={ cls:=.type "dict",data:=.dict #[] }) ha.H rfl
 obtain ⟨as,L⟩:=u9 sc.names cl _ _ a1.H
 have e4:(W.s.heap.push { cls:=.type "dict",data:=.dict #[] }).objs.size=W.s.heap.objs.size+1:=Heap.size_push ..
 have uh:(ownOf sc.names).Nodup:=(List.Sublist.map _ List.filter_sublist).nodup hc.nd
 have lW:W.le ⟨W.G,W.σ++as,{ W.s with heap:=aE (W.s.heap.push { cls:=.type "dict",data:=.dict #[] }) sc.names }⟩:=⟨Gh.le.refl _,ea.uY _ _⟩
 have hk:∀b o,W.s.heap.get? b=some o->(aE (W.s.heap.push { cls:=.type "dict",data:=.dict #[] }) sc.names).get? b=some o:=λb o e=>L.hk b o (Heap.get?_push_of_some _ e)
 refine wpAny_bind (wpAny_pure (wpAny_pure (hQ _ ⟨W.G,W.σ++as,{ W.s with heap:=aE (W.s.heap.push { cls:=.type "dict",data:=.dict #[] }) sc.names }⟩ lW hk rfl rfl ?_ ?_ ?_)))
 ·intro a h
  rcases List.mem_append.mp h with h | h
  ·exact .inl h
  ·refine .inr ?_
   cases q:W.s.heap.get? a with
   | none=>rfl
   | some o=>
    have:=L.new a h
    have q':=Heap.get?_push_of_some { cls:=.type "dict",data:=.dict #[] } q
    rw[q'] at this;exact Vm.sN this
 ·refine ⟨ha.ok.mono (ea.uY _ _),L.H,⟨?_,ha.L.I,ha.L.F,?_,ha.L.T⟩⟩
  ·obtain ⟨m,x,y⟩:=ha.L.ns
   exact ⟨m,x.keeps hk,λi x v e f=>by obtain ⟨c,p,q⟩:=y i x v e f;exact ⟨c,p,dz.mono q lW⟩⟩
  ·intro h
   rcases List.mem_append.mp h with h | h
   ·exact ha.L.σ h
   ·have:=L.new _ h
    obtain ⟨m,⟨o,es,ep,e,_⟩,_⟩:=ha.L.ns
    have q':=Heap.get?_push_of_some { cls:=.type "dict",data:=.dict #[] } e
    rw[q'] at this;exact Vm.sN this
 ·have own:=L.own uh
  have rest:=L.rest
  refine ⟨Bl (W:=W) ha.ok ha.H.len hc h1 h2 own rest,L.H,⟨⟨λ_=>none,(Heap.Ns.new W.s.heap (.type "dict")).keeps (pushCells_keeps _ _),λi x v e f=>?_⟩,ha.H.fX,ha.H.jo,?_,ha.H.freshT⟩⟩
  ·have f:(List.replicate (κ.comp sc).slots.length (none:Option V))[i]?=some (some v):=f
   rw[List.getElem?_replicate] at f
   split at f<;>cases f
  ·intro h
   have h:W.s.heap.objs.size∈W.σ++as:=h
   rcases List.mem_append.mp h with h | h
   ·exact ha.H.iI h
   ·have:=L.new _ h
    rw[show W.s.heap.objs.size=W.s.heap.objs.size from rfl] at this
    have q':(W.s.heap.push { cls:=.type "dict",data:=.dict #[] }).get? W.s.heap.objs.size=some { cls:=.type "dict",data:=.dict #[] }:=Heap.get?_push_size _ rfl
    rw[q'] at this;exact Vm.sN this
end
end Vm
end
noncomputable section
open PySem PySem.W PyProof.Rows PySem.Calls PySem.Spec PySem.SeqAt
namespace PySem
noncomputable def ja (elt:Expr) (gens:List Comprehension) (scope:Scope) (pos:Pos) (a:Nat) (c acc:Value) (env:Env):Sem Fin:=
 match gens[a+1]? with
 | some b=>do
  let x←eval b.iter env
  standAt b.iter.pos
  if (b.is_async != 0)=true then do
   let x←foldedIterable b.iter x
   let iB←aP [x] (if (b.is_async != 0)=true then asyncIter x else pyIter x)
   let _←runOwn (bZ (elt.ListComp gens scope pos) (a+1) iB acc env) env
   du (bj (elt.ListComp gens scope pos) a c acc env)
  else do
   let x←dq b.iter env x
   let iB←aP [x] (if (b.is_async != 0)=true then asyncIter x else pyIter x)
   let _←runOwn (bZ (elt.ListComp gens scope pos) (a+1) iB acc env) env
   du (bj (elt.ListComp gens scope pos) a c acc env)
 | none=>((eval elt env>>=λx=>call (Value.builtin "list.append") [acc,x]>>=λ_=>pure ()):Sem Unit)>>=λ_=>
  du (bj (elt.ListComp gens scope pos) a c acc env)
theorem yw {iter:Expr}{gens:List Comprehension} (a:gens[depth]?=some ⟨target,iter,ifs,0⟩) :
  compTurn (.ListComp elt gens scope pos) depth it acc env=(standAt iter.pos>>=λ_=>pyNext it>>=λr=>match r with
   | none=>pure (.done .next)
   | some v=>do
    b_ target it v
    assign target env v
    let ok←forIn ifs true λc r=>if r=true then do let ok←bG c env (eval c env);pure (ForInStep.yield ok) else pure (ForInStep.yield r)
    if ok=true then ja elt gens scope pos depth it acc env
    else du (.compLoop (.ListComp elt gens scope pos) depth it acc env)):=by
 unfold compTurn ja
 dsimp only
 rw[a]
 dsimp only
 rw[if_neg (by decide),if_neg (by decide)]
 refine congrArg (standAt iter.pos>>=·) (funext λ_=>congrArg (pyNext it>>=·) (funext λr=>?_))
 cases r with
 | none=>rfl
 | some v=>cases gens[depth+1]?<;>rfl
section
variable {prog:Program}{w:World}{A:Around}{R:Result->Shared->Prop}{s:Shared}
theorem yx {iter:Expr}{gens:List Comprehension} (B:gens[a]?=some ⟨b,iter,ifs,0⟩) (I:Nat->Shared->Prop) (u:∀n s,I n s->wpAny (model prog w) A (pyNext q) (λr g=>match r with
   | none=>R (.ok .next) g
   | some v=>wpAny (model prog w) A (assign b env v) (λ_ j=>
     wpAny (model prog w) A (forIn ifs true λc r=>if r=true then do let z←bG c env (eval c env);pure (ForInStep.yield z) else pure (ForInStep.yield r)) (λz f=>
      if z=true then wpAny (model prog w) A (ja elt gens scope pos a q acc env) (λy i=>y=.again (.compLoop (.ListComp elt gens scope pos) a q acc env)/\∃m,m < n/\I m i) (cM (model prog w) A env λe p=>R (.error e) p) f
      else ∃m,m < n/\I m f) (cM (model prog w) A env λe p=>R (.error e) p) j) (cM (model prog w) A env λe p=>R (.error e) p) g) (cM (model prog w) A env λe p=>R (.error e) p) s) (n) (h:I n s) (E:∀v,b_ b q v=pure ()) :
  bw (model prog w) A (.compLoop (.ListComp elt gens scope pos) a q acc env) R s:=by
 refine codeAny_loop rfl I (λn s D=>?_) n h
 show wpAny _ A ((compTurn (.ListComp elt gens scope pos) a q acc env).onRaise (λx=>do noteFrame x env;theTreesLotGoes x)) _ _ s
 refine wpAny_noted ?_
 rw[yw B]
 refine wpAny_bind (wpAny_standAt (wpAny_bind (wpAny_mono (u n s D) (λr g l=>?_) λ_ _ o=>o)))
 cases r with
 | none=>exact wpAny_pure l
 | some v=>
  refine wpAny_bind (aY (E v) ?_)
  refine wpAny_bind (wpAny_mono l (λ_ j t=>wpAny_bind (wpAny_mono t (λz f k=>?_) λ_ _ o=>o)) λ_ _ o=>o)
  cases z with
  | false=>exact wpAny_pure ⟨rfl,k⟩
  | true=>exact wpAny_mono k (λy i d=>by obtain ⟨rfl,d⟩:=d;exact ⟨rfl,d⟩) λ_ _ o=>o
end
end PySem
end
noncomputable section
open PySem PySem.W PyProof.Rows PySem.Calls PySem.Spec PySem.SeqAt
namespace Vm
section
variable {d:Nat}{κ:K}{cs:List Nat}{st st' dy dC:St}{W:Wd}{hp:List O}
theorem LoopAt.gp {F:Gm}{b:Nat->Heap->Prop} (h:LoopAt C I l gd W b):LoopAt C I l gd (W.gp F) b:=by
 obtain ⟨P,j,f,m,e,n,g⟩:=h
 exact ⟨P,j,f,m,e,n,λi c o hp a k=>g i c o hp ⟨a.I,a.T,a.σ⟩ k⟩
theorem E0 {env:Env} (n:Off C W a ob) (y:a≠env.locals) (v:dY d A) (D:f_ C d κ cs e st l gd st') (g:At C κ cs env st W) (Q:Value->Shared->Prop) (E:Value->Shared->Prop) (B:∀c I o p,W.le c->At C κ cs env st' c->Off C c I o->I≠env.locals->I≠a->LoopAt C I l gd c p->p 0 c.s.heap->Off C c a ob->Q (.ref I) c.s) :
  wpAny (model C.prog C.w) A (eval e env) (λx m=>wpAny (model C.prog C.w) A (pyIter x) Q E m) E W.s:=by
 refine D A env (W.hold a ob) v (g.hold n y) Q E λc I o p l g f r k G=>?_
 have u:c.G.F=W.G.F.put a ob:=l.G.F
 have h:∀b x,W.G.F b=some x->c.G.F b=some x:=λb x e=>by
  rw[u]
  by_cases q:b=a
  ·subst q;rw[n.F] at e;exact Vm.nS e
  ·rw[Gm.eV q];exact e
 have j:c.G.F a=some ob:=by rw[u,Gm.ew]
 have s:I≠a:=by
  rintro rfl
  have:=f.F
  rw[j] at this;exact Vm.sN this
 have t:At C κ cs env st' (c.gp W.G.F):=⟨g.ok,g.H.u7 h,⟨g.L.ns,g.L.I,(by
   show W.G.F env.locals=none
   cases q:W.G.F env.locals with
   | none=>rfl
   | some x=>have:=h _ _ q;rw[g.L.F] at this;exact Vm.nS this),g.L.σ,g.L.T⟩⟩
 refine B (c.gp W.G.F) I o p ⟨⟨l.G.I,rfl,l.G.T⟩,l.σ⟩ t ⟨f.at_,f.I,?_,f.σ,f.T⟩ r s k.gp G ⟨g.H.F _ _ j,?_,n.F,?_,n.T⟩
 ·show W.G.F I=none
  cases q:W.G.F I with
  | none=>rfl
  | some x=>have:=h _ _ q;rw[f.F] at this;exact Vm.nS this
 ·cases q:c.G.I a with
  | none=>exact q
  | some x=>have:=g.H.IF a (by rw[q];exact λz=>by exact Vm.sN z);rw[j] at this;exact Vm.sN this
 ·intro z
  obtain ⟨i,w,e⟩:=List.getElem_of_mem z
  obtain ⟨_,q,_⟩:=g.H.fe i a (by rw[<- e];exact List.getElem?_eq_getElem w)
  rw[j] at q;exact Vm.sN q
theorem q8 (h:Off C W a ob) (l:(W.hold a ob).le W') (c:At C κ cs env st W'):W.le (W'.gp W.G.F)/\At C κ cs env st (W'.gp W.G.F)/\Off C (W'.gp W.G.F) a ob:=by
 have j:W'.G.F=W.G.F.put a ob:=l.G.F
 have f:∀b x,W.G.F b=some x->W'.G.F b=some x:=λb x e=>by
  rw[j]
  by_cases q:b=a
  ·subst q;rw[h.F] at e;exact Vm.nS e
  ·rw[Gm.eV q];exact e
 have g:W'.G.F a=some ob:=by rw[j,Gm.ew]
 refine ⟨⟨⟨l.G.I,rfl,l.G.T⟩,l.σ⟩,⟨c.ok,c.H.u7 f,⟨c.L.ns,c.L.I,(by
   show W.G.F env.locals=none
   cases q:W.G.F env.locals with
   | none=>rfl
   | some x=>have:=f _ _ q;rw[c.L.F] at this;exact Vm.nS this),c.L.σ,c.L.T⟩⟩,⟨c.H.F _ _ g,?_,h.F,?_,h.T⟩⟩
 ·cases q:W'.G.I a with
  | none=>exact q
  | some x=>have:=c.H.IF a (by rw[q];exact λz=>by exact Vm.sN z);rw[g] at this;exact Vm.sN this
 ·intro z
  obtain ⟨i,k,e⟩:=List.getElem_of_mem z
  obtain ⟨_,q,_⟩:=c.H.fe i a (by rw[<- e];exact List.getElem?_eq_getElem k)
  rw[g] at q;exact Vm.sN q
theorem ny (f:Off C W a ob) (l:(W.hold a ob).le W') (h:Off C W' b MA):b≠a/\Off C (W'.gp W.G.F) b MA:=by
 have e:W'.G.F=W.G.F.put a ob:=l.G.F
 have c:b≠a:=by
  rintro rfl
  have:=h.F
  rw[e,Gm.ew] at this;exact Vm.sN this
 refine ⟨c,h.at_,h.I,?_,h.σ,h.T⟩
 have:=h.F
 rw[e,Gm.eV c] at this
 exact this
theorem ll (h:Off C W b MA) (c:b≠a):Off C (W.hold a ob) b MA:=⟨h.at_,h.I,by
 show (W.G.F.put a ob) b=none
 rw[Gm.eV c];exact h.F,h.σ,h.T⟩
end
section
variable {d:Nat}{κ:K}{cs:List Nat}{st st' dy dC:St}{W:Wd}{hp:List O}
inductive mG (C:Ctx) (d:Nat) (κ:K) (cs:List Nat):List Expr->St->Bool->St->Prop
 | nil {st:St}:mG C d κ cs [] st true st
 | go {c:Expr}{l:List Expr}{st st1 st2:St}{b:Bool}:TT C d κ cs c st true st1->mG C d κ cs l st1 b st2->mG C d κ cs (c::l) st b st2
 | stop {c:Expr}{l:List Expr}{st st1:St}:TT C d κ cs c st false st1->mG C d κ cs (c::l) st false st1
theorem tD {Q:Bool->Shared->Prop}{E:Value->Shared->Prop}:∀(l:List Expr),Q false s->
  wpAny (model C.prog C.w) A (forIn l false λc r=>if r=true then do let ok←bG c env (eval c env);pure (ForInStep.yield ok) else pure (ForInStep.yield r)) Q E s
 | [],h=>wpAny_pure h
 | c::l,h=>by
  rw[List.forIn_cons]
  exact wpAny_bind (wpAny_pure (tD l h))
theorem mG.run (o:dY d A) (h:mG C d κ cs l st b st'):∀{W:Wd},At C κ cs env st W->
  Tr C κ cs env A (forIn l true λc r=>if r=true then do let ok←bG c env (eval c env);pure (ForInStep.yield ok) else pure (ForInStep.yield r)) st' (λ_ c=>c=b) W:=by
 induction h with
 | nil=>exact λ{W} i Q E h=>wpAny_pure (h W _ (Wd.le.refl _) i rfl)
 | go n q p=>
  intro W i Q E h
  rw[List.forIn_cons]
  exact wpAny_bind (wpAny_bind (n A env W o i _ _ λf c a e j=>wpAny_pure (j.symm▸p e _ _ λg c m k j=>h g c (a.trans m) k j)))
 | stop n=>
  intro W i Q E h
  rw[List.forIn_cons]
  exact wpAny_bind (wpAny_bind (n A env W o i _ _ λf c a e j=>wpAny_pure (j.symm▸tD _ (h f _ a e rfl))))
def qp (C:Ctx) (d:Nat) (κ:K) (cs:List Nat) (a:St->List V->St->Prop) (c:Comprehension×Tg) (gd:Gd):List V->St->List V->St->Prop
 | [],st,e,st'=>gA st.hp gd=true/\e=[]/\st'=st
 | x::l,st,e,st'=>gA st.hp gd=true/\∃f,d9 cs 5 c.2 x st=some f/\((∃b,mG C d κ cs c.1.ifs f false b/\qp C d κ cs a c gd l b e st')\/
   ∃b g h i,mG C d κ cs c.1.ifs f true b/\a b h g/\qp C d κ cs a c gd l g i st'/\e=h++i)
def Eo (C:Ctx) (d:Nat) (κ:K) (cs:List Nat) (elt:Expr):List (Comprehension×Tg)->St->List V->St->Prop
 | [],st,a,st'=>∃v,a=[v]/\TE C d κ cs elt st v st'
 | c::r,st,a,st'=>(∀f k p,c.1.iter≠.Set f k p)/\∃l e b,f_ C d κ cs c.1.iter st l e b/\qp C d κ cs (Eo C d κ cs elt r) c e l b a st'
abbrev oA (C:Ctx) (d:Nat) (κ:K) (cs:List Nat) (elt:Expr) (c:Comprehension×Tg) (r:List (Comprehension×Tg)) (gd:Gd) (l:List V) (st:St) (out:List V) (st':St):Prop:=qp C d κ cs (Eo C d κ cs elt r) c gd l st out st'
theorem qp.gd {a:St->List V->St->Prop}{c:Comprehension×Tg}{gd:Gd}{out:List V}:∀{l:List V},qp C d κ cs a c gd l st out st'->gA st.hp gd=true
 | [],h=>h.1
 | _::_,h=>h.1
theorem qp.fC {a:St->List V->St->Prop}{c:Comprehension×Tg}{gd:Gd}{x:V}{l out:List V}{G:Prop}(h:qp C d κ cs a c gd (x::l) st out st')
  (n:∀e b,d9 cs 5 c.2 x st=some e->mG C d κ cs c.1.ifs e false b->qp C d κ cs a c gd l b out st'->G)
  (m:∀e b g j k,out=j++k->d9 cs 5 c.2 x st=some e->mG C d κ cs c.1.ifs e true b->a b j g->qp C d κ cs a c gd l g k st'->G):G:=
 h.2.elim λe h=>h.2.elim (λf=>f.elim λb i=>n e b h.1 i.1 i.2) λf=>f.elim λb f=>f.elim λg f=>f.elim λj f=>f.elim λk i=>m e b g j k i.2.2.2 h.1 i.1 i.2.1 i.2.2.1
end
section
variable {d:Nat}{κ:K}{cs:List Nat}{st st' dy dC:St}{W:Wd}{hp:List O}
theorem lz {α:Type}{A:Around}{env:Env}{t:Sem α}{R:Tm->Gm->List Addr->α->Prop}{a b:Addr}{o f:Obj}(g:Off C W b o) (v:Off C W a f) (e:a≠b)
  (h:Tr C κ cs env A t st' (λc x=>R c.G.T c.G.I c.σ x) ((W.hold b o).hold a f)) (Q:α->Shared->Prop) (E:Value->Shared->Prop)
  (m:∀c x,W.le c->At C κ cs env st' c->R c.G.T c.G.I c.σ x->Off C c b o->Off C c a f->Q x c.s):wpAny (model C.prog C.w) A t Q E W.s:=by
 refine h Q E λc x l q r=>?_
 obtain ⟨i,k,n⟩:=q8 (W:=W.hold b o) (ll v e) l q
 obtain ⟨u,j,s⟩:=q8 g i k
 obtain ⟨_,p⟩:=ny g i n
 exact m ((c.gp (W.hold b o).G.F).gp W.G.F) x u j r s p
theorem At.lz (h:At C κ cs env st W) (i:Off C W b o) (g:Off C W a ob) (c:a≠b) (f:b≠env.locals) (e:a≠env.locals):At C κ cs env st ((W.hold b o).hold a ob):=
 (h.hold i f).hold (ll g c) e
def tj (C:Ctx) (d:Nat) (κ:K) (cs:List Nat) (elt:Expr) (gens:List Comprehension) (scope:Scope) (pos:Pos) (k:Nat) (r:List (Comprehension×Tg)):Prop:=
 ∀(st st':St) (e:List V),Eo C d κ cs elt r st e st'->∀(A:Around) (c:Env) (W:Wd) (a:Addr) (i:Obj) (b:List V) (j:Value),dY d A->At C κ cs c st W->Off C W a i->a≠c.locals->eb C.w.params W.G.T W.G.I W.σ i (.list b)->
  b.length+e.length<=65536->∀(Q:Shared->Prop) (E:Value->Shared->Prop),(∀f g,W.le f->At C κ cs c st' f->Off C f a g->eb C.w.params f.G.T f.G.I f.σ g (.list (b++e))->Q f.s)->
  wpAny (model C.prog C.w) A (PySem.ja elt gens scope pos k j (.ref a) c) (λh l=>h=.again (.compLoop (.ListComp elt gens scope pos) k j (.ref a) c)/\Q l) E W.s
def O_ (C:Ctx) (d:Nat) (κ:K) (cs:List Nat) (elt:Expr) (gens:List Comprehension) (scope:Scope) (pos:Pos) (k:Nat) (c:Comprehension×Tg) (r:List (Comprehension×Tg)):Prop:=
 ∀(l:List V) (i:Gd) (st st':St) (g:List V),oA C d κ cs elt c r i l st g st'->∀(A:Around) (b:Env) (W:Wd) (a I:Addr) (m o:Obj) (e:List V) (j:Nat->Heap->Prop),dY d A->At C κ cs b st W->Off C W a m->a≠b.locals->
  eb C.w.params W.G.T W.G.I W.σ m (.list e)->e.length+g.length<=65536->Off C W I o->I≠b.locals->I≠a->LoopAt C I l i W j->j 0 W.s.heap->∀(R:Result->Shared->Prop),
  (∀f h,W.le f->At C κ cs b st' f->Off C f a h->eb C.w.params f.G.T f.G.I f.σ h (.list (e++g))->R (.ok .next) f.s)->
  bw (model C.prog C.w) A (.compLoop (.ListComp elt gens scope pos) k (.ref I) (.ref a) b) R W.s
end
section
variable {d:Nat}{κ:K}{cs:List Nat}{st st' dy dC:St}{W:Wd}{hp:List O}
section
variable {elt iter:Expr}{ifs:List Expr}{gens:List Comprehension}{scope:Scope}{pos:Pos}{k:Nat}{tg:Tg}{r:List (Comprehension×Tg)}{x:Str}{px:Pos}{A:Around}{env:Env}{I a:Addr}{o1 tU:Obj}{l jE out1 iT out:List V}{gd:Gd}{W1:Wd}
def q6 (C:Ctx) (d:Nat) (κ:K) (cs:List Nat) (elt:Expr) (c:Comprehension×Tg) (r:List (Comprehension×Tg)) (env:Env) (l:List V) (gd:Gd) (I a:Addr) (h:Nat->Heap->Prop) (W:Wd) (g out:List V) (st':St) (n:Nat) (s:Shared):Prop:=
 ∃(i:Nat) (f:St) (b:Wd) (j e:Obj) (out1 iT:List V),n=l.length+1 - i/\i<=l.length/\s=b.s/\W.le b/\At C κ cs env f b/\Off C b I j/\Off C b a e/\
  eb C.w.params b.G.T b.G.I b.σ e (.list (g++out1))/\out1++iT=out/\h i b.s.heap/\oA C d κ cs elt c r gd (l.drop i) f iT st'
@[elab_as_elim] theorem q6.elim {j:Nat->Heap->Prop}{G:Nat->Shared->Prop} (h:q6 C d κ cs elt c r env l gd I a j W jE out st' n s) (k:∀i f b g e out1 iT,i<=l.length->W.le b->At C κ cs env f b->Off C b I g->Off C b a e->eb C.w.params b.G.T b.G.I b.σ e (.list (jE++out1))->out1++iT=out->j i b.s.heap->oA C d κ cs elt c r gd (l.drop i) f iT st'->G (l.length+1 - i) b.s):G n s:=by
 obtain ⟨i,f,b,g,e,out1,iT,rfl,u,rfl,o,w,m,y,q,v,p,t⟩:=h
 exact k i f b g e out1 iT u o w m y q v p t
theorem q6.intro {b:Nat->Heap->Prop} (i) (m:i<=l.length) (g:W.le W0) (o:At C κ cs env fV W0) (e:Off C W0 I o0) (p:Off C W0 a Us) (h:eb C.w.params W0.G.T W0.G.I W0.σ Us (.list (jE++out1))) (n:out1++iT=out) (f:b i W0.s.heap) (j:oA C d κ cs elt c r gd (l.drop i) fV iT st'):q6 C d κ cs elt c r env l gd I a b W jE out st' (l.length+1 - i) W0.s:=
 ⟨i,fV,W0,o0,Us,out1,iT,rfl,m,rfl,g,o,e,p,h,n,f,j⟩
theorem rf (s:dY d A) (f:I≠a) (h:I≠env.locals) (i:a≠env.locals) (g:mG C d κ cs ifs st1 b st2) (t:At C κ cs env st1 W2) (p:Off C W2 I o1) (q:Off C W2 a tU){n:Bool->Shared->Prop}{o:Value->Shared->Prop} (y:∀e,W2.le e->At C κ cs env st2 e->Off C e I o1->Off C e a tU->n b e.s) :
  wpAny (model C.prog C.w) A (forIn ifs true λc r=>if r=true then do let ok←bG c env (eval c env);pure (ForInStep.yield ok) else pure (ForInStep.yield r)) n o W2.s:=
 lz (κ:=κ) (cs:=cs) (env:=env) (st':=st2) (R:=λ_ _ _ (c:Bool)=>c=b) p q (aN f) (mG.run s g (t.lz p q (aN f) h i)) n o λe c j m v w u=>v.symm▸y e j m w u
theorem tJ (B:gj κ (.Name x px) tg) (e:I≠a) (f:I≠env.locals) (g:a≠env.locals) (c:d9 cs 5 tg xv fV=some st1) (w:At C κ cs env fV W1) (p:Off C W1 I o1) (q:Off C W1 a tU) (z:dz C W1 xv v){m:Unit->Shared->Prop}{o:Value->Shared->Prop} (y:∀b,W1.le b->At C κ cs env st1 b->Off C b I o1->Off C b a tU->m () b.s):wpAny (model C.prog C.w) A (assign (.Name x px) env v) m o W1.s:=
 lz (κ:=κ) (cs:=cs) (env:=env) (st':=st1) (R:=λ_ _ _ (_:Unit)=>True) p q (aN e) (λu D h=>iH (kH (n:=4) B c (w.lz p q (aN e) f g) z u D h)) m o λb _ i j _ t s=>y b i j t s
theorem DQ {P:Shared->Prop}{E1 E2 E3:Value->Shared->Prop} (ht:gj κ (.Name x px) tg) (T:tj C d κ cs elt gens scope pos k r) (hr:dY d A) (n:I≠a) (j:I≠env.locals) (i:a≠env.locals) (hE:oA C d κ cs elt (⟨.Name x px,iter,ifs,0⟩,tg) r gd (xv::l) fV iT st') (a1:At C κ cs env fV W1) (s:Off C W1 I o1) (o:Off C W1 a tU) (y:eb C.w.params W1.G.T W1.G.I W1.σ tU (.list (jE++out1))) (Q:out1++iT=out) (E:jE.length+out.length<=65536) (rv:dz C W1 xv v) (hk:∀h g G t q,W1.le g->At C κ cs env h g->Off C g I o1->Off C g a G->eb C.w.params g.G.T g.G.I g.σ G (.list (jE++t))->t++q=out->oA C d κ cs elt (⟨.Name x px,iter,ifs,0⟩,tg) r gd l h q st'->P g.s) :
  wpAny (model C.prog C.w) A (assign (.Name x px) env v) (λ_ D=>wpAny (model C.prog C.w) A (forIn ifs true λc r=>if r=true then do let ok←bG c env (eval c env);pure (ForInStep.yield ok) else pure (ForInStep.yield r)) (λok p=>
   if ok=true then wpAny (model C.prog C.w) A (PySem.ja elt gens scope pos k (.ref I) (.ref a) env) (λw m=>w=.again (.compLoop (.ListComp elt gens scope pos) k (.ref I) (.ref a) env)/\P m) E3 p else P p) E2 D) E1 W1.s:=by
 refine hE.fC (λst1 h g2 N U=>?_) λst1 h B H u2 e g2 N U g5=>?_
 ·exact tJ ht n j i g2 a1 s o rv λW2 f a2 Y J=>rf hr n j i N a2 Y J λg b a3 z L=>
   hk h g tU out1 iT (f.trans b) a3 z L (y.mono (f.trans b).G.T (f.trans b).G.I (f.trans b).σ) Q U
 ·have e2:(jE++out1).length+H.length<=65536:=by
   rw[<- Q,e,List.length_append,List.length_append] at E
   rw[List.length_append]
   lia
  exact tJ ht n j i g2 a1 s o rv λW2 f a2 Y J=>rf hr n j i N a2 Y J λg b a3 z L=>
   (if_pos rfl:(if true=true then wpAny (model C.prog C.w) A (PySem.ja elt gens scope pos k (.ref I) (.ref a) env) (λw m=>w=.again (.compLoop (.ListComp elt gens scope pos) k (.ref I) (.ref a) env)/\P m) E3 g.s else P g.s)=_).mpr
    (T h B H U A env (g.hold I o1) a tU (jE++out1) (.ref I) hr (a3.hold z j) (ll L (aN n)) i (y.mono (f.trans b).G.T (f.trans b).G.I (f.trans b).σ) e2 _ _ λW4 M l4 a4 q4 r4=>
     have u:=q8 z l4 a4
     hk B (W4.gp g.G.F) M (out1++H) u2 ((f.trans b).trans u.1) u.2.1 u.2.2 (ny z l4 q4).2 (List.append_assoc jE out1 H▸r4) (by rw[List.append_assoc,<-e];exact Q) g5)
end
theorem zv {gens:List Comprehension} (ht:gj κ (.Name x px) tg) (hg:gens[k]?=some ⟨.Name x px,iter,ifs,0⟩) (N:tj C d κ cs elt gens scope pos k r):O_ C d κ cs elt gens scope pos k (⟨.Name x px,iter,ifs,0⟩,tg) r:=by
 intro l gd st st' out J A env W a I ob o jE Sx hr ha y Q H G B t w hL hS R hR
 refine PySem.yx hg (q6 C d κ cs elt (⟨.Name x px,iter,ifs,0⟩,tg) r env l gd I a Sx W jE out st') (λn s h=>q6.elim h λi M W0 o0 Y out1 iT L lw a0 p f c m E J=>?_) (l.length+1)
  (q6.intro (out1:=[]) 0 (Nat.zero_le _) (Wd.le.refl _) ha B y ((List.append_nil jE).symm▸H) rfl hS J) λ_=>rfl
 by_cases j:i < l.length
 ·exact t_ hL hr.1 j a0 p t lw E λv xv W1 o1 hd rv u b a1 D U Ml=>
   DQ ht N hr w t Q (hd▸J) a1 D (U _ _ (aN w) f) (c.mono b.G.T b.G.I b.σ) m G rv λT W3 ob3 aaR aaQ z a3 p3 q3 r3 h3 g=>
    ⟨l.length+1 - (i+1),Nat.sub_lt_sub_left (Nat.lt_succ_of_lt j) (Nat.lt_succ_self i),.intro (i+1) j (u.trans z) a3 p3 q3 r3 h3 (Ml W3 T.hp z a3.H g.gd p3) g⟩
 ·have e:l.drop i=[]:=List.drop_eq_nil_of_le (Nat.not_lt.mp j)
  have ei:i=l.length:=Nat.le_antisymm L (Nat.not_lt.mp j)
  have q:oA C d κ cs elt (⟨.Name x px,iter,ifs,0⟩,tg) r gd [] M iT st':=e▸J
  have eo:out1=out:=(List.append_nil out1).symm.trans (q.2.1▸m)
  exact ua hL hr.1 a0 p t lw (ei▸E) λW1 u b a1 U=>hR W1 Y u (q.2.2▸a1) (U _ _ (aN w) f) (eo▸c.mono b.G.T b.G.I b.σ)
end
end Vm
end
noncomputable section
open PySem PySem.W PyProof.Rows PySem.Calls PySem.Spec PySem.SeqAt
namespace PySem
theorem oB {R:Result->Shared->Prop}{iter:Expr}{gens:List Comprehension} (g:gens[depth]?=some ⟨target,iter,ifs,0⟩) (f:bw (model prog w) A (.compLoop (.ListComp elt gens scope pos) depth e acc env) R s) (h:wpAny (model prog w) A (pyIter e) (λa b=>bw (model prog w) A (.compLoop (.ListComp elt gens scope pos) depth a acc env) R b)
   (cM (model prog w) A env λx b=>R (.error x) b) s) :
  bw (model prog w) A (.compStart (.ListComp elt gens scope pos) depth e acc env) R s:=by
 refine cf ?_
 show wpAny _ _ ((compStart (.ListComp elt gens scope pos) depth e acc env).onRaise (λx=>do noteFrame x env;standAt theWindowsPlace)) _ _ s
 refine wpAny_notedAt ?_
 have i:(clausesOf (.ListComp elt gens scope pos))[depth]?=some ⟨target,iter,ifs,0⟩:=g
 unfold compStart
 simp only[i,Option.elim]
 show wpAny _ _ (ask>>=_) _ _ s
 refine wpAny_bind (wpAny_askSetting (wpAny_ite ?_))
 split
 ·first
   | exact wpAny_bind (wpAny_pure (wpAny_pure (And.intro rfl f)))
   | exact wpAny_pure (And.intro rfl f)
 ·first
   | exact wpAny_bind (wpAny_rule (wpAny_bind (wpAny_standAt (wpAny_bind (wpAny_mono h (λa b c=>wpAny_pure (And.intro rfl c)) λ_ _ x=>x)))))
   | (refine wpAny_bind (wpAny_rule ?_);show wpAny _ _ (standAt iter.pos>>=_) _ _ s;exact wpAny_bind (wpAny_standAt (wpAny_bind (wpAny_mono h (λa b c=>wpAny_pure (And.intro rfl c)) λ_ _ x=>x))))
end PySem
namespace Vm
variable {d:Nat}{κ:K}{cs:List Nat}{st st' dy dC:St}{W:Wd}{hp:List O}
theorem BH (g:At C κ cs env st W) (e:Off C W a ob) (x:a≠env.locals) (j:eb C.w.params W.G.T W.G.I W.σ ob (.list l)) (B:dz C W v c) (hz:l.length<=65536) (Q:Value->Shared->Prop) (E:Value->Shared->Prop) (w:∀f i,W.le f->At C κ cs env st f->Off C f a i->eb C.w.params f.G.T f.G.I f.σ i (.list (l++[v]))->Q .none f.s) :
  wpAny (model C.prog C.w) A (call (.builtin "list.append") [.ref a,c]) Q E W.s:=by
 obtain ⟨q,n,rfl,r⟩:=j.inv
 have G:=r.length
 have s:=e.at_
 have t:=cb (c:="list") (xs:=q.toArray) s (·.push c)
 have k:=λ(b:Addr) (o:Obj) (z:b≠a) (p:W.s.heap.get? b=some o)=>((Heap.SameBut.update W.s.heap a (Obj.mapSeq (·.push c))).2 b z).trans p
 refine a_ F.slot_list_append ⟨_,s,rfl⟩ F.entry_list_append (F.args_list_append_2 _ _) (aW a q.toArray n c (by simp only[List.size_toArray,bu];lia)) ⟨s,?_⟩
 refine w ⟨W.G,W.σ,{ W.s with heap:=W.s.heap.update a (Obj.mapSeq (·.push c)) }⟩ _ ⟨Gh.le.refl _,ea.refl _⟩ ⟨g.ok,g.H.keep (s':={ W.s with heap:=W.s.heap.update a (Obj.mapSeq (·.push c)) }) a k e.I e.F e.σ e.T rfl rfl (Nat.le_refl _),⟨by
   obtain ⟨m,⟨o,D,u,z,h⟩,y⟩:=g.L.ns
   exact ⟨m,⟨o,D,u,k _ _ x.symm z,h⟩,y⟩,g.L.I,g.L.F,g.L.σ,g.L.T⟩⟩ ⟨t,e.I,e.F,e.σ,e.T⟩ ?_
 have:=eb.list (n:=if (q.toArray.push c).size==q.toArray.size then n else n+1) (dJ.append r (.cons B .nil))
 simpa using this
def si (κ:K) (p:Comprehension×Tg):Prop:=p.1.is_async=0/\∃x a,p.1.target=.Name x a/\gj κ (.Name x a) p.2
theorem qh (h:∀a k p,e≠.Set a k p) (x):dq e env x=pure x:=by
 cases e<;>first | rfl | exact absurd rfl (h _ _ _)
theorem nT {gens:List Comprehension}:∀(r:List (Comprehension×Tg)) (k:Nat),gens.drop (k+1)=r.map (·.1)->(∀p∈r,si κ p)->tj C d κ cs elt gens scope pos k r
 | [],k,hd,_=>by
  intro st st' out hE A b W a ob y it U ha g i s n Q E hQ
  obtain ⟨v,rfl,h1⟩:=hE
  have hn:gens[k+1]?=none:=by
   have:=congrArg (λl=>l[0]?) hd
   simpa using this
  unfold PySem.ja
  rw[hn]
  dsimp only
  refine wpAny_bind (wpAny_bind (iu (R:=λT I σ c=>Rep C.w.params T I σ v c) g (h1 A b _ U (ha.hold g i)) _ _ λW1 c t a1 r1 m=>?_))
  refine wpAny_bind (BH (v:=v) a1 m i (s.mono t.G.T t.G.I t.σ) r1 (by simp at n;lia) _ _ λW2 B l2 a2 j r2=>wpAny_pure (wpAny_pure ⟨rfl,?_⟩))
  exact hQ W2 B (t.trans l2) a2 j r2
 | (c,tg)::r,k,hd,H=>by
  intro st st' out hE A b W a ob y it U ha g i s n Q E hQ
  have hg:gens[k+1]?=some c:=by
   have:=congrArg (λl=>l[0]?) hd
   simpa using this
  have zH:gens.drop (k+1+1)=r.map (·.1):=by
   have:=congrArg (List.drop 1) hd
   simpa[List.drop_drop] using this
  obtain ⟨h0,x,px,M,ht⟩:=H (c,tg) (.head _)
  obtain ⟨target,u,N,as⟩:=c
  dsimp only at h0 M
  subst h0 M
  have ih:=nT (elt:=elt) (gens:=gens) (scope:=scope) (pos:=pos) r (k+1) zH λp hp=>H p (.tail _ hp)
  have lo:=zv (iter:=u) (ifs:=N) ht hg ih
  obtain ⟨Y,l,gd,st1,wX,ZK⟩:=hE
  unfold PySem.ja
  rw[hg]
  dsimp only
  refine wpAny_bind (wpAny_mono (E0 g i U wX ha (λYM w=>wpAny (model C.prog C.w) A (runOwn (bZ (elt.ListComp gens scope pos) (k+1) YM (.ref a) b) b>>=λ_=>du (bj (elt.ListComp gens scope pos) k it (.ref a) b)) (λz w=>z=.again (.compLoop (.ListComp elt gens scope pos) k it (.ref a) b)/\Q w) E w) _ λW1 I o Sx t a1 J rP ZF q hS m=>?_) (λx nE L=>wpAny_bind (wpAny_standAt ?_)) λ_ _ e=>e)
  rotate_left
  ·rw[if_neg (by decide)]
   refine wpAny_bind (aY (qh Y x) (wpAny_bind (ai ?_)))
   rw[if_neg (by decide)]
   exact L
  ·have D:=q
   obtain ⟨_,_,_,hs,_⟩:=D
   have G:bw (model C.prog C.w) A (.compLoop (.ListComp elt gens scope pos) (k+1) (.ref I) (.ref a) b) (λr w=>match r with | .ok f=>wpAny (model C.prog C.w) A (du (bj (elt.ListComp gens scope pos) k it (.ref a) b)) (λz w=>z=.again (.compLoop (.ListComp elt gens scope pos) k it (.ref a) b)/\Q w) E w | .error e=>cameBackBy (model C.prog C.w) A b E e w) W1.s:=
    lo l gd st1 st' out ZK A b W1 a I ob o y Sx U a1 m i (s.mono t.G.T t.G.I t.σ) n J rP ZF q hS _ λW2 B l2 a2 j r2=>wpAny_pure ⟨rfl,hQ W2 B (t.trans l2) a2 j r2⟩
   exact wpAny_bind (wpAny_runOwn (h:=none) (PySem.oB hg G (hs A U.1 0 _ _ _ hS G)))
end Vm
end
noncomputable section
open PySem PySem.W PyProof.Rows PySem.Calls PySem.Spec PySem.SeqAt
namespace Vm
section
variable {d:Nat}{κ:K}{cs:List Nat}{st st' dy dC:St}{W:Wd}{hp:List O}
theorem jm:∀{names:List (Str×NameKind)},(names.map (·.1)).Nodup->(x,k)∈names->names.lookup x=some k
 | [],_,h=>nomatch h
 | (n,k1)::names,c,h=>by
  obtain ⟨a,b⟩:=List.nodup_cons.mp c
  rcases List.mem_cons.mp h with q | q
  ·cases q;rw[List.lookup_cons,beq_self_eq_true]
  ·have:(x==n)=false:=beq_eq_false_iff_ne.mpr λz=>a (by subst z;exact List.mem_map.mpr ⟨_,q,rfl⟩)
   rw[List.lookup_cons,this];exact jm b q
theorem g9.free (j:g9 κ cs W.σ env) (c:j8 κ sc):∀x∈sc.names,x.2=.free->∃a,env.cells.lookup x.1=some a:=λx b g=>by
 obtain ⟨n,k⟩:=x
 subst g
 obtain ⟨i,f,e⟩:=List.getElem_of_mem (c.has n b)
 obtain ⟨_,a,_,_,h⟩:=j.cell i n (by rw[List.getElem?_eq_getElem f,e]) (c.free n b)
 exact ⟨a,h⟩
theorem Loc.off (h:Loc C κ L loc W):∃o,Off C W L o:=by
 obtain ⟨m,⟨o,a,b,e,_⟩,_⟩:=h.ns
 exact ⟨o,e,h.I,h.F,h.σ,h.T⟩
theorem Loc.ahead (h:Loc C κ L loc W) (j:Off C W L o) (l:W.le W') (b:Off C W' L o):Loc C κ L loc W':=by
 obtain ⟨m,⟨n,k,g,e,a⟩,y⟩:=h.ns
 rw[j.at_] at e;(refine Vm.sI e ?_;clear e;rintro rfl)
 exact ⟨⟨m,⟨o,k,g,b.at_,a⟩,λi x v e f=>by obtain ⟨c,p,q⟩:=y i x v e f;exact ⟨c,p,q.mono l⟩⟩,b.I,b.F,b.σ,b.T⟩
theorem uw {iter:Expr}{r:List (Comprehension×Tg)} (hc:j8 κ sc) (WQ:∀es k p,iter≠.Set es k p) (wX:f_ C d κ cs iter st l gd st1) (A9:rest=r.map (·.1)) (ht:gj (κ.comp sc) (.Name x px) tg) (Dq:∀p∈r,si (κ.comp sc) p) (hE:oA C d (κ.comp sc) ((List.range (d7 sc).length).map (st1.hp.length+·)++cs) elt (⟨.Name x px,iter,ifs,0⟩,tg) r gd l ⟨List.replicate (κ.comp sc).slots.length none,st1.hp++List.replicate (d7 sc).length (.cell none)⟩ out p9) (hlen:out.length<=65536) (hr:dY d A) (ha:At C κ cs env st W){use:Option (Value->Sem Unit)}{Q:Value->Shared->Prop}{E:Value->Shared->Prop} (hQ:∀W' D cL ob o,W.le W'->At C κ cs env ⟨st1.loc,p9.hp⟩ W'->Off C W' D ob->D≠env.locals->eb C.w.params W'.G.T W'.G.I W'.σ ob (.list out)->Off C W' cL o->cL≠D->cL≠env.locals->(∃m,W'.s.heap.Ns cL m)->compPost (model C.prog C.w) A E use Q (.ref D) cL (.ok .next) W'.s) :
  wpAny (model C.prog C.w) A (comprehension (.ListComp elt (⟨.Name x px,iter,ifs,0⟩::rest) sc pos) sc env pos' (newList []) false (eval iter env) use) Q E W.s:=by
 obtain ⟨cl,c1,c2,c3⟩:=ox (env:=env) (sc:=sc) (g9.free ha.ok hc)
 refine wpAny_comprehension_free (use:=use) rfl (qh WQ) c1 hc.fn (λy hy hl=>jm hc.nd (by rw[<- hl];exact hy)) ?_
 refine wX A env W hr ha _ _ λW1 I o Sx l1 a1 sJ rP Ba hS=>?_
 refine bq ?_
 have pe:=gb (W:=W1) { cls:=.type "list",dict:=none,data:=.seq ([]:List Value).toArray }
 have a2:=a1.el pe
 have Mz:Off C ⟨W1.G,W1.σ,{ W1.s with heap:=W1.s.heap.push { cls:=.type "list",dict:=none,data:=.seq ([]:List Value).toArray } }⟩ W1.s.heap.objs.size { cls:=.type "list",dict:=none,data:=.seq ([]:List Value).toArray }:=gY a1.H rfl
 have UX:W1.s.heap.objs.size≠env.locals:=Nat.ne_of_gt a1.lt
 have ZH:I≠W1.s.heap.objs.size:=Nat.ne_of_lt (Heap.lt_size sJ.at_)
 have Ip:Off C ⟨W1.G,W1.σ,{ W1.s with heap:=W1.s.heap.push { cls:=.type "list",dict:=none,data:=.seq ([]:List Value).toArray } }⟩ I o:=⟨Heap.get?_push_of_some _ sJ.at_,sJ.I,sJ.F,sJ.σ,sJ.T⟩
 refine Bq a2 hc c2 c3 λkb W3 l3 UH UU UK WO a3 b3=>?_
 have zy:∀{a:Addr}{o:Obj},Off C ⟨W1.G,W1.σ,{ W1.s with heap:=W1.s.heap.push { cls:=.type "list",dict:=none,data:=.seq ([]:List Value).toArray } }⟩ a o->Off C W3 a o:=λ{a o} h=>
  ⟨UH _ _ h.at_,by rw[UU];exact h.I,by rw[UU];exact h.F,(λz=>by
   rcases WO a z with q | q
   ·exact h.σ q
   ·rw[h.at_] at q;exact Vm.sN q),h.T⟩
 have RD:=zy Mz
 have RA:=zy Ip
 obtain ⟨oL,u3⟩:=a3.L.off
 have below:∀{a:Addr}{o:Obj},(W1.s.heap.push { cls:=.type "list",dict:=none,data:=.seq ([]:List Value).toArray }).get? a=some o->a≠kb.locals:=λh=>by
  rw[UK]
  exact Nat.ne_of_lt (Heap.lt_size h)
 have US:env.locals≠kb.locals:=by
  rw[UK]
  exact Nat.ne_of_lt a2.lt
 have UW:W1.s.heap.objs.size≠kb.locals:=below Mz.at_
 have ZE:I≠kb.locals:=below Ip.at_
 have We:eb C.w.params W3.G.T W3.G.I W3.σ { cls:=.type "list",dict:=none,data:=.seq ([]:List Value).toArray } (.list []):=.list .nil
 have Zj:=zv (iter:=iter) (ifs:=ifs) (gens:=⟨.Name x px,iter,ifs,0⟩::rest) (k:=0) ht rfl (nT (d:=d) (cs:=(List.range (d7 sc).length).map (st1.hp.length+·)++cs) (elt:=elt) (gens:=⟨.Name x px,iter,ifs,0⟩::rest) (scope:=sc) (pos:=pos) r 0 A9 Dq)
 have UO:Sx 0 W3.s.heap:=by
  obtain ⟨_,_,_,_,_,_,h6⟩:=Ba
  refine h6 0 W1 W3 _ (Wd.le.refl _).kh ⟨?_,?_,?_⟩ a3.H ?_ (λo e=>UH _ _ (Heap.get?_push_of_some _ e)) hS
  ·exact (pe.le.trans l3).G.I
  ·exact (pe.le.trans l3).G.T
  ·exact (pe.le.trans l3).σ
  ·exact hE.gd
 have NJ:LoopAt C I l gd (W3.hold env.locals oL) Sx:=by
  obtain ⟨P,h1,h2,h3,h4,h5,h6⟩:=Ba
  have lI:W1.kh (W3.hold env.locals oL):=⟨(pe.le.trans l3).G.I,(pe.le.trans l3).G.T,(pe.le.trans l3).σ⟩
  exact ⟨P,h1,h2,h3,λi v hv=>by obtain ⟨y,e,q⟩:=h4 i v hv;exact ⟨y,e,Rep.mono lI.T lI.I lI.σ q⟩,h5,λi W2 W2' hp q1 q2=>h6 i W2 W2' hp (lI.trans q1) q2⟩
 have run:bw (model C.prog C.w) A (.compLoop (.ListComp elt (⟨.Name x px,iter,ifs,0⟩::rest) sc pos) 0 (.ref I) (.ref W1.s.heap.objs.size) { kb with scope:=ck sc env }) (compPost (model C.prog C.w) A E use Q (.ref W1.s.heap.objs.size) kb.locals) W3.s:=by
  refine Zj l gd _ p9 out hE A { kb with scope:=ck sc env } (W3.hold env.locals oL) W1.s.heap.objs.size I _ o [] Sx hr (b3.hold u3 US) (ll RD UX) UW We (by simpa using hlen) (ll RA rP) ZE ZH NJ UO _ λW4 Yh l4 a4 RB r4=>?_
  obtain ⟨Uw,a5,p5⟩:=q8 u3 l4 a4
  obtain ⟨aaU,q5⟩:=ny u3 l4 RB
  have lw:W.le (W4.gp W3.G.F):=((l1.trans pe.le).trans l3).trans Uw
  obtain ⟨oc,Wt⟩:=a5.L.off
  have aL:At C κ cs env ⟨st1.loc,p9.hp⟩ (W4.gp W3.G.F):=⟨ha.ok.mono lw.σ,a5.H,(Loc.ahead a3.L u3 Uw p5)⟩
  exact hQ (W4.gp W3.G.F) _ kb.locals Yh oc lw aL q5 UX r4 Wt UW.symm US.symm (let ⟨m,hm,_⟩:=a5.L.ns;⟨m,hm⟩)
 obtain ⟨_,_,_,Sf,_⟩:=Ba
 exact PySem.oB rfl run (Sf A hr.1 0 _ _ _ UO run)
theorem TF.comp {iter:Expr}{r:List (Comprehension×Tg)} (N:j8 κ sc) (j:∀H k p,iter≠.Set H k p) (n:f_ C d κ cs iter st l gd st1) (i:f=r.map (·.1)) (ht:gj (κ.comp sc) (.Name x px) tg) (B:∀p∈r,si (κ.comp sc) p) (hE:oA C d (κ.comp sc) ((List.range (d7 sc).length).map (st1.hp.length+·)++cs) elt (⟨.Name x px,iter,ifs,0⟩,tg) r gd l ⟨List.replicate (κ.comp sc).slots.length none,st1.hp++List.replicate (d7 sc).length (.cell none)⟩ out p9) (s:out.length<=65536):TF C d κ cs (.ListComp elt (⟨.Name x px,iter,ifs,0⟩::f) sc pos) st (.list out) ⟨st1.loc,p9.hp⟩:=λA Y W L ha Q E h=>by
 rw[eval_ListComp]
 refine uw (use:=none) N j n i ht B hE s L ha λq D I T o J g a w t c u G ⟨m,U⟩=>⟨m,U,λv hs=>?_⟩
 have k:∀b o,b≠I->q.s.heap.get? b=some o->v.get? b=some o:=λb o z e=>(hs.2 b z).trans e
 refine h ⟨q.G,q.σ,{ q.s with heap:=v }⟩ _ ⟨J.G,J.σ⟩ ⟨g.ok,g.H.keep (s':={ q.s with heap:=v }) I k c.I c.F c.σ c.T rfl rfl (Nat.le_refl _),⟨by
   obtain ⟨m,⟨o,H,M,z,f⟩,y⟩:=g.L.ns
   exact ⟨m,⟨o,H,M,k _ _ G.symm z,f⟩,y⟩,g.L.I,g.L.F,g.L.σ,g.L.T⟩⟩ ⟨D,T,rfl,w,⟨k _ _ u.symm a.at_,a.I,a.F,a.σ,a.T⟩,t⟩
noncomputable def Ib (κ:K) (sc:Scope) (t:Str) (a b:Pos):Bool:=
 κ.scope.names.lookup t==some .local&&a.line==b.line&&!(sc.names.any λ(n,k)=>n==t&&(k==.local||k==.cell))
theorem m5 (a:g9 κ cs σ env):aU (.ListComp elt gs sc c) (some (.Name t b)) n env=pure (Ib κ sc t b c):=by
 unfold aU Ib Env.blockKind Env.kindOf
 dsimp only
 rw[a.scope,a.fn]
 rfl
end
section
variable {d:Nat}{κ:K}{cs:List Nat}{st st' dy dC:St}{W:Wd}{hp:List O}
theorem xM (N:dY d A) (I:At C κ cs env st W) (f:Off C W cL o) (l:cL≠env.locals) (M:∃m,W.s.heap.Ns cL m) (G:dz C W v c) (H:gj κ (.Name y py) tg) (D:d9 cs (n+1) tg v st=some st') (Q:Shared->Prop) (E:Value->Shared->Prop) (w:∀r,W.le r->At C κ cs env st' r->Q r.s) :
  wpAny (model C.prog C.w) A (assign (.Name y py) env c) (λ_ h=>∃m,h.heap.Ns cL m/\∀i,Heap.SameBut cL h.heap i->Q { h with heap:=i }) E W.s:=by
 obtain ⟨m,x⟩:=M
 refine iu (R:=λ_ _ _ _=>True) f (λB L s=>iH (kH H D (I.hold f l) G B L s)) _ _ λp _ t g _ a=>⟨m,x.at' λT e=>by rw[f.at_] at e;(refine Vm.sI e ?_;clear e;rintro rfl);exact a.at_,λi q=>?_⟩
 have k:∀b o,b≠cL->p.s.heap.get? b=some o->i.get? b=some o:=λb o z e=>(q.2 b z).trans e
 exact w ⟨p.G,p.σ,{ p.s with heap:=i }⟩ ⟨t.G,t.σ⟩ ⟨g.ok,g.H.keep (s':={ p.s with heap:=i }) cL k a.I a.F a.σ a.T rfl rfl (Nat.le_refl _),⟨by
   obtain ⟨m,⟨o,J,u,z,j⟩,y⟩:=g.L.ns
   exact ⟨m,⟨o,J,u,k _ _ l.symm z,j⟩,y⟩,g.L.I,g.L.F,g.L.σ,g.L.T⟩⟩
theorem TS.K9 {elt iter:Expr}{ifs:List Expr}{f:List Comprehension}{sc:Scope}{U pos s:Pos}{y:Str}{tg m:Tg}{r:List (Comprehension×Tg)}{x:Str}{M:Pos}{l:List V}{gd:Gd}{out:List V}{st1 b:St}{n:Nat}{tr:Bool}
  (hc:j8 κ sc) (G:∀es k p,iter≠.Set es k p) (H:f_ C d κ cs iter st l gd st1) (i:f=r.map (·.1)) (ht:gj (κ.comp sc) (.Name x M) tg) (T:∀p∈r,si (κ.comp sc) p)
  (hE:oA C d (κ.comp sc) ((List.range (d7 sc).length).map (st1.hp.length+·)++cs) elt (⟨.Name x M,iter,ifs,0⟩,tg) r gd l ⟨List.replicate (κ.comp sc).slots.length none,st1.hp++List.replicate (d7 sc).length (.cell none)⟩ out b)
  (I:out.length<=65536) (hw:Ib κ sc y s U=true) (hy:gj κ (.Name y s) m)
  (L:d9 cs (n+1) m (if tr then .ref b.hp.length else .lst out) ⟨st1.loc,b.hp++(if tr then [.list out] else [])⟩=some st') :
  TS C d κ cs (.Assign [.Name y s] (.ListComp elt (⟨.Name x M,iter,ifs,0⟩::f) sc U) pos) st .next st':=λA g W hr ha Q E h=>by
 rw[exec_Assign_Name_used _ _ _ _ (by rw[m5 ha.ok,hw])]
 refine wpAny_bind (wpAny_standAt (wpAny_bind ?_))
 show wpAny _ A (do let _←comprehension (.ListComp elt (⟨.Name x M,iter,ifs,0⟩::f) sc U) sc g _ (newList []) false (eval iter g) (some (assign (.Name y s) g))) _ _ _
 refine wpAny_bind (uw (use:=some (assign (.Name y s) g)) hc G H i ht T hE I hr ha λc D cL N o lw a1 e u t a B J hm=>?_)
 show wpAny _ A (assign (.Name y s) g (.ref D)) _ _ _
 cases tr with
 | true=>
  have j:=a1.nB e u t
  refine xM (W:=⟨c.G,c.σ++[D],c.s⟩) (v:=.ref b.hp.length) (o:=o) hr j ⟨a.at_,a.I,a.F,(λz=>?_),a.T⟩ J hm (.ref (by
   have:c.σ.length=b.hp.length:=a1.H.len
   rw[<- this,List.getElem?_concat_length])) hy L _ _ λY w j=>?_
  ·rcases List.mem_append.mp z with q | q
   ·exact a.σ q
   ·exact B (List.mem_singleton.mp q)
  ·exact wpAny_pure (wpAny_pure (h Y _ (lw.trans ⟨w.G,(ea.push c.σ D).trans w.σ⟩) j rfl))
 | false=>
  have L:d9 cs (n+1) m (.lst out) ⟨st1.loc,b.hp⟩=some st':=by simpa using L
  have j:=a1.freeze e u
  have w:c.le ⟨c.G.gK D N,c.σ,c.s⟩:=⟨Gh.jH e.I,ea.refl _⟩
  refine xM (W:=⟨c.G.gK D N,c.σ,c.s⟩) (v:=.lst out) (o:=o) hr j ⟨a.at_,?_,a.F,a.σ,a.T⟩ J hm ?_ hy L _ _ λY l3 j=>?_
  ·show (c.G.I.put D N) cL=none
   rw[Gm.eV B];exact a.I
  ·obtain ⟨_,_,rfl,r⟩:=t.inv;exact .lst (Gm.ew _ _ _) (dF.mono r w)
  ·exact wpAny_pure (wpAny_pure (h Y _ (lw.trans (w.trans l3)) j rfl))
theorem Ah {E:Value->Shared->Prop}{pos:Pos}{Q:cF->Shared->Prop} (h:wpAny M A (eval value env) (λv nE=>wpAny M A (assign t env v) (λ_=>Q .next) E nE) E s) (hc:aU value (some t) pos.line env=pure false) (hs:noStar t=true) (hw:ax [t] value env=pure none):wpAny M A (exec (.Assign [t] value pos) env) Q E s:=by
 rw[bP]
 refine wpAny_bind (wpAny_standAt ?_)
 show wpAny M A (do if←aU value (some t) pos.line env then _ else _) Q E s
 rw[hc]
 refine wpAny_bind (wpAny_pure ?_)
 rw[if_neg (by decide)]
 refine wpAny_bind (wpAny_mono h (λv nE WN=>?_) λ_ _ x=>x)
 rw[hw]
 refine wpAny_bind (wpAny_pure ?_)
 have e:(dd [t] env).map (·.2)=[assign t env]:=by
  rw[jt (λe he=>by rw[List.mem_singleton.mp he];exact hs)]
  rfl
 rw[e]
 show wpAny M A (do assignAll v [assign t env];pure .next) Q E nE
 exact wpAny_bind (wpAny_mono WN (λ_ _ x=>wpAny_pure x) λ_ _ x=>x)
theorem l9:aU value (some (.Tuple l k p)) n env=pure false:=by
 unfold aU
 cases value<;>rfl
theorem su:aU value (some (.Attribute o x p)) n env=pure false:=by
 unfold aU
 cases value<;>rfl
theorem TS.Hg (hc:∀env σ n,g9 κ cs σ env->aU e (some t) n env=pure false) (h1:TE C d κ cs e st v dy) (ht:fO κ n t=some tg) (hs:d9 cs m tg v dy=some dC) (hw:∀env σ,g9 κ cs σ env->ax [t] e env=pure none):TS C d κ cs (.Assign [t] e pos) st .next dC:=λA env W hr ha Q E h=>by
 refine Ah (h1 A env W hr ha _ _ λdR c jF i_ qD=>?_) (hc env W.σ _ ha.ok) (qk ht) (hw env W.σ ha.ok)
 exact tA n m t tg v dy dC ht hs A env dR c hr i_ qD _ _ λti _ wJ yc _=>h ti _ (jF.trans wJ) yc rfl
end
section
variable {d:Nat}{κ:K}{cs:List Nat}{st st' dy dC:St}{W:Wd}{hp:List O}
theorem mh (h:fp n=true):aA (.type "function") n=pure none:=by
 unfold fp at h
 simp only[List.contains_cons,Bool.or_eq_true,beq_iff_eq,List.contains_nil,Bool.false_eq_true,or_false] at h
 rcases h with rfl | rfl | rfl | rfl | rfl | rfl | rfl<;>(rw[av,ah];kernel_rfl)
theorem ui (r:dz C W v c) (h:tS v=true):handedOut c=pure c:=by
 cases v with
 | con v=>
  obtain rfl:=r.inv
  cases c with
  | type | builtin=>exact fT h
  | _=>rfl
 | none | bool=>rw[r.inv];rfl
 | int | str=>obtain ⟨_,rfl⟩:=r.inv;rfl
 | dw=>obtain ⟨_,rfl,_⟩:=r.inv;rfl
 | ref=>obtain ⟨_,rfl,_⟩:=r.inv;rfl
 | tup | lst=>obtain ⟨_,_,_,rfl,_⟩:=r.inv;rfl
 | dE=>obtain ⟨_,_,_,rfl,_⟩:=r.inv;rfl
 | gf=>obtain ⟨_,_,_,_,rfl,_⟩:=r.inv;rfl
 | bm=>obtain ⟨_,_,rfl,_⟩:=r.inv;rfl
theorem oj.ns {h:Heap}{m:Str->Option Value} (e:h.get? a=some ob) (x:oj ob m):h.Ns1 a m:=let ⟨b,c,p,q,r,t⟩:=x;⟨ob,b,c,e,p,q,r,t⟩
theorem oj.of {h:Heap}{m:Str->Option Value} (x:h.Ns1 a m):∃b,h.get? a=some b/\oj b m:=let ⟨o,c,f,e,p,q,r,t⟩:=x;⟨o,e,c,f,p,q,r,t⟩
structure FnAt (C:Ctx) (W:Wd) (hp:List O) (i:Nat) (a:Addr) (f:iS) (cl:List (Str×Nat)) (d0:Option Nat) (fd:FuncData) (dict:Option Addr):Prop where
 t:Em C W hp i a (.fn f cl d0) ⟨.type "function",dict,.func fd,#[]⟩
 fo:tm W.G.I f fd
 zI:∀x i,cl.lookup x=some i->∃a,W.σ[i]?=some a/\fd.closure.lookup x=some a
 hd:nt W.σ d0 dict
theorem vc (H:dO C hp W) (e:W.σ[i]?=some a) (h:hp[i]?=some (.fn f cl d0)):∃fd b,FnAt C W hp i a f cl d0 fd b:=by
 obtain ⟨k,t⟩:=q_ H e h
 obtain ⟨fd,b,rfl,g,c,j⟩:=t.rep.inv
 exact ⟨fd,b,t,g,c,j⟩
structure XJ (C:Ctx) (W:Wd) (hp:List O) (d:Nat) (D:Addr) (l:List (Str×V)) (ob:Obj) (m:Str->Option Value):Prop where
 t:Em C W hp d D (.ns l) ob
 ns:oj ob m
 hl:∀x v,l.lookup x=some v->∃c,m x=some c/\dz C W v c
 Dr:∀x,l.lookup x=none->m x=none
theorem Iq (H:dO C hp W) (e:W.σ[d]?=some D) (h:hp[d]?=some (.ns l)):∃f m,XJ C W hp d D l f m:=by
 obtain ⟨f,t⟩:=q_ H e h
 obtain ⟨m,a,b,c⟩:=t.rep.inv
 exact ⟨f,m,t,a,b,c⟩
theorem yf (H:dO C hp W){fd:FuncData} (F:FnAt C W hp i a f cl d0 fd dict) (h:BF hp n d0=some v) :
  fp n=true/\tS v=true/\∃D m c,W.s.heap.get? a=some ⟨.type "function",some D,.func fd,#[]⟩/\W.s.heap.Ns1 D m/\m n=some c/\dz C W v c:=by
 cases d0 with
 | none=>exact nS h
 | some d=>
  refine dN h λe h=>?_
  have g:=F.hd
  cases dict with
  | none=>exact g.elim
  | some D=>
   cases b:hp[d]? with
   | none=>rw[b] at h;exact nS h
   | some o=>cases o with
    | ns l=>
     rw[b] at h
     obtain ⟨j,m,N⟩:=Iq H g b
     refine ee h λw p h=>dN h λk h=>?_
     obtain ⟨c,r,q⟩:=N.hl n w p
     exact ⟨e,Option.some.inj h▸k,D,m,c,F.t.at_,N.ns.ns N.t.at_,r,Option.some.inj h▸q⟩
    | _=>rw[b] at h;exact nS h
theorem yU (H:dO C hp W) (z:dz C W o x) (h:fM hp o n=some v):dP C A (getAttr x n ex) (λW' c=>dz C W' v c) W:=by
 refine dP.mk λQ E r=>?_
 cases o with
 | ref i=>
  obtain ⟨a,rfl,e⟩:=z.inv
  have h:og hp i n hp[i]?=some v:=h
  obtain ⟨G,u,s⟩:=W
  obtain ⟨L,g,B,t,y⟩:=s
  cases b:hp[i]? with
  | none=>rw[b] at h;exact nS h
  | some o=>cases o with
   | fn f cl Y=>
    rw[b] at h
    obtain ⟨fd,j,F⟩:=vc H e b
    obtain ⟨N,w,D,m,c,J,I,M,q⟩:=yf H F h
    exact lQ.rU ⟨J,I.ns⟩ (mh N) M (ui q w) (r ⟨G,u,_⟩ _ (Pext0.toks _) q)
   | list l=>
    rw[b] at h
    refine dN h λU h=>?_
    obtain ⟨vs,k,T,_⟩:=nA H e b
    subst U
    refine lQ.sQ T.at_ ?_
    have p:=Pext0.qH (W:=⟨G,u,⟨L,g,B,t,y⟩⟩) (lQ.mz "list.append" (.ref a)) rfl (t+1) H.fX
    exact r _ _ p (Option.some.inj h▸.bm (Gm.ew _ _ _) (.ref e))
   | _=>rw[b] at h;exact nS h
 | _=>exact nS h
theorem yI (H:dO C hp W) (u:dz C W o x) (j:isFn hp o=true) (h:fM hp o n=some v):dP C A (getMethod x n pl) (λW' r=>∃c,r=(c,[])/\dz C W' v c) W:=by
 refine dP.mk λQ E y=>?_
 cases o with
 | ref i=>
  obtain ⟨a,rfl,e⟩:=u.inv
  have h:og hp i n hp[i]?=some v:=h
  have j:rK hp[i]?=true:=j
  obtain ⟨G,B,s⟩:=W
  obtain ⟨Y,g,N,t,L⟩:=s
  cases b:hp[i]? with
  | none=>rw[b] at h;exact nS h
  | some o=>cases o with
   | fn f T M=>
    rw[b] at h
    obtain ⟨U,k,F⟩:=vc H e b
    obtain ⟨J,q,D,m,c,z,w,I,p⟩:=yf H F h
    exact lQ.w9 ⟨z,w.ns⟩ (mh J) I (ui p q) (y ⟨G,B,_⟩ _ (Pext0.toks _) ⟨c,rfl,p⟩)
   | list l=>rw[b] at j;exact fT j
   | _=>rw[b] at h;exact nS h
 | _=>exact nS h
theorem TE.attr (w:gZ o=true) (u:TE C d κ cs o st a dy) (s:fM dy.hp a n=some v):TE C d κ cs (.Attribute o n pos) st v dy:=λA b W q t Q E h=>by
 refine Attribute_any_ (u A b W q t _ _ λm x i f j=>?_) ?_
 ·exact yU f.H j s _ _ λg c p k=>h g c (i.trans p.le) (f.el p) k
 ·have e:eval (.Attribute o n pos) b=(do
   let l←attributeBase o n b (eval o b)
   standAt pos.atName
   let r←aP [l] (getAttr l n true)
   cu o l r
   pure r):=by with_unfolding_all rfl
  rw[e,n9 w]
end
section
variable {d:Nat}{κ:K}{cs:List Nat}{st st' dy dC:St}{W:Wd}{hp:List O}
theorem yv {l:List (Str×V)}{m:Str->Option Value} (h:∀x,l.lookup x=none->m x=none):Within m (l.map (·.1)):=λy b=>by
 cases q:l.lookup y with
 | none=>exact absurd (h y q) b
 | some v=>
  clear b h
  induction l with
  | nil=>exact Vm.nS q
  | cons x l c=>
   rw[List.lookup_cons] at q
   split at q
   ·rename_i e;rw[eq_of_beq e];exact .head _
   ·exact .tail _ (c q)
theorem C1 {P:Params}{l:List (Str×V)}{m:Str->Option Value} (rc:Rep P T I σ v c) (h1:∀x v,l.lookup x=some v->∃c,m x=some c/\Rep P T I σ v c) (h2:∀x,l.lookup x=none->m x=none) :
  (∀x w,((n,v)::l).lookup x=some w->∃c',(λy=>if y=n then some c else m y) x=some c'/\Rep P T I σ w c')/\(∀x,((n,v)::l).lookup x=none->(λy=>if y=n then some c else m y) x=none):=by
 refine ⟨λx w e=>?_,λx e=>?_⟩
 ·rw[List.lookup_cons] at e
  split at e
  ·rename_i q;(refine Vm.sI e ?_;clear e;rintro rfl);exact ⟨c,if_pos (eq_of_beq q),rc⟩
  ·rename_i q
   obtain ⟨c',p,r⟩:=h1 x w e
   exact ⟨c',(if_neg (by simpa using q)).trans p,r⟩
 ·rw[List.lookup_cons] at e
  split at e
  ·exact Vm.sN e
  ·rename_i q
   exact (if_neg (by simpa using q)).trans (h2 x e)
section
variable {A:Around}{v:V}{z:Value}{n:Str}{i:Nat}{a:Addr}{f:iS}{cl:List (Str×Nat)}{fd:FuncData}{dict:Option Addr}
theorem JX (H:dO C hp W) (e:W.σ[i]?=some a) (F:FnAt C W hp i a f cl none fd dict) (hv:dz C W v z) (Dq:fp n=true):TH C A (setAttr (.ref a) n z) (λ_ _=>True) (hp.set i (.fn f cl (some hp.length))++[.ns [(n,v)]]) W:=by
 obtain ⟨T,fo,zI,M⟩:=F
 have h2:=T.at_
 have yd:a∈W.σ:=List.mem_of_getElem? e
 cases dict with
 | some D=>exact M.elim
 | none=>
  intro Q E hQ
  obtain ⟨G,w,s⟩:=W
  obtain ⟨c,g,Y,t,N⟩:=s
  refine wpAny_toks ?_
  refine lQ.rT (fd:=fd) h2 (mh Dq) (λdx tk q=>nS q) λ_ tk Q' E' ZC=>?_
  have J:(c.push { cls:=.type "dict",data:=.dict #[] }).get? a=some ⟨.type "function",none,.func fd,#[]⟩:=Heap.get?_push_of_some _ h2
  have U:a≠c.objs.size:=Nat.ne_of_lt (Heap.lt_size h2)
  have NR:((c.push { cls:=.type "dict",data:=.dict #[] }).update a λo=>{ cls:=o.cls,dict:=some c.objs.size,data:=o.data,slots:=o.slots }).get? c.objs.size=some { cls:=.type "dict",data:=.dict #[] }:=
   (Heap.get?_update_ne _ _ _ _ U.symm).trans (Heap.get?_push_at rfl rfl)
  have uh:((c.push { cls:=.type "dict",data:=.dict #[] }).update a λo=>{ cls:=o.cls,dict:=some c.objs.size,data:=o.data,slots:=o.slots }).Ns c.objs.size (λ_=>none):=
   ⟨_,#[],_,NR,rfl,λe he=>absurd he (by simp),λ_=>rfl⟩
  refine lQ.w8 (Heap.Ns1.of_empty uh) Within.nil (by simp) λB h Dt hs=>ZC _ λIL=>?_
  obtain ⟨obD,gD,nD⟩:=oj.of Dt
  have UA:B.get? a=some ⟨.type "function",some c.objs.size,.func fd,#[]⟩:=(hs.2 a U).trans (Heap.get?_update_self _ J rfl)
  have k:∀b o,b≠a->c.get? b=some o->B.get? b=some o:=λb o z q=>(hs.2 b (Nat.ne_of_lt (Heap.lt_size q))).trans ((Heap.get?_update_ne _ _ _ _ z).trans (Heap.get?_push_of_some _ q))
  have H1:dS C G w (hp.set i .gone) ⟨B,g,Y,h,N⟩:=H.upd (s':=⟨B,g,Y,h,N⟩) e k UA (.gone _) rfl rfl IL
  have np:=C1 (P:=C.w.params) (T:=G.T) (I:=G.I) (σ:=w++[c.objs.size]) (l:=[]) (m:=λ_=>none) (n:=n) (dz.mono hv (W':=⟨G,w++[c.objs.size],⟨B,g,Y,h,N⟩⟩) ⟨Gh.le.refl _,ea.push _ _⟩) (λx v q=>nS q) (λ_ _=>rfl)
  have H2:=H1.nB gD H.fX H.jo H.iI H.freshT (.ns nD np.1 np.2)
  have u:w.length=hp.length:=H.len
  have H3:=H2.upd (s':=⟨B,g,Y,h,N⟩) (i:=i) (a:=a) (o:=.fn f cl (some hp.length)) (ea.push _ _ _ _ e) (λ_ _ _ q=>q) UA (.fn fo (λx j q=>let ⟨y,p,r⟩:=zI x j q;⟨y,ea.push _ _ _ _ p,r⟩) (by
   show (w++[c.objs.size])[hp.length]?=some c.objs.size
   rw[<- u,List.getElem?_concat_length])) rfl rfl (Nat.le_refl _)
  have hi:i < hp.length:=by rw[<- u];exact (List.getElem?_eq_some_iff.mp e).1
  have eL:(hp.set i .gone++[O.ns [(n,v)]]).set i (.fn f cl (some hp.length))=hp.set i (.fn f cl (some hp.length))++[O.ns [(n,v)]]:=by
   rw[List.set_append_left _ _ (by simpa using hi),List.set_set]
  rw[eL] at H3
  refine hQ ⟨G,w++[c.objs.size],⟨B,g,Y,h,N⟩⟩ _ ⟨⟨Gh.le.refl _,ea.push _ _⟩,λL o p q r t=>⟨k L o (λz=>r (z▸yd)) p,q,λz=>?_⟩⟩ H3 trivial
  rcases List.mem_append.mp z with z | z
  ·exact r z
  ·rw[List.mem_singleton.mp z] at p;exact absurd (Heap.lt_size p) (Nat.lt_irrefl _)
theorem Fs (H:dO C hp W) (T:hp[d]?=some (.ns l)) (F:FnAt C W hp i a f cl (some d) fd dict) (Y:dz C W v z) (p:fp n=true) (Zk:l.length < 100):TH C A (setAttr (.ref a) n z) (λ_ _=>True) (hp.set d (.ns ((n,v)::l))) W:=by
 have c:=F.hd
 cases dict with
 | none=>exact c.elim
 | some D=>
  obtain ⟨I,m,N⟩:=Iq H c T
  intro Q E L
  obtain ⟨G,σ,s⟩:=W
  obtain ⟨hh,g,x,t,w⟩:=s
  refine wpAny_toks ?_
  refine lQ.rT (fd:=fd) F.t.at_ (mh p) (λdx tk q Q' E' r=>?_) λq=>sN q
  obtain rfl:=Option.some.inj q
  refine lQ.w8 (N.ns.ns N.t.at_) (yv N.Dr) (by rw[List.length_map];lia) λh e j U=>r _ λu=>?_
  obtain ⟨y,J,nD⟩:=oj.of j
  have k:∀b o,b≠D->hh.get? b=some o->h.get? b=some o:=λb o z q=>(U.2 b z).trans q
  have B:=C1 (n:=n) Y N.hl N.Dr
  have M:=H.upd (s':=⟨h,g,x,e,w⟩) c k J (.ns nD B.1 B.2) rfl rfl u
  exact L ⟨G,σ,⟨h,g,x,e,w⟩⟩ _ (N.t.kept _ k) M trivial
theorem uI (H:dO C hp W) (m:dz C W o x) (j:dz C W v z) (h:kO hp o n v=some hp'):TH C A (setAttr x n z) (λ_ _=>True) hp' W:=by
 cases o with
 | ref i=>
  obtain ⟨a,rfl,e⟩:=m.inv
  have h:AA hp i n v hp[i]?=some hp':=h
  cases c:hp[i]? with
  | none=>rw[c] at h;exact nS h
  | some o=>cases o with
   | fn f cl k=>
    rw[c] at h
    obtain ⟨fd,dict,F⟩:=vc H e c
    cases k with
    | none=>exact dN h λb h=>Option.some.inj h▸JX H e F j b
    | some d=>
     have h:putN hp d n v hp[d]?=some hp':=h
     cases g:hp[d]? with
     | none=>rw[g] at h;exact nS h
     | some o=>cases o with
      | ns l=>rw[g] at h;exact dN h λb h=>Option.some.inj h▸Fs H g F j b.1 b.2
      | _=>rw[g] at h;exact nS h
   | _=>rw[c] at h;exact nS h
 | _=>exact nS h
end
theorem TS.setAttr {a:V} (G:TE C d κ cs e st v dy) (B:TE C d κ cs o dy a dC) (y:kO dC.hp a n v=some hp'):TS C d κ cs (.Assign [.Attribute o n p] e pos) st .next ⟨dC.loc,hp'⟩:=λA r W w D Q E h=>by
 refine plainObj_wpAny_Assign_Attribute (G A r W w D _ _ λs x g m l=>B A r s w m _ _ λt u c b q=>?_) su
 exact uI b.H q (l.mono c) y _ _ λj _ k H _=>h j _ ((g.trans c).trans k.le) (b.kept k H) rfl
end
section
variable {d:Nat}{κ:K}{cs:List Nat}{st st' dy dC:St}{W:Wd}{hp:List O}
theorem uN:∀(e:List Value),aZ e->codeAmong p (e++[aB l,aB c,v])=(codeAmong p e).or (if ((l:Int)==p.line&&(c:Int)==p.col)=true then some v else none):=by
 intro e h
 fun_induction aZ e with
 | case1=>simp[codeAmong,aB]
 | case2 a b i j x f g=>
  simp only[List.cons_append,codeAmong]
  split
  ·rfl
  ·exact g h
 | case3=>exact h.elim
theorem yy:∀(e:List Value),aZ e->aZ (e++[aB l,aB c,v]):=by
 intro e h
 fun_induction aZ e with
 | case1=>simp[aZ,aB]
 | case2 a b i j x f g=>
  simp only[List.cons_append,aZ]
  exact g h
 | case3=>exact h.elim
theorem WC {E:Value->Shared->Prop}{s:Shared}{P:Addr}{D:Str->Option Value}{Q:Value->Shared->Prop} (i:c_ scope env=pure qU) (g:env.globals=aj) (u:s.heap.Ns aj D) (a:env.code=.ref c) (C:dh s.heap c P) (w:s.heap.get? P=some (tabObj q)) (v:aZ q.toList) (r:aj≠P) (x:s.heap.BuiltinsAt D P) (h:∀(fd:FuncData) (l:Addr) (f:Heap) (k:Tok),fd.params=params->fd.body=body->fd.scope=scope->fd.qualname=qual->fd.globals=aj->fd.builtins=aC->fd.defaults=.none->fd.kwdefaults=.none->fd.closure=qU->s.heap.objs.size<=f.objs.size->
   ((codeAmong pos q.toList=some fd.code/\(∀b o,s.heap.get? b=some o->f.get? b=some o))\/
    (codeAmong pos q.toList=none/\Heap.ExtBut P s.heap f/\s.heap.objs.size<=l/\l < f.objs.size/\fd.code=.ref l/\f.CodeRec (.ref l) qual/\f.get? P=some (tabObj (q++#[aB pos.line,aB pos.col,.ref l]))))->
   Q (.ref f.objs.size) { s with heap:=f.push ⟨.type "function",none,.func fd,#[]⟩,toks:=k }) :
  wpAny M A (makeFunction name qual params body scope env [] [] [] pos firstLine) Q E s:=by
 cases m:codeAmong pos q.toList with
 | none=>
  cases body with
  | expr e=>
   exact kla_makeFunction i g u a C w v m r x λl p f k n j t z B=>h _ l f k rfl rfl rfl rfl rfl rfl rfl rfl rfl (Nat.le_trans j (Nat.le_of_lt t)) (.inr ⟨m,n,j,t,rfl,z,B⟩)
  | stmts b=>
   exact makeFunction_K i g u a C w v m r x λl p y f k n j t z B=>h _ l f k rfl rfl rfl rfl rfl rfl rfl rfl rfl (Nat.le_trans j (Nat.le_of_lt t)) (.inr ⟨m,n,j,t,rfl,z,B⟩)
 | some G=>
  cases body with
  | expr e=>
   exact kla_makeFunctionHit i g u a C w v m x λp f k n j=>h _ 0 f k rfl rfl rfl rfl rfl rfl rfl rfl rfl j (.inl ⟨m,n⟩)
  | stmts b=>
   exact makeFunction_hit i g u a C w v m x λp y f k n j=>h _ 0 f k rfl rfl rfl rfl rfl rfl rfl rfl rfl j (.inl ⟨m,n⟩)
theorem dS.JJ {s':Shared} (H:dS C G σ hp s){P:Addr} (j:P∈C.tabs) (k:∀b o,b≠P->s.heap.get? b=some o->s'.heap.get? b=some o) (h:s'.heap.get? c'=some oc) (m:s.heap.objs.size<=c') (l:s'.heap.get? P=some ob) (tab:jT C (G.I.put c' oc) P ob) (u:s'.gens=s.gens) (B:s'.os=s.os) (r:s.toks<=s'.toks):dS C (G.gK c' oc) σ hp s':=by
 have a:∀o,s.heap.get? c'≠some o:=λo e=>absurd (Heap.lt_size e) (Nat.not_lt.mpr m)
 have g:G.I c'=none:=by
  cases q:G.I c' with
  | none=>rfl
  | some o=>exact absurd (H.I _ _ q) (a o)
 have A:G.F c'=none:=by
  cases q:G.F c' with
  | none=>rfl
  | some o=>exact absurd (H.F _ _ q) (a o)
 have J:=(H.tab P j).1
 have w:=(H.tab P j).2.1
 have f:=(H.tab P j).2.2.1
 exact {
  I:=λb x e=>by
   rcases Gm.wo e with ⟨rfl,rfl⟩ | ⟨_,e⟩
   ·exact h
   ·exact k b x (λq=>by subst q;rw[J] at e;exact Vm.nS e) (H.I b x e)
  F:=λb x e=>k b x (λq=>by subst q;have e:G.F b=some x:=e;rw[w] at e;exact Vm.nS e) (H.F b x e)
  IF:=λb e=>by
   by_cases q:b=c'
   ·subst q;exact A
   ·refine H.IF b ?_
    replace e:(G.I.put c' oc) b≠none:=e
    rwa [Gm.eV q] at e
  top:=H.top.trans (Gm.ir g)
  tab:=λR v=>by
   obtain ⟨x,y,z,o,e,t⟩:=H.tab R v
   have c:R≠c':=λq=>by subst q;exact a o e
   refine ⟨(Gm.eV c).trans x,y,z,?_⟩
   by_cases q:R=P
   ·subst q;exact ⟨ob,l,tab⟩
   ·exact ⟨o,k R o q e,t.mono (Gm.ir g)⟩
  len:=H.len
  nd:=H.nd
  fe:=λi b e=>by
   obtain ⟨p,q,x,o,D,n,E⟩:=H.fe i b e
   have c:b≠c':=λz=>by subst z;exact a o n
   exact ⟨(Gm.eV c).trans p,q,x,o,D,k b o (λz=>f (z▸List.mem_of_getElem? e)) n,E.mono (Tm.le.refl _) (Gm.ir g) (ea.refl _)⟩
  gens:=u.trans H.gens
  os:=B.trans H.os
  pos:=Nat.lt_of_lt_of_le H.pos r
  T:=λt x e=>⟨(H.T t x e).1,Nat.lt_of_lt_of_le (H.T t x e).2 r⟩ }
end
section
variable {d:Nat}{κ:K}{cs:List Nat}{st st' dy dC:St}{W:Wd}{hp:List O}
structure eY (C:Ctx) (g:Glob):Prop extends Pa C g where
 pP:∀cv l c q,g.lg (some cv) l c=some q->∃a P,cv=.ref a/\P∈C.tabs/\P≠aK/\C.qual P l c=some q/\∀h:Heap,(∀x o,C.fu x=some o->h.get? x=some o)->dh h a P
 bt:∀h:Heap,(∀x o,C.fu x=some o->h.get? x=some o)->∀P∈C.tabs,h.BuiltinsAt C.mg P
 gP:∀P∈C.tabs,aj≠P
 U_:g.blt.lookup ("__debug__":Str)=none
 lim:∀h:Heap,(∀x o,C.fu x=some o->h.get? x=some o)->h.NoLimit
theorem wH {α e:Type}{f:α->Option e}:∀{l:List α}{r:List e},dI f l=some r->(∀a∈l,∃b∈r,f a=some b)/\(∀b∈r,∃a∈l,f a=some b)
 | [],r,h=>by (refine Vm.sI h ?_;clear h;rintro rfl);exact ⟨(λ_ h=>nomatch h),(λ_ h=>nomatch h)⟩
 | a::l,r,h=>by
  obtain ⟨b,n,c,m,rfl⟩:=d8 h
  obtain ⟨j,i⟩:=wH m
  refine ⟨λx hx=>?_,λy hy=>?_⟩
  ·rcases List.mem_cons.mp hx with rfl | hx
   ·exact ⟨b,.head _,c⟩
   ·obtain ⟨k,p,q⟩:=j x hx;exact ⟨k,.tail _ p,q⟩
  ·rcases List.mem_cons.mp hy with rfl | hy
   ·exact ⟨a,.head _,c⟩
   ·obtain ⟨g,p,q⟩:=i y hy;exact ⟨g,.tail _ p,q⟩
theorem ql (h:j6 κ sc=some cl) :
  (∀x,(x,.free)∈sc.names->∃k,idx κ.cells x=some k/\(κ.scope.names.lookup x=some .cell\/κ.scope.names.lookup x=some .free))/\
  (∀x k,(x,k)∈cl->(x,.free)∈sc.names/\idx κ.cells x=some k/\(κ.scope.names.lookup x=some .cell\/κ.scope.names.lookup x=some .free)):=by
 unfold j6 at h
 obtain ⟨r,n,rfl⟩:=Option.map_eq_some_iff.mp h
 obtain ⟨j,m⟩:=wH n
 have f:∀(x:Str×NameKind) (b:Str×Nat),(match κ.scope.names.lookup x.1 with
  | some .cell=>(idx κ.cells x.1).map (x.1,·)
  | some .free=>(idx κ.cells x.1).map (x.1,·)
  | _=>none)=some b->b.1=x.1/\idx κ.cells x.1=some b.2/\(κ.scope.names.lookup x.1=some .cell\/κ.scope.names.lookup x.1=some .free):=λx b c=>by
  split at c
  ·rename_i e;obtain ⟨k,p,rfl⟩:=Option.map_eq_some_iff.mp c;exact ⟨rfl,p,.inl e⟩
  ·rename_i e;obtain ⟨k,p,rfl⟩:=Option.map_eq_some_iff.mp c;exact ⟨rfl,p,.inr e⟩
  ·exact Vm.nS c
 refine ⟨λx g=>?_,λx k g=>?_⟩
 ·obtain ⟨b,_,c⟩:=j (x,.free) (List.mem_filter.mpr ⟨g,rfl⟩)
  obtain ⟨_,p,q⟩:=f _ _ c
  exact ⟨_,p,q⟩
 ·obtain ⟨a,l,c⟩:=m (x,k) (List.mem_reverse.mp g)
  obtain ⟨p,q,t⟩:=f _ _ c
  obtain ⟨s,i⟩:=List.mem_filter.mp l
  obtain ⟨u,o⟩:=a
  dsimp only at p q t i
  subst p
  have:o=.free:=by simpa using i
  subst this
  exact ⟨s,q,t⟩
theorem yR:∀{r:List (Str×Nat)},hX cs l=some r->∀x i,(x,i)∈r->∃k,(x,k)∈l/\cs[k]?=some i:=by
 induction l with
 | nil=>exact λh x i c=>by rw[<- Option.some.inj h] at c;exact (nomatch c)
 | cons p l m=>
  intro r h x i c
  refine lp (a:=cs[p.2]?) (b:=hX cs l) (f:=λi r=>some ((p.1,i)::r)) h λj o g n e=>?_
  rw[<- Option.some.inj e] at c
  exact (List.mem_cons.mp c).elim (λq=>⟨p.2,(af q).1▸.head _,(af q).2▸g⟩) λq=>(m n x i q).imp λk h=>⟨.tail _ h.1,h.2⟩
theorem JI {h:Array Value}{P:Nat}{pos:Pos} (k:P≠aK) (e:aZ h.toList) (g:∀a m i,codeAmong a h.toList=some m->C.qual P a.line a.col=some i->jx I m i) (j:C.qual P pos.line pos.col=some q) (o:I c'=none) (f:jx (I.put c' oc) (.ref c') q):jT C (I.put c' oc) P (tabObj (h++#[aB pos.line,aB pos.col,.ref c'])):=by
 refine .inr ⟨k,_,rfl,by simpa using yy h.toList e,λa m i c l=>?_⟩
 rw[Array.toList_append] at c
 rw[uN _ e] at c
 cases b:codeAmong a h.toList with
 | some r=>
  rw[b] at c
  exact (g _ _ _ (b.trans c) l).mono (Gm.ir o)
 | none=>
  rw[b,Option.none_or] at c
  exact dN c λhp c=>by
   rw[Bool.and_eq_true,beq_iff_eq,beq_iff_eq] at hp
   have p:a.line=pos.line:=by lia
   have n:a.col=pos.col:=by lia
   rw[p,n,j] at l
   exact Option.some.inj c▸Option.some.inj l▸f
theorem zt (hG:eY C g){pos:Pos} (h:At C κ cs env st W) (hc:j6 κ sc=some pg) (Du:hX cs pg=some cl) (hq:g.lg κ.code pos.line pos.col=some q) (Q:Value->Shared->Prop) (E:Value->Shared->Prop) (hQ:∀W' c,W.le W'->At C κ cs env ⟨st.loc,st.hp++[.fn ⟨params,body,sc,q⟩ cl none]⟩ W'->dz C W' (.ref st.hp.length) c->Q c W'.s):wpAny (model C.prog C.w) A (makeFunction name q params body sc env [] [] [] pos line) Q E W.s:=by
 refine gk λP0 k0=>?_
 obtain ⟨s1,s2⟩:=ql hc
 cases B:κ.code with
 | none=>rw[B] at hq;exact nS hq
 | some cv=>
 rw[B] at hq
 obtain ⟨ca,P,rfl,J,U,T,Zq⟩:=hG.pP _ _ _ _ hq
 have D:=h.ok.code _ B
 have L:∀x o,C.fu x=some o->W.s.heap.get? x=some o:=λx o e=>h.H.I x o (h.H.top x o e)
 have j:∀x k,idx κ.cells x=some k->(κ.scope.names.lookup x=some .cell\/κ.scope.names.lookup x=some .free)->∃i a,cs[k]?=some i/\W.σ[i]?=some a/\env.cells.lookup x=some a:=λx k h1 h2=>h.ok.cell k x (jI h1) h2
 obtain ⟨qU,c1,c2,c3⟩:=ox (env:=env) (sc:=sc) (λx hx hf=>by
  obtain ⟨xn,xk⟩:=x
  subst hf
  obtain ⟨k,p,r⟩:=s1 xn hx
  obtain ⟨i,a,_,_,e⟩:=j xn k p r
  exact ⟨a,e⟩)
 obtain ⟨pI,pF,pσ,ob,Y',hT⟩:=h.H.tab P J
 rcases hT with hT | ⟨_,ps,rfl,M,s⟩
 ·exact absurd hT.1 U
 refine k0 (wpAny_toks ?_)
 clear k0 s1
 refine WC c1 h.ok.globals (by have:=h.glob.1;rwa [h.ok.globals] at this) D (Zq _ L) Y' M (hG.gP P J) (hG.bt _ L P J) λfd G n H x1 x2 x3 x4 x5 x6 x7 x8 x9 hsz w N=>?_
 refine gk λP0 k0=>?_
 have key:∃l,Gh.le W.G l/\l.I env.locals=none/\dS C l W.σ st.hp { W.s with heap:=n,toks:=H }/\jx l.I fd.code q/\(∀b o,b≠P->W.s.heap.get? b=some o->n.get? b=some o):=by
  rcases w with ⟨y1,I⟩ | ⟨y1,I,y3,y4,y5,y6,y7⟩
  ·exact ⟨W.G,.refl _,h.L.I,h.H.ext (s':={ W.s with heap:=n,toks:=H }) I N rfl rfl,s _ _ _ y1 T,λb o _ e=>I b o e⟩
  ·obtain ⟨c2',oc,vs,t,z1,z2,z3,z4⟩:=y6
   cases z1
   have cI:W.G.I G=none:=by
    cases qq:W.G.I G with
    | none=>rfl
    | some o=>exact absurd (Heap.lt_size (h.H.I _ _ qq)) (Nat.not_lt.mpr y3)
   have u:jx (W.G.I.put G oc) (.ref G) q:=⟨G,oc,vs,t,rfl,Gm.ew _ _ _,z3,z4⟩
   have tab:=JI U M s T cI u
   have Zl:env.locals≠G:=Nat.ne_of_lt (Nat.lt_of_lt_of_le h.lt y3)
   refine ⟨W.G.gK G oc,Gh.jH cI,(Gm.eV Zl).trans h.L.I,h.H.JJ (s':={ W.s with heap:=n,toks:=H }) J (λb o z e=>I b o z e) z2 y3 y7 tab rfl rfl N,by rw[y5];exact u,λb o z e=>I b o z e⟩
 obtain ⟨l,lG,lI,H',UJ,hk⟩:=key
 have Zs:eb C.w.params l.T l.I (W.σ++[n.objs.size]) ⟨.type "function",none,.func fd,#[]⟩ (.fn ⟨params,body,sc,q⟩ cl none):=by
  refine .fn ⟨x1,x2,x3,x4,x5,x6,x7,x8,UJ⟩ (λx i hx=>?_) trivial
  obtain ⟨k,NP,NO⟩:=yR Du x i (mem_of_lookup hx)
  obtain ⟨p1,p2,p3⟩:=s2 x k NP
  obtain ⟨i',a,r1,r2,r3⟩:=j x k p2 p3
  rw[NO] at r1;(refine Vm.sI r1 ?_;clear r1;rintro rfl)
  obtain ⟨a',r4⟩:=c3 x p1
  have:=c2 x a' r4
  rw[r3] at this;(refine Vm.sI this ?_;clear this;rintro rfl)
  exact ⟨a,ea.push _ _ _ _ r2,by rw[x9];exact r4⟩
 have H2:=H'.Wy ⟨.type "function",none,.func fd,#[]⟩ _ rfl Zs (t:=H) (Nat.le_refl _)
 have lW:W.le ⟨l,W.σ++[n.objs.size],{ W.s with heap:=n.push ⟨.type "function",none,.func fd,#[]⟩,toks:=H }⟩:=⟨lG,ea.push _ _⟩
 refine k0 (hQ ⟨l,W.σ++[n.objs.size],{ W.s with heap:=n.push ⟨.type "function",none,.func fd,#[]⟩,toks:=H }⟩ _ lW ⟨h.ok.mono lW.σ,H2,⟨?_,lI,by rw[lG.F];exact h.L.F,?_,h.L.T⟩⟩ (.ref (by rw[<- h.H.len,List.getElem?_concat_length])))
 ·obtain ⟨m,⟨o,es,ep,z,Y⟩,y⟩:=h.L.ns
  exact ⟨m,⟨o,es,ep,Heap.get?_push_of_some _ (hk _ _ (λz=>h.L.T (z▸J)) z),Y⟩,λi x v e f=>by obtain ⟨c,p,q⟩:=y i x v e f;exact ⟨c,p,q.mono lW⟩⟩
 ·intro z
  rcases List.mem_append.mp z with z | z
  ·exact h.L.σ z
  ·exact absurd (List.mem_singleton.mp z) (Nat.ne_of_lt (Nat.lt_of_lt_of_le h.lt hsz))
end
section
variable {d:Nat}{κ:K}{cs:List Nat}{st st' dy dC:St}{W:Wd}{hp:List O}
theorem jh (h:jb p=true):∃as,p=⟨[],as,none,[],[],none,[]⟩/\as.all (·.annotation.isNone)=true:=by
 obtain ⟨a,b,c,d,e,f,g⟩:=p
 unfold jb at h
 simp only[Bool.and_eq_true,List.isEmpty_iff,Option.isNone_iff_eq_none] at h
 obtain ⟨⟨⟨⟨⟨⟨l,j⟩,n⟩,i⟩,o⟩,k⟩,m⟩:=h
 subst l j n i o k
 exact ⟨b,rfl,m⟩
theorem uz:∀{as:List Arg},as.all (·.annotation.isNone)=true->annotationsOf as env=[]
 | [],_=>rfl
 | ⟨n,none,p⟩::as,h=>uz (as:=as) (by simpa using h)
 | ⟨n,some a,p⟩::as,h=>by simp at h
theorem yl (h:jb p=true):annTrees p none env=[]:=by
 obtain ⟨b,rfl,a⟩:=jh h
 unfold annTrees
 simp only[List.append_nil,Option.toList_none,List.nil_append]
 rw[uz a]
 rfl
theorem TE.lam (e:eY C g){pos:Pos} (hp:jb params=true) (f:j6 κ sc=some pg) (b:hX cs pg=some cl) (i:g.lg κ.code pos.line pos.col=some (κ.qual++"<lambda>")) :
  TE C d κ cs (.Lambda params body sc pos) st (.ref st.hp.length) ⟨st.loc,st.hp++[.fn ⟨params,.expr body,sc,κ.qual++"<lambda>"⟩ cl none]⟩:=λA a W k c Q E h=>by
 refine kla_eval ?_ ?_
 ·obtain ⟨j,rfl,_⟩:=jh hp
  rw[defaultsOf_eq]
  exact (rfl:(evalEach [] a,evalEachOpt [] a)=([],[]))
 ·rw[c.ok.qual]
  exact zt e c f b i Q E h
theorem TS.qQ (o:eY C g){pos:Pos} (hp:jb params=true) (p:j6 κ sc=some pg) (f:hX cs pg=some cl) (t:g.lg κ.code pos.line pos.col=some (κ.qual++name)) (k:gj κ (.Name name np) tg) (u:d9 cs (n+1) tg (.ref st.hp.length) ⟨st.loc,st.hp++[.fn ⟨params,.stmts body,sc,κ.qual++name⟩ cl none]⟩=some st') :
  TS C d κ cs (.FunctionDef name params body [] none [] sc none name pos) st .next st':=λA a W x j Q E h=>by
 have i:qualnameIn a name name=κ.qual++name:=by
  unfold qualnameIn
  have:a.kindOf name≠some .globalExplicit:=by
   unfold Env.kindOf
   rw[j.ok.scope]
   cases k with
   | loc e _=>rw[e];exact λq=>nomatch q
   | cell e _=>rw[e];exact λq=>nomatch q
  rw[if_neg (by simpa using this),j.ok.qual]
 have b:defaultsOf params a=([],[]):=by
  obtain ⟨y,rfl,_⟩:=jh hp
  rw[defaultsOf_eq]
  exact (rfl:(evalEach [] a,evalEachOpt [] a)=([],[]))
 rw[exec_def]
 refine wpAny_bind (wpAny_standAt (wpAny_bind (ai ?_)))
 rw[b,yl hp,i]
 refine wpAny_bind (wpAny_pure ?_)
 refine wpAny_bind (ai (wpAny_pure ?_))
 refine ai (wpAny_bind (wpAny_pure ?_))
 refine zt o j p f t _ _ λz c r s l=>?_
 refine wpAny_bind (wpAny_standAt (wpAny_bind (kH k u s l _ _ λw _ v m _=>wpAny_pure (h w _ (r.trans v) m rfl))))
end
section
variable {d:Nat}{κ:K}{cs:List Nat}{st st' dy dC:St}{W:Wd}{hp:List O}
noncomputable def bindAll (cs:List Nat):List Tg->List V->St->Option St
 | [],[],st=>some st
 | t::a,v::b,st=>match d9 cs 5 t v st with
  | some st=>bindAll cs a b st
  | none=>none
 | _,_,_=>none
def mD (κ:K):List Str->List Tg->Prop
 | [],[]=>True
 | x::b,t::a=>(∃p,gj κ (.Name x p) t)/\mD κ b a
 | _,_=>False
theorem xY (h:bindAll cs (t::ts) (v::vs) st=some st'):∃st1,d9 cs 5 t v st=some st1/\bindAll cs ts vs st1=some st':=by
 have a:∀p:Option St,(match p with | some st=>bindAll cs ts vs st | none=>none)=some st'->∃st1,p=some st1/\bindAll cs ts vs st1=some st':=by
  intro p h
  cases p with
  | none=>exact nS h
  | some s=>exact ⟨s,rfl,h⟩
 exact a _ h
theorem tx (f:Str×Value->PUnit->Sem (ForInStep PUnit)) (m:∀n v u,f (n,v) u=(do storeName env n v;pure (.yield ⟨⟩))) :
  ∀{a:List (Str×Value)}{ts:List Tg}{vs:List V}{st st':St}{W:Wd},mD κ (a.map (·.1)) ts->bindAll cs ts vs st=some st'->dF C W vs (a.map (·.2))->At C κ cs env st W->
   Tr C κ cs env A (forIn a PUnit.unit f) st' (λ_ _=>True) W
 | [],[],[],_,_,W,_,h,_,k=>Option.some.inj h▸λ_ _ j=>wpAny_pure (j W _ (Wd.le.refl _) k trivial)
 | xc::a,t::ts,v::vs,st,st',W,b,h,s,k=>λQ E j=>by
  obtain ⟨c,l,e,r,G⟩:=s.inv
  obtain ⟨y,B⟩:=List.cons.inj e
  obtain ⟨J,D,h⟩:=xY h
  rw[List.forIn_cons,m]
  obtain ⟨⟨p,i⟩,g⟩:=b
  refine wpAny_bind (wpAny_bind (vE i D k ((show xc.2=c from y).symm▸r) _ _ λL _ o z _=>wpAny_pure ?_))
  exact tx f m g h ((show a.map (·.2)=l from B).symm▸dF.mono G o) z _ _ λI x H w q=>j I x (o.trans H) w q
 | [],_::_,_,_,_,_,b,_,_,_=>b.elim
 | _::_,[],_,_,_,_,b,_,_,_=>b.elim
 | [],[],_::_,_,_,_,_,h,_,_=>nS h
 | _::_,_::_,[],_,_,_,_,h,_,_=>nS h
end
section
variable {d:Nat}{κ:K}{cs:List Nat}{st st' dy dC:St}{W:Wd}{hp:List O}
open Classical in
noncomputable def Wd.hH (C:Ctx) (W:Wd):Gm:=λb=>if W.G.I b=none/\b∉W.σ/\b∉C.tabs then W.s.heap.get? b else none
def Wd.kT (C:Ctx) (W:Wd):Wd:=W.gp (W.hH C)
theorem jO {b:Addr} (h:W.hH C b=some o):W.G.I b=none/\b∉W.σ/\b∉C.tabs/\W.s.heap.get? b=some o:=by
 unfold Wd.hH at h
 split at h
 ·rename_i q;exact ⟨q.1,q.2.1,q.2.2,h⟩
 ·exact Vm.nS h
theorem tT {b:Addr} (a:W.G.I b=none) (e:b∉W.σ) (c:b∉C.tabs) (h:W.s.heap.get? b=some o):W.hH C b=some o:=by
 unfold Wd.hH
 rw[if_pos ⟨a,e,c⟩];exact h
theorem dS.all (H:dO C hp W):dO C hp (W.kT C) where
 I:=H.I
 F b x e:=(jO e).2.2.2
 IF b e:=by
  show W.hH C b=none
  cases q:W.hH C b with
  | none=>rfl
  | some o=>exact absurd (jO q).1 e
 top:=H.top
 tab P hP:=by
  obtain ⟨x,y,z⟩:=H.tab P hP
  refine ⟨x,?_,z⟩
  show W.hH C P=none
  cases q:W.hH C P with
  | none=>rfl
  | some o=>exact absurd hP (jO q).2.2.1
 len:=H.len
 nd:=H.nd
 fe i b e:=by
  obtain ⟨p,q,z⟩:=H.fe i b e
  refine ⟨p,?_,z⟩
  show W.hH C b=none
  cases q:W.hH C b with
  | none=>rfl
  | some o=>exact absurd (List.mem_of_getElem? e) (jO q).2.1
 gens:=H.gens
 os:=H.os
 pos:=H.pos
 T:=H.T
theorem dS.Qo (H:dO C hp W) (l:(W.kT C).le W') (H':dO C hp' W'):Kept C W (W'.gp W.G.F)/\dO C hp' (W'.gp W.G.F):=by
 have h:W'.G.F=W.hH C:=l.G.F
 have a:∀b x,W.G.F b=some x->W'.G.F b=some x:=λb x e=>by
  rw[h]
  have j:W.G.I b=none:=by
   cases q:W.G.I b with
   | none=>rfl
   | some o=>have:=H.IF b (by rw[q];exact λz=>by exact Vm.sN z);rw[e] at this;exact Vm.sN this
  refine tT j (λz=>?_) (λz=>?_) (H.F b x e)
  ·obtain ⟨i,c,q⟩:=List.getElem_of_mem z
   obtain ⟨_,p,_⟩:=H.fe i b (by rw[<- q];exact List.getElem?_eq_getElem c)
   rw[e] at p;exact Vm.sN p
  ·have:=(H.tab b z).2.1;rw[e] at this;exact Vm.sN this
 refine ⟨⟨⟨⟨l.G.I,rfl,l.G.T⟩,l.σ⟩,λL o p q r t=>?_⟩,H'.u7 a⟩
 have f:W'.G.F L=some o:=by rw[h];exact tT q r t p
 refine ⟨H'.F L o f,?_,λz=>?_⟩
 ·cases g:W'.G.I L with
  | none=>exact g
  | some x=>have:=H'.IF L (by rw[g];exact λz=>by exact Vm.sN z);rw[f] at this;exact Vm.sN this
 ·obtain ⟨i,c,e⟩:=List.getElem_of_mem z
  obtain ⟨_,p,_⟩:=H'.fe i L (by rw[<- e];exact List.getElem?_eq_getElem c)
  rw[f] at p;exact Vm.sN p
noncomputable def iz (cells:List (Str×Nat)):List (Str×NameKind)->Nat->Option (List Nat)
 | [],_=>some []
 | (x,.cell)::r,b=>(iz cells r (b+1)).map (b::·)
 | (x,.free)::r,b=>match cells.lookup x,iz cells r b with
  | some i,some l=>some (i::l)
  | _,_=>none
 | _::r,b=>iz cells r b
noncomputable def Su (names:List (Str×NameKind)):List Str:=(names.filter λx=>x.2==.cell||x.2==.free).map (·.1)
def lU (cells:List (Str×Nat)) (names:List (Str×NameKind)) (b:Nat) (cs:List Nat) (k:Nat) (x:Str):Prop:=
 (∃j,(ownOf names)[j]?=some x/\cs[k]?=some (b+j))\/((x,NameKind.free)∈names/\∃i,cells.lookup x=some i/\cs[k]?=some i)
section
variable {cells:List (Str×Nat)}{n x:Str}{names:List (Str×NameKind)}{b i k:Nat}{l:List Nat}
theorem lU.own (h:lU cells names (b+1) l k x):lU cells ((n,.cell)::names) b (b::l) (k+1) x:=
 h.elim (λ⟨j,p,q⟩=>.inl ⟨j+1,p,q.trans (congrArg some (Nat.add_right_comm b 1 j))⟩) λ⟨p,q⟩=>.inr ⟨.tail _ p,q⟩
theorem lU.free (h:lU cells names b l k x):lU cells ((n,.free)::names) b (i::l) (k+1) x:=
 h.elim (λ⟨j,p,q⟩=>.inl ⟨j,p,q⟩) λ⟨p,q⟩=>.inr ⟨.tail _ p,q⟩
theorem lU.other (e:ownOf ((n,kd)::names)=ownOf names) (h:lU cells names b l k x):lU cells ((n,kd)::names) b l k x:=
 h.elim (λ⟨j,p,q⟩=>.inl ⟨j,e.symm▸p,q⟩) λ⟨p,q⟩=>.inr ⟨.tail _ p,q⟩
theorem DN (h:iz cells ((n,.free)::names) b=some cs):∃i l,cells.lookup n=some i/\iz cells names b=some l/\i::l=cs:=by
 have a:∀(p:Option Nat) (q:Option (List Nat)),(match p,q with | some i,some l=>some (i::l) | _,_=>none)=some cs->∃i l,p=some i/\q=some l/\i::l=cs:=by
  intro p q h
  cases p with
  | none=>exact nS h
  | some i=>cases q with
   | none=>exact nS h
   | some l=>exact ⟨i,l,rfl,rfl,Option.some.inj h⟩
 exact a _ _ h
end
theorem mw:∀{names:List (Str×NameKind)}{b:Nat}{cs:List Nat},iz cells names b=some cs->∀(k:Nat) (x:Str),(Su names)[k]?=some x->lU cells names b cs k x
 | [],b,cs,h,k,x,a=>nomatch a
 | (n,e)::names,b,cs,h,k,x,a=>by
  cases e with
  | cell=>
   obtain ⟨l,g,c⟩:=Option.map_eq_some_iff.mp (h:(iz cells names (b+1)).map (b::·)=some cs)
   rw[<- c]
   cases k with
   | zero=>exact .inl ⟨0,a,rfl⟩
   | succ k=>exact (mw g k x a).own
  | free=>
   obtain ⟨i,l,f,j,c⟩:=DN h
   rw[<- c]
   cases k with
   | zero=>exact .inr (Option.some.inj a▸⟨.head _,i,f,rfl⟩)
   | succ k=>exact (mw j k x a).free
  | _=>exact lU.other rfl (mw (names:=names) h k x a)
theorem wu {names:List (Str×NameKind)} (f:(names.map (·.1)).Nodup) (h:(x,NameKind.free)∈names):x∉ownOf names:=λz=>by
 unfold ownOf at z
 obtain ⟨⟨y,k⟩,j,e⟩:=List.mem_map.mp z
 obtain ⟨m,c⟩:=List.mem_filter.mp j
 dsimp only at e c
 subst e
 have g:=jm f h
 have a:=jm f m
 rw[g] at a;(refine Vm.sI a ?_;clear a;rintro rfl)
 exact Vm.fT c
structure qZ (κ:K):Prop where
 fn:κ.scope.kind=.function
 co:κ.scope.isCoroutine=false
 gen:κ.scope.isGenerator=false
 slots:κ.slots=slotNames κ.scope
 cells:κ.cells=ph κ.scope
 nd:(κ.scope.names.map (·.1)).Nodup
theorem GA {qU:List (Str×Addr)}{code:Value}{binds:List (Str×Value)} (H:dO C hp W) (hf:qZ κ) (Du:iz cells κ.scope.names hp.length=some cs') (zI:∀x i,cells.lookup x=some i->∃a,W.σ[i]?=some a/\qU.lookup x=some a) (Bb:∀c,κ.code=some c->code=c) (hb:bindAll cs' tgs vs ⟨List.replicate κ.slots.length none,hp++List.replicate (d7 κ.scope).length (.cell none)⟩=some st1) (ht:mD κ (binds.map (·.1)) tgs) (hv:dF C W vs (binds.map (·.2))){Q:Env->Shared->Prop}{E:Value->Shared->Prop} (hQ:∀env W',W.le W'->At C κ cs' env st1 W'->Q env W'.s) :
  wpAny (model C.prog C.w) A (bl κ.scope aj qU binds κ.qual (some a) code none aC) Q E W.s:=by
 simp only[bl,Option.isSome_none,Bool.false_eq_true,if_false]
 refine wpAny_bind (bK ?_)
 refine wpAny_bind (wpAny_layCells _ (λname kind cells=>by cases NM:kind==NameKind.cell<;>simp[NM]) _ _ _ _ ?_)
 have p:=gb (W:=W) { cls:=.type "frame",data:=.dict #[] }
 have H1:dO C hp ⟨W.G,W.σ,{ W.s with heap:=W.s.heap.push { cls:=.type "frame",data:=.dict #[] } }⟩:=p.hp p.tk _ H
 obtain ⟨as,L⟩:=u9 κ.scope.names qU _ _ H1
 have e4:(W.s.heap.push { cls:=.type "frame",data:=.dict #[] }).objs.size=W.s.heap.objs.size+1:=Heap.size_push ..
 have uh:(ownOf κ.scope.names).Nodup:=(List.Sublist.map _ List.filter_sublist).nodup hf.nd
 have lW:W.le ⟨W.G,W.σ++as,{ W.s with heap:=aE (W.s.heap.push { cls:=.type "frame",data:=.dict #[] }) κ.scope.names }⟩:=⟨Gh.le.refl _,ea.uY _ _⟩
 have own:=L.own uh
 have rest:=L.rest
 have a1:At C κ cs' (newEnv κ.scope W.s.heap.objs.size aj (a9 (W.s.heap.push { cls:=.type "frame",data:=.dict #[] }).objs.size κ.scope.names qU) κ.qual (some a) code none aC) ⟨List.replicate κ.slots.length none,hp++List.replicate (d7 κ.scope).length (.cell none)⟩
   ⟨W.G,W.σ++as,{ W.s with heap:=aE (W.s.heap.push { cls:=.type "frame",data:=.dict #[] }) κ.scope.names }⟩:=by
  refine ⟨⟨rfl,hf.fn,?_,rfl,rfl,rfl,λc e=>Bb c e,λk x hk hl=>?_⟩,L.H,⟨⟨λ_=>none,(Heap.Ns.new W.s.heap (.type "frame")).keeps (pushCells_keeps _ _),λi x v e f=>?_⟩,H.fX,H.jo,?_,H.freshT⟩⟩
  ·rw[hf.slots]
   exact (List.Sublist.map _ List.filter_sublist).nodup hf.nd
  ·rw[hf.cells] at hk
   rcases mw Du k x hk with ⟨j,p,q⟩ | ⟨p,i,q,r⟩
   ·obtain ⟨b,e1,e2⟩:=own j x p
    refine ⟨hp.length+j,b,q,?_,e2⟩
    have hlen:=H.len
    show (W.σ++as)[hp.length+j]?=some b
    rw[List.getElem?_append_right (by lia),hlen,Nat.add_sub_cancel_left];exact e1
   ·obtain ⟨b,e1,e2⟩:=zI x i q
    refine ⟨i,b,r,ea.uY _ _ _ _ e1,?_⟩
    exact (rest x (wu hf.nd p)).trans e2
  ·have f:(List.replicate κ.slots.length (none:Option V))[i]?=some (some v):=f
   rw[List.getElem?_replicate] at f
   split at f<;>cases f
  ·intro h
   have h:W.s.heap.objs.size∈W.σ++as:=h
   rcases List.mem_append.mp h with h | h
   ·exact H.iI h
   ·have:=L.new _ h
    have q':(W.s.heap.push { cls:=.type "frame",data:=.dict #[] }).get? W.s.heap.objs.size=some { cls:=.type "frame",data:=.dict #[] }:=Heap.get?_push_size _ rfl
    rw[q'] at this;exact Vm.sN this
 refine wpAny_bind (tx _ (λ_ _ _=>rfl) ht hb (dF.mono hv lW) a1 _ _ λW2 _ l2 a2 _=>wpAny_pure (hQ _ W2 (lW.trans l2) a2))
end
section
variable {d:Nat}{κ:K}{cs:List Nat}{st st' dy dC:St}{W:Wd}{hp:List O}
theorem dY.in1 (h:dY (d+1) A) (env):dY d (A.deeper env):=⟨h.1,by show A.depth+1+d < 900;have:=h.2.1;lia,by show A.units+3+10*d+50 < 9000;have:=h.2.2;lia⟩
def iG (C:Ctx) (fd:FuncData) (as:List V) (kn:List Str) (kv:List V) (names:List Str) (vs:List V):Prop:=
 ∀(A:Around) (W:Wd) (hp:List O) (b c:List Value),dO C hp W->dF C W as b->dF C W kv c->dP C A (ba fd ⟨b,kn.zip c⟩) (λe a=>a.map (·.1)=names/\dF C e vs (a.map (·.2))) W
def BodyOk (C:Ctx) (d:Nat) (κ:K) (cs:List Nat) (a:bX) (st:St) (v:V) (st':St):Prop:=match a with
 | .expr e=>TE C d κ cs e st v st'
 | .stmts b=>(j7 C d κ cs b st (.ret v) st')\/(j7 C d κ cs b st .next st'/\v=.none)
theorem pn {fd:FuncData}{cells:List (Str×Nat)} (hr:dY (d+1) A) (H:dO C hp W) (ho:W.s.heap.get? a=some o) (IU:o.data=.func fd) (Dl:fd.scope=κ.scope) (hf:qZ κ) (NQ:fd.globals=aj) (NS:fd.builtins=aC) (hq:κ.qual=fd.qualname++".<locals>.") (UI:W.s.heap.CodeRec fd.code fd.qualname) (Bb:∀c,κ.code=some c->fd.code=c) (zI:∀x i,cells.lookup x=some i->∃a,W.σ[i]?=some a/\fd.closure.lookup x=some a) (WU:∀h:Heap,(∀x o,C.fu x=some o->h.get? x=some o)->h.NoLimit) (rO:iG C fd as kn kv names vs) (hx:dF C W as xs) (hk:dF C W kv ks) (ht:mD κ names tgs) (Du:iz cells κ.scope.names hp.length=some cs') (hb:bindAll cs' tgs vs ⟨List.replicate κ.slots.length none,hp++List.replicate (d7 κ.scope).length (.cell none)⟩=some st1) (mq:BodyOk C d κ cs' fd.body st1 v st2) :
  TH C A (call (.ref a) xs (kn.zip ks)) (λW' c=>dz C W' v c) st2.hp W:=λQ E hQ=>by
 have fin:∀W' c,(W.kT C).le W'->dO C st2.hp W'->dz C W' v c->Q c W'.s:=λW' c l H' r=>by
  obtain ⟨k,H2⟩:=dS.Qo H l H'
  exact hQ (W'.gp W.G.F) c k H2 r
 have IM:A.depth < recursionLimit:=Nat.lt_of_le_of_lt (Nat.le_add_right _ _) (Nat.lt_trans hr.2.1 (by decide))
 have bind:=rO A.in1 (W.kT C) hp xs ks H.all hx hk
 have block:∀(R:Result->Shared->Prop) (body:Env->Code) (W1:Wd) (binds:List (Str×Value)),hZ C (W.kT C) W1->binds.map (·.1)=names->dF C W1 vs (binds.map (·.2))->
   (∀env W2,(W.kT C).le W2->At C κ cs' env st1 W2->bw (model C.prog C.w) A (body env) R W2.s)->
   wpAny (model C.prog C.w) A.in1 (bl fd.scope fd.globals fd.closure binds (fd.qualname++".<locals>.") (some a) fd.code none fd.builtins) (λenv oD=>oD.heap.NoLimit/\bw (model C.prog C.w) A (body env) R oD) (λe s'=>R (.error e) s') W1.s:=λR body W1 binds p hn hv Zr=>by
  rw[Dl,NQ,NS,<-hq]
  have H1:=p.hp p.tk _ H.all
  refine GA H1 hf Du (λx i e=>?_) Bb hb (by rw[hn];exact ht) hv λenv W2 l2 a2=>⟨WU _ λx o e=>a2.H.I x o (a2.H.top x o e),Zr env W2 (p.le.trans l2) a2⟩
  obtain ⟨b,e1,e2⟩:=zI x i e
  exact ⟨b,p.le.σ _ _ e1,e2⟩
 cases IV:fd.body with
 | expr e=>
  rw[IV] at mq
  refine ct (kla_callFunE IM ho IU (by rw[Dl];exact hf.co) (by rw[Dl];exact hf.gen) IV UI ?_)
  refine bind _ _ λW1 binds p ⟨hn,hv⟩=>block _ (λenv=>.expr e env) W1 binds p hn hv λenv W2 l2 a2=>kla_codeExpr ?_
  exact mq (A.deeper env) env W2 (hr.in1 env) a2 _ _ λW3 c l3 a3 r3=>fin W3 c (l2.trans l3) a3.H r3
 | stmts b=>
  rw[IV] at mq
  refine ct (codeAny_call_function IM ho IU (by rw[Dl];exact hf.co) (by rw[Dl];exact hf.gen) IV UI ?_)
  refine bind _ _ λW1 binds p ⟨hn,hv⟩=>block _ (λenv=>.func b env) W1 binds p hn hv λenv W2 l2 a2=>codeAny_func ?_
  rcases mq with mq | ⟨mq,rfl⟩
  ·refine mq (A.deeper env) env W2 (hr.in1 env) a2 _ _ λW3 f l3 a3 r3=>?_
   obtain ⟨c,rfl,rc⟩:=r3
   exact fin W3 c (l2.trans l3) a3.H rc
  ·refine mq (A.deeper env) env W2 (hr.in1 env) a2 _ _ λW3 f l3 a3 r3=>?_
   subst r3
   exact fin W3 .none (l2.trans l3) a3.H .none
end
section
variable {d:Nat}{κ:K}{cs:List Nat}{st st' dy dC:St}{W:Wd}{hp:List O}
structure iM (C:Ctx) (d:Nat) (orc:er):Prop where
 top:∀(a:Addr) (as:List V) (kn:List Str) (kv:List V) (hp:List O) (v:V) (hp':List O),orc.top a as kn kv hp=some (v,hp')->
  (∃o fd,C.fu a=some o/\o.data=.func fd)/\∀(A:Around) (W:Wd) (xs ks:List Value),dY d A->dO C hp W->dF C W as xs->dF C W kv ks->TH C A (call (.ref a) xs (kn.zip ks)) (λW' c=>dz C W' v c) hp' W
 mx:∀(f:iS) (cl:List (Str×Nat)) (as:List V) (hp:List O) (v:V) (hp':List O),orc.mx f cl as hp=some (v,hp')->
  ∀(A:Around) (W:Wd) (xs:List Value) (i:Nat) (a:Addr) (dE:Option Nat),dY d A->dO C hp W->hp[i]?=some (.fn f cl dE)->W.σ[i]?=some a->dF C W as xs->TH C A (call (.ref a) xs []) (λW' c=>dz C W' v c) hp' W
theorem G8 (H:dO C hp W) (j:W.s.heap.get? u=some (lQ.mz "list.append" (.ref a))) (e:W.σ[i]?=some a) (q:dF C W as xs) (h:zq hp .gv (.ref i) as=some (v,hp')) :
  TH C A (call (.ref u) xs) (λW' c=>dz C W' v c) hp' W:=by
 have h:(match hp[i]? with | some (.list l)=>C8 hp i .gv as l | _=>none)=some (v,hp'):=h
 cases b:hp[i]? with
 | none=>rw[b] at h;exact nS h
 | some o=>cases o with
  | list l=>
   rw[b] at h
   obtain ⟨z,n,t,r,D⟩:=nA H e b
   refine nr q h λy g B h=>dN h λw h=>λQ E p=>?_
   have m:l.length<=65536:=of_decide_eq_true w
   refine lQ.KQ j t.at_ (by simp only[List.size_toArray,bu];lia) ?_
   exact fm h λb s=>sr H e t (f:=(·.push g)) (vs':=z++[g]) (by simp) (dJ.append r (.cons B .nil)) s (b▸.none) p
  | _=>rw[b] at h;exact nS h
theorem Ci (i:dY d A) (h:fS C d κ cs es st vs st') (a:At C κ cs env st W) :
  Tr C κ cs env A (evalAll (es.map λe=>do let v←eval e env;standAt pos;pure v)) st' (λW' ks=>dF C W' vs ks) W:=by
 induction h generalizing W with
 | nil=>exact λQ E h=>wpAny_evalAll_nil (h W _ (Wd.le.refl _) a .nil)
 | cons h1 h2 n=>exact λQ E h=>wpAny_evalAll_cons (wpAny_bind (h1 _ _ W i a _ _ λp c m g f=>wpAny_bind (wpAny_standAt (wpAny_pure (n g _ _ λo ks b j l=>h o _ (m.trans b) j (.cons (f.mono b) l))))))
theorem rF:∀(kws:List Keyword),aX pos (keywordEach kws env)=kws.map λk=>(k.arg,do let v←eval k.value env;standAt pos;pure v)
 | []=>rfl
 | ⟨n,v,p⟩::kws=>congrArg (List.cons _) (rF kws)
theorem vH {kws:List Keyword} (w:kws.all (λk=>k.arg.isSome)=true) (t:fS C d κ cs es st as dy) (m:fS C d κ cs (kws.map (·.value)) dy kv dC) (g:dY d A) (q:At C κ cs env st W) :
  Tr C κ cs env A (cw f true (es.map λe=>(false,eval e env)) (aX pos (keywordEach kws env))) dC (λW' a=>∃ks,a.kw=(kws.filterMap (·.arg)).zip ks/\dF C W' as a.pos/\dF C W' kv ks) W:=λQ E h=>by
 have n:(aX pos (keywordEach kws env)).all (·.1.isSome)=true:=by
  rw[rF,List.all_map];exact w
 have p:(aX pos (keywordEach kws env)).map (·.2)=(kws.map (·.value)).map (λe=>(do let v←eval e env;standAt pos;pure v:Sem Value)):=by
  rw[rF,List.map_map,List.map_map];rfl
 have o:(aX pos (keywordEach kws env)).filterMap (·.1)=kws.filterMap (·.arg):=by
  rw[rF,List.filterMap_map];rfl
 cases t with
 | nil=>
  refine evalArgs_kw_nil n ?_
  rw[p,o]
  exact Ci g m q _ _ λl ks c i j=>h l _ c i ⟨ks,rfl,.nil,j⟩
 | cons a b=>
  refine evalArgs_kw n ((fS.cons a b).tl A env W g q _ _ λy z s u r=>?_)
  rw[p,o]
  exact Ci g m u _ _ λl ks c i j=>h l _ (s.trans c) i ⟨ks,rfl,dF.mono r c,j⟩
theorem xX {E:Value->Shared->Prop}{Q:Value->Shared->Prop} (h:wpAny M A (cw (.ref a) true args keywords) (λx b=>(∃o i,b.heap.get? a=some o/\o.data=.func i)/\wpAny M A (call (.ref a) (first++x.pos) x.kw) Q E b) E s) :
  wpAny M A (bo pos (.ref a) first args keywords) Q E s:=by
 unfold bo
 refine wpAny_bind (ai (wpAny_mono h (λx b e=>wpAny_bind (wpAny_standAt ?_)) λ_ _ x=>x))
 obtain ⟨⟨o,i,n,l⟩,f⟩:=e
 have c:∀{t:Sem Value},wpAny M A t Q E b->wpAny M A (t>>=λr=>aP [r] point>>=λ_=>pure r) Q E b:=
  λj=>wpAny_bind (wpAny_mono j (λr g hr=>wpAny_bind (ai (wpAny_point (wpAny_pure hr)))) λ_ _ x=>x)
 cases p:(args.any (·.1)||keywords.any (·.1.isNone)) <;>
  refine wpAny_bind (m:=cW (.ref a)) ?_<;>unfold cW <;>
  refine wpAny_bind (bT n ?_)<;>rw[l]<;>refine wpAny_pure ?_
 ·first
   | refine wpAny_ite ?_
   | skip
  split<;>first
   | exact c f
   | exact c (by unfold callMarked;exact cP f)
 ·first
   | exact c (by unfold callMarked;exact cP f)
   | exact c f
section
variable {orc:er}(ho:iM C d orc) {A:Around}{env:Env}{pos:Pos}{es:List Expr}{kws:List Keyword}{x:Value}{as kv:List V}{v:V}{hp':List O}(hk:kws.all (λk=>k.arg.isSome)=true) (hr:dY d A) (ha:At C κ cs env st W) (h1:fS C d κ cs es st as dy) (h2:fS C d κ cs (kws.map (·.value)) dy kv dC)
include ho hk hr ha h1 h2
theorem call_top (t:orc.top a as (kws.filterMap (·.arg)) kv dC.hp=some (v,hp')) :
  Tr C κ cs env A (bo pos (.ref a) [] (es.map λe=>(false,eval e env)) (aX pos (keywordEach kws env))) ⟨dC.loc,hp'⟩ (λW' c=>dz C W' v c) W:=λQ E h=>by
 obtain ⟨⟨o,g,m,w⟩,b⟩:=ho.top _ _ _ _ _ _ _ t
 refine callWith_function_kw (o:=o) (fd:=g) (vH hk h1 h2 hr ha _ _ λu z s f ⟨r,p,i,n⟩=>⟨⟨f.H.I _ _ (f.H.top _ _ m),w⟩,?_⟩)
 rw[p,List.nil_append]
 exact f.th (b A u _ r hr f.H i n) Q E λq c l j y=>h q c (s.trans l) j y
theorem iA {i:Nat}{a:Addr}(e:W.σ[i]?=some a) (b:Bv orc as (kws.filterMap (·.arg)) kv dC.hp dC.hp[i]?=some (v,hp')) :
  Tr C κ cs env A (bo pos (.ref a) [] (es.map λe=>(false,eval e env)) (aX pos (keywordEach kws env))) ⟨dC.loc,hp'⟩ (λW' c=>dz C W' v c) W:=λQ E h=>by
 cases j:dC.hp[i]? with
 | none=>rw[j] at b;exact nS b
 | some o=>cases o with
  | fn f H n=>
   rw[j] at b
   cases m:kws.filterMap (·.arg) with
   | cons=>rw[m] at b;exact nS b
   | nil=>
    rw[m] at b
    cases kv with
    | cons=>exact nS b
    | nil=>
     have g:=ho.mx _ _ _ _ _ _ b
     refine xX (vH hk h1 h2 hr ha _ _ λB t p l ⟨G,w,r,J⟩=>?_)
     obtain ⟨I,q,F⟩:=vc l.H (p.σ _ _ e) j
     have y:t.kw=[]:=by rw[w,m];rfl
     refine ⟨⟨_,_,F.t.at_,rfl⟩,?_⟩
     rw[y,List.nil_append]
     exact l.th (g A B _ i a n hr l.H j (p.σ _ _ e) r) Q E λu c s z D=>h u c (p.trans s) z D
  | _=>rw[j] at b;exact nS b
theorem G5 {id:String} (n:W.G.I u=some (lQ.mz id (.ref a))) (e:W.σ[i]?=some a) (l:r_ id as (kws.filterMap (·.arg)) kv dC.hp (.ref i)=some (v,hp')) :
  Tr C κ cs env A (bo pos (.ref u) [] (es.map λe=>(false,eval e env)) (aX pos (keywordEach kws env))) ⟨dC.loc,hp'⟩ (λW' c=>dz C W' v c) W:=λQ E h=>by
 refine dN l λm l=>?_
 obtain ⟨rfl,b,rfl⟩:=m
 cases kws with
 | cons k kws=>
  rw[List.all_cons,Bool.and_eq_true] at hk
  obtain ⟨y,s⟩:=Option.isSome_iff_exists.mp hk.1
  rw[List.filterMap_cons,s] at b
  exact I9 b
 | nil=>
  obtain rfl:=h2.QR
  refine lQ.yS (id:="list.append") (self:=.ref a) (mA es) (pH h1 hr ha _ _ λz w g f ⟨j,r⟩=>⟨f.H.I _ _ (g.G.I _ _ n),?_⟩)
  rw[j,List.nil_append]
  exact f.th (G8 f.H (f.H.I _ _ (g.G.I _ _ n)) (g.σ _ _ e) r l) Q E λp c o q t=>h p c (g.trans o) q t
theorem zc (m:es.all noStar=true) (h:dz C W f x) (g:iL orc f as (kws.filterMap (·.arg)) kv dC.hp=some (v,hp')) :
  Tr C κ cs env A (bo pos x [] (cN pos (starEach es env)) (aX pos (keywordEach kws env))) ⟨dC.loc,hp'⟩ (λW' c=>dz C W' v c) W:=by
 rw[ff m,gi]
 cases f with
 | con c=>
  obtain rfl:=h.inv
  cases x with
  | ref a=>exact call_top ho hk hr ha h1 h2 g
  | _=>exact nS g
 | ref i=>obtain ⟨a,rfl,e⟩:=h.inv;exact iA ho hk hr ha h1 h2 e g
 | bm id j=>
  cases j with
  | ref i=>
   obtain ⟨_,u,rfl,l,b⟩:=h.inv
   obtain ⟨a,rfl,e⟩:=b.inv
   exact G5 ho hk hr ha h1 h2 l e g
  | _=>exact nS g
 | _=>exact nS g
end
end
section
variable {d:Nat}{κ:K}{cs:List Nat}{st st' dy dC fi:St}{W:Wd}{hp:List O}
theorem TE.call (l:iM C d orc){es:List Expr}{kws:List Keyword} (q:es.all noStar=true) (r:kws.all (λk=>k.arg.isSome)=true) (j:TE C d κ cs (.Name x np) st f dy) (n:fS C d κ cs es dy as dC) (i:fS C d κ cs (kws.map (·.value)) dC kv fi) (o:iL orc f as (kws.filterMap (·.arg)) kv fi.hp=some (v,hp')) :
  TE C d κ cs (.Call (.Name x np) es kws pos) st v ⟨fi.loc,hp'⟩:=λA a W b t Q E h=>by
 refine wpAny_Call_Name_kw (j A a W b t _ _ λy c m p e=>?_)
 exact zc l r b p n i q e o Q E λw c u g s=>h w c (m.trans u) g s
theorem TE.mc (z:iM C d orc){g pos:Pos}{es:List Expr} (U:gZ o=true) (s:es.all noStar=true) (J:es.length < 25) (j:(g.endLine==pos.line)=true) (u:TE C d κ cs o st a dy) (l:isFn dy.hp a=true) (m:fM dy.hp a name=some f) (I:fS C d κ cs es dy as dC) (L:iL orc f as [] [] dC.hp=some (v,hp')) :
  TE C d κ cs (.Call (.Attribute o name g) es [] pos) st v ⟨dC.loc,hp'⟩:=λA b W n T Q E h=>by
 have y:cN pos (starEach es b)=es.map λe=>(false,eval e b):=by rw[ff s,gi]
 rw[arm_eval_Call,n9 U]
 refine wpAny_bind (u A b W n T _ _ λW1 x G q t=>?_)
 refine wpAny_bind (wpAny_standAt ?_)
 have i:methodCallForm (es.length+([]:List Keyword).length) (cN pos (starEach es b)) (aX pos (keywordEach [] b))=true:=by
  rw[y]
  unfold methodCallForm
  have D:keywordEach [] b=[]:=rfl
  simp only[List.all_map,D,aX,List.map_nil,List.all_nil,Bool.and_true,List.isEmpty_nil,if_true,Bool.and_eq_true,decide_eq_true_eq,List.length_nil]
  exact ⟨List.all_eq_true.mpr λ_ _=>rfl,by lia⟩
 have k:methodCallPos true o b g pos=pure pos:=by unfold methodCallPos;simp[j]
 unfold methodCall
 rw[i]
 refine wpAny_bind (ai ?_)
 refine yI q.H t l m _ _ λW2 r p ⟨c,B,N⟩=>?_
 subst B
 refine wpAny_bind (aY k ?_)
 exact zc z (kws:=[]) rfl n (q.el p) I .nil s N L Q E λH c w M Y=>h H c ((G.trans p.le).trans w) M Y
theorem xh {α a:Type}{f g:α->Option a}:∀{l:List α},(∀x∈l,f x=g x)->l.filterMap f=l.filterMap g
 | [],_=>rfl
 | x::l,h=>by rw[List.filterMap_cons,List.filterMap_cons,h x (.head _),xh λy b=>h y (.tail _ b)]
theorem AS {xs:List Value}:∀{ns:List Str},ns.Nodup->ns.length=xs.length->(ns.filterMap λn=>((ns.zip xs).lookup n).map (n,·))=ns.zip xs:=by
 intro ns
 induction ns generalizing xs with
 | nil=>intro _ _;rfl
 | cons n ns c=>
  intro g a
  cases xs with
  | nil=>cases a
  | cons x xs=>
   obtain ⟨e,b⟩:=List.nodup_cons.mp g
   rw[List.zip_cons_cons,List.filterMap_cons,List.lookup_cons,beq_self_eq_true]
   dsimp only[Option.map_some]
   rw[List.cons.injEq]
   refine ⟨rfl,?_⟩
   refine (xh λy f=>?_).trans (c b (by simpa using a))
   have:(y==n)=false:=beq_eq_false_iff_ne.mpr λz=>e (z▸f)
   rw[List.lookup_cons,this]
theorem lookup_some {xs:List Value}:∀{ns:List Str},ns.length=xs.length->∀n∈ns,((ns.zip xs).lookup n).isSome=true:=by
 intro ns
 induction ns generalizing xs with
 | nil=>intro _ n h;cases h
 | cons m ns b=>
  intro a n h
  cases xs with
  | nil=>cases a
  | cons x xs=>
   rw[List.zip_cons_cons,List.lookup_cons]
   split
   ·rfl
   ·rename_i q
    rcases List.mem_cons.mp h with rfl | h
    ·rw[beq_self_eq_true] at q;exact Vm.tF q
    ·exact b (by simpa using a) n h
theorem Bz {fd:FuncData}{xs:List Value} (hp:fd.params=⟨[],as,none,[],[],none,[]⟩) (hd:fd.defaults=.none) (hn:(as.map (·.arg)).Nodup) (hl:as.length=xs.length) :
  ba fd ⟨xs,[]⟩=pure ((as.map (·.arg)).zip xs):=by
 obtain ⟨_,_,_,_,_,_,_,_,_,_,_,_,_⟩:=fd
 subst hp hd
 generalize NI:as.map (·.arg)=ns at *
 have hl:ns.length=xs.length:=by rw[<- NI,List.length_map,hl]
 have e2:ns.take xs.length=ns:=List.take_of_length_le (Nat.le_of_eq hl)
 have e1:ns.filter (λn=>(List.lookup n (ns.zip xs)).isNone)=[]:=List.filter_eq_nil_iff.mpr λn Dt z=>by
  have:=lookup_some hl n Dt
  rw[Option.isNone_iff_eq_none.mp z] at this
  exact fT this
 unfold ba
 dsimp only
 refine (if_neg ?_).trans ?_
 ·rw[NI]
  show ¬(decide (ns.length < xs.length)&&_)=true
  rw[decide_eq_false (by rw[hl];exact Nat.lt_irrefl _)]
  exact Bool.false_ne_true
 rw[NI]
 refine (if_neg ?_).trans ?_
 ·show ¬(!(List.filter (λn=>(List.lookup n (ns.zip xs)).isNone) (List.take (ns.length - (List.drop (0 - ns.length) ([]:List Value)).length) ns)).isEmpty)=true
  rw[List.drop_nil,show ns.length - ([]:List Value).length=xs.length from hl,e2,e1]
  exact Bool.false_ne_true
 refine X' (show (List.drop ((List.map (λ(x:Arg)=>x.arg) []++ns).length - (List.drop (((none:Option (Array Value)).getD #[]).toList.length - (List.map (λ(x:Arg)=>x.arg) []++ns).length) ((none:Option (Array Value)).getD #[]).toList).length) (List.map (λ(x:Arg)=>x.arg) []++ns)).zip
       (List.drop (((none:Option (Array Value)).getD #[]).toList.length - (List.map (λ(x:Arg)=>x.arg) []++ns).length) ((none:Option (Array Value)).getD #[]).toList)=[] from ?_) ?_
 ·exact (congrArg _ (List.drop_nil ..)).trans (List.zip_nil_right ..)
 ·refine congrArg (pure:_->Sem (List (Str×Value))) ?_
  show List.filterMap _ (ns++[])=_
  rw[List.append_nil]
  exact AS hn hl
theorem iG.plain {fd:FuncData}{vs:List V} (hp:fd.params=⟨[],as,none,[],[],none,[]⟩) (hd:fd.defaults=.none) (hn:(as.map (·.arg)).Nodup) (hl:as.length=vs.length) :
  iG C fd vs [] [] (as.map (·.arg)) vs:=λA W hp' xs ks H rx rk Q E hq=>by
 have hx:=rx.length
 subst rk
 have e:=Bz (xs:=xs) hp hd hn (hl.trans hx)
 show wpAny _ _ (ba fd ⟨xs,[]⟩) _ _ _
 rw[e]
 refine wpAny_pure (hq W _ (hZ.refl W) ⟨?_,?_⟩)
 ·exact List.map_fst_zip (by simp;lia)
 ·rw[List.map_snd_zip (by simp;lia)];exact rx
end
section
variable {d:Nat}{κ:K}{cs:List Nat}{st st' dy dC fi:St}{W:Wd}{hp:List O}{g:Glob}{orc:er}{c:K->Expr->Option X}{k:Nat}
def gN (C:Ctx) (d:Nat) (orc:er) (c:K->Expr->Option X):Prop:=
 ∀(κ:K) (e:Expr) (x:X),c κ e=some x->∀(k:Nat) (cs:List Nat) (st:St) (v:V) (st':St),(ev orc k).E cs x st=some (v,st')->TE C d κ cs e st v st'/\∀b,ef st'.hp v=some b->TT C d κ cs e st b st'
def uC (C:Ctx) (d:Nat) (orc:er) (c:K->Expr->Option X):Prop:=
 ∀(κ:K) (e:Expr) (x:X),lD e=true->c κ e=some x->∀(k:Nat) (cs:List Nat) (st:St) (o:O) (st':St),eU (ev orc k) cs x st=some (o,st')->TF C d κ cs e st o st'
theorem ij (h:gN C d orc c) (f:dI (c κ) es=some xs) (a:fG (ev orc k) cs xs st=some (vs,st')):fS C d κ cs es st vs st':=by
 induction es generalizing xs st vs st' with
 | nil=>
  obtain rfl:=Option.some.inj f
  exact sE a <| .nil
 | cons e es s=>
  obtain ⟨x,i,l,o,rfl⟩:=d8 f
  exact mE a λv b m a=>mL a λp r j a=>fm a λn q=>n▸q▸.cons (h κ e x l k cs st v b m).1 (s o j)
theorem O6 (h:gN C d orc c) (p:dI (c κ) es=some xs) (a:Bi (ev orc k) cs xs st=some (v,st')) :
  TE C d κ cs (.BoolOp .And es pos) st v st'/\∀b,ef st'.hp v=some b->TT C d κ cs (.BoolOp .And es pos) st b st':=by
 induction es generalizing xs st v st' with
 | nil=>obtain rfl:=Option.some.inj p;exact nS a
 | cons e es B=>
  obtain ⟨x,s,o,m,rfl⟩:=d8 p
  cases es with
  | nil=>
   obtain rfl:=Option.some.inj m
   obtain ⟨l,j⟩:=h κ e x o k cs st v st' a
   refine ⟨.Je l,λb f=>?_⟩
   cases b with
   | true=>exact .lN (j true f) rfl .z5
   | false=>exact .jK (j false f) rfl
  | cons H es=>
   obtain ⟨E,r,D,G,q⟩:=d8 m
   rw[q] at a
   refine mE a λy n u a=>?_
   obtain ⟨l,j⟩:=h κ e x o k cs st y n u
   refine mB a (λf a=>?_) λf a=>fm a λA z=>?_
   ·rw[<- q] at a
    obtain ⟨w,t⟩:=B m a
    exact ⟨.lN l f rfl w,λb i=>.lN (j true f) rfl (t b i)⟩
   ·subst A z
    exact ⟨.jK l f rfl,λb i=>Option.some.inj (f.symm.trans i)▸.jK (j false f) rfl⟩
theorem Ry (h:gN C d orc c) (p:dI (c κ) es=some xs) (a:xr (ev orc k) cs xs st=some (v,st')) :
  TE C d κ cs (.BoolOp .Or es pos) st v st'/\∀b,ef st'.hp v=some b->TT C d κ cs (.BoolOp .Or es pos) st b st':=by
 induction es generalizing xs st v st' with
 | nil=>obtain rfl:=Option.some.inj p;exact nS a
 | cons e es B=>
  obtain ⟨x,s,o,m,rfl⟩:=d8 p
  cases es with
  | nil=>
   obtain rfl:=Option.some.inj m
   obtain ⟨l,j⟩:=h κ e x o k cs st v st' a
   refine ⟨.Je l,λb f=>?_⟩
   cases b with
   | false=>exact .lN (j false f) rfl .z5
   | true=>exact .jK (j true f) rfl
  | cons H es=>
   obtain ⟨E,r,D,G,q⟩:=d8 m
   rw[q] at a
   refine mE a λy n u a=>?_
   obtain ⟨l,j⟩:=h κ e x o k cs st y n u
   refine mB a (λf a=>fm a λA z=>?_) λf a=>?_
   ·subst A z
    exact ⟨.jK l f rfl,λb i=>Option.some.inj (f.symm.trans i)▸.jK (j true f) rfl⟩
   ·rw[<- q] at a
    obtain ⟨w,t⟩:=B m a
    exact ⟨.lN l f rfl w,λb i=>.lN (j false f) rfl (t b i)⟩
theorem Oq (h:gN C d orc c){ops:List b9}{es:List Expr} (hl:ops.length=es.length) (hm:dI (c κ) es=some xs) (he:ve (ev orc k) cs a ops xs st=some (b,st')):qo C d κ cs a ops es st b st':=by
 induction es generalizing ops xs a st b st' with
 | nil=>cases ops with
  | nil=>exact nS he
  | cons=>exact nomatch hl
 | cons e es ih=>cases ops with
  | nil=>exact nomatch hl
  | cons op ops=>
   obtain ⟨x,xs',e1,e2,rfl⟩:=d8 hm
   cases es with
   | nil=>
    obtain rfl:=List.length_eq_zero_iff.mp (Nat.succ.inj hl)
    obtain rfl:=Option.some.inj e2
    exact mE he λv1 st1 h1 he=>dK he λw h2 e9=>fm (congrArg some e9) λe6 e7=>e6▸e7▸.last (h κ e x e1 k cs st v1 _ h1).1 h2
   | cons e' es=>cases ops with
    | nil=>exact nomatch hl
    | cons Yg ops=>
     obtain ⟨x',aaN,e3,e4,e5⟩:=d8 e2
     rw[e5] at he
     refine mE he λv1 st1 h1 he=>?_
     have t1:=(h κ e x e1 k cs st v1 st1 h1).1
     refine mB he (λhb he=>?_) λhb he=>fm he λe6 e7=>e6▸e7▸.stop t1 hb
     rw[<- e5] at he
     exact .go t1 hb (ih (Nat.succ.inj hl) e2 he)
theorem vL (h:gN C d orc c) (j:dI (c κ) es=some xs) (a:o9 (ev orc k) cs xs st=some (b,st')):mG C d κ cs es st b st':=by
 induction es generalizing xs st b st' with
 | nil=>obtain rfl:=Option.some.inj j;exact sE a <| .nil
 | cons e es s=>
  obtain ⟨x,l,m,p,rfl⟩:=d8 j
  refine mE a λo i n a=>?_
  have t:=(h κ e x m k cs st o i n).2
  exact mB a (λf a=>.go (t true f) (s p a)) λf a=>fm a λr q=>r▸q▸.stop (t false f)
end
section
variable {d:Nat}{κ:K}{cs:List Nat}{st st' dy dC fi:St}{W:Wd}{hp:List O}{g:Glob}{orc:er}{c:K->Expr->Option X}{k:Nat}
theorem Cz (h:oF o=some x):o=some x/\(∀a,x≠.rev a)/\(∀a,x≠.enum a):=ee h λy e h=>by
 cases y with
 | rev | enum=>exact nS h
 | _=>obtain rfl:=Option.some.inj h;exact ⟨e,λ_ e=>X.noConfusion e,λ_ e=>X.noConfusion e⟩
theorem uJ (h:nL e=some (f,a)):∃p q,e=.Call (.Name f p) [a] [] q:=ee h λc m h=>by
 obtain ⟨g,i,j⟩:=c
 obtain ⟨p,hp⟩:=G6 m
 cases i with
 | nil=>exact nS h
 | cons b i=>cases i with
  | cons=>exact nS h
  | nil=>cases j with
   | cons=>exact nS h
   | nil=>exact dK h λx n e=>(nK n).elim λo l=>⟨o,p,by rw[hp,l,(af e).1,(af e).2]⟩
theorem Ca {o:Option Value} (h:o.bind Ai=some s):o=some (.type s):=ee h λv e h=>by
 cases v with
 | type a=>exact Option.some.inj h▸e
 | _=>exact nS h
theorem QU (t:TE C d κ cs e st v st1) (f:Aq st1 v=some (l,gd,st')):f_ C d κ cs e st l gd st':=by
 have h:∀{p:List V},f_ C d κ cs e st p none st1->some (p,(none:Gd),st1)=some (l,gd,st')->f_ C d κ cs e st l gd st':=λt f=>fm f λj n=>by
  injection n with n m
  exact j▸n▸m▸t
 cases v with
 | ref i=>
  have f:E4 i st1 st1.hp[i]?=some (l,gd,st'):=f
  cases j:st1.hp[i]? with
  | none=>rw[j] at f;exact nS f
  | some o=>cases o with
   | list p=>
    rw[j] at f
    exact dK f λz u w=>fm (congrArg some w) λn m=>by
     injection m with m e4
     exact n▸m▸e4▸.tracked t j u
   | _=>rw[j] at f;exact nS f
 | lst p=>exact h (.list t) f
 | tup p=>exact h (.tup t) f
 | str s=>exact h (.str t rfl) f
 | dw s=>exact h (.str t rfl) f
 | gf a b c=>
  refine dK f λy q r=>dN q λx q=>?_
  obtain rfl:=Option.some.inj q
  exact h (.gf t x) (congrArg some r)
 | _=>exact nS f
theorem Cy (h:gN C d orc c) (j:oF (c κ e)=some x) (a:fq (ev orc k) cs x st=some (l,gd,st')):f_ C d κ cs e st l gd st':=by
 obtain ⟨m,i,n⟩:=Cz j
 exact mE ((qi i n).symm.trans a) λv b f a=>QU (h κ e x m k cs st v b f).1 a
theorem TE.builtin (a:eY C g) (e:κ.scope.names.lookup x=some .globalImplicit) (f:g.top.lookup x=none) (b:g.blt.lookup x=some v):TE C d κ cs (.Name x pos) st (.con v) st:=by
 refine TE.glob e (.inr ⟨a.miss x f,a.blt x v b⟩) (λW _=>.con _) ?_
 cases q:x==("__debug__":Str) with
 | false=>rfl
 | true=>rw[eq_of_beq q,a.U_] at b;exact Vm.nS b
theorem vY (u:eY C g) (h:gN C d orc c) (b:srcOf g (c κ) κ e=some x) (i:fq (ev orc k) cs x st=some (l,gd,st')):f_ C d κ cs e st l gd st':=by
 have s:=λb:oF (c κ e)=some x=>Cy (k:=k) (cs:=cs) (st:=st) (st':=st') (l:=l) (gd:=gd) h b i
 have b:(match nL e with
  | some (f,a)=>if κ.scope.names.lookup f=some .globalImplicit/\g.top.lookup f=none then E5 g (c κ) e f a else oF (c κ e)
  | none=>oF (c κ e))=some x:=b
 cases t:nL e with
 | none=>rw[t] at b;exact s b
 | some q=>
  obtain ⟨f,a⟩:=q
  rw[t] at b
  dsimp only at b
  by_cases j:κ.scope.names.lookup f=some .globalImplicit/\g.top.lookup f=none
  ·rw[if_pos j] at b
   unfold E5 at b
   by_cases m:(g.blt.lookup f).bind Ai=some "reversed"
   ·rw[if_pos m] at b
    refine dN b λo b=>dK b λy z A=>?_
    subst A
    obtain ⟨p,q,rfl⟩:=uJ t
    have i:(match (ev orc k).E cs y st with
     | some (.lst l,st)=>some (l.reverse,(none:Gd),st)
     | _=>none)=some (l,gd,st'):=i
    cases r:(ev orc k).E cs y st with
    | none=>rw[r] at i;exact nS i
    | some p=>
     obtain ⟨v,B⟩:=p
     rw[r] at i
     cases v with
     | lst D=>
      refine fm i λw n=>?_
      injection n with n e3
      exact w▸n▸e3▸.rev o (TE.builtin u j.1 j.2 (Ca m)) (h κ a y z k cs st _ _ r).1
     | _=>exact nS i
   ·rw[if_neg m] at b
    exact eO b λ_ b=>s b
  ·rw[if_neg j] at b;exact s b
theorem vA {t:Comprehension}{f:St->Option (Bool×St)}{h:St->Option (List V×St)} (u:∀st b st',f st=some (b,st')->mG C d κ cs t.ifs st b st') (y:∀st out st',h st=some (out,st')->Eo C d κ cs elt r st out st'){st:St} (e:gx cs tg gd (λst=>match f st with
    | some (true,st)=>h st
    | some (false,st)=>some ([],st)
    | none=>none) l st=some (out,st')):oA C d κ cs elt (t,tg) r gd l st out st':=by
 induction l generalizing st out st' with
 | nil=>exact dN e λo e=>fm e λm n=>⟨o,m.symm,n.symm⟩
 | cons x l v=>
  exact dN e λo e=>mS e λs B e=>mL e λa q j e=>mL e λb A w e=>fm e λm n=>⟨o,s,B,mT j
   (λi p j=>.inr ⟨i,q,a,b,u _ _ _ p,y _ _ _ j,n▸v w,m.symm⟩)
   (λi p j=>fm j λz D=>.inl ⟨i,u _ _ _ p,(congrArg (·++b) z).trans m▸n▸v (D▸w)⟩)⟩
theorem Ks (A:eY C g) (h:gN C d orc c) (m:c κ elt=some o) (s:dI (λ(q:Comprehension)=>fO κ 5 q.target) a=some ts) (r:dI (λ(q:Comprehension)=>srcOf g (c κ) κ q.iter) a=some is) (u:dI (λ(q:Comprehension)=>dI (c κ) q.ifs) a=some fs) (w:∀q∈a,oQ q.iter=true) (e:j0 (ev orc k) cs o ts is fs st=some (out,st')):Eo C d κ cs elt (a.zip ts) st out st':=by
 induction a generalizing ts is fs st out st' with
 | nil=>
  obtain rfl:=Option.some.inj s
  obtain rfl:=Option.some.inj r
  obtain rfl:=Option.some.inj u
  exact mE e λv j G e=>fm e λB M=>⟨v,B.symm,M▸(h κ elt o m k cs st v _ G).1⟩
 | cons q a I=>
  obtain ⟨t,Q,Y,L,rfl⟩:=d8 s
  obtain ⟨i,J,H,T,rfl⟩:=d8 r
  obtain ⟨f,D,U,x,rfl⟩:=d8 u
  refine mR e λl y j N e=>?_
  rw[List.zip_cons_cons]
  refine ⟨λes k p z=>?_,l,y,j,vY A h H N,vA (λst b st'=>vL h U) (λst out st' n=>I L T x (λq E=>w q (.tail _ E)) n) e⟩
  have:=w q (.head _)
  rw[z] at this;exact fT this
end
section
variable {d:Nat}{κ:K}{cs:List Nat}{st st' dy dC fi:St}{W:Wd}{hp:List O}{g:Glob}{orc:er}{c:K->Expr->Option X}{k:Nat}
theorem TF.Wz (H:TE C d κ cs l st (.lst [a]) dy) (G:TE C d κ cs b dy (.int n) dC) (h0:0<=n) (h3:n < 65536) :
  TF C d κ cs (.BinOp l .Mult b pos) st (.list (List.replicate n.toNat a)) dC:=λA t W w N Q E h=>by
 refine wpAny_BinOp (H A t W w N _ _ λu x v r j=>G A t u w r _ _ λf y o i m=>?_)
 (refine m.inv.elim ?_;clear m;rintro _ rfl)
 have j:=j.mono o
 obtain ⟨B,vs,rfl,⟨z,s⟩,D⟩:=jC (hp:=dC.hp) i.H j rfl
 obtain ⟨q,_,rfl,J,L⟩:=D.inv
 obtain rfl:=L.inv
 refine cC (T:="list") (U:="int") (by decide) ⟨_,s,rfl⟩ (λM=>typeIs_int M _ _) noFill_list_mul PySem.F.fills_int_mul PySem.F.slot_int_rmul repeat_list PySem.F.slot_int_index.lookup
  (a_ PySem.F.slot_int_rmul (typeIs_int _ _ _) PySem.F.entry_int_rmul (PySem.F.args_int_rmul_2 _ _) (cQ n _ B [q].toArray z)
   ⟨s,rfl,⟨_,s,rfl⟩,a_ PySem.F.slot_list_mul ⟨_,s,rfl⟩ PySem.F.entry_list_mul (PySem.F.args_list_mul_2 _ _)
    (bF B [q].toArray z n _ (by simp[bJ];lia) (by simp;lia) (by simp[bQ,bk];lia))
    ⟨s,?_⟩⟩)
 have e:List.foldl (λY I=>Y++I) #[] (List.replicate (if [q].toArray.isEmpty=true then 0 else n.toNat) [q].toArray)=(List.replicate n.toNat q).toArray:=by
  have:=g7 q n.toNat #[]
  simpa using this
 rw[e]
 have p:hZ C f ⟨f.G,f.σ,{ f.s with heap:=f.s.heap.push ⟨.type "list",none,.seq (List.replicate n.toNat q).toArray 0,#[]⟩,toks:=f.s.toks }⟩:=(Pext0.push _ _).strict (Nat.le_refl _)
 exact h ⟨f.G,f.σ,_⟩ _ ((v.trans o).trans p.le) (i.el p) ⟨_,_,rfl,Nat.ne_of_gt i.lt,m9 i.H rfl,.list (dF.mono (dJ.replicate J n.toNat) p.le)⟩
inductive pB (C:Ctx) (d:Nat) (κ:K) (cs:List Nat) (elt:Expr) (gs:List Comprehension) (sc:Scope) (st:St) (out:List V) (st1 p9:St):Prop
 | mk (x:Str) (px:Pos) (iter:Expr) (ifs:List Expr) (rest:List Comprehension) (tg:Tg) (r:List (Comprehension×Tg)) (l:List V) (gd:Gd) (e:gs=⟨.Name x px,iter,ifs,0⟩::rest) (h1:j8 κ sc) (h2:∀es k p,iter≠.Set es k p)
  (h3:f_ C d κ cs iter st l gd st1) (h4:rest=r.map (·.1)) (h5:gj (κ.comp sc) (.Name x px) tg) (h6:∀p∈r,si (κ.comp sc) p)
  (h7:oA C d (κ.comp sc) ((List.range (d7 sc).length).map (st1.hp.length+·)++cs) elt (⟨.Name x px,iter,ifs,0⟩,tg) r gd l ⟨List.replicate (κ.comp sc).slots.length none,st1.hp++List.replicate (d7 sc).length (.cell none)⟩ out p9) (h8:out.length<=65536)
theorem pB.tf (h:pB C d κ cs elt gs sc st out st1 p9):TF C d κ cs (.ListComp elt gs sc pos) st (.list out) ⟨st1.loc,p9.hp⟩:=by
 obtain ⟨x,u,b,o,a,s,r,l,t,rfl,m,i,p,e,q,j,n,f⟩:=h
 exact .comp m i p e q j n f
theorem DR (h:n4 κ gs sc=true):j8 κ sc/\∀q∈gs,q.is_async=0/\(∃x e,q.target=.Name x e)/\oQ q.iter=true:=by
 unfold n4 at h
 simp only[Bool.and_eq_true,decide_eq_true_eq] at h
 obtain ⟨⟨⟨⟨n,l⟩,o⟩,j⟩,r⟩:=h
 obtain ⟨t,b⟩:=Option.isSome_iff_exists.mp l
 obtain ⟨f,u⟩:=ql b
 refine ⟨⟨eq_of_beq n,λx a=>let ⟨k,p,q⟩:=f x a;q,λx a=>let ⟨k,p,q⟩:=f x a;List.mem_of_getElem? (jI p),λx a m=>?_,j⟩,λq s=>?_⟩
 ·have:=List.all_eq_true.mp r x a
  rw[Bool.not_eq_true',List.contains_eq_mem,decide_eq_false_iff_not] at this
  exact this m
 ·have:=List.all_eq_true.mp o q s
  simp only[Bool.and_eq_true] at this
  refine ⟨eq_of_beq this.1.1,?_,this.2⟩
  have h:=this.1.2
  cases i:q.target with
  | Name x e=>exact ⟨x,e,rfl⟩
  | _=>rw[i] at h;cases h
theorem tW (h:oQ e=true):∀es k p,e≠.Set es k p:=λes k p z=>by rw[z] at h;exact Vm.fT h
theorem rX (D:eY C g) (h:gN C d orc c) (hc:n4 κ (j::gr) sc=true) (G:srcOf g (c κ) κ j.iter=some i0) (h2:dI (λ(q:Comprehension)=>srcOf g (c (κ.comp sc)) (κ.comp sc) q.iter) gr=some is) (h3:dI (λ(q:Comprehension)=>fO (κ.comp sc) 5 q.target) (j::gr)=some ts) (h4:dI (λ(q:Comprehension)=>dI (c (κ.comp sc)) q.ifs) (j::gr)=some fs) (U:c (κ.comp sc) elt=some xe) (i:rV (ev orc k) cs xe ts (i0::is) fs (κ.comp sc).slots.length (d7 sc).length st=some (out,st')):∃st1 a,pB C d κ cs elt (j::gr) sc st out st1 a/\st'=⟨st1.loc,a.hp⟩:=by
 obtain ⟨u,e⟩:=DR hc
 obtain ⟨t,B,H,A,rfl⟩:=d8 h3
 obtain ⟨f,T,L,M,rfl⟩:=d8 h4
 refine mR i λl N st1 hs i=>mL i λvs a ht i=>dN i λhz i=>fm i λe8 e9=>?_
 subst e8 e9
 obtain ⟨J,⟨x,px,I⟩,E⟩:=e j (.head _)
 obtain ⟨o,m,w,as⟩:=j
 dsimp only at J I E G H L
 subst J I
 have hl:=mQ A
 refine ⟨st1,a,⟨x,px,m,w,gr,t,gr.zip B,l,N,rfl,u,tW E,vY D h G hs,(List.map_fst_zip (Nat.le_of_eq hl.symm)).symm,gR H,λp hp=>?_,vA (λst b st'=>vL h L) (λst out st' s=>Ks D h U A h2 M (λq Y=>(e q (.tail _ Y)).2.2) s) ht,of_decide_eq_true hz⟩,rfl⟩
 obtain ⟨p1,p2⟩:=p
 have hm:=List.of_mem_zip hp
 obtain ⟨m0,⟨y,py,z⟩,_⟩:=e p1 (.tail _ hm.1)
 refine ⟨m0,y,py,z,?_⟩
 have v:∀{n:List Comprehension}{ts:List Tg},dI (λ(q:Comprehension)=>fO (κ.comp sc) 5 q.target) n=some ts->∀p∈n.zip ts,fO (κ.comp sc) 5 p.1.target=some p.2:=by
  intro n
  induction n with
  | nil=>intro ts _ p hp;cases hp
  | cons q n ih=>
   intro ts h p hp
   obtain ⟨b,r,Q,e2,rfl⟩:=d8 h
   rw[List.zip_cons_cons] at hp
   rcases List.mem_cons.mp hp with rfl | hp
   ·exact Q
   ·exact ih e2 p hp
 have:=v A _ hp
 dsimp only at this z
 rw[z] at this
 exact gR this
end
section
variable {d:Nat}{κ:K}{cs:List Nat}{st st' dy dC fi:St}{W:Wd}{hp:List O}{g:Glob}{orc:er}{c:K->Expr->Option X}{k:Nat}
theorem Gv (h:eU r cs x st=some (o,st')):(∃l,o=.list l)\/∃ks vs,o=.dict ks vs:=by
 cases x with
 | list l=>exact dK h λy _ e=>.inl ⟨_,(congrArg cD e).symm⟩
 | bin i a b=>exact dN h λ_ h=>zj h λl v f n _ _ _ _ e=>.inl ⟨_,e⟩
 | dict ks vs=>exact mL h λ_ _ _ h=>mL h λ_ _ _ h=>dN h λ_ h=>fm h λe _=>.inr ⟨_,_,e.symm⟩
 | star l=>exact mL h λ_ _ _ h=>dK h λy _ e=>.inr ⟨_,_,(congrArg cD e).symm⟩
 | comp=>exact dK h λy _ e=>.inl ⟨_,(congrArg cD e).symm⟩
 | _=>exact nS h
theorem Kl {ls:List (Str×Nat×Pos)} (h:fG (ev orc k) cs (ls.map λl=>.k (.dw l.1)) st=some (vs,st')):vs=ls.map (λl=>.dw l.1)/\st'=st:=by
 induction ls generalizing st st' vs with
 | nil=>exact fm h λa b=>⟨a.symm,b.symm⟩
 | cons l ls p=>
  refine mE h λv r e h=>mL h λj o n h=>fm h λa b=>?_
  cases k with
  | zero=>exact nS e
  | succ k=>
   refine fm e λq m=>?_
   subst q m
   obtain ⟨f,i⟩:=p n
   exact ⟨a.symm.trans (congrArg (V.dw l.1::·) f),b.symm.trans i⟩
section
variable (hG:eY C g) (hE:gN C d orc c)
include hE
theorem FF (hx:gF g c κ (.List l pos)=some x) (he:eU (ev orc k) cs x st=some (o,st')):TF C d κ cs (.List l pos) st o st':=by
 refine eO hx λhc hx=>dK hx λxs h1 e1=>?_
 subst e1
 refine dK he λy h2 e2=>fm (congrArg some e2) λe3 e4=>?_
 subst e3 e4
 rw[Bool.not_eq_true',Bool.not_eq_false,Bool.and_eq_true] at hc
 have t:=ij hE h1 h2
 exact .list hc.1 t.tl (of_decide_eq_true hc.2) t.length
theorem J_ (q:gF g c κ (.BinOp a op b pos)=some x) (f:eU (ev orc k) cs x st=some (o,st')):TF C d κ cs (.BinOp a op b pos) st o st':=by
 refine lp q λz t s m p=>?_
 obtain rfl:=Option.some.inj p
 refine dN f λr f=>zj f λl v e n y w j h i=>?_
 subst y i
 have u:(ev orc (k+1)).E cs (.list l) st=some (.lst [v],e):=qM (qM w)
 cases op with
 | Mult=>exact .Wz (hE κ a (.list l) s (k+1) cs st _ _ u).1 (hE κ b t m k cs e _ _ j).1 h.1 h.2
 | _=>exact fT r
theorem FE {ks:List (Option Expr)}{vs:List Expr} (hc:(ks.all (·.isNone)&&!ks.isEmpty&&ks.length==vs.length)=true) (h1:dI (c κ) vs=some xs) (he:eU (ev orc k) cs (.star xs) st=some (o,st')):TF C d κ cs (.Dict ks vs pos) st o st':=
 mL he λl st1 h2 he=>dK he λy h3 e2=>fm (congrArg some e2) λe3 e4=>by
  rw[Bool.and_eq_true,Bool.and_eq_true] at hc
  have hl:ks.length=vs.length:=eq_of_beq hc.2
  refine e3▸e4▸.star hc.1.1 hl (λq=>?_) (ij hE h1 h2) h3
  rw[List.length_eq_zero_iff.mp (hl.trans (congrArg List.length q))] at hc
  exact fT hc.1.2
theorem C2 {ls:List (Str×Nat×Pos)}{vs:List Expr} (b:ls.length=vs.length/\ls.length<=15) (j:dI (c κ) vs=some xv) (a:eU (ev orc k) cs (.dict (ls.map λl=>.k (.dw l.1)) xv) st=some (o,st')) :
  TF C d κ cs (.Dict (ls.map λl=>some (.Constant (.str l.1) l.2.1 l.2.2)) vs pos) st o st':=
 mL a λs q p a=>mL a λr m i a=>dN a λf a=>fm a λe h=>by
  obtain ⟨rfl,rfl⟩:=Kl p
  have t:=ij hE j i
  have n:(ls.map λl=>V.dw l.1).map eN=ls.map λl=>V.str l.1:=by rw[List.map_map];rfl
  rw[n] at f e
  rw[<- e,<-h]
  cases ls with
  | nil=>
   obtain rfl:=List.length_eq_zero_iff.mp b.1.symm
   rw[t.oR.1,<-t.oR.2]
   exact .SG
  | cons l ls=>exact .dict b.1 (List.cons_ne_nil _ _) b.2 t (uy f.2.1)
theorem FG (a:gF g c κ (.Dict ks vs pos)=some x) (f:eU (ev orc k) cs x st=some (o,st')):TF C d κ cs (.Dict ks vs pos) st o st':=
 Nh a (λb a=>dK a λn h e=>FE hE b h (e▸f)) λ_ a=>eO a λb a=>lp a λq m h l e=>by
  rw[Bool.not_eq_true',Bool.not_eq_false,Bool.and_eq_true] at b
  have j:=of_decide_eq_true b.2
  have i:ks.length=vs.length:=eq_of_beq b.1
  rw[<- Option.some.inj e] at f
  obtain ⟨p,rfl,rfl⟩:=rG h
  rw[List.length_map] at j i
  exact C2 hE ⟨i,j⟩ l f
include hG
theorem FH (hx:gF g c κ (.ListComp elt gs sc pos)=some x) (he:eU (ev orc k) cs x st=some (o,st')):TF C d κ cs (.ListComp elt gs sc pos) st o st':=by
 refine eO hx λhc hx=>?_
 rw[Bool.not_eq_true',Bool.not_eq_false] at hc
 cases gs with
 | nil=>exact nS hx
 | cons gc gr=>
  refine AK hx λi0 is ts fs xe h1 h2 h3 h4 h5 e1=>?_
  obtain rfl:=Option.some.inj e1
  refine dK he λy h6 e2=>fm (congrArg some e2) λe3 e4=>?_
  obtain ⟨st1,p9,hf,e5⟩:=rX hG hE hc h1 h2 h3 h4 h5 h6
  exact e3▸e4▸e5▸hf.tf
end
theorem wD (m:eY C g) (h:gN C d orc c):uC C d orc (gF g c):=by
 intro κ e x n i k cs st o st' j
 cases e with
 | List l f=>exact FF h i j
 | BinOp a s b f=>exact J_ h i j
 | Dict r t f=>exact FG h i j
 | ListComp p u q f=>exact FH m h i j
 | _=>exact fT n
end
section
variable {d:Nat}{κ:K}{cs:List Nat}{dy dC fi:St}{W:Wd}{hp:List O}{g:Glob}{orc:er}{c:K->Expr->Option X}{k:Nat}
theorem gg {α:Type _}{c:Prop} [Decidable c] {a:α}{x:Option α}{y:α}{G:Prop}(h:(if c then some a else x)=some y) (k:c->a=y->G) (k2:x=some y->G):G:=by
 by_cases q:c
 ·exact k q (Option.some.inj ((if_pos q).symm.trans h))
 ·exact k2 ((if_neg q).symm.trans h)
theorem Ha (h:OT v=some b):v=i3 b:=by
 have a:∀{s t:String}{f:Bf},s=t->f=b->i3 f=.builtin t->Value.builtin s=i3 b:=λj l i=>by subst j l;exact i.symm
 have e:∀{s t:String}{f:Bf},s=t->f=b->i3 f=.type t->Value.type s=i3 b:=λj l i=>by subst j l;exact i.symm
 cases v with
 | builtin s=>exact gg h (a · · rfl) λh=>gg h (a · · rfl) λh=>gg h (a · · rfl) λh=>gg h (a · · rfl) λh=>gg h (a · · rfl) λh=>gg h (a · · rfl) λh=>gg h (a · · rfl) λh=>gg h (a · · rfl) λh=>gg h (a · · rfl) nS
 | type s=>exact gg h (e · · rfl) λh=>gg h (e · · rfl) λh=>gg h (e · · rfl) nS
 | _=>exact nS h
theorem C7 (h:AO n=some m):n=jk m:=by
 have a:∀{t:Str}{b:Mt},n=t->b=m->jk b=t->n=jk m:=λf i e=>by subst f i;exact e.symm
 exact gg h (a · · rfl) λh=>gg h (a · · rfl) λh=>gg h (a · · rfl) λh=>gg h (a · · rfl) λh=>gg h (a · · rfl) λh=>gg h (a · · rfl) λh=>gg h (a · · rfl) λh=>gg h (a · · rfl) λh=>gg h (a · · rfl) λh=>gg h (a · · rfl) λh=>gg h (a · · rfl) nS
theorem yH:AO "append"=some .append:=rfl
theorem Ee (h:fM hp o n=some f) (a:n≠"append"):isFn hp o=true:=by
 cases o with
 | ref i=>
  have h:og hp i n hp[i]?=some f:=h
  show rK hp[i]?=true
  cases e:hp[i]? with
  | none=>rw[e] at h;exact nS h
  | some o=>cases o with
   | fn=>rfl
   | list=>rw[e] at h;exact dN h λz _=>absurd z a
   | _=>rw[e] at h;exact nS h
 | _=>exact nS h
theorem FN {α e j:Type}{f:e->Option j}{h:α->e}{l:List α}:dI f (l.map h)=dI (λx=>f (h x)) l:=by
 induction l with
 | nil=>rfl
 | cons a l i=>
  show (match f (h a) with | some b=>(match dI f (l.map h) with | some r=>some (b::r) | none=>none) | none=>none)=_
  rw[i];rfl
theorem both {st:St} (t:TE C d κ cs e st v st') (hp:∀f a,bG e f a=(do let v←a;standAt e.pos;aP [v] (truthy v))):TE C d κ cs e st v st'/\∀b,ef st'.hp v=some b->TT C d κ cs e st b st':=
 ⟨t,λ_ h=>.plain t h hp⟩
theorem Jc {st:St}{r:Ev} (m:(match kq cs (.cell i) st with
   | some v=>some (v,st)
   | none=>none)=some (v,st')):∃j,cs[i]?=some j/\st.hp[j]?=some (.cell (some v))/\st=st':=by
 have e:∀{o:Option V},(match o with | some v=>some (v,st) | none=>none)=some (v,st')->o=some v/\st=st':=λ{o} h=>by
  cases o with
  | none=>exact nS h
  | some w=>exact fm h λl n=>⟨congrArg some l,n⟩
 obtain ⟨a,f⟩:=e m
 unfold kq at a
 dsimp only at a
 cases q:cs[i]? with
 | none=>rw[q] at a;exact nS a
 | some j=>
  rw[q] at a
  dsimp only at a
  cases b:st.hp[j]? with
  | none=>rw[b] at a;exact nS a
  | some o=>cases o with
   | cell w=>rw[b] at a;exact ⟨j,rfl,(congrArg (λz=>some (O.cell z)) a)▸b,f⟩
   | _=>rw[b] at a;exact nS a
theorem ML (n:eY C g) (a:Iu g κ x=some y){st:St} (b:(ev orc k).E cs y st=some (v,st')):TE C d κ cs (.Name x p) st v st':=by
 cases k with
 | zero=>exact nS b
 | succ k=>
 refine eO a λl a=>?_
 have l:(x==("__debug__":Str))=false:=eq_false_of_ne_true l
 cases h:κ.scope.names.lookup x with
 | none=>rw[h] at a;exact nS a
 | some q=>
  rw[h] at a
  cases q with
  | «local»=>
   refine dK a λi m e=>?_
   subst e
   have b:(match st.loc[i]? with
    | some (some v)=>some (v,st)
    | _=>none)=some (v,st'):=b
   cases f:st.loc[i]? with
   | none=>rw[f] at b;exact nS b
   | some w=>cases w with
    | none=>rw[f] at b;exact nS b
    | some w=>rw[f] at b;exact sE b <| .loc (jI m) h f l
  | cell=>
   refine dK a λi m e=>?_
   subst e
   obtain ⟨j,u,z,rfl⟩:=Jc (r:=ev orc k) b
   exact .cell (jI m) (.inl h) u z l
  | free=>
   refine eO a λs a=>dK a λi m e=>?_
   subst e
   obtain ⟨j,u,z,rfl⟩:=Jc (r:=ev orc k) b
   exact .cell (jI m) (.inr ⟨h,eq_false_of_ne_true s⟩) u z l
  | globalImplicit=>
   have a:Iw g x (g.vals.lookup x)=some y:=a
   cases f:g.vals.lookup x with
   | some w=>
    rw[f] at a
    obtain rfl:=Option.some.inj a
    obtain ⟨c,A,B⟩:=n.vals x w f
    exact sE b <| .glob h (.inl A) B l
   | none=>
    rw[f] at a
    have a:Iv g x (g.top.lookup x)=some y:=a
    cases o:g.top.lookup x with
    | some w=>
     rw[o] at a
     obtain rfl:=Option.some.inj a
     refine sE b <| .glob h (.inl (n.top x w o)) (λW _=>?_) l
     cases w with
     | int i t=>exact .int _ _
     | _=>exact .con _
    | none=>
     rw[o] at a
     refine dK a λw D e=>?_
     subst e
     exact sE b <| .glob h (.inr ⟨n.miss x o,n.blt x w D⟩) (λW _=>.con _) l
  | _=>exact nS a
end
section
variable {d:Nat}{κ:K}{cs:List Nat}{dy dC fi:St}{W:Wd}{hp:List O}{g:Glob}{orc:er}{c:K->Expr->Option X}{k:Nat}
abbrev BP (C:Ctx) (d:Nat) (κ:K) (cs:List Nat) (e:Expr) (st:St) (v:V) (st':St):Prop:=TE C d κ cs e st v st'/\∀b,ef st'.hp v=some b->TT C d κ cs e st b st'
theorem Ur {st:St} (h:ef st.hp (.bool b)=some b') (t:TT C d κ cs e s b st):TT C d κ cs e s b' st:=Option.some.inj h▸t
@[elab_as_elim] theorem Bu {G:X->Prop} (h:vh kn f as kv=some x) (i:G (.call f as kn kv)) (j:∀b,f=.k (.con (i3 b))->kn=[]->G (.bf b as)):G x:=
 oE h (λv a h=>oE h (λb m h=>dN h λl e=>Option.some.inj e▸j b ((zX a).trans (congrArg (λv=>X.k (.con v)) (Ha m))) (List.isEmpty_iff.mp l)) λ_ h=>Option.some.inj h▸zX a▸i) λ_ h=>Option.some.inj h▸i
theorem MG {kws:List Keyword} (h:kws.all (λk=>k.arg.isSome)=true) (a:kws.filterMap (·.arg)=[]):kws=[]:=by
 cases kws with
 | nil=>rfl
 | cons q kws=>
  rw[List.all_cons,Bool.and_eq_true] at h
  rw[List.filterMap_cons,(Option.isSome_iff_exists.mp h.1).choose_spec] at a
  exact (nomatch a)
theorem sW (hN:uC C d orc (gF g c)) {e:Expr}{x:X}(hf:lD e=true) (hx:gF g c κ e=some x) {st st':St}{v:V}(he:((eU (ev orc k) cs x st).map λy=>(sU y.1,y.2))=some (v,st')):TE C d κ cs e st v st':=
 dK he λy h1 h2=>sE (congrArg some h2) <| (hN κ e x hf hx k cs st _ _ h1).frozen (Gv h1)
section
variable {st st':St}{v:V}{x:X}(hE:gN C d orc c) (ho:iM C d orc)
include hE
theorem CS {a:Option Expr} (f:AB c κ a=some x) (b:(ev orc k).E cs x st=some (v,st')):uA C d κ cs a st v st':=by
 cases a with
 | none=>
  obtain rfl:=Option.some.inj f
  cases k with
  | zero=>exact nS b
  | succ k=>exact sE b <| .none
 | some e=>exact .some (hE κ e x f k cs st v st' b).1
theorem QO (b:LV c κ o i=some x) (a:(ev orc (k+1)).E cs x st=some (v,st')):TE C d κ cs (.Subscript o i pos) st v st':=
 oE b (λy L b=>(JO L).elim λp q=>by
  obtain ⟨Q,N,f⟩:=y
  subst q
  cases f with
  | some s=>exact nS b
  | none=>
   refine oO b λu I G j h l e=>?_
   obtain rfl:=Option.some.inj e
   exact mE a λB r n a=>mE a λJ t m a=>mE a λM E A a=>dK a λw D z=>sE (congrArg some z) <| .k_ (hE κ o u j k cs st _ _ n).1 (CS hE h m) (CS hE l A) D)
 λ_ b=>lp b λu T j h e=>by
  obtain rfl:=Option.some.inj e
  exact mE a λB r l a=>mE a λJ t n a=>dK a λw m H=>sE (congrArg some H) <| .sub (hE κ o _ j k cs st _ _ l).1 (hE κ i _ h k cs _ _ _ n).1 m
theorem Vx (r:(c κ a).map (X.un op)=some x) (h:(ev orc (k+1)).E cs x st=some (v,st')):BP C d κ cs (.UnaryOp op a pos) st v st':=by
 refine dK r λn q e=>?_
 subst e
 have z:∀{op:UnaryOp},(∀m f,bG (.UnaryOp op a pos) m f=(do let v←f;standAt (Expr.UnaryOp op a pos).pos;aP [v] (truthy v)))->(match (ev orc k).E cs n st with
   | some (a,st)=>(HY op a).map (·,st)
   | none=>none)=some (v,st')->BP C d κ cs (.UnaryOp op a pos) st v st':=λu h=>
  mE h λs p l h=>dK h λw i o=>sE (congrArg some o) <| both (.un (hE κ a n q k cs st _ _ l).1 i) u
 cases op with
 | Not=>
  exact mE h λs p l h=>dK h λb i o=>sE (congrArg some o) <| (hE κ a n q k cs st _ _ l).elim λy t=>⟨.not y i,λA j=>Ur j (.not (t b i))⟩
 | Invert | UAdd | USub=>exact z (λ_ _=>rfl) h
theorem SO (hx:gF g c κ (.Compare a ops l pos)=some x) (he:(ev orc (k+1)).E cs x st=some (v,st')):BP C d κ cs (.Compare a ops l pos) st v st':=by
 refine eO hx λhc hx=>lp hx λxa xl h1 h2 e=>?_
 obtain rfl:=Option.some.inj e
 simp only[Bool.or_eq_true,not_or,Bool.not_eq_true] at hc
 have hl:ops.length=l.length:=bne_eq_false_iff_eq.mp hc.2
 refine mE he λva st1 h3 he=>dK he λy h5 e6=>sE (congrArg some e6) <| ?_
 have t1:=(hE κ a xa h1 k cs st _ _ h3).1
 have t2:=Oq hE hl h2 h5
 exact ⟨.cmp hc.1 t1 t2,λb' Zz=>Ur Zz (.cmp hc.1 t1 t2)⟩
theorem R_ (p:gF g c κ (.IfExp q a b pos)=some x) (h:(ev orc (k+1)).E cs x st=some (v,st')):BP C d κ cs (.IfExp q a b pos) st v st':=by
 refine oO p λy w z r o s e=>?_
 obtain rfl:=Option.some.inj e
 refine mE h λA j u h=>?_
 have t:=(hE κ q y r k cs st _ _ u).2
 exact mB h (λi h=>(hE κ a w o k cs j _ _ h).elim λn m=>⟨.dT (t true i) n,λl f=>.dT (t true i) (m l f)⟩)
  λi h=>(hE κ b z s k cs j _ _ h).elim λn m=>⟨.dT (t false i) n,λl f=>.dT (t false i) (m l f)⟩
theorem Qr (hx:gF g c κ (.Tuple l kk pos)=some x) (he:(ev orc (k+1)).E cs x st=some (v,st')):TE C d κ cs (.Tuple l kk pos) st v st':=by
 refine eO hx λhc hx=>dK hx λxs h1 e=>?_
 subst e
 rw[Bool.not_eq_true',Bool.not_eq_false,Bool.and_eq_true] at hc
 refine dK he λy h2 e6=>sE (congrArg some e6) <| ?_
 have t:=ij hE h1 h2
 exact .tup hc.1 t.tl (of_decide_eq_true hc.2) t.length
include ho
theorem MT {i pos:Pos}{as:List Expr}{kws:List Keyword} (B:(if !(gZ o&&as.all noStar&&kws.isEmpty&&decide (as.length < 25)&&i.endLine==pos.line) then none else o2 (c κ o) (dI (c κ) as) λo as=>some (MO name o as))=some x) (a:(ev orc (k+1)).E cs x st=some (v,st')):TE C d κ cs (.Call (.Attribute o name i) as kws pos) st v st':=by
 refine eO B λA B=>lp B λw E J I e=>?_
 obtain rfl:=Option.some.inj e
 rw[Bool.not_eq_true',Bool.not_eq_false] at A
 simp only[Bool.and_eq_true,decide_eq_true_eq] at A
 obtain ⟨⟨⟨⟨N,G⟩,c3⟩,L⟩,H⟩:=A
 obtain rfl:kws=[]:=List.isEmpty_iff.mp c3
 have M:∀{j f:V}{b h:St}{s:List V}{y:V×List O},(ev orc k).E cs w st=some (j,b)->isFn b.hp j=true->fM b.hp j name=some f->fG (ev orc k) cs E b=some (s,h)->iL orc f s [] [] h.hp=some y->(y.1,(⟨h.loc,y.2⟩:St))=(v,st')->
   TE C d κ cs (.Call (.Attribute o name i) as [] pos) st v st':=λa1 Y a3 U T a6=>sE (congrArg some a6) <| .mc ho N G L H (hE κ o w J k cs st _ _ a1).1 Y a3 (ij hE I U) T
 unfold MO at a
 cases q:AO name with
 | some m=>
  rw[q] at a
  have Q:=C7 q
  refine mE a λj b t a=>?_
  cases l:isFn b.hp j with
  | true=>exact mV ((if_pos l).symm.trans a) λf u a=>mL a λs h r a=>dK a λy p n=>M t l (by rw[Q];exact u) r p n
  | false=>
   refine mK ((if_neg (by rw[l];decide)).symm.trans a) λkk D a=>mL a λs h r a=>dK a λy p n=>sE (congrArg some n) <| ?_
   exact .mt Q N G L H (hE κ o w J k cs st _ _ t).1 D (ij hE I r) p
 | none=>
  rw[q] at a
  exact mE a λj b t a=>mV a λf l a=>mL a λs h r a=>dK a λy p n=>M t (Ee l λz=>by rw[z,yH] at q;exact sN q) l r p n
theorem Ow {as:List Expr}{kws:List Keyword} (hx:(if !(as.all noStar&&decide (as.length+kws.length < 12)&&kws.all (λk=>k.arg.isSome)) then none else o3 (c κ (.Name y np)) (dI (c κ) as) (dI (λk=>c κ k.value) kws) λf as kv=>vh (kws.filterMap (·.arg)) f as kv)=some x) (he:(ev orc (k+1)).E cs x st=some (v,st')):TE C d κ cs (.Call (.Name y np) as kws pos) st v st':=by
 refine eO hx λhc hx=>oO hx λxf xas xkv h1 h2 h3 hx=>?_
 rw[Bool.not_eq_true',Bool.not_eq_false,Bool.and_eq_true,Bool.and_eq_true] at hc
 refine Bu (G:=λx=>(ev orc (k+1)).E cs x st=some (v,st')->TE C d κ cs (.Call (.Name y np) as kws pos) st v st') hx (λhe=>?_) (λb hf hk he=>?_) he
 ·exact mE he λvf st1 h4 he=>mL he λvs st2 h5 he=>mL he λks st3 h6 he=>dK he λw h7 e8=>sE (congrArg some e8) <| .call ho hc.1.1 hc.2 (hE κ _ xf h1 k cs st _ _ h4).1 (ij hE h2 h5) (ij hE (by rw[FN];exact h3) h6) h7
 ·obtain rfl:=MG hc.2 hk
  exact mL he λvs st1 h4 he=>dK he λw' h5 e8=>sE (congrArg some e8) <| .bf (hE κ _ _ (hf▸h1) 1 cs st _ st rfl).1 hc.1.1 (ij hE h2 h4) h5
end
theorem R6 (j:eY C g) {st st':St}{v:V}{x:X}{a:a7}{b:Expr}{sc:Scope}{pos:Pos}(h:gF g c κ (.Lambda a b sc pos)=some x) (i:(ev orc (k+1)).E cs x st=some (v,st')):TE C d κ cs (.Lambda a b sc pos) st v st':=by
 refine eO h λf h=>dK h λn m e=>?_
 subst e
 rw[Bool.not_eq_true',Bool.not_eq_false,Bool.and_eq_true] at f
 exact mC i λo l i=>sE i <| .lam j f.1 m l (eq_of_beq f.2)
theorem GN (hG:eY C g) (ho:iM C d orc) (hE:gN C d orc c):gN C d orc (gF g c):=by
 have hN:=wD hG hE
 intro κ e x hx k cs st v st' he
 cases k with
 | zero=>exact nS he
 | succ k=>
 cases e with
 | Constant c kk pos=>cases c with
  | int i=>obtain rfl:=Option.some.inj hx;exact both (sE he <| .const_int) λ_ _=>rfl
  | str s=>obtain rfl:=Option.some.inj hx;exact both (sE he <| .uv) λ_ _=>rfl
  | bool b=>obtain rfl:=Option.some.inj hx;exact both (sE he <| .Bp) λ_ _=>rfl
  | none=>obtain rfl:=Option.some.inj hx;exact both (sE he <| .const_none) λ_ _=>rfl
  | _=>exact nS hx
 | Name a p=>exact both (ML hG hx he) λ_ _=>rfl
 | BinOp a op b pos=>
  refine lp hx λxa xb h1 h2 e=>?_
  obtain rfl:=Option.some.inj e
  exact mE he λva st1 h3 he=>mE he λvb st2 h4 he=>dK he λw h5 e6=>sE (congrArg some e6) <| both (.bin (hE κ a xa h1 k cs st _ _ h3).1 (hE κ b xb h2 k cs _ _ _ h4).1 h5) λ_ _=>rfl
 | UnaryOp op a pos=>exact Vx hE hx he
 | BoolOp op l pos=>cases op with
  | And=>exact dK hx λxs h1 e=>by subst e;exact O6 hE h1 he
  | Or=>exact dK hx λxs h1 e=>by subst e;exact Ry hE h1 he
 | Compare a ops l pos=>exact SO hE hx he
 | IfExp q a b pos=>exact R_ hE hx he
 | Attribute o a pos=>
  refine eO hx λhc hx=>dK hx λxo h1 e=>?_
  subst e
  exact mE he λva st1 h3 he=>dK he λw h5 e6=>sE (congrArg some e6) <| both (.attr (by simpa using hc) (hE κ o xo h1 k cs st _ _ h3).1 h5) λ_ _=>rfl
 | List l pos=>
  refine both (sW (k:=k) hN rfl hx ?_) λ_ _=>rfl
  exact eO hx λ_ hx=>dK hx λxs _ e=>by subst e;exact he
 | Dict ks vs pos=>
  refine both (sW (k:=k) hN rfl hx ?_) λ_ _=>rfl
  have hx:Bo c κ ks vs=some x:=hx
  unfold Bo at hx
  by_cases q:(ks.all (·.isNone)&&!ks.isEmpty&&ks.length==vs.length)=true
  ·rw[if_pos q] at hx;exact dK hx λxs _ e=>by subst e;exact he
  ·rw[if_neg q] at hx;exact eO hx λ_ hx=>lp hx λ_ _ _ _ e=>by obtain rfl:=Option.some.inj e;exact he
 | ListComp elt gs sc pos=>
  refine both (sW (k:=k) hN rfl hx ?_) λ_ _=>rfl
  refine eO hx λ_ hx=>?_
  cases gs with
  | nil=>exact nS hx
  | cons q gs=>exact AK hx λ_ _ _ _ _ _ _ _ _ _ e=>by obtain rfl:=Option.some.inj e;exact he
 | Tuple l kk pos=>exact both (Qr hE hx he) λ_ _=>rfl
 | Lambda args body sc pos=>exact both (R6 hG hx he) λ_ _=>rfl
 | Subscript o i pos=>exact both (QO hE hx he) λ_ _=>rfl
 | Call f as kws pos=>exact both (oE (o:=ta f) hx (λy h hx=>z8 h▸MT hE ho hx he) λ_ hx=>eO hx λhn hx=>
   oS (G:=λf=>(if !(as.all noStar&&decide (as.length+kws.length < 12)&&kws.all (λk=>k.arg.isSome)) then none else o3 (c κ f) (dI (c κ) as) (dI (λk=>c κ k.value) kws) λf as kv=>vh (kws.filterMap (·.arg)) f as kv)=some x->TE C d κ cs (.Call f as kws pos) st v st')
    (by rwa [Bool.not_eq_true',Bool.not_eq_false] at hn) (λy p hx=>Ow hE ho hx he) hx) λ_ _=>rfl
 | _=>exact nS hx
theorem DK (f:eY C g) (h:iM C d orc) (n):gN C d orc (n5 g n):=by
 induction n with
 | zero=>exact λκ e x a=>nS a
 | succ n b=>exact GN f h b
theorem MF (a:eY C g) (f:iM C d orc) (n):uC C d orc (n5 g n):=by
 cases n with
 | zero=>exact λκ e x _ b=>nS b
 | succ n=>exact wD a (DK a f n)
end
section
variable {d:Nat}{κ:K}{cs:List Nat}{dy dC fi:St}{W:Wd}{hp:List O}{g:Glob}{orc:er}{k:Nat}{mu:jv}
def uB (C:Ctx) (d:Nat) (orc:er) (c:K->Stmt->Option XS):Prop:=
 ∀(κ:K) (s:Stmt) (x:XS),c κ s=some x->∀(k:Nat) (cs:List Nat) (st:St) (a:Fl) (st':St),(ev orc k).S cs x st=some (a,st')->TS C d κ cs s st a st'
section
variable {c:K->Stmt->Option XS}(h:uB C d orc c)
include h
theorem gC:∀{b:List Stmt}{xs:List XS}{st:St}{f:Fl}{st':St},dI (c κ) b=some xs->dX (ev orc k) cs xs st=some (f,st')->j7 C d κ cs b st f st'
 | [],xs,st,f,st',i,a=>by obtain rfl:=Option.some.inj i;exact sE a <| .nil
 | s::b,xs,st,f,st',i,a=>by
  obtain ⟨x,m,l,n,rfl⟩:=d8 i
  exact mF a (λst1 j a=>.cons (h κ s x l k cs st _ _ j) (gC n a)) λv j e=>e▸.ret (h κ s x l k cs st _ _ j)
theorem DF (m:dI (c κ) b=some xs):∀{l:List V}{st:St}{i:Fl}{st':St},fL (ev orc k) cs tg gd xs l st=some (i,st')->qr C d κ cs tg b gd l st i st'
 | [],st,i,st',a=>dN a λf a=>fm a λp o=>⟨f,p.symm,o.symm⟩
 | x::l,st,i,st',a=>dN a λf a=>mS a λst1 hs a=>mF a (λj n a=>⟨f,st1,hs,.inl ⟨j,gC h m n,DF m a⟩⟩) λv n e=>⟨f,st1,hs,.inr ⟨v,e,gC h m n⟩⟩
theorem B5 {r:K->Expr->Option X} (o:gN C d orc r) (s:r κ q=some p) (m:dI (c κ) b=some xs):∀{n:Nat}{st:St}{f:Fl}{st':St},jd (ev orc k) cs p xs n st=some (f,st')->Ac C d κ cs q b n st f st'
 | 0,st,f,st',a=>nS a
 | n+1,st,f,st',a=>mE a λv st1 y a=>
  have t:=(o κ q p s k cs st _ _ y).2
  mB a (λi a=>mF a (λl j a=>.inr (.inl ⟨st1,l,t true i,gC h m j,B5 o s m a⟩)) λv j e=>.inr (.inr ⟨st1,v,e,t true i,gC h m j⟩))
   λi a=>fm a λw u=>.inl ⟨w.symm,u▸t false i⟩
end
section
variable {c:K->Expr->Option X}{st st':St}{v:V}{x:X}
theorem C3 (f:uC C d orc c) (b:lD e=true) (j:c κ e=some x) (a:(ev orc k).E cs (.new x) st=some (v,st')):TE C d κ cs e st v st':=by
 cases k with
 | zero=>exact nS a
 | succ k=>exact dK a λy l i=>sE (congrArg some i) <| (f κ e x b j k cs st _ _ l).tracked
theorem mI:(km mu t e x=.new x/\lD e=true)\/km mu t e x=x:=by
 unfold km
 exact (bg _).elim (λc=>.inl ⟨if_pos c,((Bool.and_eq_true _ _).mp c).1⟩) λc=>.inr (if_neg c)
section
variable (hE:gN C d orc c) (hN:uC C d orc c)
include hE hN
theorem qx (b:c κ e=some x) (a:(ev orc k).E cs (km mu t e x) st=some (v,st')):TE C d κ cs e st v st':=by
 rcases mI (mu:=mu) (t:=t) (e:=e) (x:=x) with h | h
 ·exact C3 hN h.2 b (h.1▸a)
 ·rw[h] at a;exact (hE κ e x b k cs st v st' a).1
theorem vJ:∀{ts es:List Expr}{xs:List X}{st:St}{vs:List V}{st':St},dI (c κ) es=some xs->fG (ev orc k) cs (Al mu ts es xs) st=some (vs,st')->fS C d κ cs es st vs st'
 | [],es,xs,st,vs,st',b,a=>ij hE b a
 | t::ts,[],xs,st,vs,st',b,a=>ij hE b a
 | t::ts,e::es,xs,st,vs,st',b,a=>by
  obtain ⟨x,f,j,n,rfl⟩:=d8 b
  exact mE a λv st1 l a=>mL a λo q i a=>fm a λm p=>m▸p▸.cons (qx hE hN j l) (vJ n i)
end
theorem GY {t e:Expr}{r:X}{ts:List Tg}{is:List X}{fs:List (List X)}{n m:Nat}{G:Prop}(f:(ev orc (k+1)).E cs (km mu t e (.comp r ts is fs n m)) st=some (v,st'))
  (s:∀(u:Bool) (b:List V) (a:St),rV (ev orc k) cs r ts is fs n m st=some (b,a)->v=(if u then .ref a.hp.length else .lst b)->st'=⟨a.loc,a.hp++(if u then [.list b] else [])⟩->G):G:=by
 rcases mI (mu:=mu) (t:=t) (e:=e) (x:=.comp r ts is fs n m) with h | h
 ·rw[h.1] at f;refine dK f λy i j=>dK i λz l o=>?_
  subst o
  exact fm (congrArg some j) λp q=>s true z.1 z.2 l p.symm q.symm
 ·rw[h] at f;refine dK f λy i j=>dK i λz l o=>?_
  subst o
  exact fm (congrArg some j) λp q=>s false z.1 z.2 l p.symm (q.symm.trans (by rw[if_neg Bool.false_ne_true,List.append_nil]))
end
theorem vN {x:Str}:ax [.Name x p] e env=pure none:=by
 unfold ax
 cases e<;>rfl
theorem uD (h:j9 e=none):ax [.Tuple l k p] e env=pure none:=by
 unfold ax
 cases e<;>first | rfl | exact sN h
section
variable {st st1 st':St}{tg:Tg}{pos:Pos}
theorem K7 (p:TE C d κ cs (.Tuple es ke pe) st (.tup vs) st1) (b:Jr κ tg (Cr κ ts es)=true) (q:d9 cs 5 tg (.tup vs) st1=some st') (r:fO κ 5 (.Tuple ts kt pt)=some tg) :
  TS C d κ cs (.Assign [.Tuple ts kt pt] (.Tuple es ke pe) pos) st .next st':=by
 cases f:Cr κ ts es with
 | none=>rw[f] at b;exact fT b
 | some o=>cases o with
  | none=>exact .Hg (λi s n l=>l9) p r q λi s l=>Cq l f
  | some a=>
   rw[f] at b
   cases tg with
   | tup j=>
    have b:=(Bool.and_eq_true _ _).mp (show (kK κ a j&&decide a.Nodup)=true from b)
    exact .K8 (m:=3) p f b.1 (of_decide_eq_true b.2) q
   | _=>exact fT b
end
section
variable {c:K->Expr->Option X}(hG:eY C g) (hE:gN C d orc c) (UQ:uC C d orc c) (uj:gN C d orc (gF g c)) (hN:uC C d orc (gF g c)) {t e:Expr}{tg:Tg}{x:X}{pos:Pos}(hx:gF g c κ e=some x)
 {st st1 st':St}{v:V}(hs:d9 cs 5 tg v st1=some st')
include hG hE uj hN hx hs
theorem Hf (w:fO κ 5 (.Name y py)=some tg) (f:(ev orc k).E cs (km mu (.Name y py) e x) st=some (v,st1)):TS C d κ cs (.Assign [.Name y py] e pos) st .next st':=by
 have a:(∀b j n,g9 κ cs j b->aU e (some (.Name y py)) n b=pure false)->TS C d κ cs (.Assign [.Name y py] e pos) st .next st':=
  λo=>.Hg o (qx uj hN hx f) w hs λb j _=>vN
 by_cases u:kR e=true
 ·exact a λb j n _=>ot u
 clear hN
 revert hx f a
 refine comp_elim u (λelt N sc M hx f a=>?_) (λ_ _ _ _ hx=>nS hx) (λ_ _ _ _ _ hx=>nS hx)
 cases s:Ib κ sc y py M with
 | false=>exact a λb j n I=>by rw[m5 I,s]
 | true=>
  clear a
  cases k with
  | zero=>exact mI.elim (λh=>nS (h.1▸f)) λh=>nS (h▸f)
  | succ k=>
   refine eO hx λi hx=>?_
   rw[Bool.not_eq_true',Bool.not_eq_false] at i
   cases N with
   | nil=>exact nS hx
   | cons gc gr=>
    refine AK hx λi0 is ts fs xe h1 o h3 h4 G e=>?_
    obtain rfl:=Option.some.inj e
    refine GY f λz out J T D e2=>?_
    obtain ⟨sa,sb,E,rfl⟩:=rX hG hE i h1 o h3 h4 G T
    obtain ⟨x,px,p,Q,q,Y,r,l,gd,m,U,f2,B,H,L,f6,A,f8⟩:=E
    rw[m]
    subst D e2
    exact .K9 (n:=4) (tr:=z) U f2 B H L f6 A f8 s (gR w) hs
include UQ
theorem O5 (f:fO κ 5 t=some tg) (u:Js κ t e tg=true) (b:(ev orc k).E cs (uR mu t e x) st=some (v,st1)):TS C d κ cs (.Assign [t] e pos) st .next st':=by
 refine oE f (λy j _=>(nK j).elim λp q=>?_) λ_ h=>oE h (λG r _=>(pG r).elim λB q=>q.elim λD q=>?_) λ_ h=>nS h
 ·subst q
  exact Hf hG hE uj hN hx hs f (tB (mu:=mu) (t:=.Name y p) (e:=e) (x:=x) (.inl rfl)▸b)
 ·subst q
  cases a:j9 e with
  | none=>
   rw[tB (.inr a)] at b
   exact .Hg (λl A n _=>l9) (qx uj hN hx b) f hs λl A _=>uD a
  | some I=>
   obtain ⟨J,H,rfl⟩:=pG a
   refine eO hx λi hx=>dK hx λE j z=>?_
   subst z
   rw[Bool.not_eq_true',Bool.not_eq_false,Bool.and_eq_true] at i
   cases k with
   | zero=>exact nS b
   | succ k=>
   refine dK b λy m o=>fm (congrArg some o) λs w=>?_
   have t:=vJ hE UQ j m
   subst s w
   exact K7 (.tup i.1 t.tl (of_decide_eq_true i.2) t.length) u hs f
end
end
section
variable {d:Nat}{κ:K}{cs:List Nat}{dy dC fi:St}{W:Wd}{hp:List O}{g:Glob}{orc:er}{k:Nat}{mu:jv}
section
variable {c:K->Expr->Option X}{rs:K->Stmt->Option XS}{st st':St}{fl:Fl}{x:XS}{pos:Pos}
theorem N6 (i:gN C d orc c) (b:stepT g mu c rs κ (.Expr e pos)=some x) (h:(ev orc (k+1)).S cs x st=some (fl,st')):TS C d κ cs (.Expr e pos) st fl st':=by
 refine dN b λm b=>dK b λq o e=>?_
 subst e
 refine mN h λa j h=>fm h λl r=>?_
 subst l r
 have t:=(i κ _ q o k cs st _ _ j).1
 exact D5 (G:=λe=>TE C d κ cs e st .none a->TS C d κ cs (.Expr e pos) st .next a) m (λf s n p t=>.expr t) t
theorem Q2 (h:gN C d orc c) (b:stepT g mu c rs κ (.Return e pos)=some x) (f:(ev orc (k+1)).S cs x st=some (fl,st')):TS C d κ cs (.Return e pos) st fl st':=by
 cases e with
 | none=>
  obtain rfl:=Option.some.inj b
  refine dK f λy a e=>fm (congrArg some e) λj m=>?_
  cases k with
  | zero=>exact nS a
  | succ k=>
   obtain rfl:=Option.some.inj a
   subst j m
   exact .Wc
 | some e=>
  refine dK b λl a e=>?_
  subst e
  exact dK f λy i e=>sE (congrArg some e) <| .ret (h κ _ l a k cs st _ _ i).1
theorem WL (j:gN C d orc c) (i:uB C d orc rs) (o:stepT g mu c rs κ (.If q a b pos)=some x) (f:(ev orc (k+1)).S cs x st=some (fl,st')):TS C d κ cs (.If q a b pos) st fl st':=by
 refine oO o λn u w p m r e=>?_
 obtain rfl:=Option.some.inj e
 refine mE f λv s l f=>?_
 have t:=(j κ q n p k cs st _ _ l).2
 exact mB f (λh f=>.dT (t true h) (gC i m f)) λh f=>.dT (t false h) (gC i r f)
theorem isEmpty_nil {α:Type}{l:List α} (h:¬(!l.isEmpty)=true):l=[]:=by
 cases l with
 | nil=>rfl
 | cons _ _=>exact absurd rfl h
theorem Qm (f:gN C d orc c) (m:uB C d orc rs) (a:stepT g mu c rs κ (.While q b o pos)=some x) (l:(ev orc (k+1)).S cs x st=some (fl,st')):TS C d κ cs (.While q b o pos) st fl st':=by
 refine eO a λi a=>lp a λn p j h e=>?_
 obtain rfl:=isEmpty_nil i
 obtain rfl:=Option.some.inj e
 exact .yZ (B5 m f j h l)
theorem Sv (m:eY C g) (r:gN C d orc c) (v:uB C d orc rs) (a:stepT g mu c rs κ (.For t e b o pos)=some x) (i:(ev orc (k+1)).S cs x st=some (fl,st')):TS C d κ cs (.For t e b o pos) st fl st':=by
 refine eO a λp a=>eO a λf a=>oO a λj B D h n q u=>?_
 obtain rfl:=isEmpty_nil p
 obtain rfl:=Option.some.inj u
 rw[Bool.not_eq_true',Bool.not_eq_false,Bool.and_eq_true] at f
 refine mR i λl z w s i=>?_
 exact oS (G:=λt=>fO κ 5 t=some j->TS C d κ cs (.For t e b [] pos) st fl st') f.1 (λy A h=>.fI (tW f.2) (vY m r n s) (gR h) (DF v q i)) h
theorem Qs (m:uB C d orc rs) (h:stepT g mu c rs κ (.Try b i o f pos)=some x) (l:(ev orc (k+1)).S cs x st=some (fl,st')):TS C d κ cs (.Try b i o f pos) st fl st':=by
 refine eO h λa h=>dK h λp j e=>?_
 subst e
 rw[Bool.or_eq_true,Bool.or_eq_true,not_or,not_or] at a
 obtain rfl:=isEmpty_nil a.1.2
 obtain rfl:=isEmpty_nil a.2
 cases i with
 | nil=>exact absurd rfl a.1.1
 | cons n i=>exact .j_ (gC m j l)
theorem isNone_none {α:Type}{o:Option α} (h:o.isNone=true):o=none:=by
 cases o with
 | none=>rfl
 | some _=>exact fT h
theorem SH (hG:eY C g) {name:Str}{args:a7}{body:List Stmt}{xH:List Expr}{ret:Option Expr}{Cj:List TypeParam}{sc:Scope}{ts:Option Scope}{bind:Str}
  (hx:stepT g mu c rs κ (.FunctionDef name args body xH ret Cj sc ts bind pos)=some x) (he:(ev orc (k+1)).S cs x st=some (fl,st')):TS C d κ cs (.FunctionDef name args body xH ret Cj sc ts bind pos) st fl st':=by
 refine dN hx λhc hx=>eO hx λhd hx=>lp hx λtg pg h1 h2 e=>?_
 obtain rfl:=Option.some.inj e
 rw[Bool.and_eq_true,Bool.and_eq_true,Bool.and_eq_true] at hc
 obtain rfl:=List.isEmpty_iff.mp hc.1.1.1
 obtain rfl:=isNone_none hc.1.1.2
 obtain rfl:=List.isEmpty_iff.mp hc.1.2
 obtain rfl:=isNone_none hc.2
 rw[Bool.not_eq_true',Bool.not_eq_false,Bool.and_eq_true,Bool.and_eq_true] at hd
 obtain rfl:=eq_of_beq hd.1.2
 exact mC he λcl h3 he=>dK he λst1 h4 e=>sE (congrArg some e) <| .qQ (n:=4) hG hd.1.1 h2 h3 (eq_of_beq hd.2) (gR h1) h4
theorem QN (hE:gN C d orc c) (hx:Ei c κ e o i=some x) (he:(ev orc (k+1)).S cs x st=some (fl,st')):TS C d κ cs (.Assign [.Subscript o i p] e pos) st fl st':=by
 refine eO hx λhs hx=>eO hx λhc hx=>oO hx λxo xi xe h1 h2 h3 e=>?_
 obtain rfl:=Option.some.inj e
 exact mE he λv st1 h4 he=>mE he λa st2 h5 he=>mE he λb st3 h6 he=>dK he λhp' h7 e=>sE (congrArg some e) <| .ji (by rw[Bool.not_eq_true',Bool.not_eq_false] at hc;exact hc) (hE κ _ xe h3 k cs _ _ _ h4).1 (hE κ o xo h1 k cs _ _ _ h5).1 (hE κ i xi h2 k cs _ _ _ h6).1 h7
theorem C4 {x:X}:(newX mu n e x=.new x/\lD e=true)\/newX mu n e x=x:=by
 unfold newX
 exact (bg _).elim (λc=>.inl ⟨if_pos c,((Bool.and_eq_true _ _).mp c).2⟩) λc=>.inr (if_neg c)
theorem O3 (hE:gN C d orc c) (hN:uC C d orc c) (hx:(if !gZ o then none else (o2 (c κ o) (c κ e) λo e'=>some (.setAttr o n (newX mu n e e'))))=some x) (he:(ev orc (k+1)).S cs x st=some (fl,st')):TS C d κ cs (.Assign [.Attribute o n p] e pos) st fl st':=by
 refine eO hx λhc hx=>lp hx λxo xe h1 h2 e=>?_
 obtain rfl:=Option.some.inj e
 refine mE he λv st1 h4 he=>mE he λa st2 h5 he=>dK he λhp' h6 e=>sE (congrArg some e) <| .setAttr ?_ (hE κ o xo h1 k cs _ _ _ h5).1 h6
 rcases C4 (mu:=mu) (n:=n) (e:=_) (x:=xe) with h | h
 ·exact C3 hN h.2 h2 (h.1▸h4)
 ·rw[h] at h4;exact (hE κ _ xe h2 k cs _ _ _ h4).1
theorem TG (hE:gN C d orc c) (hx:O2 c κ op e t=some x) (he:(ev orc (k+1)).S cs x st=some (fl,st')):TS C d κ cs (.AugAssign t op e pos) st fl st':=by
 refine oE hx (λy hy hx=>eO hx λhs hx=>oO hx λxo xi xe h1 h2 h3 e=>(zg hy).elim λp q=>?_) λ_ hx=>eO hx λhn hx=>lp hx λtg xe h1 h2 e=>?_
 ·subst q
  obtain rfl:=Option.some.inj e
  refine mE he λa st1 h4 he=>mE he λb st2 h5 he=>mV he λq h6 he=>mE he λw st3 h7 he=>mV he λu h8 he=>dK he λhp' h9 e=>sE (congrArg some e) <| ?_
  exact .nq (hE κ _ xo h1 k cs _ _ _ h4).1 (hE κ _ xi h2 k cs _ _ _ h5).1 h6 (hE κ _ xe h3 k cs _ _ _ h7).1 h8 h9 λlo hi q z=>hs (by rw[z];rfl)
 ·obtain rfl:=Option.some.inj e
  rw[Bool.not_eq_true',Bool.not_eq_false] at hn
  exact mV he λa h3 he=>mE he λb st1 h4 he=>mV he λv h5 he=>dK he λst2 h6 e=>sE (congrArg some e) <| oS (G:=λt=>fO κ 5 t=some tg->TS C d κ cs (.AugAssign t op _ pos) st .next st2) hn (λy p h1=>.aug (n:=4) (gR h1) h3 (hE κ _ xe h2 k cs _ _ _ h4).1 h5 h6) h1
end
theorem TM (hG:eY C g) (ho:iM C d orc) (n:Nat) {st st':St}{fl:Fl}{x:XS}{pos:Pos}{t e:Expr}(hx:yi mu (n5 g n) κ t e=some x) (he:(ev orc (k+1)).S cs x st=some (fl,st')):TS C d κ cs (.Assign [t] e pos) st fl st':=by
 refine lp hx λtg xe h1 h2 e=>dN e λh3 e=>?_
 obtain rfl:=Option.some.inj e
 refine mE he λv st1 h4 he=>dK he λst2 h5 e=>sE (congrArg some e) <| ?_
 cases n with
 | zero=>exact nS h2
 | succ n=>exact O5 hG (DK hG ho n) (MF hG ho n) (DK hG ho (n+1)) (MF hG ho (n+1)) h2 h5 h1 h3 h4
theorem E6 (hG:eY C g) (ho:iM C d orc) (hS:uB C d orc (xQ g mu n)):uB C d orc (xQ g mu (n+1)):=by
 have hE:=DK hG ho n
 intro κ s x hx k cs st fl st' he
 cases k with
 | zero=>exact nS he
 | succ k=>
 cases s with
 | Expr e pos=>exact N6 hE hx he
 | Return e pos=>exact Q2 hE hx he
 | If q a b pos=>exact WL hE hS hx he
 | While q body orelse pos=>exact Qm hE hS hx he
 | For t e body orelse pos=>exact Sv hG hE hS hx he
 | Try body hs orelse fin pos=>exact Qs hS hx he
 | Raise a b c=>obtain rfl:=Option.some.inj hx;exact nS he
 | FunctionDef name args body xH ret Cj sc ts bind pos=>exact SH hG hx he
 | Assign ts e pos=>
  have hx:Jq mu (n5 g n) κ e ts=some x:=hx
  cases ts with
  | nil=>exact nS hx
  | cons t ts=>cases ts with
   | cons _ _=>exact nS hx
   | nil=>
    exact oE (o:=vS t) hx (λy h hx=>(zg h).elim λp q=>q▸QN hE hx he) λ_ hx=>oE (o:=ta t) hx (λy h hx=>z8 h▸O3 hE (MF hG ho n) hx he) λ_ hx=>TM (mu:=mu) hG ho n hx he
 | AugAssign t op e pos=>exact TG hE hx he
 | _=>exact nS hx
theorem L5 (a:eY C g) (b:iM C d orc):∀n,uB C d orc (xQ g mu n)
 | 0=>λκ e x f=>nS f
 | n+1=>E6 a b (L5 a b n)
end
section
variable {d:Nat}{κ:K}{cs:List Nat}{dy dC fi:St}{W:Wd}{hp:List O}{g:Glob}{orc:er}{k:Nat}{mu:jv}
noncomputable def Bd (f:List V->Option (List V)):Option O->Option V
 | some (.list l)=>(f l).map .lst
 | some (.dict a b)=>(f b).map (.dE a)
 | _=>none
noncomputable def eE (hp:List O):Nat->V->Option V
 | 0,_=>none
 | n+1,v=>match v with
  | .none=>some .none
  | .bool b=>some (.bool b)
  | .int i=>some (.int i)
  | .str s=>some (.str s)
  | .dw s=>some (.dw s)
  | .con c=>some (.con c)
  | .gf a b c=>some (.gf a b c)
  | .tup l=>(dI (eE hp n) l).map .tup
  | .lst l=>(dI (eE hp n) l).map .lst
  | .dE e f=>(dI (eE hp n) f).map (.dE e)
  | .ref i=>Bd (dI (eE hp n)) hp[i]?
  | .bm _ _=>none
section
variable {P:Params}{T:Tm}{I I':Gm}{σ g_:List Addr}
theorem nW {f:V->Option V} (h:∀v c i,Rep P T I σ v c->f v=some i->Rep P T I' g_ i c):∀{cs:List Value}{a:List V},dJ P T I σ l cs->dI f l=some a->dJ P T I' g_ a cs:=by
 induction l with
 | nil=>exact λr e=>Option.some.inj e▸r
 | cons v l m=>
  intro cs a r e
  obtain ⟨b,o,j,n,rfl⟩:=d8 e
  exact ak (λc=>ak λcs r=>⟨r.1,h _ _ _ r.2.1 j,m r.2.2 n⟩) r
theorem w6 {f:V->Option V} (h:∀v c i,Rep P T I σ v c->f v=some i->Rep P T I' g_ i c):∀{ks:List V}{es:List ag}{a:List V},eu P T I σ ks l es->dI f l=some a->eu P T I' g_ ks a es:=by
 induction l with
 | nil=>exact λr e=>Option.some.inj e▸r
 | cons v l m=>
  intro ks es a r e
  obtain ⟨b,o,j,n,rfl⟩:=d8 e
  exact ak (λ_=>ak λ_=>ak λ_=>ak λ_ r=>⟨r.1,r.2.1,r.2.2.1,h _ _ _ r.2.2.2.1 j,m r.2.2.2.2 n⟩) r
theorem zO {hp:List O} (j:Gm.le I I') (A:∀(i:Nat) (a:Addr) (o:O),σ[i]?=some a->hp[i]?=some o->∃s,eb P T I σ s o/\((∃l,o=.list l)\/(∃t w,o=.dict t w)->I' a=some s)) (n):∀(v:V) (c:Value) (u:V),Rep P T I σ v c->eE hp n v=some u->Rep P T I' g_ u c:=by
 induction n with
 | zero=>exact λ_ _ _ _ h=>nS h
 | succ n f=>
  intro v c u r h
  cases v with
  | none | bool | int | str | con | dw=>obtain rfl:=Option.some.inj h;exact r
  | bm=>exact nS h
  | gf=>obtain rfl:=Option.some.inj h;exact ak (λ_=>ak λ_=>ak λ_=>ak λ_ r=>⟨r.1,j _ _ r.2⟩) r
  | tup l=>exact dK h λm b e=>e▸ak (λ_=>ak λ_=>ak λ_ r=>⟨r.1,j _ _ r.2.1,nW f r.2.2 b⟩) r
  | lst l=>exact dK h λm b e=>e▸ak (λ_=>ak λ_=>ak λ_ r=>⟨r.1,j _ _ r.2.1,nW f r.2.2 b⟩) r
  | dE t w=>exact dK h λm b e=>e▸ak (λ_=>ak λ_=>ak λ_ r=>⟨r.1,j _ _ r.2.1,r.2.2.1,w6 f r.2.2.2 b⟩) r
  | ref i=>
   obtain ⟨a,z,B⟩:=r.inv
   rw[z]
   cases p:hp[i]? with
   | none=>exact nS ((congrArg (Bd _) p).symm.trans h)
   | some o=>
    have h:=(congrArg (Bd (dI (eE hp n))) p).symm.trans h
    obtain ⟨s,x,y⟩:=A _ _ _ B p
    cases o with
    | list l=>exact dK h λm b e=>e▸x.inv.elim λ_ q=>q.elim λ_ q=>.lst ((y (.inl ⟨_,rfl⟩)).trans (congrArg some q.1)) (nW f q.2 b)
    | dict t w=>exact dK h λm b e=>e▸x.inv.elim λ_ q=>q.elim λ_ q=>.dE ((y (.inr ⟨_,_,rfl⟩)).trans (congrArg some q.1)) q.2.1 (w6 f q.2.2 b)
    | _=>exact nS h
end
theorem dS.drop (H:dO C hp W):dO C [] ⟨W.G,[],W.s⟩ where
 I:=H.I
 F:=H.F
 IF:=H.IF
 top:=H.top
 tab P hP:=by
  obtain ⟨x,y,z,w⟩:=H.tab P hP
  exact ⟨x,y,(λh=>nomatch h),w⟩
 len:=rfl
 nd:=.nil
 fe i a e:=by exact Vm.nS e
 gens:=H.gens
 os:=H.os
 pos:=H.pos
 T:=H.T
theorem CN {α:Type} (H:dO C hp W) (hf:eE hp' n v=some v') (h:TH C A t (λW' c=>dz C W' v c) hp' ⟨W.G,[],W.s⟩):TH C A t (λW' c=>dz C W' v' c) hp W:=λQ E hQ=>by
 refine h Q E λW' c f l r=>?_
 classical
 let D:Gm:=λb=>if b∈W'.σ then W'.s.heap.get? b else W'.G.I b
 have M:∀b,b∈W'.σ->W'.G.I b=none/\W'.G.F b=none/\b∉C.tabs:=λb G=>by
  obtain ⟨i,hi,e⟩:=List.getElem_of_mem G
  obtain ⟨p,q,_⟩:=l.fe i b (by rw[<- e];exact List.getElem?_eq_getElem hi)
  exact ⟨p,q,λz=>(l.tab b z).2.2.1 G⟩
 have u:Gm.le W'.G.I D:=λb o e=>by
  exact (if_neg λG=>nS ((M b G).1.symm.trans e):(if b∈W'.σ then _ else _)=_).trans e
 have B:∀b o,D b=some o->W'.s.heap.get? b=some o:=λb o e=>by
  have e:(if b∈W'.σ then W'.s.heap.get? b else W'.G.I b)=some o:=e
  split at e
  ·exact e
  ·exact l.I b o e
 have j:∀b,W'.G.I b=none->b∉W'.σ->D b=none:=λb s w=>by
  show (if b∈W'.σ then _ else _)=_
  rw[if_neg w];exact s
 have J:∀i a,W.σ[i]?=some a->∃o m,hp[i]?=some o/\W'.s.heap.get? a=some m/\eb C.w.params W.G.T W.G.I W.σ m o/\W'.G.I a=none/\a∉W'.σ/\W.G.F a=none:=λi a e=>by
  obtain ⟨p,q,o,m,s,w,N⟩:=H.fe i a e
  obtain ⟨k1,U,Y⟩:=f.off a m w p (λz=>nomatch z) (λz=>(H.tab a z).2.2.1 (List.mem_of_getElem? e))
  exact ⟨o,m,s,k1,N,U,Y,q⟩
 have lI:Gm.le W.G.I D:=f.le.G.I.trans u
 have H2:dO C hp ⟨⟨D,W'.G.F,W'.G.T⟩,W.σ,W'.s⟩:={
  I:=B
  F:=l.F
  IF:=λb e=>by
   by_cases G:b∈W'.σ
   ·exact (M b G).2.1
   ·refine l.IF b λz=>e (j b z G)
  top:=l.top.trans u
  tab:=λP hP=>by
   obtain ⟨x,y,z,o,e,t⟩:=l.tab P hP
   exact ⟨j P x z,y,(H.tab P hP).2.2.1,o,e,t.mono u⟩
  len:=H.len
  nd:=H.nd
  fe:=λi a e=>by
   obtain ⟨o,m,s,w,N,h4,h5,h6⟩:=J i a e
   exact ⟨j a h4 h5,by show W'.G.F a=none;rw[f.le.G.F];exact h6,o,m,s,w,N.mono f.le.G.T lI (ea.refl _)⟩
  gens:=l.gens
  os:=l.os
  pos:=l.pos
  T:=l.T }
 have K2:Kept C W ⟨⟨D,W'.G.F,W'.G.T⟩,W.σ,W'.s⟩:=⟨⟨⟨lI,f.le.G.F,f.le.G.T⟩,ea.refl _⟩,λL o p q r t=>by
  obtain ⟨k1,U,Y⟩:=f.off L o p q (λz=>nomatch z) t
  exact ⟨k1,j L U Y,r⟩⟩
 refine hQ ⟨⟨D,W'.G.F,W'.G.T⟩,W.σ,W'.s⟩ c K2 H2 (zO u (λi a o e1 e2=>?_) n v c v' r hf)
 obtain ⟨_,_,o',m,s,w,N⟩:=l.fe i a e1
 rw[e2] at s;(refine Vm.sI s ?_;clear s;rintro rfl)
 exact ⟨m,N,λ_=>by
  show (if a∈W'.σ then _ else _)=_
  rw[if_pos (List.mem_of_getElem? e1)];exact w⟩
end
section
variable {d:Nat}{κ:K}{cs:List Nat}{dy dC fi:St}{W:Wd}{hp:List O}{g:Glob}{orc:er}{k:Nat}{mu:jv}
structure Fn where
 κ:K
 names:List Str
 tgs:List Tg
 body:List XS ⊕ X
def fz (orc:er) (f:Fn) (cells:List (Str×Nat)) (vs:List V) (hp:List O):Option (V×List O):=
 match iz cells f.κ.scope.names hp.length with
 | some a=>match bindAll a f.tgs vs ⟨List.replicate f.κ.slots.length none,hp++List.replicate (d7 f.κ.scope).length (.cell none)⟩ with
  | some st=>match f.body with
   | .inl b=>gX orc a b st
   | .inr e=>((ev orc 60).E a e st).map λx=>(x.1,x.2.hp)
  | none=>none
 | none=>none
def nv (g:Glob) (mu:jv) (f:Fn) (a:bX) (r:List XS ⊕ X):Prop:=match a,r with
 | .stmts b,.inl c=>s9 g mu f.κ b=some c
 | .expr e,.inr x=>n5 g 100 f.κ e=some x
 | _,_=>False
def lX (g:Glob) (mu:jv) (f:Fn) (a:bX):Prop:=nv g mu f a f.body
theorem Ff {f:Fn}{cells:List (Str×Nat)}{vs:List V}{y:V×List O}{G:Prop}(h:fz orc f cells vs hp=some y) (k:∀a c,iz cells f.κ.scope.names hp.length=some a->
  bindAll a f.tgs vs ⟨List.replicate f.κ.slots.length none,hp++List.replicate (d7 f.κ.scope).length (.cell none)⟩=some c->(match f.body with | .inl b=>gX orc a b c | .inr e=>((ev orc 60).E a e c).map λx=>(x.1,x.2.hp))=some y->G):G:=by
 unfold fz at h
 cases j:iz cells f.κ.scope.names hp.length with
 | none=>rw[j] at h;exact nS h
 | some a=>
  rw[j] at h
  dsimp only at h
  cases i:bindAll a f.tgs vs ⟨List.replicate f.κ.slots.length none,hp++List.replicate (d7 f.κ.scope).length (.cell none)⟩ with
  | none=>rw[i] at h;exact nS h
  | some c=>rw[i] at h;exact k a c j i h
theorem JS {b:List XS}{cs':List Nat}{st:St}{v:V}{hp':List O}{G:Prop}(h:gX orc cs' b st=some (v,hp')) (j:∀a,dX (ev orc 60) cs' b st=some (.ret v,a)->a.hp=hp'->G)
  (i:∀a,dX (ev orc 60) cs' b st=some (.next,a)->v=.none->a.hp=hp'->G):G:=by
 unfold gX at h
 cases c:dX (ev orc 60) cs' b st with
 | none=>rw[c] at h;exact nS h
 | some y=>
  rw[c] at h
  obtain ⟨l,a⟩:=y
  cases l with
  | ret w=>exact fm h λe f=>j a (c.trans (by rw[e])) f
  | next=>exact fm h λe f=>i a c e.symm f
theorem we (j:eY C g) (o:iM C d orc) (c:lX g mu f body) (h:fz orc f cells vs hp=some (v,hp')) :
  ∃cs' st1 st2,iz cells f.κ.scope.names hp.length=some cs'/\bindAll cs' f.tgs vs ⟨List.replicate f.κ.slots.length none,hp++List.replicate (d7 f.κ.scope).length (.cell none)⟩=some st1/\BodyOk C d f.κ cs' body st1 v st2/\st2.hp=hp':=by
 refine Ff h λcs' st1 p l h=>?_
 cases a:f.body with
 | inl b=>
  rw[a] at h
  cases body with
  | expr e=>exact (show False from (congrArg (nv g mu f (.expr e)) a).mp c).elim
  | stmts r=>
   have c:s9 g mu f.κ r=some b:=(congrArg (nv g mu f (.stmts r)) a).mp c
   exact JS h (λst2 i e=>⟨cs',st1,st2,p,l,.inl (gC (L5 j o 100) c i),e⟩) λst2 i s e=>⟨cs',st1,st2,p,l,.inr ⟨gC (L5 j o 100) c i,s⟩,e⟩
 | inr e=>
  rw[a] at h
  cases body with
  | stmts b=>exact (show False from (congrArg (nv g mu f (.stmts b)) a).mp c).elim
  | expr m=>
   have c:n5 g 100 f.κ m=some e:=(congrArg (nv g mu f (.expr m)) a).mp c
   exact dK h λy i q=>⟨cs',st1,y.2,p,l,(af q).1▸(DK j o 100 f.κ m e c 60 cs' st1 y.1 y.2 i).1,(af q).2⟩
noncomputable def Bh (sc:Scope):Bool:=sc.kind==.function&&!sc.isCoroutine&&!sc.isGenerator&&decide (sc.names.map (·.1)).Nodup
theorem GB (h:Bh sc=true):qZ (K.of sc q c):=by
 unfold Bh at h
 simp only[Bool.and_eq_true,Bool.not_eq_true',decide_eq_true_eq] at h
 obtain ⟨⟨⟨f,e⟩,b⟩,a⟩:=h
 exact ⟨eq_of_beq f,e,b,rfl,rfl,a⟩
def zZ (g:Glob) (mu:jv) (κ:K) (b:bX):Option (List XS ⊕ X):=match b with
 | .stmts b=>(s9 g mu κ b).map .inl
 | .expr e=>(n5 g 100 κ e).map .inr
def nh (g:Glob) (mu:jv) (f:iS):Option Fn:=
 if Bh f.scope&&jb f.params&&decide ((f.params.args.map (·.arg)).Nodup) then
  (dI (λ(a:Arg)=>fO (K.of f.scope (f.qual++".<locals>.") none) 5 (.Name a.arg a.pos)) f.params.args).bind λb=>
   (zZ g mu (K.of f.scope (f.qual++".<locals>.") none) f.body).map λr=>⟨K.of f.scope (f.qual++".<locals>.") none,f.params.args.map (·.arg),b,r⟩
 else none
theorem Bt {f:Fn} (h:zZ g mu f.κ b=some f.body):lX g mu f b:=by
 unfold lX
 cases b with
 | stmts b=>exact dK h λa h e=>e▸h
 | expr b=>exact dK h λa h e=>e▸h
theorem vK:∀{as:List Arg}{tgs:List Tg},dI (λ(a:Arg)=>fO κ 5 (.Name a.arg a.pos)) as=some tgs->mD κ (as.map (·.arg)) tgs
 | [],tgs,h=>by (refine Vm.sI h ?_;clear h;rintro rfl);trivial
 | a::as,tgs,h=>by
  obtain ⟨t,e,b,c,rfl⟩:=d8 h
  exact ⟨⟨a.pos,gR b⟩,vK c⟩
theorem yQ (h:nh g mu f=some fn):fn.κ=K.of f.scope (f.qual++".<locals>.") none/\qZ fn.κ/\(∃as,f.params=⟨[],as,none,[],[],none,[]⟩/\(as.map (·.arg)).Nodup/\fn.names=as.map (·.arg))/\mD fn.κ fn.names fn.tgs/\lX g mu fn f.body:=by
 refine dN h λa h=>ee h λb i h=>dK h λr c e=>?_
 rw[Bool.and_eq_true,Bool.and_eq_true,decide_eq_true_eq] at a
 obtain ⟨as,hp,_⟩:=jh a.1.2
 subst e
 exact ⟨rfl,GB a.1.1,⟨as,hp,by have:=a.2;rwa [hp] at this,by rw[hp]⟩,vK i,Bt c⟩
structure eh where
 addr:Addr
 fn:Fn
 bind:List V->List Str->List V->Option (List V)
 pure:Bool
 mu:jv
structure eJ (C:Ctx) (g:Glob) (t:eh) (o:Obj) (fd:FuncData):Prop where
 at_:C.fu t.addr=some o
 data:o.data=.func fd
 scope:fd.scope=t.fn.κ.scope
 ok:qZ t.fn.κ
 globals:fd.globals=aj
 builtins:fd.builtins=aC
 qual:t.fn.κ.qual=fd.qualname++".<locals>."
 code:jx C.fu fd.code fd.qualname
 SJ:∀c,t.fn.κ.code=some c->fd.code=c
 tgs:mD t.fn.κ t.fn.names t.fn.tgs
 body:lX g t.mu t.fn fd.body
 bind:∀as kn kv vs,t.bind as kn kv=some vs->iG C fd as kn kv t.fn.names vs
def pureO (orc:er) (t:eh) (as:List V) (kn:List Str) (kv:List V):Option V:=
 (dI (eE [] 9) as).bind λc=>(dI (eE [] 9) kv).bind λa=>(t.bind c kn a).bind λb=>(fz orc t.fn [] b []).bind λy=>eE y.2 9 y.1
def lj (b:List eh) (c:Addr->List V->Option V) (orc:er) (a:Addr) (as:List V) (kn:List Str) (kv:List V) (hp:List O):Option (V×List O):=
 (b.find? (·.addr==a)).elim (if kn=[]/\kv=[] then (c a as).map (·,hp) else none) λt=>(t.bind as kn kv).bind λe=>if t.pure=true then (pureO orc t as kn kv).map (·,hp) else fz orc t.fn [] e hp
def rC (g:Glob) (mu:jv) (orc:er) (f:iS) (b:List (Str×Nat)) (as:List V) (hp:List O):Option (V×List O):=(nh g mu f).bind λa=>if as.length=a.names.length then fz orc a b as hp else none
noncomputable def AI (g:Glob) (mu:jv) (b:List eh) (a:Addr->List V->Option V):Nat->er
 | 0=>⟨λ_ _ _ _ _=>none,λ_ _ _ _=>none⟩
 | n+1=>⟨lj b a (AI g mu b a n),rC g mu (AI g mu b a n)⟩
def yp (C:Ctx) (b:Addr->List V->Option V):Prop:=∀a e v,b a e=some v->(∃o h,C.fu a=some o/\o.data=.func h)/\∀(d:Nat) (A:Around) (W:Wd) (hp:List O) (f:List Value),dY (d+1) A->dO C hp W->dF C W e f->TH C A (call (.ref a) f []) (λi c=>dz C i v c) hp W
theorem tM (h:dI (eE [] 9) as=some as') (r:dF C W as xs):dF C ⟨W.G,[],W.s⟩ as' xs:=
 nW (f:=eE [] 9) (λv c b r h=>zO (Gm.le.refl _) (λi a o _ e=>by exact Vm.nS e) 9 v c b r h) r h
theorem GW:∀{x:Str}{i:Nat},([]:List (Str×Nat)).lookup x=some i->False:=λh=>nomatch h
section
variable {n:Nat}(hG:eY C g) (ih:iM C n orc)
include hG ih
theorem Ck {fd:FuncData} (T:eJ C g t o fd){a:List O} (l:dY (n+1) A) (H:dO C a W) (p:dF C W as xs) (w:dF C W kv ks) (D:t.bind as kn kv=some vs) (b:fz orc t.fn [] vs a=some (v,hp')):TH C A (call (.ref t.addr) xs (kn.zip ks)) (λW' c=>dz C W' v c) hp' W:=by
 obtain ⟨I,E,z,j,y,G,rfl⟩:=we hG ih T.body b
 have h:∀x o,C.fu x=some o->W.s.heap.get? x=some o:=λx o e=>H.I x o (H.top x o e)
 obtain ⟨c,B,f,s,m,r,q,u⟩:=T.code
 exact pn (κ:=t.fn.κ) (cells:=[]) l H (h _ _ T.at_) T.data T.scope T.ok T.globals T.builtins T.qual ⟨c,B,f,s,m,h _ _ r,q,u⟩ T.SJ (λx i e=>(GW e).elim) hG.lim (T.bind _ _ _ _ D) p w T.tgs j y G
theorem Qt {fd:FuncData} (T:eJ C g t o fd){a:List O} (i:dY (n+1) A) (H:dO C a W) (j:dF C W as xs) (l:dF C W kv ks) (h:(t.bind as kn kv).bind (λm=>if t.pure=true then (pureO orc t as kn kv).map (·,a) else fz orc t.fn [] m a)=some (v,hp')):TH C A (call (.ref t.addr) xs (kn.zip ks)) (λW' c=>dz C W' v c) hp' W:=
 ee h λm z h=>Nh h (λ_ h=>dK h λw h e=>ee h λs p h=>ee h λx q h=>ee h λu f h=>ee h λy b r=>by
  rw[<- (af e).1,<-(af e).2]
  exact CN (α:=Unit) H r (Ck hG ih T i H.drop (tM p j) (tM q l) f b)) λ_ h=>Ck hG ih T i H j l z h
theorem Ot {A:Around}{f:iS}{t:List (Str×Nat)}{as:List V}{xs:List Value}{i a:Nat}{x:Option Nat}{v:V}{j hp':List O}(h:rC g mu orc f t as j=some (v,hp')) (Y:dY (n+1) A) (H:dO C j W)
  (h1:j[i]?=some (.fn f t x)) (h2:W.σ[i]?=some a) (hx:dF C W as xs):TH C A (call (.ref a) xs []) (λW' c=>dz C W' v c) hp' W:=ee h λz r h=>dN h λm h=>by
 obtain ⟨s,J,⟨G,s3,s4,B⟩,I,s7⟩:=yQ r
 obtain ⟨T,N,M,U,r2,Q,rfl⟩:=we hG ih s7 h
 obtain ⟨aI,aF,o,ob,g1,g2,E⟩:=H.fe _ _ h2
 obtain rfl:=Option.some.inj (g1.symm.trans h1)
 obtain ⟨u,y,rfl,b,p,w⟩:=E.inv
 obtain ⟨c,oc,q,tk,D,e2,e3,L⟩:=b.code
 have l:iG C u as [] [] z.names as:=by
  rw[B]
  exact iG.plain (by rw[b.params];exact s3) b.defaults s4 (by rw[m,B,List.length_map])
 refine pn (κ:=z.κ) (fd:=u) (cells:=t) (kn:=[]) (ks:=[]) (kv:=[]) Y H g2 rfl (by rw[b.scope,s];rfl) J b.globals b.builtins (by rw[s,b.qual];rfl) ⟨c,oc,q,tk,D,H.I _ _ e2,e3,by rw[b.qual];exact L⟩ (λc e=>by rw[s] at e;exact Vm.nS e) p hG.lim l hx .nil I U r2 ?_
 rw[b.body];exact Q
end
theorem J3 (z:eY C g){b:Addr->List V->Option V} (L:∀t∈j,∃o y,eJ C g t o y) (hp:yp C b) (n):iM C n (AI g mu j b n):=by
 induction n with
 | zero=>exact ⟨(λ_ _ _ _ _ _ _ h=>nS h),(λ_ _ _ _ _ _ h=>nS h)⟩
 | succ n ih=>
  refine ⟨λa x N U r v u E=>oE E (λt q h=>?_) λ_ h=>dN h λm h=>dK h λw B e=>?_,λf Q x r v u h A W s i a M c H J G l=>Ot z ih h c H J G l⟩
  ·obtain rfl:t.addr=a:=eq_of_beq (List.find?_some (p:=λt:eh=>t.addr==a) q)
   obtain ⟨o,y,T⟩:=L t (List.mem_of_find?_eq_some q)
   exact ⟨⟨o,y,T.at_,T.data⟩,λA W s I c H l D=>Qt z ih T c H l D h⟩
  ·rw[<- (af e).1,<-(af e).2,m.1,m.2]
   exact ⟨(hp a x w B).1,λA W s I c H l D=>(hp a x w B).2 n A W r s c H l⟩
end
end Vm
end
noncomputable section
open PySem PySem.W PyProof.Rows PySem.Calls PySem.Spec
namespace L1
open ft
open Vm (V O X XS Tg iS Fn K Glob eh er jv)
noncomputable def W7 (q:Str):iS:=⟨⟨[],[],none,[],[],none,[]⟩,.stmts [],{ kind:=.module,names:=[],isGenerator:=false,isCoroutine:=false,more:=[] },q⟩
def vd (q:Str) (s:Stmt):iS:=if s.ctorIdx=0 then ⟨(um s).2.1,.stmts (um s).2.2.1,(um s).2.2.2,q++(um s).1⟩ else
 let e:=(pz s).2.1;if h:e.ctorIdx=4 then PySem.Expr.Lambda.elim (motive_1:=λ_=>iS) e h λa b c _=>⟨a,.expr b,c,q++"<lambda>"⟩ else W7 q
def sub (i j:Nat):Stmt:=(um (st i)).2.2.1.getD j (.Pass ⟨0,0,0,0⟩)
def kU:iS:=vd "_int2digits.<locals>." (sub 13 1)
def hV:iS:=vd "_digits2int.<locals>." (sub 14 0)
def sX:iS:=vd "_law_element.<locals>." (sub 24 0)
def iJ:iS:=vd "_law_element.<locals>." (sub 24 7)
def nk:List (Int×Str):=(BD.zip BB).filterMap λx=>x.1.bind λk=>(WJ (s8 k)).bind λk=>(vU (s8 x.2)).map λs=>(k,s)
def Jp:V:=.dE (nk.map λx=>.int x.1) (nk.map λx=>.str x.2)
noncomputable def Ak:List (Str×Nat×Value):=(("__name__",165,(.str "law_wc0030_01" 2361))::("__doc__",166,.none)::("__package__",167,.none)::("__loader__",168,(.builtin "__main__.__loader__#opaque"))::("__spec__",169,.none)::("__annotations__",170,(.ref 6))::("__builtins__",171,(.ref 4))::("__file__",173,(.str "/claim/cut.py" 172))::("__cached__",174,.none)::("SubElement",199,(.ref 23))::("_serialize_text",208,(.ref 30))::("_raise_serialization_error",215,(.ref 37))::("_escape_cdata",222,(.ref 44))::("_escape_attrib",229,(.ref 51))::("_escape_attrib_html",236,(.ref 58))::("_escape_cdata_c14n",243,(.ref 65))::("_escape_attrib_c14n",250,(.ref 72))::("_DIV_LIMIT",254,(.int 4000 253))::("_div2n1n",271,(.ref 79))::("_div3n2n",285,(.ref 86))::("_int2digits",296,(.ref 93))::("_digits2int",307,(.ref 100))::("_divmod_pos",322,(.ref 107))::("int_divmod",332,(.ref 114))::("b1_set",394,(.ref 122))::("in_table_b1",401,(.ref 132))::("b3_exceptions",2352,(.ref 133))::("map_table_b3",2360,(.ref 178))::("_law_forms",2368,(.ref 183))::("_law_element",2378,(.ref 190))::("_law_page",2387,(.ref 197))::("_law_parked",2393,(.ref 202))::("_law_street",2409,(.ref 209))::("_law_table",2415,(.ref 214))::("_law_hung",2426,(.ref 221))::("_law_trees",2432,(.ref 226))::("_law_webs",2438,(.ref 231))::("_law_both_ways",2444,(.ref 236))::("law",2450,(.ref 241))::[])
noncomputable def CL:List (Value×Nat×Nat×Str):=[((.ref 92),116,4,"_int2digits.<locals>.inner"),((.ref 99),131,4,"_digits2int.<locals>.inner"),((.ref 189),183,10,"_law_element.<locals>.<lambda>"),((.ref 189),190,19,"_law_element.<locals>.<lambda>")]
def X_:Scope:=⟨.function,(("parent",.local)::("tag",.local)::("attrib",.local)::("extra",.local)::("element",.local)::[]),false,false,(ek (st 1)).more⟩
def k1:K:=⟨X_,["parent","tag","attrib","extra","element"],[],"SubElement.<locals>.",some (.ref 22)⟩
noncomputable def Vs:XS:=(.asg (.loc 2) (.star [(.loc 2),(.loc 3)]))
noncomputable def Vr:XS:=(.asg (.loc 4) (.mc (.loc 0) "makeelement" [(.loc 1),(.loc 2)]))
noncomputable def Vq:XS:=(.expr (.mt .append (.loc 0) [(.loc 4)]))
noncomputable def Vp:XS:=(.ret (.loc 4))
def x1:List XS:=[Vs,Vr,Vq,Vp]
def f1:Fn:=⟨k1,["parent","tag","attrib","extra"],[(.loc 0),(.loc 1),(.loc 2),(.loc 3)],.inl x1⟩
def X9:Scope:=⟨.function,(("write",.local)::("elem",.local)::("part",.local)::[]),false,false,(ek (st 2)).more⟩
def k2:K:=⟨X9,["write","elem","part"],[],"_serialize_text.<locals>.",some (.ref 29)⟩
noncomputable def Vo:XS:=(.fI (.loc 2) (.mc (.loc 1) "itertext" []) [(.expr (.call (.loc 0) [(.loc 2)] [] []))])
noncomputable def Vn:XS:=(.dT (.attr (.loc 1) "tail") [(.expr (.call (.loc 0) [(.attr (.loc 1) "tail")] [] []))] [])
def x2:List XS:=[Vo,Vn]
def f2:Fn:=⟨k2,["write","elem"],[(.loc 0),(.loc 1)],.inl x2⟩
def X8:Scope:=⟨.function,(("text",.local)::("TypeError",.globalImplicit)::("type",.globalImplicit)::[]),false,false,(ek (st 3)).more⟩
def k3:K:=⟨X8,["text"],[],"_raise_serialization_error.<locals>.",some (.ref 36)⟩
noncomputable def Vl:XS:=.stop
def x3:List XS:=[Vl]
def f3:Fn:=⟨k3,["text"],[(.loc 0)],.inl x3⟩
def X7:Scope:=⟨.function,(("text",.local)::("TypeError",.globalImplicit)::("AttributeError",.globalImplicit)::("_raise_serialization_error",.globalImplicit)::[]),false,false,(ek (st 4)).more⟩
def k4:K:=⟨X7,["text"],[],"_escape_cdata.<locals>.",some (.ref 43)⟩
noncomputable def Vk:XS:=(.j_ [(.dT (.cmp (.k (.dw "&")) [.In] [(.loc 0)]) [(.asg (.loc 0) (.mt .replace (.loc 0) [(.k (.dw "&")),(.k (.dw "&amp;"))]))] []),(.dT (.cmp (.k (.dw "<")) [.In] [(.loc 0)]) [(.asg (.loc 0) (.mt .replace (.loc 0) [(.k (.dw "<")),(.k (.dw "&lt;"))]))] []),(.dT (.cmp (.k (.dw ">")) [.In] [(.loc 0)]) [(.asg (.loc 0) (.mt .replace (.loc 0) [(.k (.dw ">")),(.k (.dw "&gt;"))]))] []),(.ret (.loc 0))])
def x4:List XS:=[Vk]
def f4:Fn:=⟨k4,["text"],[(.loc 0)],.inl x4⟩
def X6:Scope:=⟨.function,(("text",.local)::("TypeError",.globalImplicit)::("AttributeError",.globalImplicit)::("_raise_serialization_error",.globalImplicit)::[]),false,false,(ek (st 5)).more⟩
def k5:K:=⟨X6,["text"],[],"_escape_attrib.<locals>.",some (.ref 50)⟩
noncomputable def Vj:XS:=(.j_ [(.dT (.cmp (.k (.dw "&")) [.In] [(.loc 0)]) [(.asg (.loc 0) (.mt .replace (.loc 0) [(.k (.dw "&")),(.k (.dw "&amp;"))]))] []),(.dT (.cmp (.k (.dw "<")) [.In] [(.loc 0)]) [(.asg (.loc 0) (.mt .replace (.loc 0) [(.k (.dw "<")),(.k (.dw "&lt;"))]))] []),(.dT (.cmp (.k (.dw ">")) [.In] [(.loc 0)]) [(.asg (.loc 0) (.mt .replace (.loc 0) [(.k (.dw ">")),(.k (.dw "&gt;"))]))] []),(.dT (.cmp (.k (.dw "\"")) [.In] [(.loc 0)]) [(.asg (.loc 0) (.mt .replace (.loc 0) [(.k (.dw "\"")),(.k (.dw "&quot;"))]))] []),(.dT (.cmp (.k (.dw "\x0d")) [.In] [(.loc 0)]) [(.asg (.loc 0) (.mt .replace (.loc 0) [(.k (.dw "\x0d")),(.k (.dw "&#13;"))]))] []),(.dT (.cmp (.k (.dw "\n")) [.In] [(.loc 0)]) [(.asg (.loc 0) (.mt .replace (.loc 0) [(.k (.dw "\n")),(.k (.dw "&#10;"))]))] []),(.dT (.cmp (.k (.dw "\t")) [.In] [(.loc 0)]) [(.asg (.loc 0) (.mt .replace (.loc 0) [(.k (.dw "\t")),(.k (.dw "&#09;"))]))] []),(.ret (.loc 0))])
def x5:List XS:=[Vj]
def f5:Fn:=⟨k5,["text"],[(.loc 0)],.inl x5⟩
def X5:Scope:=⟨.function,(("text",.local)::("TypeError",.globalImplicit)::("AttributeError",.globalImplicit)::("_raise_serialization_error",.globalImplicit)::[]),false,false,(ek (st 6)).more⟩
def k6:K:=⟨X5,["text"],[],"_escape_attrib_html.<locals>.",some (.ref 57)⟩
noncomputable def Vi:XS:=(.j_ [(.dT (.cmp (.k (.dw "&")) [.In] [(.loc 0)]) [(.asg (.loc 0) (.mt .replace (.loc 0) [(.k (.dw "&")),(.k (.dw "&amp;"))]))] []),(.dT (.cmp (.k (.dw ">")) [.In] [(.loc 0)]) [(.asg (.loc 0) (.mt .replace (.loc 0) [(.k (.dw ">")),(.k (.dw "&gt;"))]))] []),(.dT (.cmp (.k (.dw "\"")) [.In] [(.loc 0)]) [(.asg (.loc 0) (.mt .replace (.loc 0) [(.k (.dw "\"")),(.k (.dw "&quot;"))]))] []),(.ret (.loc 0))])
def x6:List XS:=[Vi]
def f6:Fn:=⟨k6,["text"],[(.loc 0)],.inl x6⟩
def X4:Scope:=⟨.function,(("text",.local)::("TypeError",.globalImplicit)::("AttributeError",.globalImplicit)::("_raise_serialization_error",.globalImplicit)::[]),false,false,(ek (st 7)).more⟩
def k7:K:=⟨X4,["text"],[],"_escape_cdata_c14n.<locals>.",some (.ref 64)⟩
noncomputable def Vh:XS:=(.j_ [(.dT (.cmp (.k (.dw "&")) [.In] [(.loc 0)]) [(.asg (.loc 0) (.mt .replace (.loc 0) [(.k (.dw "&")),(.k (.dw "&amp;"))]))] []),(.dT (.cmp (.k (.dw "<")) [.In] [(.loc 0)]) [(.asg (.loc 0) (.mt .replace (.loc 0) [(.k (.dw "<")),(.k (.dw "&lt;"))]))] []),(.dT (.cmp (.k (.dw ">")) [.In] [(.loc 0)]) [(.asg (.loc 0) (.mt .replace (.loc 0) [(.k (.dw ">")),(.k (.dw "&gt;"))]))] []),(.dT (.cmp (.k (.dw "\x0d")) [.In] [(.loc 0)]) [(.asg (.loc 0) (.mt .replace (.loc 0) [(.k (.dw "\x0d")),(.k (.dw "&#xD;"))]))] []),(.ret (.loc 0))])
def x7:List XS:=[Vh]
def f7:Fn:=⟨k7,["text"],[(.loc 0)],.inl x7⟩
def X3:Scope:=⟨.function,(("text",.local)::("TypeError",.globalImplicit)::("AttributeError",.globalImplicit)::("_raise_serialization_error",.globalImplicit)::[]),false,false,(ek (st 8)).more⟩
def k8:K:=⟨X3,["text"],[],"_escape_attrib_c14n.<locals>.",some (.ref 71)⟩
noncomputable def Vg:XS:=(.j_ [(.dT (.cmp (.k (.dw "&")) [.In] [(.loc 0)]) [(.asg (.loc 0) (.mt .replace (.loc 0) [(.k (.dw "&")),(.k (.dw "&amp;"))]))] []),(.dT (.cmp (.k (.dw "<")) [.In] [(.loc 0)]) [(.asg (.loc 0) (.mt .replace (.loc 0) [(.k (.dw "<")),(.k (.dw "&lt;"))]))] []),(.dT (.cmp (.k (.dw "\"")) [.In] [(.loc 0)]) [(.asg (.loc 0) (.mt .replace (.loc 0) [(.k (.dw "\"")),(.k (.dw "&quot;"))]))] []),(.dT (.cmp (.k (.dw "\t")) [.In] [(.loc 0)]) [(.asg (.loc 0) (.mt .replace (.loc 0) [(.k (.dw "\t")),(.k (.dw "&#x9;"))]))] []),(.dT (.cmp (.k (.dw "\n")) [.In] [(.loc 0)]) [(.asg (.loc 0) (.mt .replace (.loc 0) [(.k (.dw "\n")),(.k (.dw "&#xA;"))]))] []),(.dT (.cmp (.k (.dw "\x0d")) [.In] [(.loc 0)]) [(.asg (.loc 0) (.mt .replace (.loc 0) [(.k (.dw "\x0d")),(.k (.dw "&#xD;"))]))] []),(.ret (.loc 0))])
def x8:List XS:=[Vg]
def f8:Fn:=⟨k8,["text"],[(.loc 0)],.inl x8⟩
def V7:Scope:=⟨.function,(("a",.local)::("b",.local)::("n",.local)::("pad",.local)::("half_n",.local)::("mask",.local)::("b1",.local)::("b2",.local)::("q1",.local)::("r",.local)::("q2",.local)::("_DIV_LIMIT",.globalImplicit)::("divmod",.globalImplicit)::("_div3n2n",.globalImplicit)::[]),false,false,(ek (st 11)).more⟩
def YL:K:=⟨V7,["a","b","n","pad","half_n","mask","b1","b2","q1","r","q2"],[],"_div2n1n.<locals>.",some (.ref 78)⟩
noncomputable def Ql:XS:=(.dT (.cmp (.bin .Sub (.mt .lO (.loc 0) []) (.loc 2)) [.LtE] [(.k (.int 4000))]) [(.ret (.bf .divmod [(.loc 0),(.loc 1)]))] [])
noncomputable def Qk:XS:=(.asg (.loc 3) (.bin .BitAnd (.loc 2) (.k (.int 1))))
noncomputable def HU:XS:=(.dT (.loc 3) [(.aug (.loc 0) .LShift (.k (.int 1))),(.aug (.loc 1) .LShift (.k (.int 1))),(.aug (.loc 2) .Add (.k (.int 1)))] [])
noncomputable def Qj:XS:=(.asg (.loc 4) (.bin .RShift (.loc 2) (.k (.int 1))))
noncomputable def Qi:XS:=(.asg (.loc 5) (.bin .Sub (.bin .LShift (.k (.int 1)) (.loc 4)) (.k (.int 1))))
noncomputable def Qh:XS:=(.asg (.tup [(.loc 6),(.loc 7)]) (.tup [(.bin .RShift (.loc 1) (.loc 4)),(.bin .BitAnd (.loc 1) (.loc 5))]))
noncomputable def Qg:XS:=(.asg (.tup [(.loc 8),(.loc 9)]) (.call (.k (.con (.ref 86))) [(.bin .RShift (.loc 0) (.loc 2)),(.bin .BitAnd (.bin .RShift (.loc 0) (.loc 4)) (.loc 5)),(.loc 1),(.loc 6),(.loc 7),(.loc 4)] [] []))
noncomputable def Qf:XS:=(.asg (.tup [(.loc 10),(.loc 9)]) (.call (.k (.con (.ref 86))) [(.loc 9),(.bin .BitAnd (.loc 0) (.loc 5)),(.loc 1),(.loc 6),(.loc 7),(.loc 4)] [] []))
noncomputable def HT:XS:=(.dT (.loc 3) [(.aug (.loc 9) .RShift (.k (.int 1)))] [])
noncomputable def Qe:XS:=(.ret (.tup [(.bin .BitOr (.bin .LShift (.loc 8) (.loc 4)) (.loc 10)),(.loc 9)]))
def Lr:List XS:=[Ql,Qk,HU,Qj,Qi,Qh,Qg,Qf,HT,Qe]
def Z5:Fn:=⟨YL,["a","b","n"],[(.loc 0),(.loc 1),(.loc 2)],.inl Lr⟩
def V6:Scope:=⟨.function,(("a12",.local)::("a3",.local)::("b",.local)::("b1",.local)::("b2",.local)::("n",.local)::("q",.local)::("r",.local)::("_div2n1n",.globalImplicit)::[]),false,false,(ek (st 12)).more⟩
def YK:K:=⟨V6,["a12","a3","b","b1","b2","n","q","r"],[],"_div3n2n.<locals>.",some (.ref 85)⟩
noncomputable def HR:XS:=(.dT (.cmp (.bin .RShift (.loc 0) (.loc 5)) [.Eq] [(.loc 3)]) [(.asg (.tup [(.loc 6),(.loc 7)]) (.tup [(.bin .Sub (.bin .LShift (.k (.int 1)) (.loc 5)) (.k (.int 1))),(.bin .Add (.bin .Sub (.loc 0) (.bin .LShift (.loc 3) (.loc 5))) (.loc 3))]))] [(.asg (.tup [(.loc 6),(.loc 7)]) (.call (.k (.con (.ref 79))) [(.loc 0),(.loc 3),(.loc 5)] [] []))])
noncomputable def Qd:XS:=(.asg (.loc 7) (.bin .Sub (.bin .BitOr (.bin .LShift (.loc 7) (.loc 5)) (.loc 1)) (.bin .Mult (.loc 6) (.loc 4))))
noncomputable def HQ:XS:=(.yZ (.cmp (.loc 7) [.Lt] [(.k (.int 0))]) [(.aug (.loc 6) .Sub (.k (.int 1))),(.aug (.loc 7) .Add (.loc 2))])
noncomputable def Qc:XS:=(.ret (.tup [(.loc 6),(.loc 7)]))
def Lo:List XS:=[HR,Qd,HQ,Qc]
def Z4:Fn:=⟨YK,["a12","a3","b","b1","b2","n"],[(.loc 0),(.loc 1),(.loc 2),(.loc 3),(.loc 4),(.loc 5)],.inl Lo⟩
def V5:Scope:=⟨.function,(("a",.local)::("n",.cell)::("a_digits",.cell)::("inner",.cell)::("len",.globalImplicit)::[]),false,false,(ek (st 13)).more⟩
def YJ:K:=⟨V5,["a"],["n","a_digits","inner"],"_int2digits.<locals>.",some (.ref 92)⟩
noncomputable def Qb:XS:=(.asg (.cell 1) (.new (.bin .Mult (.list [(.k (.int 0))]) (.bin .FloorDiv (.bin .Sub (.bin .Add (.mt .lO (.loc 0) []) (.cell 0)) (.k (.int 1))) (.cell 0)))))
def Qa:XS:=(.qQ (.cell 2) kU [("n",0),("inner",2),("a_digits",1)])
noncomputable def P':XS:=(.dT (.loc 0) [(.expr (.call (.cell 2) [(.loc 0),(.k (.int 0)),(.bf .len [(.cell 1)])] [] []))] [])
noncomputable def P_:XS:=(.ret (.cell 1))
def Ln:List XS:=[Qb,Qa,P',P_]
def Z3:Fn:=⟨YJ,["a","n"],[(.loc 0),(.cell 0)],.inl Ln⟩
def V4:Scope:=⟨.function,(("digits",.cell)::("n",.cell)::("inner",.cell)::("len",.globalImplicit)::[]),false,false,(ek (st 14)).more⟩
def YI:K:=⟨V4,[],["digits","n","inner"],"_digits2int.<locals>.",some (.ref 99)⟩
def P9:XS:=(.qQ (.cell 2) hV [("n",1),("inner",2),("digits",0)])
noncomputable def P8:XS:=(.ret (.dT (.cell 0) (.call (.cell 2) [(.k (.int 0)),(.bf .len [(.cell 0)])] [] []) (.k (.int 0))))
def Lm:List XS:=[P9,P8]
def U3:Fn:=⟨YI,["digits","n"],[(.cell 0),(.cell 1)],.inl Lm⟩
def V3:Scope:=⟨.function,(("a",.local)::("b",.local)::("n",.local)::("a_digits",.local)::("r",.local)::("q_digits",.local)::("a_digit",.local)::("q_digit",.local)::("q",.local)::("_int2digits",.globalImplicit)::("reversed",.globalImplicit)::("_div2n1n",.globalImplicit)::("_digits2int",.globalImplicit)::[]),false,false,(ek (st 15)).more⟩
def YH:K:=⟨V3,["a","b","n","a_digits","r","q_digits","a_digit","q_digit","q"],[],"_divmod_pos.<locals>.",some (.ref 106)⟩
noncomputable def P7:XS:=(.asg (.loc 2) (.mt .lO (.loc 1) []))
noncomputable def P6:XS:=(.asg (.loc 3) (.call (.k (.con (.ref 93))) [(.loc 0),(.loc 2)] [] []))
noncomputable def P5:XS:=(.asg (.loc 4) (.k (.int 0)))
noncomputable def P4:XS:=(.asg (.loc 5) (.new (.list [])))
noncomputable def P2:XS:=(.fI (.loc 6) (.rev (.loc 3)) [(.asg (.tup [(.loc 7),(.loc 4)]) (.call (.k (.con (.ref 79))) [(.bin .Add (.bin .LShift (.loc 4) (.loc 2)) (.loc 6)),(.loc 1),(.loc 2)] [] [])),(.expr (.mt .append (.loc 5) [(.loc 7)]))])
noncomputable def P1:XS:=(.expr (.mt .reverse (.loc 5) []))
noncomputable def PZ:XS:=(.asg (.loc 8) (.call (.k (.con (.ref 100))) [(.loc 5),(.loc 2)] [] []))
noncomputable def PY:XS:=(.ret (.tup [(.loc 8),(.loc 4)]))
def Ll:List XS:=[P7,P6,P5,P4,P2,P1,PZ,PY]
def Z2:Fn:=⟨YH,["a","b"],[(.loc 0),(.loc 1)],.inl Ll⟩
def V2:Scope:=⟨.function,(("a",.local)::("b",.local)::("q",.local)::("r",.local)::("ZeroDivisionError",.globalImplicit)::("int_divmod",.globalImplicit)::("_divmod_pos",.globalImplicit)::[]),false,false,(ek (st 16)).more⟩
def YG:K:=⟨V2,["a","b","q","r"],[],"int_divmod.<locals>.",some (.ref 113)⟩
noncomputable def uQ:XS:=(.dT (.cmp (.loc 1) [.Eq] [(.k (.int 0))]) [.stop] [(.dT (.cmp (.loc 1) [.Lt] [(.k (.int 0))]) [(.asg (.tup [(.loc 2),(.loc 3)]) (.call (.k (.con (.ref 114))) [(.un .USub (.loc 0)),(.un .USub (.loc 1))] [] [])),(.ret (.tup [(.loc 2),(.un .USub (.loc 3))]))] [(.dT (.cmp (.loc 0) [.Lt] [(.k (.int 0))]) [(.asg (.tup [(.loc 2),(.loc 3)]) (.call (.k (.con (.ref 114))) [(.un .Invert (.loc 0)),(.loc 1)] [] [])),(.ret (.tup [(.un .Invert (.loc 2)),(.bin .Add (.loc 1) (.un .Invert (.loc 3)))]))] [(.ret (.call (.k (.con (.ref 107))) [(.loc 0),(.loc 1)] [] []))])])])
def B4:List XS:=[uQ]
def Z1:Fn:=⟨YG,["a","b"],[(.loc 0),(.loc 1)],.inl B4⟩
def Fe:Scope:=⟨.function,(("code",.local)::("ord",.globalImplicit)::("b1_set",.globalImplicit)::[]),false,false,(ek (st 19)).more⟩
def rH:K:=⟨Fe,["code"],[],"in_table_b1.<locals>.",some (.ref 131)⟩
noncomputable def PX:XS:=(.ret (.cmp (.bf .ord [(.loc 0)]) [.In] [(.k (.con (.ref 122)))]))
def XO:List XS:=[PX]
def f19:Fn:=⟨rH,["code"],[(.loc 0)],.inl XO⟩
def V1:Scope:=⟨.function,(("code",.local)::("r",.local)::("b3_exceptions",.globalImplicit)::("ord",.globalImplicit)::[]),false,false,(ek (st 21)).more⟩
def YF:K:=⟨V1,["code","r"],[],"map_table_b3.<locals>.",some (.ref 177)⟩
def PW:XS:=(.asg (.loc 1) (.mt .get (.k Jp) [(.bf .ord [(.loc 0)])]))
noncomputable def PV:XS:=(.dT (.cmp (.loc 1) [.IsNot] [(.k .none)]) [(.ret (.loc 1))] [])
noncomputable def PU:XS:=(.ret (.mt .lower (.loc 0) []))
def yY:List XS:=[PW,PV,PU]
def Z0:Fn:=⟨YF,["code"],[(.loc 0)],.inl yY⟩
def V0:Scope:=⟨.function,(("letters",.local)::("both",.local)::("number",.local)::("unseen",.cell)::("codes",.local)::("forms",.cell)::("letter",.local)::("dressed",.local)::("mark",.local)::("spelled",.local)::("kinds",.local)::("held",.local)::("list",.globalImplicit)::("range",.globalImplicit)::("chr",.globalImplicit)::("ord",.globalImplicit)::[]),false,false,(ek (st 23)).more⟩
def YE:K:=⟨V0,["letters","both","number","codes","letter","dressed","mark","spelled","kinds","held"],["unseen","forms"],"_law_forms.<locals>.",some (.ref 182)⟩
noncomputable def HO:XS:=(.asg (.cell 0) (.bin .Add (.list [(.k (.int 173)),(.k (.int 847)),(.k (.int 6150)),(.k (.int 6155)),(.k (.int 6156)),(.k (.int 6157)),(.k (.int 8203)),(.k (.int 8204)),(.k (.int 8205)),(.k (.int 8288)),(.k (.int 65279))]) (.bf .list [(.bf .range [(.k (.int 65024)),(.k (.int 65040))])])))
noncomputable def HN:XS:=(.asg (.loc 3) (.bin .Add (.list [(.k (.int 97)),(.k (.int 65))]) (.comp (.bin .Add (.k (.int 119808)) (.bin .Mult (.k (.int 52)) (.loc 0))) [(.loc 0)] [(.tup [(.k (.int 0)),(.k (.int 1)),(.k (.int 2)),(.k (.int 4)),(.k (.int 7)),(.k (.int 8)),(.k (.int 9)),(.k (.int 10)),(.k (.int 11)),(.k (.int 12))])] [[]] 1 0)))
noncomputable def PT:XS:=(.asg (.cell 1) (.new (.dict [] [])))
noncomputable def PS:XS:=(.fI (.loc 4) (.loc 0) [(.asg (.tup [(.loc 5),(.loc 6)]) (.tup [(.bf .chr [(.bin .Sub (.bin .Add (.sub (.loc 3) (.bin .Mod (.loc 2) (.k (.int 12)))) (.bf .ord [(.loc 4)])) (.k (.int 97)))]),(.bf .chr [(.sub (.cell 0) (.bin .Mod (.bin .FloorDiv (.loc 2) (.k (.int 12))) (.k (.int 27))))])])),(.ji (.cell 1) (.loc 4) (.sub (.list [(.loc 5),(.bin .Add (.loc 6) (.loc 5)),(.bin .Add (.loc 5) (.loc 6))]) (.bin .Mod (.bin .FloorDiv (.loc 2) (.k (.int 324))) (.k (.int 3))))),(.aug (.loc 2) .FloorDiv (.k (.int 972)))])
noncomputable def PR:XS:=(.asg (.loc 7) (.bin .Add (.bin .Add (.mt .join (.k (.dw "")) [(.comp (.sub (.cell 1) (.loc 0)) [(.loc 0)] [(.loc 0)] [[]] 1 0)]) (.loc 1)) (.mt .join (.k (.dw "")) [(.comp (.bf .chr [(.loc 0)]) [(.loc 0)] [(.cell 0)] [[]] 1 0)])))
noncomputable def PQ:XS:=(.asg (.tup [(.loc 8),(.loc 9)]) (.tup [(.comp (.call (.k (.con (.ref 132))) [(.loc 0)] [] []) [(.loc 0)] [(.loc 7)] [[]] 1 0),(.comp (.cmp (.bf .ord [(.loc 0)]) [.In] [(.cell 0)]) [(.loc 0)] [(.loc 7)] [[]] 1 0)]))
noncomputable def PO:XS:=(.ret (.dT (.and [(.cmp (.comp (.cmp (.loc 0) [.Is] [(.k (.bool true))]) [(.loc 0)] [(.loc 8)] [[]] 1 0) [.Eq] [(.loc 9)]),(.cmp (.comp (.cmp (.loc 0) [.IsNot] [(.k (.bool false))]) [(.loc 0)] [(.loc 8)] [[]] 1 0) [.Eq] [(.loc 9)])]) (.cell 1) (.dict [] [])))
def HP:List XS:=[HO,HN,PT,PS,PR,PQ,PO]
def ZZ:Fn:=⟨YE,["letters","both","number"],[(.loc 0),(.loc 1),(.loc 2)],.inl HP⟩
def VZ:Scope:=⟨.function,(("tag",.cell)::("attrib",.local)::("one",.cell)::("_law_element",.globalImplicit)::[]),false,false,(ek (st 24)).more⟩
def YD:K:=⟨VZ,["attrib"],["tag","one"],"_law_element.<locals>.",some (.ref 189)⟩
def PN:XS:=(.asg (.cell 1) (.lam sX []))
noncomputable def PM:XS:=(.setAttr (.cell 1) "tag" (.cell 0))
noncomputable def PL:XS:=(.setAttr (.cell 1) "attrib" (.loc 0))
noncomputable def PK:XS:=(.setAttr (.cell 1) "tail" (.mt .get (.loc 0) [(.k (.dw "tail"))]))
noncomputable def PJ:XS:=(.setAttr (.cell 1) "kids" (.new (.list [])))
noncomputable def PI:XS:=(.setAttr (.cell 1) "append" (.attr (.attr (.cell 1) "kids") "append"))
noncomputable def PH:XS:=(.setAttr (.cell 1) "makeelement" (.k (.con (.ref 190))))
def PG:XS:=(.setAttr (.cell 1) "itertext" (.lam iJ [("tag",0),("one",1)]))
noncomputable def PF:XS:=(.ret (.cell 1))
def Lk:List XS:=[PN,PM,PL,PK,PJ,PI,PH,PG,PF]
def U2:Fn:=⟨YD,["tag","attrib"],[(.cell 0),(.loc 0)],.inl Lk⟩
def VY:Scope:=⟨.function,(("one",.local)::("page",.local)::("told",.local)::("_serialize_text",.globalImplicit)::[]),false,false,(ek (st 25)).more⟩
def YC:K:=⟨VY,["one","page","told"],[],"_law_page.<locals>.",some (.ref 196)⟩
noncomputable def PE:XS:=(.asg (.loc 1) (.new (.list [])))
noncomputable def PD:XS:=(.asg (.loc 2) (.call (.k (.con (.ref 30))) [(.attr (.loc 1) "append"),(.loc 0)] [] []))
noncomputable def PB:XS:=(.ret (.dT (.cmp (.loc 2) [.Is] [(.k .none)]) (.mt .join (.k (.dw "")) [(.loc 1)]) (.k (.dw "?"))))
def Lj:List XS:=[PE,PD,PB]
def ZY:Fn:=⟨YC,["one"],[(.loc 0)],.inl Lj⟩
def VX:Scope:=⟨.function,(("wishes",.local)::("drives",.cell)::("wish",.local)::("free",.local)::("range",.globalImplicit)::("len",.globalImplicit)::[]),false,false,(ek (st 26)).more⟩
def YB:K:=⟨VX,["wishes","wish","free"],["drives"],"_law_parked.<locals>.",some (.ref 201)⟩
noncomputable def PA:XS:=(.asg (.cell 0) (.new (.dict [] [])))
noncomputable def Pz:XS:=(.fI (.loc 1) (.loc 0) [(.asg (.loc 2) (.bin .Add (.comp (.loc 0) [(.loc 0)] [(.bf .range [(.loc 1),(.bf .len [(.loc 0)])])] [[(.cmp (.loc 0) [.NotIn] [(.cell 0)])]] 1 0) (.list [(.bf .len [(.loc 0)])]))),(.ji (.cell 0) (.sub (.loc 2) (.k (.int 0))) (.bin .Sub (.sub (.loc 2) (.k (.int 0))) (.loc 1)))])
noncomputable def Py:XS:=(.ret (.cell 0))
def TX:List XS:=[PA,Pz,Py]
def U1:Fn:=⟨YB,["wishes"],[(.loc 0)],.inl TX⟩
def VW:Scope:=⟨.function,(("drives",.local)::("letters",.local)::("hand",.local)::("tail",.local)::("street",.local)::("given",.local)::("kept",.local)::("place",.local)::("text",.local)::("step",.local)::("_law_element",.globalImplicit)::("range",.globalImplicit)::("len",.globalImplicit)::("SubElement",.globalImplicit)::("_law_page",.globalImplicit)::[]),false,false,(ek (st 27)).more⟩
def YA:K:=⟨VW,["drives","letters","hand","tail","street","given","kept","place","text","step"],[],"_law_street.<locals>.",some (.ref 208)⟩
noncomputable def Px:XS:=(.asg (.tup [(.loc 4),(.loc 5),(.loc 6)]) (.tup [(.call (.k (.con (.ref 190))) [(.k (.dw "")),(.dict [(.k (.dw "tail"))] [(.loc 3)])] [] []),(.dict [(.k (.dw "tail")),(.k (.dw "lamp"))] [(.k (.dw "?")),(.k (.dw "!"))]),(.new (.list []))]))
noncomputable def Pw:XS:=(.fI (.loc 7) (.bf .range [(.bf .len [(.loc 1)])]) [(.asg (.loc 8) (.k (.dw "&"))),(.fI (.loc 9) (.bf .range [(.sub (.loc 0) (.loc 7))]) [(.asg (.loc 8) (.call (.loc 2) [(.loc 8)] [] []))]),(.expr (.mt .append (.loc 6) [(.cmp (.attr (.call (.k (.con (.ref 23))) [(.loc 4),(.sub (.loc 1) (.loc 7)),(.loc 5)] ["tail"] [(.loc 8)]) "attrib") [.Eq] [(.dict [(.k (.dw "tail")),(.k (.dw "lamp"))] [(.loc 8),(.k (.dw "!"))])])]))])
noncomputable def Pu:XS:=(.ret (.dT (.and [(.cmp (.loc 6) [.Eq] [(.bin .Mult (.list [(.k (.bool true))]) (.bf .len [(.loc 1)]))]),(.cmp (.loc 5) [.Eq] [(.dict [(.k (.dw "tail")),(.k (.dw "lamp"))] [(.k (.dw "?")),(.k (.dw "!"))])])]) (.call (.k (.con (.ref 197))) [(.loc 4)] [] []) (.k (.dw "?"))))
def Li:List XS:=[Px,Pw,Pu]
def ZX:Fn:=⟨YA,["drives","letters","hand","tail"],[(.loc 0),(.loc 1),(.loc 2),(.loc 3)],.inl Li⟩
def VV:Scope:=⟨.function,(("letters",.cell)::("forms",.cell)::("both",.local)::("hand",.local)::("tail",.local)::("n",.cell)::("table",.local)::("rows",.local)::("step",.local)::("row",.cell)::("drives",.cell)::("meant",.local)::("typed",.local)::("page",.local)::("due",.local)::("order",.cell)::("late",.cell)::("calls",.local)::("len",.globalImplicit)::("_law_parked",.globalImplicit)::("_law_street",.globalImplicit)::("range",.globalImplicit)::("sorted",.globalImplicit)::[]),false,false,(ek (st 28)).more⟩
def Yz:K:=⟨VV,["both","hand","tail","table","rows","step","meant","typed","page","due","calls"],["letters","forms","n","row","drives","order","late"],"_law_table.<locals>.",some (.ref 213)⟩
noncomputable def HL:XS:=(.asg (.tup [(.cell 2),(.loc 3),(.loc 4)]) (.tup [(.bf .len [(.cell 0)]),(.new (.list [])),(.list [(.list [])])]))
noncomputable def Pt:XS:=(.fI (.loc 5) (.cell 0) [(.asg (.loc 4) (.comp (.bin .Add (.loc 0) (.list [(.loc 1)])) [(.loc 0),(.loc 1)] [(.loc 4),(.bf .range [(.cell 2)])] [[],[]] 2 0))])
noncomputable def Pr:XS:=(.fI (.cell 3) (.loc 4) [(.asg (.cell 4) (.call (.k (.con (.ref 202))) [(.cell 3)] [] [])),(.dT (.cmp (.cell 2) [.NotIn] [(.cell 4)]) [(.asg (.loc 6) (.mt .join (.k (.dw "")) [(.comp (.sub (.cell 0) (.loc 0)) [(.loc 0)] [(.cell 3)] [[]] 1 0)])),(.asg (.loc 7) (.mt .join (.k (.dw "")) [(.comp (.mt .get (.cell 1) [(.loc 0),(.loc 0)]) [(.loc 0)] [(.mt .replace (.loc 6) [(.k_ (.cell 0) (.k .none) (.k (.int 2))),(.loc 0)])] [[]] 1 0)])),(.dT (.cmp (.mt .join (.k (.dw "")) [(.comp (.call (.k (.con (.ref 178))) [(.loc 0)] [] []) [(.loc 0)] [(.loc 7)] [[(.un .Not (.call (.k (.con (.ref 132))) [(.loc 0)] [] []))]] 1 0)]) [.NotEq] [(.loc 6)]) [(.ret (.list []))] []),(.asg (.loc 8) (.call (.k (.con (.ref 209))) [(.cell 4),(.cell 0),(.loc 1),(.loc 2)] [] [])),(.asg (.loc 9) (.bin .Add (.mt .join (.k (.dw "")) [(.comp (.bin .Add (.bin .Add (.sub (.cell 0) (.loc 0)) (.k (.dw "&"))) (.bin .Mult (.k (.dw "amp;")) (.sub (.cell 4) (.loc 0)))) [(.loc 0)] [(.bf .range [(.cell 2)])] [[]] 1 0)]) (.or [(.loc 2),(.k (.dw ""))]))),(.dT (.or [(.cmp (.loc 8) [.NotEq] [(.loc 9)]),(.cmp (.call (.loc 1) [(.loc 8)] [] []) [.NotEq] [(.mt .replace (.loc 9) [(.k (.dw "&")),(.k (.dw "&amp;"))])])]) [(.ret (.list []))] []),(.asg (.cell 5) (.bf .sorted [(.comp (.tup [(.sub (.cell 3) (.loc 0)),(.loc 0)]) [(.loc 0)] [(.bf .range [(.cell 2)])] [[]] 1 0)])),(.asg (.cell 6) (.comp (.bin .Sub (.loc 0) (.sub (.sub (.cell 5) (.loc 0)) (.k (.int 0)))) [(.loc 0)] [(.bf .range [(.cell 2)])] [[]] 1 0)),(.asg (.loc 10) (.comp (.cmp (.bin .Sub (.sub (.cell 6) (.loc 1)) (.sub (.cell 6) (.loc 0))) [.Eq] [(.dT (.cmp (.sub (.sub (.cell 5) (.loc 1)) (.k (.int 1))) [.Lt] [(.sub (.sub (.cell 5) (.loc 0)) (.k (.int 1)))]) (.k (.int 0)) (.k (.int 1)))]) [(.loc 0),(.loc 1)] [(.bf .range [(.cell 2)]),(.bf .range [(.loc 0)])] [[],[]] 2 0)),(.expr (.mt .append (.loc 3) [(.tup [(.mt .count (.loc 8) [(.k (.dw ";"))]),(.mt .count (.loc 10) [(.k (.bool true))])])]))] [])])
noncomputable def Pq:XS:=(.ret (.loc 3))
def HM:List XS:=[HL,Pt,Pr,Pq]
def ZW:Fn:=⟨Yz,["letters","forms","both","hand","tail"],[(.cell 0),(.cell 1),(.loc 0),(.loc 1),(.loc 2)],.inl HM⟩
def VU:Scope:=⟨.function,(("parent",.local)::("place",.local)::("above",.local)::("letters",.local)::("k",.local)::("range",.globalImplicit)::("len",.globalImplicit)::("_law_hung",.globalImplicit)::("SubElement",.globalImplicit)::[]),false,false,(ek (st 29)).more⟩
def Yy:K:=⟨VU,["parent","place","above","letters","k"],[],"_law_hung.<locals>.",some (.ref 220)⟩
noncomputable def Pp:XS:=(.fI (.loc 4) (.bf .range [(.bf .len [(.loc 3)])]) [(.dT (.cmp (.sub (.loc 2) (.loc 4)) [.Eq] [(.loc 1)]) [(.expr (.call (.k (.con (.ref 221))) [(.call (.k (.con (.ref 23))) [(.loc 0),(.sub (.loc 3) (.loc 4))] ["tail"] [(.k (.dw ")"))]),(.bin .Add (.loc 4) (.k (.int 1))),(.loc 2),(.loc 3)] [] []))] [])])
def Lh:List XS:=[Pp]
def ZV:Fn:=⟨Yy,["parent","place","above","letters"],[(.loc 0),(.loc 1),(.loc 2),(.loc 3)],.inl Lh⟩
def VT:Scope:=⟨.function,(("letters",.local)::("n",.cell)::("counts",.local)::("number",.cell)::("k",.cell)::("up",.cell)::("top",.local)::("path",.local)::("turned",.local)::("sign",.local)::("len",.globalImplicit)::("range",.globalImplicit)::("SubElement",.globalImplicit)::("_law_element",.globalImplicit)::("_law_hung",.globalImplicit)::("_law_page",.globalImplicit)::[]),false,false,(ek (st 30)).more⟩
def Yx:K:=⟨VT,["letters","counts","top","path","turned","sign"],["n","number","k","up"],"_law_trees.<locals>.",some (.ref 225)⟩
noncomputable def Po:XS:=(.asg (.tup [(.cell 0),(.loc 1)]) (.tup [(.bf .len [(.loc 0)]),(.new (.list []))]))
noncomputable def Pn:XS:=(.fI (.cell 1) (.bf .range [(.bin .Pow (.cell 0) (.cell 0))]) [(.asg (.cell 3) (.bin .Add (.list [(.k (.int 0))]) (.comp (.bin .Add (.bin .Mod (.bin .FloorDiv (.cell 1) (.bin .Pow (.cell 0) (.loc 0))) (.cell 0)) (.dT (.cmp (.bin .Mod (.bin .FloorDiv (.cell 1) (.bin .Pow (.cell 0) (.loc 0))) (.cell 0)) [.Gt] [(.loc 0)]) (.k (.int 1)) (.k (.int 0)))) [(.loc 0)] [(.bf .range [(.cell 0)])] [[]] 1 0))),(.dT (.cmp (.comp (.sub (.cell 3) (.sub (.cell 3) (.sub (.cell 3) (.loc 0)))) [(.loc 0)] [(.bf .range [(.bin .Add (.cell 0) (.k (.int 1)))])] [[]] 1 0) [.Eq] [(.bin .Mult (.list [(.k (.int 0))]) (.bin .Add (.cell 0) (.k (.int 1))))]) [(.asg (.tup [(.loc 2),(.loc 3),(.loc 4)]) (.tup [(.call (.k (.con (.ref 23))) [(.call (.k (.con (.ref 190))) [(.k (.dw "")),(.dict [] [])] [] []),(.k (.dw ""))] [] []),(.list []),(.k (.int 0))])),(.expr (.call (.k (.con (.ref 221))) [(.loc 2),(.k (.int 0)),(.k_ (.cell 3) (.k (.int 1)) (.k .none)),(.loc 0)] [] [])),(.fI (.loc 5) (.call (.k (.con (.ref 197))) [(.loc 2)] [] []) [(.asg (.cell 2) (.mt .find (.loc 0) [(.loc 5)])),(.aug (.loc 4) .Add (.dT (.cmp (.cell 2) [.GtE] [(.k (.int 0))]) (.bf .len [(.comp (.k (.int 1)) [(.loc 0)] [(.loc 3)] [[(.cmp (.loc 0) [.Gt] [(.cell 2)])]] 1 0)]) (.k (.int 0)))),(.asg (.loc 3) (.dT (.cmp (.cell 2) [.GtE] [(.k (.int 0))]) (.bin .Add (.loc 3) (.list [(.cell 2)])) (.k_ (.loc 3) (.k .none) (.un .USub (.k (.int 1))))))]),(.expr (.mt .append (.loc 1) [(.loc 4)]))] [])])
noncomputable def Pm:XS:=(.ret (.loc 1))
def Lg:List XS:=[Po,Pn,Pm]
def ZU:Fn:=⟨Yx,["letters"],[(.loc 0)],.inl Lg⟩
def VS:Scope:=⟨.function,(("n",.local)::("base",.cell)::("whole",.cell)::("choose",.cell)::("m",.cell)::("parts",.local)::("range",.globalImplicit)::("sum",.globalImplicit)::[]),false,false,(ek (st 31)).more⟩
def Yw:K:=⟨VS,["n","parts"],["base","whole","choose","m"],"_law_webs.<locals>.",some (.ref 230)⟩
noncomputable def Pl:XS:=(.asg (.tup [(.cell 1),(.cell 2)]) (.tup [(.new (.list [(.k (.int 0)),(.k (.int 1))])),(.list [(.list [(.k (.int 1))]),(.list [(.k (.int 1)),(.k (.int 1))]),(.list [(.k (.int 1)),(.k (.int 2)),(.k (.int 1))]),(.list [(.k (.int 1)),(.k (.int 3)),(.k (.int 3)),(.k (.int 1))])])]))
noncomputable def Pk:XS:=(.fI (.cell 3) (.bf .range [(.k (.int 2)),(.bin .Add (.loc 0) (.k (.int 2)))]) [(.asg (.loc 1) (.comp (.bin .Mult (.bin .Mult (.sub (.sub (.cell 2) (.bin .Sub (.cell 3) (.k (.int 1)))) (.bin .Sub (.loc 0) (.k (.int 1)))) (.sub (.cell 1) (.loc 0))) (.bin .Pow (.bin .Add (.cell 0) (.k (.int 1))) (.bin .FloorDiv (.bin .Mult (.bin .Sub (.cell 3) (.loc 0)) (.bin .Sub (.bin .Sub (.cell 3) (.loc 0)) (.k (.int 1)))) (.k (.int 2))))) [(.loc 0)] [(.bf .range [(.k (.int 1)),(.cell 3)])] [[]] 1 0)),(.expr (.mt .append (.cell 1) [(.bin .Sub (.bin .Pow (.bin .Add (.cell 0) (.k (.int 1))) (.bin .FloorDiv (.bin .Mult (.cell 3) (.bin .Sub (.cell 3) (.k (.int 1)))) (.k (.int 2)))) (.bf .sum [(.loc 1)]))]))])
noncomputable def Pj:XS:=(.ret (.sub (.cell 1) (.bin .Add (.loc 0) (.k (.int 1)))))
def yX:List XS:=[Pl,Pk,Pj]
def ZT:Fn:=⟨Yw,["n","base"],[(.loc 0),(.cell 0)],.inl yX⟩
def VR:Scope:=⟨.function,(("table",.local)::("most",.cell)::("width",.cell)::("pair",.local)::("number",.local)::("figures",.local)::("sum",.globalImplicit)::("_int2digits",.globalImplicit)::("_digits2int",.globalImplicit)::[]),false,false,(ek (st 32)).more⟩
def Yv:K:=⟨VR,["table","pair","number","figures"],["most","width"],"_law_both_ways.<locals>.",some (.ref 235)⟩
noncomputable def HJ:XS:=(.asg (.tup [(.loc 2),(.loc 3)]) (.tup [(.bf .sum [(.comp (.bin .Pow (.k (.int 2)) (.bin .Mult (.cell 1) (.bin .Add (.bin .Mult (.bin .Add (.cell 0) (.k (.int 1))) (.sub (.loc 0) (.k (.int 0)))) (.sub (.loc 0) (.k (.int 1)))))) [(.loc 0)] [(.loc 0)] [[]] 1 0)]),(.new (.bin .Mult (.list [(.k (.int 0))]) (.bin .Add (.bin .Mult (.bin .Add (.cell 0) (.k (.int 1))) (.cell 0)) (.k (.int 1)))))]))
noncomputable def Ph:XS:=(.fI (.loc 1) (.loc 0) [(.nq (.loc 3) (.bin .Add (.bin .Mult (.bin .Add (.cell 0) (.k (.int 1))) (.sub (.loc 1) (.k (.int 1)))) (.sub (.loc 1) (.k (.int 0)))) .Add (.k (.int 1)))])
noncomputable def Pg:XS:=(.ret (.and [(.cmp (.call (.k (.con (.ref 93))) [(.loc 2),(.cell 1)] [] []) [.Eq] [(.loc 3)]),(.cmp (.call (.k (.con (.ref 100))) [(.loc 3),(.cell 1)] [] []) [.Eq] [(.loc 2)])]))
def HK:List XS:=[HJ,Ph,Pg]
def ZS:Fn:=⟨Yv,["table","most","width"],[(.loc 0),(.cell 0),(.cell 1)],.inl HK⟩
def VQ:Scope:=⟨.function,(("script",.cell)::("begun",.cell)::("cells",.local)::("n",.local)::("hands",.local)::("triples",.local)::("triple",.local)::("both",.local)::("letters",.local)::("forms",.local)::("table",.cell)::("drives",.local)::("big",.local)::("unit",.local)::("width",.local)::("scale",.local)::("base",.cell)::("most",.cell)::("counts",.local)::("whole",.local)::("divisor",.local)::("rest",.local)::("one",.local)::("other",.local)::("due",.local)::("range",.globalImplicit)::("_escape_cdata",.globalImplicit)::("_escape_attrib",.globalImplicit)::("_escape_attrib_html",.globalImplicit)::("_escape_cdata_c14n",.globalImplicit)::("_escape_attrib_c14n",.globalImplicit)::("_law_forms",.globalImplicit)::("_law_table",.globalImplicit)::("len",.globalImplicit)::("sorted",.globalImplicit)::("_law_trees",.globalImplicit)::("int_divmod",.globalImplicit)::("_law_webs",.globalImplicit)::("sum",.globalImplicit)::("_law_both_ways",.globalImplicit)::("_int2digits",.globalImplicit)::("_digits2int",.globalImplicit)::[]),false,false,(ek (st 33)).more⟩
def Yu:K:=⟨VQ,["cells","n","hands","triples","triple","both","letters","forms","drives","big","unit","width","scale","counts","whole","divisor","rest","one","other","due"],["script","begun","table","base","most"],"law.<locals>.",some (.ref 240)⟩
noncomputable def Pf:XS:=(.asg (.cell 1) (.tup [(.k (.int 18)),(.k (.int 271828)),(.k (.int 6720123))]))
noncomputable def HH:XS:=(.asg (.loc 0) (.comp (.bin .Add (.sub (.cell 1) (.loc 0)) (.bf .sum [(.comp (.bin .Mod (.sub (.cell 0) (.loc 0)) (.bin .Pow (.k (.int 10)) (.k (.int 12)))) [(.loc 0)] [(.bf .range [(.loc 0),(.bf .min [(.bf .len [(.cell 0)]),(.k (.int 60))]),(.k (.int 3))])] [[]] 1 0)])) [(.loc 0)] [(.bf .range [(.k (.int 3))])] [[]] 1 0))
noncomputable def HG:XS:=(.asg (.tup [(.loc 1),(.loc 2)]) (.tup [(.bin .Add (.k (.int 2)) (.bin .Mod (.sub (.loc 0) (.k (.int 0))) (.k (.int 2)))),(.list [(.k (.con (.ref 44))),(.k (.con (.ref 51))),(.k (.con (.ref 58))),(.k (.con (.ref 65))),(.k (.con (.ref 72)))])]))
noncomputable def HE:XS:=(.asg (.loc 3) (.list [(.tup [(.k (.dw "fil")),(.k (.dw "ﬁ"))]),(.tup [(.k (.dw "stm")),(.k (.dw "ﬆ"))]),(.tup [(.k (.dw "hpz")),(.k (.dw "㏋"))]),(.tup [(.k (.dw "kmv")),(.k (.dw "㏎"))]),(.tup [(.k (.dw "wbn")),(.k (.dw "㏝"))]),(.tup [(.k (.dw "rso")),(.k (.dw "₨"))]),(.tup [(.k (.dw "nok")),(.k (.dw "№"))]),(.tup [(.k (.dw "flh")),(.k (.dw "ﬂ"))])]))
noncomputable def HD:XS:=(.asg (.tup [(.loc 4),(.loc 5)]) (.sub (.loc 3) (.bin .Mod (.bin .FloorDiv (.sub (.loc 0) (.k (.int 0))) (.k (.int 30))) (.k (.int 8)))))
noncomputable def HC:XS:=(.asg (.loc 6) (.k_ (.loc 4) (.k .none) (.loc 1)))
noncomputable def HB:XS:=(.asg (.loc 7) (.call (.k (.con (.ref 183))) [(.loc 6),(.loc 5),(.sub (.loc 0) (.k (.int 1)))] [] []))
noncomputable def HA:XS:=(.asg (.cell 2) (.call (.k (.con (.ref 214))) [(.loc 6),(.loc 7),(.dT (.cmp (.bin .Mod (.sub (.loc 0) (.k (.int 1))) (.k (.int 5))) [.NotEq] [(.k (.int 0))]) (.loc 5) (.k_ (.loc 6) (.k .none) (.k (.int 2)))),(.sub (.loc 2) (.bin .Mod (.bin .FloorDiv (.sub (.loc 0) (.k (.int 0))) (.k (.int 2))) (.k (.int 5)))),(.sub (.list [(.k .none),(.k (.dw ".")),(.k (.dw ""))]) (.bin .Mod (.bin .FloorDiv (.sub (.loc 0) (.k (.int 0))) (.k (.int 10))) (.k (.int 3))))] [] []))
noncomputable def Hz:XS:=(.asg (.loc 8) (.comp (.sub (.loc 0) (.k (.int 0))) [(.loc 0)] [(.cell 2)] [[]] 1 0))
noncomputable def Hy:XS:=(.dT (.or [(.cmp (.loc 7) [.Eq] [(.dict [] [])]),(.cmp (.bf .len [(.cell 2)]) [.NotEq] [(.bin .Pow (.bin .Add (.loc 1) (.k (.int 1))) (.bin .Sub (.loc 1) (.k (.int 1))))]),(.cmp (.bf .sorted [(.call (.k (.con (.ref 226))) [(.loc 6)] [] [])]) [.NotEq] [(.bf .sorted [(.loc 8)])])]) [(.ret (.k (.bool false)))] [])
noncomputable def B3:XS:=(.asg (.tup [(.loc 9),(.loc 10)]) (.tup [(.cmp (.bin .Mod (.bin .FloorDiv (.sub (.loc 0) (.k (.int 2))) (.k (.int 60000))) (.k (.int 16))) [.Eq] [(.k (.int 5))]),(.bin .Add (.k (.int 1)) (.bin .Mod (.bin .FloorDiv (.sub (.loc 0) (.k (.int 2))) (.k (.int 60))) (.k (.int 1000))))]))
noncomputable def B2:XS:=(.asg (.tup [(.loc 11),(.loc 12)]) (.tup [(.bin .Add (.bin .Add (.k (.int 5)) (.bin .Mod (.sub (.loc 0) (.k (.int 2))) (.k (.int 60)))) (.dT (.loc 9) (.k (.int 2200)) (.k (.int 0)))),(.dT (.loc 9) (.bin .Sub (.bin .Mult (.loc 10) (.bin .Pow (.k (.int 2)) (.k (.int 4103)))) (.k (.int 1))) (.loc 10))]))
noncomputable def B1:XS:=(.asg (.tup [(.cell 3),(.cell 4)]) (.tup [(.bin .Pow (.k (.int 2)) (.loc 11)),(.bin .FloorDiv (.bin .Mult (.loc 1) (.bin .Sub (.loc 1) (.k (.int 1)))) (.k (.int 2)))]))
noncomputable def BZ:XS:=(.dT (.or [(.cmp (.call (.k (.con (.ref 114))) [(.call (.k (.con (.ref 231))) [(.loc 1),(.cell 3)] [] []),(.bin .Pow (.cell 3) (.loc 1))] [] []) [.NotEq] [(.tup [(.bf .sum [(.comp (.bin .Pow (.bin .Add (.cell 3) (.k (.int 1))) (.loc 0)) [(.loc 0)] [(.loc 8)] [[]] 1 0)]),(.k (.int 0))])]),(.un .Not (.call (.k (.con (.ref 236))) [(.cell 2),(.cell 4),(.loc 11)] [] []))]) [(.ret (.k (.bool false)))] [])
noncomputable def BY:XS:=(.asg (.loc 13) (.comp (.bf .len [(.comp (.k (.int 1)) [(.loc 0)] [(.cell 3)] [[(.cmp (.bin .Sub (.bin .Add (.cell 5) (.sub (.loc 0) (.k (.int 0)))) (.sub (.loc 0) (.k (.int 1)))) [.Eq] [(.cell 0)])]] 1 0)]) [(.cell 0)] [(.bf .range [(.bin .Add (.bin .Mult (.k (.int 2)) (.cell 4)) (.k (.int 1)))])] [[]] 0 1))
noncomputable def BX:XS:=(.asg (.tup [(.loc 14),(.loc 15)]) (.tup [(.bin .Mult (.bin .Pow (.bin .Sub (.bin .Pow (.cell 3) (.bin .Add (.loc 1) (.k (.int 1)))) (.k (.int 1))) (.bin .Sub (.loc 1) (.k (.int 1)))) (.loc 12)),(.bin .Mult (.bin .Pow (.bin .Sub (.cell 3) (.k (.int 1))) (.bin .Sub (.loc 1) (.k (.int 1)))) (.loc 12))]))
noncomputable def BW:XS:=(.dT (.cmp (.call (.k (.con (.ref 93))) [(.sub (.call (.k (.con (.ref 114))) [(.loc 14),(.loc 15)] [] []) (.k (.int 0))),(.loc 11)] [] []) [.NotEq] [(.loc 13)]) [(.ret (.k (.bool false)))] [])
noncomputable def BV:XS:=(.asg (.loc 16) (.bin .Mod (.bin .FloorDiv (.sub (.loc 0) (.k (.int 2))) (.k (.int 960000))) (.loc 15)))
noncomputable def BU:XS:=(.asg (.tup [(.loc 17),(.loc 18)]) (.sub (.list [(.tup [(.k (.int 1)),(.k (.int 1))]),(.tup [(.k (.int 1)),(.un .USub (.k (.int 1)))]),(.tup [(.un .USub (.k (.int 1))),(.k (.int 1))]),(.tup [(.un .USub (.k (.int 1))),(.un .USub (.k (.int 1)))])]) (.bin .Mod (.bin .FloorDiv (.sub (.loc 0) (.k (.int 2))) (.k (.int 7))) (.k (.int 4)))))
noncomputable def BS:XS:=(.asg (.loc 19) (.bin .Mult (.loc 17) (.bin .Add (.bin .Mult (.call (.k (.con (.ref 100))) [(.loc 13),(.loc 11)] [] []) (.loc 15)) (.loc 16))))
noncomputable def BR:XS:=(.ret (.cmp (.call (.k (.con (.ref 114))) [(.bin .Mult (.loc 17) (.bin .Add (.loc 14) (.loc 16))),(.bin .Mult (.loc 18) (.loc 15))] [] []) [.Eq] [(.tup [(.bin .FloorDiv (.loc 19) (.bin .Mult (.loc 18) (.loc 15))),(.bin .Mod (.loc 19) (.bin .Mult (.loc 18) (.loc 15)))])]))
def HI:List XS:=[Pf,HH,HG,HE,HD,HC,HB,HA,Hz,Hy,B3,B2,B1,BZ,BY,BX,BW,BV,BU,BS,BR]
def ZR:Fn:=⟨Yu,["script"],[(.cell 0)],.inl HI⟩
noncomputable def G9:List (Str×Value):=["len","sum","sorted","chr","ord","min","max","abs","divmod","range","list","set","reversed"].filterMap λ(y:String)=>let x:Str:=Str.ofString y;(bootBuiltins x).map λv=>(x,v)
def g0:Glob:={ top:=Ak.map λx=>(x.1,x.2.2),blt:=G9,pP:=CL,vals:=[("b3_exceptions",Jp)] }
noncomputable def ez (n:Nat) (as:List V) (kn:List Str) (kv:List V):Option (List V):=if kn=[]/\kv.length=0/\as.length=n then some as else none
noncomputable def subB (as:List V) (kn:List Str) (kv:List V):Option (List V):=if kn.length=kv.length/\(kn=[]\/kn=[Str.ofString "tail"]) then match as with
 | [p,t]=>some [p,t,.dE [] [],.dE (kn.map .str) kv]
 | [p,t,a]=>if kn=[] then none else some [p,t,a,.dE (kn.map .str) kv]
 | _=>none else none
def LC:eh:=⟨241,ZR,ez 1,true,[]⟩
def LD:eh:=⟨236,ZS,ez 3,true,["figures"]⟩
def H_:eh:=⟨231,ZT,ez 2,true,["whole"]⟩
def LF:eh:=⟨226,ZU,ez 1,true,["counts"]⟩
def LG:eh:=⟨221,ZV,ez 4,false,[]⟩
def LH:eh:=⟨214,ZW,ez 5,true,["table"]⟩
def LI:eh:=⟨209,ZX,ez 4,true,["kept"]⟩
def LJ:eh:=⟨202,U1,ez 1,true,["drives"]⟩
def LK:eh:=⟨197,ZY,ez 1,false,["page"]⟩
def LL:eh:=⟨190,U2,ez 2,false,["kids"]⟩
def LM:eh:=⟨183,ZZ,ez 3,true,["forms"]⟩
def Ia:eh:=⟨178,Z0,ez 1,true,[]⟩
def Cp:eh:=⟨114,Z1,ez 2,true,[]⟩
def LN:eh:=⟨107,Z2,ez 2,true,["q_digits"]⟩
def LO:eh:=⟨100,U3,ez 2,false,[]⟩
def LP:eh:=⟨93,Z3,ez 2,true,["a_digits"]⟩
def LQ:eh:=⟨86,Z4,ez 6,true,[]⟩
def LR:eh:=⟨79,Z5,ez 3,true,[]⟩
def t8:eh:=⟨72,f8,ez 1,true,[]⟩
def t7:eh:=⟨65,f7,ez 1,true,[]⟩
def t6:eh:=⟨58,f6,ez 1,true,[]⟩
def t5:eh:=⟨51,f5,ez 1,true,[]⟩
def t4:eh:=⟨44,f4,ez 1,true,[]⟩
def t2:eh:=⟨30,f2,ez 2,false,[]⟩
def t1:eh:=⟨23,f1,subB,false,[]⟩
def lZ:List eh:=[LC,LD,H_,LF,LG,LH,LI,LJ,LK,LL,LM,Ia,Cp,LN,LO,LP,LQ,LR,t8,t7,t6,t5,t4,t2,t1]
noncomputable def qm:List Int:=[65024,65025,65026,65027,65028,65029,6150,65030,65031,65032,65033,6155,6156,6157,8203,8204,8205,65034,65035,65036,65037,65038,65039,173,847,8288,65279]
def u0 (s:Str):Option V:=match s.cps.toList with
 | [c]=>some (.bool (qm.contains (c:Int)))
 | _=>none
def Il (as:List V):Option V:=match as with
 | [.str s]=>u0 s
 | _=>none
def ma (a:Addr) (as:List V):Option V:=if a=132 then Il as else none
def dA (n:Nat):er:=Vm.AI g0 [] lZ ma n
end L1
end
noncomputable section
open PySem PySem.W PyProof.Rows PySem.Calls PySem.Spec
namespace PySem.Sem
theorem Ae (M:Model) (f){E:Value->Pos->Shared->Prop}{s:Shared} (b:s.heap.get? d=some ⟨.type "dict",none,.dict #[] n,#[]⟩) (Q:Unit->Pos->Shared->Prop) (h:∀c,c.get? d=some ⟨.type "dict",none,.dict #[⟨aS M.w.params k,.str k s.toks,v⟩] (n+1),#[]⟩->Heap.SameBut d s.heap c->Q () p { s with heap:=c,toks:=s.toks+1 }):wp M f (nsSet d k v) Q E p s:=by
 simp only[nsSet,strHash,wp_bind',wp_cmd_ask,wp_pure',wp_cmd_mkText]
 rw[wp_loadPart_of M f E p { s with toks:=s.toks+1 } (o:=_) _ b]
 have a:(#[]:Array ag).any (·.refKey)=false:=by simp
 simp only[aRefKeyMayBeTheName_eq,aRefKeyMayBeTheNameByArray,a,Bool.and_false,Bool.false_eq_true,if_false,wp_cmd_updatePart]
 refine ⟨by rw[b];rfl,h _ ?_ (Heap.SameBut.update ..)⟩
 have e:(#[]:Array ag).findIdx? (·.key.isStr k)=none:=by simp
 refine Heap.get?_update_self _ b (by simp only[Obj.putName_eq,Obj.putNameByArray,e];rfl) |>.trans ?_
 simp only[Obj.putName_eq,Obj.putNameByArray,e];rfl
end PySem.Sem
namespace L1
open ft
open Vm
theorem JP {M:Model}{Q:Unit->Shared->Prop}{E:Value->Shared->Prop}{s:Shared} (b:s.heap.get? d=some ⟨.type "dict",none,.dict #[] n,#[]⟩) (h:∀a,a.get? d=some ⟨.type "dict",none,.dict #[⟨aS M.w.params k,.str k s.toks,v⟩] (n+1),#[]⟩->Heap.SameBut d s.heap a->Q () { s with heap:=a,toks:=s.toks+1 }):wpAny M A (nsSet d k v) Q E s:=λc p _=>Sem.Ae M c b _ h
section
variable {M:Model}{A:Around}{x1 x2 x3:Value}{Q:List (Str×Value)->Shared->Prop}{E:Value->Shared->Prop}{s:Shared}
def yn (fd:FuncData):Prop:=∃h a g b e d i f c,fd.params=⟨[],[⟨"parent",h,a⟩,⟨"tag",g,b⟩,⟨"attrib",e,d⟩],none,[],[],some ⟨"extra",i,f⟩,c⟩/\fd.defaults=.ref 16
theorem s_ {f:Option (Array Value)->Sem (List (Str×Value))} (a:s.heap.get? 16=some ⟨.type "tuple",none,.seq #[.ref 15] 0,#[]⟩) (h:wpAny M A (f (some #[.ref 15])) Q E s):wpAny M A (seqItems? (.ref 16)>>=f) Q E s:=wpAny_bind (wpAny_bind (bT a (wpAny_pure h)))
theorem OB {fd:FuncData}(e:yn fd) (a:s.heap.get? 16=some ⟨.type "tuple",none,.seq #[.ref 15] 0,#[]⟩) (h:wpAny M A (cY ⟨.type "dict",none,.dict #[] 0,#[]⟩) (λd b=>Q [(Str.ofString "parent",x1),(Str.ofString "tag",x2),(Str.ofString "attrib",.ref 15),(Str.ofString "extra",.ref d)] b) E s):wpAny M A (ba fd ⟨[x1,x2],[]⟩) Q E s:=by
 obtain ⟨_,_,_,_,_,_,_,_,_,_,_,_,_⟩:=fd
 obtain ⟨m,g,o,i,n,k,p,l,j,c,f⟩:=e
 subst c f
 refine s_ a (?_:wpAny M A (cY _>>=_) Q E s)
 exact wpAny_bind (wpAny_mono h (λd b h=>wpAny_pure h) λ_ _ h=>h)
theorem KY {fd:FuncData}(e:yn fd) {k:Value}(a:s.heap.get? 16=some ⟨.type "tuple",none,.seq #[.ref 15] 0,#[]⟩) (h:wpAny M A (cY ⟨.type "dict",none,.dict #[] 0,#[]⟩) (λd b=>wpAny M A (nsSet d (Str.ofString "tail") k) (λ_=>Q [(Str.ofString "parent",x1),(Str.ofString "tag",x2),(Str.ofString "attrib",.ref 15),(Str.ofString "extra",.ref d)]) E b) E s):wpAny M A (ba fd ⟨[x1,x2],[(Str.ofString "tail",k)]⟩) Q E s:=by
 obtain ⟨_,_,_,_,_,_,_,_,_,_,_,_,_⟩:=fd
 obtain ⟨o,g,q,i,p,l,t,m,j,c,f⟩:=e
 subst c f
 refine s_ a (?_:wpAny M A (cY _>>=_) Q E s)
 refine wpAny_bind (wpAny_mono h (λd b h=>?_) λ_ _ h=>h)
 refine (?_:wpAny M A (((nsSet d (Str.ofString "tail") k>>=λ_=>pure _)>>=_)>>=_) Q E b)
 exact wpAny_bind (wpAny_bind (wpAny_bind (wpAny_mono h (λ_ n h=>wpAny_pure (wpAny_pure (wpAny_pure h))) λ_ _ h=>h)))
theorem KX {fd:FuncData}(e:yn fd) {k:Value}(a:s.heap.get? 16=some ⟨.type "tuple",none,.seq #[.ref 15] 0,#[]⟩) (h:wpAny M A (cY ⟨.type "dict",none,.dict #[] 0,#[]⟩) (λd b=>wpAny M A (nsSet d (Str.ofString "tail") k) (λ_=>Q [(Str.ofString "parent",x1),(Str.ofString "tag",x2),(Str.ofString "attrib",x3),(Str.ofString "extra",.ref d)]) E b) E s):wpAny M A (ba fd ⟨[x1,x2,x3],[(Str.ofString "tail",k)]⟩) Q E s:=by
 obtain ⟨_,_,_,_,_,_,_,_,_,_,_,_,_⟩:=fd
 obtain ⟨o,g,q,i,p,l,t,m,j,c,f⟩:=e
 subst c f
 refine s_ a (?_:wpAny M A (cY _>>=_) Q E s)
 refine wpAny_bind (wpAny_mono h (λd b h=>?_) λ_ _ h=>h)
 refine (?_:wpAny M A (((nsSet d (Str.ofString "tail") k>>=λ_=>pure _)>>=_)>>=_) Q E b)
 exact wpAny_bind (wpAny_bind (wpAny_bind (wpAny_mono h (λ_ n h=>wpAny_pure (wpAny_pure (wpAny_pure h))) λ_ _ h=>h)))
end
theorem CB (h:Heap):h.get? h.objs.size=none:=by
 cases q:h.get? h.objs.size with
 | none=>rfl
 | some o=>exact absurd (Heap.lt_size q) (Nat.lt_irrefl _)
theorem EU (h:subB as kn kv=some vs):(kn.length=kv.length/\(kn=[]\/kn=[Str.ofString "tail"]))/\((∃p t,as=[p,t]/\vs=[p,t,.dE [] [],.dE (kn.map .str) kv])\/∃p t a,as=[p,t,a]/\kn≠[]/\vs=[p,t,a,.dE (kn.map .str) kv]):=by
 refine dN h λb h=>⟨b,?_⟩
 cases as with
 | nil=>exact nS h
 | cons p as=>cases as with
  | nil=>exact nS h
  | cons t as=>cases as with
   | nil=>exact .inl ⟨p,t,rfl,(Option.some.inj h).symm⟩
   | cons a as=>cases as with
    | nil=>exact eO h λc h=>.inr ⟨p,t,a,rfl,c,(Option.some.inj h).symm⟩
    | cons _ _=>exact nS h
section
variable {fd:FuncData}(hf:yn fd) (zL:C.fu 16=some ⟨.type "tuple",none,.seq #[.ref 15] 0,#[]⟩) {A:Around}{W:Wd}{hp':List O}{xs:List Value}{x1 x2 x3:Value}(H:dO C hp' W) {vs:List V}
 {Q:List (Str×Value)->Shared->Prop}{E:Value->Shared->Prop}(hq:∀(W':Wd) (r:List (Str×Value)),Pext0 C W W'->(r.map (·.1)=[Str.ofString "parent",Str.ofString "tag",Str.ofString "attrib",Str.ofString "extra"]/\dF C W' vs (r.map (·.2)))->Q r W'.s)
include hf zL H hq
theorem ER (a:xs=[x1,x2]/\x3=.ref 15) (b:∀W',W.le W'->∀d,dz C W' (.dE [] []) (.ref d)->dF C W' vs [x1,x2,x3,.ref d]):wpAny (model C.prog C.w) A (ba fd ⟨xs,[]⟩) Q E W.s:=by
 obtain ⟨rfl,rfl⟩:=a
 refine OB hf (H.I _ _ (H.top _ _ zL)) (bK ?_)
 have p:=Pext0.qH (W:=W) ⟨.type "dict",none,.dict #[] 0,#[]⟩ rfl W.s.toks H.fX
 exact hq ⟨W.G.gK W.s.heap.objs.size ⟨.type "dict",none,.dict #[] 0,#[]⟩,W.σ,_⟩ _ p ⟨rfl,b _ p.le _ (.dE (es:=[]) (n:=0) (Gm.ew _ _ _) .nil .nil)⟩
theorem EP (j:xs=[x1,x2,x3]\/(xs=[x1,x2]/\x3=.ref 15)) (g:dz C W v c) (h:∀W',W.le W'->∀d,dz C W' (.dE [.str (Str.ofString "tail")] [v]) (.ref d)->dF C W' vs [x1,x2,x3,.ref d]):wpAny (model C.prog C.w) A (ba fd ⟨xs,[(Str.ofString "tail",c)]⟩) Q E W.s:=by
 have a:wpAny (model C.prog C.w) A (cY ⟨.type "dict",none,.dict #[] 0,#[]⟩) (λd k=>wpAny (model C.prog C.w) A (nsSet d (Str.ofString "tail") c) (λ_=>Q [(Str.ofString "parent",x1),(Str.ofString "tag",x2),(Str.ofString "attrib",x3),(Str.ofString "extra",.ref d)]) E k) E W.s:=by
  refine bK ?_
  refine JP (M:=model C.prog C.w) (s:=⟨W.s.heap.push ⟨.type "dict",none,.dict #[] 0,#[]⟩,W.s.gens,W.s.drawn,W.s.toks,W.s.os⟩) (Heap.get?_push_size _ rfl) λf i m=>?_
  have l:∀b o,W.s.heap.get? b=some o->f.get? b=some o:=λb o e=>(m.2 b (Nat.ne_of_lt (Heap.lt_size e))).trans (Heap.get?_push_of_some _ e)
  have p:=Pext0.N2 (W:=W) (s':={ W.s with heap:=f,toks:=W.s.toks+1 }) l i (CB _) H.fX rfl rfl
  exact hq ⟨_,W.σ,{ W.s with heap:=f,toks:=W.s.toks+1 }⟩ _ p ⟨rfl,h _ p.le _ (.dE (es:=[⟨_,_,_⟩]) (n:=1) (Gm.ew _ _ _) (List.pairwise_singleton _ _) (.str rfl (dz.mono g p.le) .nil))⟩
 exact j.elim (λe=>e▸KX hf (H.I _ _ (H.top _ _ zL)) a) λe=>by
  obtain ⟨rfl,rfl⟩:=e
  exact KY hf (H.I _ _ (H.top _ _ zL)) a
theorem zf {kv:List V} (m:(xs=[x1,x2,x3]/\kn≠[])\/(xs=[x1,x2]/\x3=.ref 15)) (b:kn.length=kv.length) (i:kn=[]\/kn=[Str.ofString "tail"]) (g:dF C W kv ks) (f:∀W',W.le W'->∀d,dz C W' (.dE (kn.map .str) kv) (.ref d)->dF C W' vs [x1,x2,x3,.ref d]):wpAny (model C.prog C.w) A (ba fd ⟨xs,kn.zip ks⟩) Q E W.s:=by
 refine gk λP k=>?_
 rcases i with e | e
 ·have a:kv=[]:=List.length_eq_zero_iff.mp (b.symm.trans (congrArg List.length e))
  rw[a] at g
  have l:ks=[]:=g.inv
  rw[e,a] at f
  exact k (by rw[e,l];exact ER hf zL H hq (m.resolve_left λh=>h.2 e) f)
 ·obtain ⟨v,a⟩:=List.length_eq_one_iff.mp (b.symm.trans (congrArg List.length e))
  rw[a] at g
  obtain ⟨c,j,l,n,o⟩:=g.inv
  have p:j=[]:=o.inv
  rw[e,a] at f
  exact k (by rw[e,l,p];exact EP hf zL H hq (m.imp_left λh=>h.1) n f)
end
theorem ES {fd:FuncData}(w:yn fd)
  (c:C.fu 16=some ⟨.type "tuple",none,.seq #[.ref 15] 0,#[]⟩) (o:C.fu 15=some ⟨.type "dict",none,.dict #[] 0,#[]⟩) (as:List V) (kn:List Str) (kv vs:List V) (h:subB as kn kv=some vs) :
  iG C fd as kn kv [Str.ofString "parent",Str.ofString "tag",Str.ofString "attrib",Str.ofString "extra"] vs:=λA W hp' xs N H b x=>dP.mk λQ E hq=>by
 refine gk λP k=>?_
 obtain ⟨⟨f,e⟩,h⟩:=EU h
 rcases h with ⟨p,t,v,q⟩ | ⟨p,t,a,v,J,q⟩
 ·rw[v] at b
  obtain ⟨I,G,g,i,b⟩:=b.inv
  obtain ⟨z,y,j,u,b⟩:=b.inv
  have m:y=[]:=b.inv
  exact k (zf (x3:=.ref 15) w c H hq (.inr ⟨by rw[g,j,m],rfl⟩) f e x λW' l d r=>by rw[q];exact .cons (dz.mono i l) (.cons (dz.mono u l) (.cons (.dE (es:=[]) (n:=0) (l.G.I _ _ (H.top _ _ o)) .nil .nil) (.cons r .nil))))
 ·rw[v] at b
  obtain ⟨I,G,g,i,b⟩:=b.inv
  obtain ⟨z,y,j,u,b⟩:=b.inv
  obtain ⟨T,D,m,L,b⟩:=b.inv
  have B:D=[]:=b.inv
  exact k (zf w c H hq (.inl ⟨by rw[g,j,m,B],J⟩) f e x λW' l d r=>by rw[q];exact .cons (dz.mono i l) (.cons (dz.mono u l) (.cons (dz.mono L l) (.cons r .nil))))
end L1
end
noncomputable section
open PySem PySem.W PyProof.Rows PySem.Calls PySem.Spec
namespace L1
open ft
open Vm
section
variable {d:Nat}
theorem TB:∃b f g c e a,pV (st 19)=.stmts [.Return (some (.Compare (.Call (.Name (Str.ofString "ord") b) [.Name (Str.ofString "code") f] [] g) [.In] [.Name (Str.ofString "b1_set") c] e)) a]:=
 ⟨⟨163,11,163,14⟩,⟨163,15,163,19⟩,⟨163,11,163,20⟩,⟨163,24,163,30⟩,⟨163,11,163,30⟩,⟨163,4,163,30⟩,by kernel_rfl⟩
def O1:List (Int×Nat):=qm.zip [351,352,353,354,355,356,337,357,358,359,360,338,339,340,341,342,343,361,362,363,364,365,366,335,336,344,345]
def O0:List (Int×Value):=O1.map λp=>(p.1,.int p.1 p.2)
theorem J7 (P):∃a t,sL P=⟨.type "set",none,.set O0.toArray a t,#[]⟩/\t.fits 27=true:=⟨_,_,rfl,rfl⟩
theorem He:(O1.all λp=>dp p.1==p.1)=true:=by decide +kernel
theorem setOf {h:Heap}{P:Params} (m:h.get? 122=some (sL P)):h.SetOf (intKind prog w) 122 (λk=>qm.contains k) 27:=by
 obtain ⟨g,t,e,l⟩:=J7 P
 have f:qm=O1.map (·.1):=rfl
 refine ⟨_,O0.toArray,g,t,m,by rw[e];exact ⟨rfl,rfl,rfl⟩,by rw[e],λx b=>?_,λk=>⟨λc=>?_,λb=>?_⟩,by decide,l,rfl⟩
 ·obtain ⟨p,a,rfl⟩:=List.mem_map.mp b
  exact ⟨⟨p.1,intKind_is _ _ _ _,(eq_of_beq (List.all_eq_true.mp He p a)).symm⟩,rfl⟩
 ·have c:=List.contains_iff_mem.mp c
  rw[f] at c
  obtain ⟨p,a,rfl⟩:=List.mem_map.mp c
  exact ⟨_,List.mem_map.mpr ⟨p,a,rfl⟩,intKind_is _ _ _ _⟩
 ·obtain ⟨x,b,e⟩:=b
  obtain ⟨p,a,rfl⟩:=List.mem_map.mp b
  obtain ⟨o,n⟩:=Value.isInt_shape (show Value.isInt k (Value.int p.1 p.2)=true from e)
  have j:p.1=k:=congrArg (λv:Value=>match v with | .int i _=>i | _=>0) n
  exact List.contains_iff_mem.mpr (f▸List.mem_map.mpr ⟨p,a,j⟩)
theorem Fu (h:u0 s=some v):∃c,s.cps.toList=[c]/\v=.bool (qm.contains (c:Int)):=by
 unfold u0 at h
 cases q:s.cps.toList with
 | nil=>rw[q] at h;exact nS h
 | cons c l=>
  rw[q] at h
  cases l with
  | nil=>exact ⟨c,rfl,(Option.some.inj h).symm⟩
  | cons _ _=>exact nS h
theorem Fv (h:Il as=some v):∃s,as=[.str s]/\u0 s=some v:=by
 cases as with
 | nil=>exact nS h
 | cons a l=>cases a with
  | str s=>cases l with
   | nil=>exact ⟨s,rfl,h⟩
   | cons _ _=>exact nS h
  | _=>exact nS h
theorem WZ:qZ rH:=⟨rfl,rfl,rfl,by kernel_rfl,by kernel_rfl,by decide +kernel⟩
theorem TA {fd:FuncData}{P:Params} (p:C.fu 132=some o) (hd:o.data=.func fd) (hs:fd.scope=Fe) (hb:fd.body=pV (st 19)) (hp:fd.params=⟨[],(gw (st 19)).args,none,[],[],none,[]⟩) (M:fd.defaults=.none) (NQ:fd.globals=aj) (NS:fd.builtins=aC) (hq:fd.qualname="in_table_b1") (r:jx C.fu fd.code fd.qualname) (Y:fd.code=.ref 131) (u:C.fu 122=some (sL P)) (m1:C.mg "b1_set"=some (.ref 122)) (m2:C.mg "ord"=none) (m3:C.mb "ord"=some (.builtin "ord")) (B:∀h:Heap,(∀x o,C.fu x=some o->h.get? x=some o)->h.NoLimit):yp C ma:=by
 intro a as v h
 refine dN h λD h=>?_
 subst D
 obtain ⟨s,rfl,h⟩:=Fv h
 obtain ⟨c,hc,rfl⟩:=Fu h
 refine ⟨⟨o,fd,p,hd⟩,λd A W b xs G H hx=>?_⟩
 have hI:∀x o,C.fu x=some o->W.s.heap.get? x=some o:=λx o e=>H.I x o (H.top x o e)
 obtain ⟨cc,oc,N,tk,e1,e2,e3,e4⟩:=r
 obtain ⟨I,T,p3,p4,p5,p6,L⟩:=TB
 replace L:=hb.trans L
 have m:(gw (st 19)).args.map (·.arg)=[Str.ofString "code"]:=by kernel_rfl
 have t:iG C fd [.str s] [] [] [Str.ofString "code"] [.str s]:=by
  rw[<- m]
  exact iG.plain hp M (by rw[m];decide +kernel) (by have:=congrArg List.length m;simpa using this)
 have XZ:TE C d rH [] (.Name (Str.ofString "code") T) ⟨[some (.str s)],b⟩ (.str s) ⟨[some (.str s)],b⟩:=TE.loc (i:=0) rfl (by decide +kernel) rfl (by decide +kernel)
 have XY:TE C d rH [] (.Name (Str.ofString "ord") I) ⟨[some (.str s)],b⟩ (.con (i3 .ord)) ⟨[some (.str s)],b⟩:=TE.glob (by decide +kernel) (.inr ⟨m2,m3⟩) (λW _=>.con _) (by decide +kernel)
 have U:TE C d rH [] (.Call (.Name (Str.ofString "ord") I) [.Name (Str.ofString "code") T] [] p3) ⟨[some (.str s)],b⟩ (.int c) ⟨[some (.str s)],b⟩:=TE.bf XY rfl (.cons XZ .nil) (by
  show AH s=_
  unfold AH
  rw[hc])
 have w:TE C d rH [] (.Name (Str.ofString "b1_set") p4) ⟨[some (.str s)],b⟩ (.con (.ref 122)) ⟨[some (.str s)],b⟩:=TE.glob (by decide +kernel) (.inl m1) (λW _=>.con _) (by decide +kernel)
 have XX:TE C d rH [] (.Compare (.Call (.Name (Str.ofString "ord") I) [.Name (Str.ofString "code") T] [] p3) [.In] [.Name (Str.ofString "b1_set") p4] p5) ⟨[some (.str s)],b⟩ (.bool (qm.contains (c:Int))) ⟨[some (.str s)],b⟩:=
  TE.cmp rfl U (λA z W x pos G D ra=>by
   (refine ra.inv.elim ?_;clear ra;rintro _ rfl)
   have q:∀J:Wd,W.le J->dO C b J->J.s.heap.SetOf (intKind C.prog C.w) 122 (λk=>qm.contains k) 27:=λJ l H'=>setOf (H'.I _ _ (H'.top _ _ u))
   refine ⟨λQ E h=>?_,λQ E h=>?_⟩
   ·rw[evalEach,evalEach]
    refine chain_last (w A z W G D _ _ λf y j g n=>?_)
    subst n
    exact wpAny_inSet_of (k:=(c:Int)) (knd:=intKind C.prog C.w) (intKind_is _ _ _ _) rfl (q f j g.H) (h ⟨f.G,f.σ,_⟩ _ (j.trans (Pext0.toks _).le) (g.el ((Pext0.toks _).strict (Nat.le_succ _))) rfl)
   ·rw[evalEach,evalEach]
    refine test_last (w A z W G D _ _ λf y j g n=>?_)
    subst n
    exact wpAny_inSet_of (k:=(c:Int)) (knd:=intKind C.prog C.w) (intKind_is _ _ _ _) rfl (q f j g.H) (aG (h ⟨f.G,f.σ,_⟩ _ (j.trans (Pext0.toks _).le) (g.el ((Pext0.toks _).strict (Nat.le_succ _))) rfl)))
 refine pn (κ:=rH) (cells:=[]) (kn:=[]) (ks:=[]) (kv:=[]) (cs':=[]) (st1:=⟨[some (.str s)],b⟩) (st2:=⟨[some (.str s)],b⟩) (tgs:=[.loc 0]) G H (hI _ _ p) hd (by rw[hs];rfl) WZ NQ NS (by rw[hq];decide +kernel) ⟨cc,oc,N,tk,e1,hI _ _ e2,e3,e4⟩ (λx e=>by (refine Vm.sI e ?_;clear e;rintro rfl);exact Y) (λx i e=>by exact Vm.nS e) B t hx .nil ?_ ?_ ?_ ?_
 ·exact ⟨⟨I,.loc (by decide +kernel) rfl⟩,trivial⟩
 ·show iz [] Fe.names b.length=_
  rfl
 ·have:(b++List.replicate (d7 rH.scope).length (O.cell none))=b:=by
   show b++[]=b
   simp
  rw[this];rfl
 ·rw[L]
  exact .inl (j7.ret (TS.ret XX))
end
theorem yG (a:Str->Int) (x):∀l:List (Str×Nat×Value),nsFind (l.map λy=>(⟨a y.1,.str y.1 y.2.1,y.2.2⟩:ag)).toArray x=(l.map λy=>(y.1,y.2.2)).lookup x:=by
 intro l
 unfold nsFind findBy
 induction l with
 | nil=>rfl
 | cons y l b=>
  rw[List.map_cons,List.map_cons,List.lookup_cons]
  rw[List.find?_toArray,List.find?_cons] at *
  have e:(Value.str y.1 y.2.1).isStr x=(x==y.1):=by
   show (y.1==x)=(x==y.1)
   exact Bool.beq_comm ..
  simp only[e]
  cases q:x==y.1 with
  | true=>rfl
  | false=>exact b
theorem EK (P):(ents (nU P).2.1).toList=Ak.map λy=>(⟨aS P y.1,.str y.1 y.2.1,y.2.2⟩:ag):=by kernel_rfl
section
variable {w:World}{s:Shared}{mg mb:Str->Option Value}
theorem nO (H:oz w s mg mb) (x):mg x=(Ak.map λy=>(y.1,y.2.2)).lookup x:=by
 obtain ⟨o,b,g,a,f,h,d⟩:=H.g
 have c:=H.K 2 3 _ rfl
 rw[show aj=3 from rfl,c] at a
 (refine Vm.sI a ?_;clear a;rintro rfl)
 have e:b=ents (nU w.params).2.1:=by unfold ents;rw[f]
 rw[<- d,e,<-yG (aS w.params),<-EK]
theorem En (H:oz w s mg mb) (i:Nat) (e:(KF w.params)[i]?=some (a,o)) (b:a∉fj):(eB w s mg mb H).fu a=some o:=by
 show I0 s.heap a=_
 unfold I0
 rw[if_neg b];exact H.K i a o e
theorem kE (c:C=eB w s mg mb H) (i:Nat) (e:(KF w.params)[i]?=some (a,o)) (b:a∉fj):C.fu a=some o:=(congrArg (λX:Vm.Ctx=>X.fu a) c).trans (En H i e b)
theorem ux {f:Fn} (a:f.body=.inl xs) (h:(match body with | .stmts b=>s9 g mu f.κ b | _=>none)=some xs):lX g mu f body:=by
 cases body with
 | stmts b=>unfold lX;rw[a];exact h
 | expr e=>exact Vm.nS h
theorem D7 {fd:FuncData} (hp:fd.params=⟨[],as,none,[],[],none,[]⟩) (f:fd.defaults=.none) (e:as.map (·.arg)=names) (g:names.Nodup) (c:names.length=n) (xs) (kn) (kv vs) (h:ez n xs kn kv=some vs):iG C fd xs kn kv names vs:=by
 unfold ez at h
 split at h
 case isFalse=>exact Vm.nS h
 rename_i b
 obtain ⟨rfl,a,d⟩:=b
 (refine Vm.sI h ?_;clear h;rintro rfl)
 rw[List.length_eq_zero_iff] at a
 subst a
 subst e
 exact iG.plain hp f g (by rw[d,<-c,List.length_map])
theorem Cm {as:List Arg} (e:as.map (·.arg)=names) (h:dI (λ(a:Arg)=>fO κ 5 (.Name a.arg a.pos)) as=some tgs):mD κ names tgs:=e▸vK h
abbrev VC (k:Nat) (t:eh):Scope×List Str×List Str×Bool×Str×Option Value×Option (List Tg)×Option (List XS)×a7×List Str×Bool×(List XS ⊕ X):=
 (ek (st k),t.fn.κ.slots,t.fn.κ.cells,decide ((t.fn.κ.scope.names.map (·.1)).Nodup),t.fn.κ.qual,t.fn.κ.code,dI (λ(a:Arg)=>fO t.fn.κ 5 (.Name a.arg a.pos)) (gw (st k)).args,(match pV (st k) with | .stmts b=>s9 g0 t.mu t.fn.κ b | _=>none),gw (st k),(gw (st k)).args.map (·.arg),decide t.fn.names.Nodup,t.fn.body)
abbrev VB (k c:Nat) (x:String) (t:eh) (xs:List XS):Scope×List Str×List Str×Bool×Str×Option Value×Option (List Tg)×Option (List XS)×a7×List Str×Bool×(List XS ⊕ X):=
 (t.fn.κ.scope,slotNames t.fn.κ.scope,ph t.fn.κ.scope,true,Str.ofString x++".<locals>.",some (.ref c),some t.fn.tgs,some xs,⟨[],(gw (st k)).args,none,[],[],none,[]⟩,t.fn.names,true,.inl xs)
theorem f9 (D:C=eB w s mg mb H) (k i) (xs){J L:Nat}{t:eh} (b:t.fn.κ.scope.kind=.function/\t.fn.κ.scope.isCoroutine=false/\t.fn.κ.scope.isGenerator=false) (E:(KF w.params)[i+1]?=some (t.addr,I6 k x .none m t0 c)) (M:t.addr∉fj) (I:(KF w.params)[i]?=some (c,Ja x J l b1 b2 b3 b4 r L u v ww z kk)) (G:c∉fj) (h:VC k t=VB k c x t xs) (N:t.bind=ez t.fn.names.length):∃o fd,eJ C g0 t o fd:=
 have f:=af h;have p:=af f.2;have j:=af p.2;have y:=af j.2;have B:=af y.2;have A:=af B.2;have n:=af A.2;have q:=af n.2;have g:=af q.2;have d:=af g.2;have a:=af d.2
 ⟨_,N4 k x 3 .none (.str (Str.ofString m) t0) (.ref c),⟨kE D (i+1) E M,rfl,f.1,⟨b.1,b.2.1,b.2.2,p.1,j.1,of_decide_eq_true y.1⟩,rfl,rfl,B.1,⟨c,_,_,_,rfl,kE D i I G,rfl,rfl⟩,λQ e=>Option.some.inj (A.1.symm.trans e),Cm d.1 n.1,ux a.2 q.1,N▸D7 g.1 rfl d.1 (of_decide_eq_true a.1) rfl⟩⟩
theorem Qu (a:C=eB w s mg mb H):∃o fd,eJ C g0 LC o fd:=f9 a 33 62 HI ⟨rfl,rfl,rfl⟩ rfl (by decide) rfl (by decide) (by kernel_rfl) rfl
theorem Qv (a:C=eB w s mg mb H):∃o fd,eJ C g0 LD o fd:=f9 a 32 60 HK ⟨rfl,rfl,rfl⟩ rfl (by decide) rfl (by decide) (by kernel_rfl) rfl
theorem Qw (a:C=eB w s mg mb H):∃o fd,eJ C g0 H_ o fd:=f9 a 31 58 yX ⟨rfl,rfl,rfl⟩ rfl (by decide) rfl (by decide) (by kernel_rfl) rfl
theorem Qx (a:C=eB w s mg mb H):∃o fd,eJ C g0 LF o fd:=f9 a 30 56 Lg ⟨rfl,rfl,rfl⟩ rfl (by decide) rfl (by decide) (by kernel_rfl) rfl
theorem Qy (a:C=eB w s mg mb H):∃o fd,eJ C g0 LG o fd:=f9 a 29 54 Lh ⟨rfl,rfl,rfl⟩ rfl (by decide) rfl (by decide) (by kernel_rfl) rfl
theorem Qz (a:C=eB w s mg mb H):∃o fd,eJ C g0 LH o fd:=f9 a 28 52 HM ⟨rfl,rfl,rfl⟩ rfl (by decide) rfl (by decide) (by kernel_rfl) rfl
theorem QA (a:C=eB w s mg mb H):∃o fd,eJ C g0 LI o fd:=f9 a 27 50 Li ⟨rfl,rfl,rfl⟩ rfl (by decide) rfl (by decide) (by kernel_rfl) rfl
theorem QB (a:C=eB w s mg mb H):∃o fd,eJ C g0 LJ o fd:=f9 a 26 48 TX ⟨rfl,rfl,rfl⟩ rfl (by decide) rfl (by decide) (by kernel_rfl) rfl
theorem QC (a:C=eB w s mg mb H):∃o fd,eJ C g0 LK o fd:=f9 a 25 46 Lj ⟨rfl,rfl,rfl⟩ rfl (by decide) rfl (by decide) (by kernel_rfl) rfl
theorem QD (a:C=eB w s mg mb H):∃o fd,eJ C g0 LL o fd:=f9 a 24 44 Lk ⟨rfl,rfl,rfl⟩ rfl (by decide) rfl (by decide) (by kernel_rfl) rfl
theorem QE (a:C=eB w s mg mb H):∃o fd,eJ C g0 LM o fd:=f9 a 23 42 HP ⟨rfl,rfl,rfl⟩ rfl (by decide) rfl (by decide) (by kernel_rfl) rfl
theorem QF (a:C=eB w s mg mb H):∃o fd,eJ C g0 Ia o fd:=f9 a 21 40 yY ⟨rfl,rfl,rfl⟩ rfl (by decide) rfl (by decide) (by kernel_rfl) rfl
theorem QG (a:C=eB w s mg mb H):∃o fd,eJ C g0 Cp o fd:=f9 a 16 36 B4 ⟨rfl,rfl,rfl⟩ rfl (by decide) rfl (by decide) (by kernel_rfl) rfl
theorem QH (a:C=eB w s mg mb H):∃o fd,eJ C g0 LN o fd:=f9 a 15 34 Ll ⟨rfl,rfl,rfl⟩ rfl (by decide) rfl (by decide) (by kernel_rfl) rfl
theorem QI (a:C=eB w s mg mb H):∃o fd,eJ C g0 LO o fd:=f9 a 14 32 Lm ⟨rfl,rfl,rfl⟩ rfl (by decide) rfl (by decide) (by kernel_rfl) rfl
theorem QJ (a:C=eB w s mg mb H):∃o fd,eJ C g0 LP o fd:=f9 a 13 30 Ln ⟨rfl,rfl,rfl⟩ rfl (by decide) rfl (by decide) (by kernel_rfl) rfl
theorem QK (a:C=eB w s mg mb H):∃o fd,eJ C g0 LQ o fd:=f9 a 12 28 Lo ⟨rfl,rfl,rfl⟩ rfl (by decide) rfl (by decide) (by kernel_rfl) rfl
theorem QL (a:C=eB w s mg mb H):∃o fd,eJ C g0 LR o fd:=f9 a 11 26 Lr ⟨rfl,rfl,rfl⟩ rfl (by decide) rfl (by decide) (by kernel_rfl) rfl
theorem VD (a:C=eB w s mg mb H):∃o fd,eJ C g0 t8 o fd:=f9 a 8 24 x8 ⟨rfl,rfl,rfl⟩ rfl (by decide) rfl (by decide) (by kernel_rfl) rfl
theorem VE (a:C=eB w s mg mb H):∃o fd,eJ C g0 t7 o fd:=f9 a 7 22 x7 ⟨rfl,rfl,rfl⟩ rfl (by decide) rfl (by decide) (by kernel_rfl) rfl
theorem VF (a:C=eB w s mg mb H):∃o fd,eJ C g0 t6 o fd:=f9 a 6 20 x6 ⟨rfl,rfl,rfl⟩ rfl (by decide) rfl (by decide) (by kernel_rfl) rfl
theorem VG (a:C=eB w s mg mb H):∃o fd,eJ C g0 t5 o fd:=f9 a 5 18 x5 ⟨rfl,rfl,rfl⟩ rfl (by decide) rfl (by decide) (by kernel_rfl) rfl
theorem VH (a:C=eB w s mg mb H):∃o fd,eJ C g0 t4 o fd:=f9 a 4 16 x4 ⟨rfl,rfl,rfl⟩ rfl (by decide) rfl (by decide) (by kernel_rfl) rfl
theorem top2 (a:C=eB w s mg mb H):∃o fd,eJ C g0 t2 o fd:=f9 a 2 12 x2 ⟨rfl,rfl,rfl⟩ rfl (by decide) rfl (by decide) (by kernel_rfl) rfl
theorem WY:qZ k1:=⟨rfl,rfl,rfl,by kernel_rfl,by kernel_rfl,by decide +kernel⟩
theorem Xf:(match pV (st 1) with | .stmts b=>s9 g0 [] k1 b | _=>none)=some x1:=by kernel_rfl
theorem XE:((gw (st 1)).args++(gw (st 1)).kwarg.toList).map (·.arg)=f1.names:=by kernel_rfl
theorem VI (b:C=eB w s mg mb H):∃o fd,eJ C g0 t1 o fd:=by
 have d:=kE b (a:=23) (o:=MB) 6 rfl (by decide)
 have f:=kE b (a:=22) (o:=MC) 5 rfl (by decide)
 refine ⟨_,_,⟨d,rfl,by kernel_rfl,WY,rfl,rfl,by kernel_rfl,⟨_,_,_,_,rfl,f,rfl,rfl⟩,λc e=>by (refine Vm.sI e ?_;clear e;rintro rfl);rfl,Cm (as:=((gw (st 1)).args++(gw (st 1)).kwarg.toList)) XE (by kernel_rfl),ux rfl Xf,ES ⟨_,_,_,_,_,_,_,_,_,rfl,rfl⟩ (kE b 4 rfl (by decide)) (kE b 3 rfl (by decide))⟩⟩
theorem all_cons {α:Type}{p:α->Prop}{a:α}{l:List α} (h:p a) (k:∀x∈l,p x):∀x∈a::l,p x:=List.forall_mem_cons.mpr ⟨h,k⟩
theorem JH (a:C=eB w s mg mb H):∀t∈lZ,∃o fd,eJ C g0 t o fd:=all_cons (Qu a) (all_cons (Qv a) (all_cons (Qw a) (all_cons (Qx a) (all_cons (Qy a) (all_cons (Qz a) (all_cons (QA a) (all_cons (QB a) (all_cons (QC a) (all_cons (QD a) (all_cons (QE a) (all_cons (QF a) (all_cons (QG a) (all_cons (QH a) (all_cons (QI a) (all_cons (QJ a) (all_cons (QK a) (all_cons (QL a) (all_cons (VD a) (all_cons (VE a) (all_cons (VF a) (all_cons (VG a) (all_cons (VH a) (all_cons (top2 a) (all_cons (VI a) (λ_ h=>nomatch h)))))))))))))))))))))))))
end
end L1
end
noncomputable section
set_option tactic.hygienic true
open PySem PySem.W PySem.W.X PyProof.Rows PySem.Calls PySem.Spec
namespace L1
open ft
open Vm
theorem El {K:Frag}:AllIn h K->∀i:Nat,K[i]?=some (a,o)->h.get? a=some o:=by
 induction K with
 | nil=>exact λ_ i e=>nomatch e
 | cons p l b=>exact λA i=>Nat.casesOn i (λe=>by rw[(Option.some.inj e:p=(a,o))] at A;exact A.1) λi e=>b A.2 i e
section
variable {w:World}{s:Shared}{mg mb:Str->Option Value}
theorem R7:∀P,yj=(KF P).map (·.1):=λP=>rfl
theorem Di {P:Params}:∀{a:List Value}{ns:List Int},cp a ns->dJ P T I σ (ns.map .int) a:=by
 intro a ns h
 induction h with
 | nil=>exact .nil
 | cons n t _ b=>exact .cons (.int _ _) b
theorem lookup_mem {a:Type}{v:a}{l:List (Str×a)}:l.lookup x=some v->(x,v)∈l:=by
 induction l with
 | nil=>exact λh=>nomatch h
 | cons p l b=>
  intro h
  rw[List.lookup_cons] at h
  cases q:x==p.1 with
  | true=>rw[q] at h;rw[beq_iff_eq.mp q,<-Option.some.inj h];exact .head _
  | false=>rw[q] at h;exact .tail _ (b h)
theorem Oz (h:G9.lookup x=some v):bootBuiltins x=some v/\x≠"__name__":=by
 have a:=lookup_mem h
 unfold G9 at a
 obtain ⟨y,b,e⟩:=List.mem_filterMap.mp a
 dsimp only at e
 obtain ⟨u,c,d⟩:=Option.map_eq_some_iff.mp e
 cases d
 refine ⟨c,?_⟩
 have:∀y∈["len","sum","sorted","chr","ord","min","max","abs","divmod","range","list","set","reversed"],Str.ofString y≠Str.ofString "__name__":=by decide +kernel
 exact this y b
noncomputable def tokOf:Value->Nat
 | .int _ t=>t
 | .str _ t=>t
 | _=>0
def I7 (l:List (Int×Str)) (es:List ag):List ag:=List.zipWith (λx e=>⟨dp x.1,.int x.1 (tokOf e.key),.str x.2 (tokOf e.val)⟩) l es
theorem GO {P:Params} (l:List (Int×Str)):∀es:List ag,l.length=es.length->eu P T I σ (l.map λx=>.int x.1) (l.map λx=>.str x.2) (I7 l es):=by
 induction l with
 | nil=>exact λes h=>.nil
 | cons x l a=>exact λes=>List.casesOn es (λh=>nomatch h) λe es h=>.int rfl (.str _ _) (a es (Nat.succ.inj h))
noncomputable def Hh:Int->List Int->Bool
 | _,[]=>true
 | a,b::l=>decide (a < b)&&Hh b l
theorem K_ (l):∀a:Int,Hh a l=true->(a::l).Pairwise (· < ·):=by
 induction l with
 | nil=>exact λa _=>List.pairwise_singleton _ _
 | cons b l f=>
  intro a h
  have h:=(Bool.and_eq_true _ _).mp h
  have c:a < b:=of_decide_eq_true h.1
  have d:=f b h.2
  exact .cons (List.forall_mem_cons.mpr ⟨c,λx e=>Int.lt_trans c ((List.pairwise_cons.mp d).1 x e)⟩) d
theorem K3:I7 nk (ents oL).toList=(ents oL).toList:=by kernel_rfl
theorem OY:nk.length=(ents oL).toList.length:=by kernel_rfl
theorem OZ:Hh (-1) (nk.map λx=>x.1)=true:=by kernel_rfl
theorem OX:oL=⟨.type "dict",none,.dict (ents oL).toList.toArray 650,#[]⟩:=rfl
theorem K1:dZ (nk.map λx=>V.int x.1):=
 List.pairwise_map.mpr ((List.pairwise_map.mp (List.pairwise_cons.mp (K_ _ _ OZ)).2).imp λh=>congrArg some (decide_eq_false (Int.ne_of_lt h)))
theorem wm {h:Heap} (j:h.get? c=some o) (d:o.cls=.type "code") (g:o.data=.fields vs) (l:vs[11]?=some (.ref a)) (k:vs.getD 11 .none=.ref a) (f:vs.getD 18 .none=.str file tf) (i:vs.getD 7 .none=.int flags tg) (e:vs.getD 9 .none=.bool YP) (m:vs.getD 10 .none=.int text tt) (b:c≠a):dh h c a:=
 ⟨o,vs,file,tf,flags,tg,YP,text,tt,j,d,g,l,k,f,i,e,m,b⟩
def Vf (C:Vm.Ctx) (b:Value) (l c:Nat) (q:Str):Prop:=∃a P,b=.ref a/\P∈C.tabs/\P≠aK/\C.qual P l c=some q/\∀h:Heap,(∀x o,C.fu x=some o->h.get? x=some o)->dh h a P
theorem CM {g:Glob}{G:Value->Nat->Nat->Str->Prop} (hg:∀x∈g.pP,G x.1 x.2.1 x.2.2.1 x.2.2.2) (h:g.lg (some cv) l c=some q):G cv l c q:=by
 cases cv with
 | ref a=>
  obtain ⟨x,h1,h2⟩:=Option.map_eq_some_iff.mp h
  have h3:=hg x (List.mem_of_find?_eq_some h1)
  have hp:=List.find?_some h1
  rw[Bool.and_eq_true,Bool.and_eq_true] at hp
  rw[h2,eq_of_beq hp.1.2,eq_of_beq hp.2] at h3
  have e:x.1=.ref a:=by
   have h5:=hp.1.1
   cases q:x.1 with
   | ref b=>rw[q] at h5;exact congrArg Value.ref (eq_of_beq h5)
   | _=>rw[q] at h5;exact Bool.noConfusion h5
  exact e▸h3
 | _=>exact nS h
theorem Fq (H:oz w s mg mb):∀x∈CL,Vf (eB w s mg mb H) x.1 x.2.1 x.2.2.1 x.2.2.2:=
 have b:∀{h:Heap}{a:Nat}{o:Obj}(i:Nat),(∀x o,I0 s.heap x=some o->h.get? x=some o)->(KF w.params)[i]?=some (a,o)->a∉fj->h.get? a=some o:=λi k e d=>u_ k (H.K i _ _ e) d
 have c:∀h:Heap,(∀x o,I0 s.heap x=some o->h.get? x=some o)->dh h 189 185:=λh k=>wm (b 44 k rfl (by decide)) rfl rfl rfl rfl rfl rfl rfl rfl (by decide)
 List.forall_mem_cons.mpr ⟨⟨92,88,rfl,(by show _∈fj;decide),by decide,rfl,λh k=>wm (b 30 k rfl (by decide)) rfl rfl rfl rfl rfl rfl rfl rfl (by decide)⟩,
 List.forall_mem_cons.mpr ⟨⟨99,95,rfl,(by show _∈fj;decide),by decide,rfl,λh k=>wm (b 32 k rfl (by decide)) rfl rfl rfl rfl rfl rfl rfl rfl (by decide)⟩,
 List.forall_mem_cons.mpr ⟨⟨189,185,rfl,(by show _∈fj;decide),by decide,rfl,c⟩,
 List.forall_mem_cons.mpr ⟨⟨189,185,rfl,(by show _∈fj;decide),by decide,rfl,c⟩,λ_ h=>nomatch h⟩⟩⟩⟩
theorem zM (H:oz w s mg mb):eY (eB w s mg mb H) g0 where
 top x v h:=(nO H x).trans h
 miss x h:=(nO H x).trans h
 blt x v h:=by
  obtain ⟨h1,h2⟩:=Oz h
  exact (H.bt x h2).trans h1
 vals x v h:=by
  have hm:=lookup_mem h
  simp only[g0,List.mem_singleton,Prod.mk.injEq] at hm
  obtain ⟨rfl,rfl⟩:=hm
  refine ⟨.ref 133,(nO H _).trans (by decide +kernel),λW hW=>?_⟩
  have e1:=En H (a:=133) (o:=oL) 10 rfl (by decide)
  have e2:=hW _ _ e1
  rw[OX] at e2
  exact .dE e2 K1 (K3▸GO _ _ OY)
 pP cv l c q:=CM (G:=Vf (eB w s mg mb H)) (Fq H)
 bt h k P hP:=by
  obtain ⟨bm,ob,h1,h2,h3,h4,h5,h6⟩:=H.bm
  have e:=(nO H "__builtins__").symm.trans h1
  have e4:(Ak.map λy=>(y.1,y.2.2)).lookup (Str.ofString "__builtins__")=some (.ref 4):=by decide +kernel
  have e:=e4.symm.trans e
  cases e
  refine ⟨4,ob,h1,by decide,by decide,?_,u_ k h3 (by decide),h4,h5,h6⟩
  rintro rfl
  have hP:4∈fj:=hP
  revert hP;decide
 gP:=by show ∀P∈fj,aj≠P;decide
 U_:=by decide +kernel
 lim h k:=let ⟨mc,a,b⟩:=H.lim;⟨mc,ME k a (by decide),b⟩
theorem JZ (b:C=eB w s mg mb H):yp C ma:=by
 have e:eY C g0:=b▸zM H
 have c:∀x,C.mg x=mg x:=λx=>congrArg (λX:Vm.Ctx=>X.mg x) b
 have d:∀x,C.mb x=mb x:=λx=>congrArg (λX:Vm.Ctx=>X.mb x) b
 have g:=kE b (a:=132)  39 rfl (by decide)
 have h:=kE b (a:=131)  38 rfl (by decide)
 have f:=kE b (a:=122) (o:=sL w.params) 9 rfl (by decide)
 exact TA (P:=w.params) g rfl (by kernel_rfl) rfl (by kernel_rfl) rfl rfl rfl rfl ⟨_,_,_,_,rfl,h,rfl,rfl⟩ rfl f ((c _).trans ((nO H _).trans (by decide +kernel))) ((c _).trans ((nO H _).trans (by decide +kernel))) ((d _).trans ((H.bt _ (by decide +kernel)).trans (by decide +kernel))) e.lim
theorem WS (H:oz w s mg mb) (hg:s.gens=#[]) (ht:0 < s.toks):dO (eB w s mg mb H) [] ⟨⟨I0 s.heap,λ_=>none,λ_=>none⟩,[],s⟩ where
 I a o e:=by
  have e:I0 s.heap a=some o:=e
  unfold I0 at e
  split at e
  ·exact Vm.nS e
  ·exact e
 F a o e:=by exact Vm.nS e
 IF a e:=rfl
 top:=Gm.le.refl _
 tab P hP:=by
  refine ⟨if_pos hP,rfl,(λh=>nomatch h),?_⟩
  have hP:P∈fj:=hP
  simp only[fj,List.mem_cons,List.not_mem_nil,or_false] at hP
  have hn:∀P,P≠aK->jT (eB w s mg mb H) (I0 s.heap) P (tabObj #[]):=λP lA=>.inr ⟨lA,#[],rfl,trivial,λpos cv q e=>by exact Vm.nS e⟩
  rcases hP with rfl | rfl | rfl | rfl
  ·exact ⟨_,H.K 0 _ _ rfl,.inl ⟨rfl,rfl⟩⟩
  ·exact ⟨_,H.K 7 _ _ rfl,hn _ (by decide)⟩
  ·exact ⟨_,H.K 8 _ _ rfl,hn _ (by decide)⟩
  ·exact ⟨_,H.K 11 _ _ rfl,hn _ (by decide)⟩
 len:=rfl
 nd:=.nil
 fe i a e:=by exact Vm.nS e
 gens:=hg
 os:=rfl
 pos:=ht
 T t x e:=by exact Vm.nS e
theorem Cn {G:Nat->Prop} (h:b∈fj) (a:G 1) (e:G 88) (d:G 95) (c:G 185):G b:=
 (List.forall_mem_cons.mpr ⟨a,List.forall_mem_cons.mpr ⟨e,List.forall_mem_cons.mpr ⟨d,List.forall_mem_cons.mpr ⟨c,λ_ h=>nomatch h⟩⟩⟩⟩:∀b∈fj,G b) b h
theorem FA {C:Vm.Ctx}{h a:Heap} (e:h.get? b=some o) (i:a.get? b=some o') (n:jT C I b o') (f:h.get? b=some ⟨.none,none,.fields #[],#[]⟩) (k:b≠aK) (d:h.get? c=some oc) (j:oc.cls=.type "code") (g:oc.data=.fields vs) (l:vs[11]?=some (.ref b)):dr h a b o:=
 n.elim (λq=>absurd q.1 k) λq=>q.2.elim λm q=>.inr (.inl ⟨⟨c,oc,vs,d,j,g,l⟩,Option.some.inj (e.symm.trans f)▸⟨rfl,#[],m,rfl,i.trans (by rw[q.1];simp[tabObj])⟩⟩)
theorem J4 (H:oz w s mg mb){d:Heap} (f:b∈fj):s.heap.get? b=some o->d.get? b=some o'->jT (eB w s mg mb H) I b o'->dr s.heap d b o:=
 Cn (G:=λb=>s.heap.get? b=some o->d.get? b=some o'->jT (eB w s mg mb H) I b o'->dr s.heap d b o) f
  (λe c a=>a.elim (λq=>.inl (c.trans (congrArg some (q.2.trans (Option.some.inj ((H.K 0 _ _ rfl).symm.trans e)))))) λq=>absurd rfl q.1)
  (λe c a=>FA e c a (H.K 7 _ _ rfl) (by decide) (H.K 30 _ _ rfl) rfl rfl rfl)
  (λe c a=>FA e c a (H.K 8 _ _ rfl) (by decide) (H.K 32 _ _ rfl) rfl rfl rfl)
  (λe c a=>FA e c a (H.K 11 _ _ rfl) (by decide) (H.K 44 _ _ rfl) rfl rfl rfl)
theorem J5 (H:oz w s mg mb){W:Wd} (h:dO (eB w s mg mb H) hp W):OldK s.heap W.s.heap:=by
 have a:∀b o,s.heap.get? b=some o->dr s.heap W.s.heap b o:=λb o e=>by
  by_cases c:b∈fj
  ·exact (h.tab b c).2.2.2.elim λf t=>J4 H c e t.1 t.2
  ·exact .inl (h.I _ _ (h.top _ _ ((if_neg c:I0 s.heap b=_).trans e)))
 refine ⟨a,λb o e=>?_⟩
 rcases a b o e with q | ⟨_,_,g,d,_,q⟩ | ⟨_,_,⟨f,_,_,q,_⟩,_⟩
 ·exact ⟨_,q⟩
 ·exact ⟨_,q⟩
 ·exact ⟨_,q⟩
end
section
variable {w:World}{s:Shared}{mg mb:Str->Option Value}
theorem GC (d:∀h:List Int,h.length<=63->∃n,n<=100/\(dA n).top 241 [.lst (h.map .int)] [] [] []=some (.bool true,[])) (b:C=eB w s mg mb H):Fin w s:=λh a k G u f o q A Q E y=>by
 obtain ⟨n,I,B⟩:=d h G
 have v:eY C g0:=b▸zM H
 have x:C.w=w:=congrArg (λX:Vm.Ctx=>X.w) b
 have m:C.prog=pw:=congrArg (λX:Vm.Ctx=>X.prog) b
 have D:=J3 (mu:=[]) v (JH b) (JZ b) n
 have i:dO C [] ⟨⟨I0 s.heap,λ_=>none,λ_=>none⟩,[],s⟩:=b▸WS H q A
 have j:I0 s.heap a=some ⟨.type "list",none,.seq k.toArray 0,#[]⟩:=(if_neg o:I0 s.heap a=_).trans f
 have g:dF C ⟨⟨I0 s.heap,λ_=>none,λ_=>none⟩,[],s⟩ [.lst (h.map .int)] [.ref a]:=.cons (.lst j (Di u)) .nil
 have t:claimMargin<=700:=by decide
 have e:dY n callerA:=⟨rfl,by show 1+claimMargin+n < 900;lia,by show 4+10*n+50 < 9000;lia⟩
 have:=(D.top 241 _ _ _ _ _ _ B).2 callerA _ _ [] e i g .nil Q E λz c p l r=>y z.s c r.inv (J5 H (b▸l)) (l.os.trans (congrArg (λX:Vm.Ctx=>X.os) b)) l.gens
 rw[x,m] at this
 exact this
end
theorem Ts (d:∀l:List Int,l.length<=63->∃n,n<=100/\(dA n).top 241 [.lst (l.map .int)] [] [] []=some (.bool true,[])):WalkX qv jX (XL qv []) (X.obsZ yj) (X.valZ KF 242 2451) la.toRowW dL [] λf vs=>PySem.call f vs:=by
 intro w u b mg mb G y fa o pm cd B dV kV ho hd Q hD k A x v as L h j r t p
 refine gk λZ kz=>?_
 obtain ⟨ZA,ZI,N,M⟩:=X.z_facts R7 y
 wrow_args h j r t p
 rename_i l _ _ _ _ _ _ _ a m _ E ra w1 r0 J _ z _
 have IL:=script_toks L M
 have g:=(script_at L).1
 rw[N] at g
 have H:oz w b mg mb:=⟨λi a o e=>L.keeps _ _ (El ZA i e),G.T.g,G.T.b,G.T.nolimit,G.T.builtins,G.T.bmain⟩
 have q:mg dL.name=some (.ref 241):=(nO H _).trans (by kernel_rfl)
 rw[q] at k
 cases k
 refine kz (Kv (λw s mg mb H hC=>GC d hC) w b mg mb H l a m (by lia) J (script_obj L E) (by rw[g];decide) A (by lia) _ _ λs' c D Y U I=>?_)
 subst D
 exact ⟨.inl ⟨_,_,[],rfl,(λ_=>rfl),ReadsW.bool true,(by first | rfl | wrow_post),λ_=>⟨List.nodup_nil,λ_ T=>(nomatch T)⟩⟩,Y,U,AllBare.of_eq I⟩
theorem Ki (Q4:∀ns:List Int,ns.length<=63->∃n,n<=100/\(dA n).top 241 [.lst (ns.map .int)] [] [] []=some (.bool true,[])):PySem.Challenge.rw_wc0030_01.Holds:=NH (by w_witness2) (Ts Q4)
end L1
end
noncomputable section
open PySem
namespace L1
open Vm
theorem aaX (orc) (k):(ev orc (k+1)).E=Ie orc (ev orc k):=rfl
theorem aaW (orc) (k):(ev orc (k+1)).S=Ic orc (ev orc k):=rfl
theorem len_app (hp:List O) (l:List O):(hp++l).length=hp.length+l.length:=List.length_append
theorem fg (hp l:List O) (k:Nat):(hp++l)[hp.length+k]?=l[k]?:=by rw[List.getElem?_append_right (Nat.le_add_right _ _),Nat.add_sub_cancel_left]
theorem iy (hp l:List O):(hp++l)[hp.length]?=l[0]?:=fg hp l 0
theorem kN (hp l:List O) (k:Nat) (x:O):(hp++l).set (hp.length+k) x=hp++l.set k x:=by rw[List.set_append_right _ _ (Nat.le_add_right _ _),Nat.add_sub_cancel_left]
theorem v9 (hp l:List O) (x:O):(hp++l).set hp.length x=hp++l.set 0 x:=kN hp l 0 x
theorem et {r:Ev}{x:XS} (h:r.S cs x st=some (.next,st1)) (c:dX r cs l st1=o):dX r cs (x::l) st=o:=by
 show (match r.S cs x st with | some (.next,st)=>dX r cs l st | o=>o)=o
 rw[h];exact c
theorem fU {r:Ev}{x:XS} (h:r.S cs x st=some (.ret v,st1)):dX r cs (x::l) st=some (.ret v,st1):=by
 show (match r.S cs x st with | some (.next,st)=>dX r cs l st | o=>o)=_
 rw[h]
theorem W8 {r:Ev}:dX r cs [] st=some (.next,st):=rfl
noncomputable def gL (o:Option (Fl×St)):Option (V×List O):=match o with
 | some (.ret v,st)=>some (v,st.hp)
 | some (.next,st)=>some (.none,st.hp)
 | none=>none
theorem gW:gX orc cs b st=gL (dX (ev orc 60) cs b st):=rfl
theorem dG {r:Ev}{x:XS} (h:r.S cs x st=some (.next,st1)) (c:gL (dX r cs l st1)=o):gL (dX r cs (x::l) st)=o:=(congrArg gL (et h rfl)).trans c
theorem fH {r:Ev}{x:XS} (h:r.S cs x st=some (.ret v,⟨loc,hp⟩)):gL (dX r cs (x::l) st)=some (v,hp):=congrArg gL (fU h)
theorem W_ {r:Ev}:gL (dX r cs [] st)=some (.none,st.hp):=rfl
theorem wI {α c:Type}{f:α->Option c}:∀{l:List α}{r:List c},dI f l=some r->r.length=l.length
 | [],r,h=>by (refine Vm.sI h ?_;clear h;rintro rfl);rfl
 | x::l,r,h=>by
  unfold dI at h
  split at h
  ·split at h
   ·(refine Vm.sI h ?_;clear h;rintro rfl)
    rename_i r e
    exact congrArg (·+1) (wI e)
   ·exact Vm.nS h
  ·exact Vm.nS h
theorem pR {α c:Type}{f:α->Option c}{a:α}{b:c} (h:f a=some b):dI f [a]=some [b]:=by
 show (match f a with | some b=>(match dI f [] with | some r=>some (b::r) | none=>none) | none=>none)=_
 rw[h];rfl
theorem iY {α c:Type}{f:α->Option c}{a:α}{b:c}{l:List α}{r:List c} (h:f a=some b) (k:dI f l=some r):dI f (a::l)=some (b::r):=by
 show (match f a with | some b=>(match dI f l with | some r=>some (b::r) | none=>none) | none=>none)=_
 rw[h,k]
theorem eg {a:Nat}{t:eh} (n) (l:lZ.find? (·.addr==a)=some t) (hp:t.pure=true) (g:t.bind=ez k){as:List V}{c:List O} (f:as.length=k) (e:dI (eE [] 9) as=some as') (h:fz (dA n) t.fn [] as' []=some (v,hp')) (o:eE hp' 9 v=some v'):(dA (n+1)).top a as [] [] c=some (v',c):=by
 have d:as'.length=k:=(wI e).trans f
 have i:t.bind as [] []=some as:=by rw[g];exact if_pos ⟨rfl,rfl,f⟩
 have p:t.bind as' [] []=some as':=by rw[g];exact if_pos ⟨rfl,rfl,d⟩
 have m:dI (eE [] 9) ([]:List V)=some []:=rfl
 show lj lZ ma (dA n) a as [] [] c=_
 unfold lj pureO
 rw[l]
 simp only[Option.elim,i,hp,if_true,e,m,p,h,o,Option.map_some,Option.bind_some]
theorem kJ {a:Nat}{t:eh} (n) (e:lZ.find? (·.addr==a)=some t) (hp:t.pure=false){as:List V}{c:List O} (d:t.bind as kn kv=some vs):(dA (n+1)).top a as kn kv c=fz (dA n) t.fn [] vs c:=by
 show lj lZ ma (dA n) a as kn kv c=_
 unfold lj
 rw[e]
 simp only[Option.elim,d,hp,if_false,Bool.false_eq_true,Option.bind_some]
theorem EJ {a:Nat} (n) (d:lZ.find? (·.addr==a)=none){as:List V}{c:List O}:(dA (n+1)).top a as [] [] c=(ma a as).map (·,c):=by
 show lj lZ ma (dA n) a as [] [] c=_
 unfold lj
 rw[d]
 exact (if_pos ⟨rfl,rfl⟩:(if ([]:List Str)=[]/\([]:List V)=[] then (ma a as).map (·,c) else none)=_)
theorem ni (n) (e:nh g0 [] f=some fn){as:List V}{c:List O} (d:as.length=fn.names.length):(dA (n+1)).mx f cl as c=fz (dA n) fn cl as c:=by
 show rC g0 [] (dA n) f cl as c=_
 unfold rC
 rw[e]
 exact if_pos d
section
variable {orc:er}{j:Nat}{cs:List Nat}{x y z:X}{st st1 st2 st3:St}{v w u r:V}{as:List X}{vs:List V}{n:Str}
theorem dB (c:(ev orc j).E cs x st=some (v,st1)) (e:(ev orc j).E cs y st1=some (w,st2)) (d:eF st2.hp op v w=some r):(ev orc (j+1)).E cs (.bin op x y) st=some (r,st2):=qE c (qE e (qM d))
theorem vl (c:(ev orc j).E cs x st=some (.int i,st1)):(ev orc (j+1)).E cs (.un .USub x) st=some (.int (-i),st1):=qE c rfl
theorem BO (c:(ev orc j).E cs x st=some (.int i,st1)):(ev orc (j+1)).E cs (.un .Invert x) st=some (.int (ay i),st1):=qE c rfl
theorem Jx {b:Bool} (c:(ev orc j).E cs x st=some (v,st1)) (d:ef st1.hp v=some b):(ev orc (j+1)).E cs (.un .Not x) st=some (.bool !b,st1):=qE c (qM d)
theorem dW {b:Bool} (c:(ev orc j).E cs x st=some (v,st1)) (f:(ev orc j).E cs y st1=some (u,st2)) (d:fy st2.hp op v u=some b):(ev orc (j+1)).E cs (.cmp x [op] [y]) st=some (.bool b,st2):=by
 have e:ve (ev orc j) cs v [op] [y] st1=some (b,st2):=qE f (qM d)
 exact qE c (qM e)
theorem i5 (c:(ev orc j).E cs z st=some (v,st1)) (e:ef st1.hp v=some true) (d:(ev orc j).E cs x st1=some (r,st2)):(ev orc (j+1)).E cs (.dT z x y) st=some (r,st2):=qE c (qT e d)
theorem kF (c:(ev orc j).E cs z st=some (v,st1)) (e:ef st1.hp v=some false) (d:(ev orc j).E cs y st1=some (r,st2)):(ev orc (j+1)).E cs (.dT z x y) st=some (r,st2):=qE c (qF e d)
theorem d_ (hc:cs[k]?=some i) (h:st.hp[i]?=some (.cell (some v))):(ev orc (j+1)).E cs (.cell k) st=some (v,st):=qV (Gu hc h) rfl
theorem eZ (h:st.loc[k]?=some (some v)):(ev orc (j+1)).E cs (.loc k) st=some (v,st):=by
 show (match st.loc[k]? with | some (some v)=>some (v,st) | _=>none)=_
 rw[h]
theorem pq (h:d9 cs 5 t v st=some st1) (k:bindAll cs ts vs st1=o):bindAll cs (t::ts) (v::vs) st=o:=(qS h k:_)
theorem dD {r:Ev} (h:r.E cs x st=some (v,st1)) (c:fG r cs l st1=some (vs,st2)):fG r cs (x::l) st=some (v::vs,st2):=qE h (qL c rfl)
theorem dH {r:Ev} (h:r.E cs x st=some (v,st1)):fG r cs [x] st=some ([v],st1):=dD h rfl
theorem fJ {b:Bf} (h:fG (ev orc j) cs as st=some (vs,st1)) (c:iP st1.hp b vs=some v):(ev orc (j+1)).E cs (.bf b as) st=some (v,st1):=qL h (qM c)
theorem eI (c:(ev orc j).E cs x st=some (v,st1)) (e:(ev orc j).E cs y st1=some (w,st2)) (d:fx st2.hp v w=some r):(ev orc (j+1)).E cs (.sub x y) st=some (r,st2):=qE c (qE e (qM d))
theorem sj (c:(ev orc j).E cs x st=some (v,st1)) (f:(ev orc j).E cs y st1=some (w,st2)) (e:(ev orc j).E cs z st2=some (u,st3)) (d:nG st3.hp v w u=some r):(ev orc (j+1)).E cs (.k_ x y z) st=some (r,st3):=qE c (qE f (qE e (qM d)))
theorem fE (h:fG (ev orc j) cs as st=some (vs,st1)):(ev orc (j+1)).E cs (.tup as) st=some (.tup vs,st1):=qM h
theorem vm (h:fG (ev orc j) cs as st=some (vs,st1)):(ev orc (j+1)).E cs (.list as) st=some (.lst vs,st1):=qM (qM h)
theorem jw (h:(ev orc j).E cs x st=some (v,st1)) (c:fM st1.hp v n=some r):(ev orc (j+1)).E cs (.attr x n) st=some (r,st1):=qE h (qM c)
variable {hp':List O}
theorem pA (c:(ev orc j).E cs x st=some (v,st1)) (f:fG (ev orc j) cs as st1=some (vs,st2)) (e:fG (ev orc j) cs kx st2=some (ks,st3)) (d:iL orc v vs kn ks st3.hp=some (r,hp')):(ev orc (j+1)).E cs (.call x as kn kx) st=some (r,⟨st3.loc,hp'⟩):=
 qE c (qL f (qL e (qM d)))
theorem pk {c:List O}{a:Addr} (h:fG (ev orc (j+1)) cs as st=some (vs,⟨loc,c⟩)) (d:fG (ev orc (j+1)) cs kx ⟨loc,c⟩=some (kv,⟨loc,c⟩)) (e:orc.top a vs kn kv c=some (v,hp')):(ev orc (j+2)).E cs (.call (.k (.con (.ref a))) as kn kx) st=some (v,⟨loc,hp'⟩):=pA (j:=j+1) (v:=.con (.ref a)) rfl h d e
theorem call_top {c:List O}{a:Addr} (h:fG (ev orc (j+1)) cs as st=some (vs,⟨loc,c⟩)) (d:orc.top a vs [] [] c=some (v,hp')):(ev orc (j+2)).E cs (.call (.k (.con (.ref a))) as [] []) st=some (v,⟨loc,hp'⟩):=pk h rfl d
theorem xJ {c:List O} (d:c[i]?=some (.fn f cl dc)) (e:orc.mx f cl vs c=some (r,hp')):iL orc (.ref i) vs [] [] c=some (r,hp'):=(show iL orc (.ref i) vs [] [] c=Bv orc vs [] [] c c[i]? from rfl).trans (by rw[d];exact e)
theorem iA {c:List O} (d:(ev orc j).E cs x st=some (.ref i,st1)) (e:fG (ev orc j) cs as st1=some (vs,⟨loc,c⟩)) (g:c[i]?=some (.fn f cl dc)) (h:orc.mx f cl vs c=some (r,hp')):(ev orc (j+1)).E cs (.call x as [] []) st=some (r,⟨loc,hp'⟩):=
 pA (st3:=⟨loc,c⟩) d e (ks:=[]) rfl (xJ g h)
theorem iF {c:List O} (h:(ev orc j).E cs x st=some (v,st1)) (g:isFn st1.hp v=false) (f:oU m (view st1.hp v)=some k) (e:fG (ev orc j) cs as st1=some (vs,⟨loc,c⟩)) (d:mj c k v vs=some (w,hp')):(ev orc (j+1)).E cs (.mt m x as) st=some (w,⟨loc,hp'⟩):=
 qE h ((if_neg (by rw[g];decide)).trans (qK f (qL e (qM d))))
theorem TU {c:List O} (g:(ev orc j).E cs x st=some (v,st1)) (f:isFn st1.hp v=true) (d:fM st1.hp v (jk m)=some fv) (e:fG (ev orc j) cs as st1=some (vs,⟨loc,c⟩)) (h:iL orc fv vs [] [] c=some (w,hp')):(ev orc (j+1)).E cs (.mt m x as) st=some (w,⟨loc,hp'⟩):=
 qE g ((if_pos f).trans (qV d (qL e (qM h))))
theorem Hm {c:List O} (g:(ev orc j).E cs x st=some (v,st1)) (e:fM st1.hp v n=some fv) (f:fG (ev orc j) cs as st1=some (vs,⟨loc,c⟩)) (d:iL orc fv vs [] [] c=some (w,hp')):(ev orc (j+1)).E cs (.mc x n as) st=some (w,⟨loc,hp'⟩):=
 qE g (qV e (qL f (qM d)))
theorem Pb (h:fG (ev orc j) cs l st=some (vs,st1)) (c:mergeAll [] [] vs=some (ks,ws)):(ev orc (j+1)).E cs (.star l) st=some (.dE ks ws,st1):=by
 have e:eU (ev orc j) cs (.star l) st=some (.dict ks ws,st1):=qL h (qM c)
 exact qM e
theorem oo (h:eU (ev orc j) cs x st=some (o,st1)):(ev orc (j+1)).E cs (.new x) st=some (.ref st1.hp.length,⟨st1.loc,st1.hp++[o]⟩):=qM h
theorem TR (c:(ev orc j).E cs x st=some (v,st1)) (d:ef st1.hp v=some true):(ev orc (j+1)).E cs (.or (x::y::l)) st=some (v,st1):=qE c (qT d rfl)
theorem BN (c:(ev orc j).E cs x st=some (v,st1)) (e:ef st1.hp v=some false) (d:xr (ev orc j) cs (y::l) st1=some (r,st2)):xr (ev orc j) cs (x::y::l) st=some (r,st2):=qE c (qF e d)
theorem TQ (c:(ev orc j).E cs x st=some (.bool false,st)) (e:(ev orc j).E cs y st=some (.bool false,st)) (d:(ev orc j).E cs z st=some (r,st2)):(ev orc (j+1)).E cs (.or [x,y,z]) st=some (r,st2):=BN (l:=[z]) c rfl (BN (l:=[]) e rfl d)
theorem Ep (c:(ev orc j).E cs x st=some (v,st1)) (e:ef st1.hp v=some false) (d:(ev orc j).E cs y st1=some (r,st2)):(ev orc (j+1)).E cs (.or [x,y]) st=some (r,st2):=BN (l:=[]) c e d
theorem Jw (c:(ev orc j).E cs x st=some (.bool false,st)) (d:(ev orc j).E cs y st=some (r,st2)):(ev orc (j+1)).E cs (.or [x,y]) st=some (r,st2):=Ep c rfl d
theorem yt (c:(ev orc j).E cs x st=some (v,st1)) (e:ef st1.hp v=some true) (d:(ev orc j).E cs y st1=some (r,st2)):(ev orc (j+1)).E cs (.and [x,y]) st=some (r,st2):=qE c (qT e d)
variable {a b:List XS}{t:Tg}{fl:Fl}
theorem dM (h:(ev orc j).E cs x st=some (v,st1)) (c:d9 cs 5 t v st1=some st2):(ev orc (j+1)).S cs (.asg t x) st=some (.next,st2):=qE h (qM c)
theorem gz (h:(ev orc j).E cs x st=some (.none,st1)):(ev orc (j+1)).S cs (.expr x) st=some (.next,st1):=
 (congrArg (λo:Option (V×St)=>match o with | some (.none,st)=>some (Fl.next,st) | _=>none) h:_)
theorem fD (h:(ev orc j).E cs x st=some (v,st1)):(ev orc (j+1)).S cs (.ret x) st=some (.ret v,st1):=qM h
theorem ib (c:(ev orc j).E cs x st=some (v,st1)) (e:ef st1.hp v=some true) (d:dX (ev orc j) cs a st1=some (fl,st2)):(ev orc (j+1)).S cs (.dT x a b) st=some (fl,st2):=qE c (qT e d)
theorem ic (c:(ev orc j).E cs x st=some (v,st1)) (e:ef st1.hp v=some false) (d:dX (ev orc j) cs b st1=some (fl,st2)):(ev orc (j+1)).S cs (.dT x a b) st=some (fl,st2):=qE c (qF e d)
theorem jU (h:(ev orc j).E cs x st=some (.bool false,st1)):(ev orc (j+1)).S cs (.dT x a []) st=some (.next,st1):=ic h rfl rfl
theorem oh (c:kq cs t st=some w) (d:(ev orc j).E cs x st=some (v,st1)) (f:jL op w v=some r) (e:d9 cs 5 t r st1=some st2):(ev orc (j+1)).S cs (.aug t op x) st=some (.next,st2):=qV c (qE d (qV f (qM e)))
theorem yo (c:(ev orc j).E cs e st=some (v,st1)) (g:(ev orc j).E cs x st1=some (w,st2)) (f:(ev orc j).E cs y st2=some (u,st3)) (d:jV st3.hp w u v=some hp'):(ev orc (j+1)).S cs (.ji x y e) st=some (.next,⟨st3.loc,hp'⟩):=qE c (qE g (qE f (qM d)))
theorem iD (c:(ev orc j).E cs e st=some (v,st1)) (f:(ev orc j).E cs x st1=some (w,st2)) (d:kO st2.hp w n v=some hp'):(ev orc (j+1)).S cs (.setAttr x n e) st=some (.next,⟨st2.loc,hp'⟩):=qE c (qE f (qM d))
theorem ie (c:fq (ev orc j) cs x st=some (l,gd,st1)) (d:fL (ev orc j) cs t gd b l st1=some (fl,st2)):(ev orc (j+1)).S cs (.fI t x b) st=some (fl,st2):=qR c d
theorem eP (h:(ev orc j).S cs s st=some (.next,st1)) (c:dX (ev orc j) cs b st1=some (fl,st2)):dX (ev orc j) cs (s::b) st=some (fl,st2):=et h c
theorem gq (h:(ev orc j).S cs s st=some (.next,st1)):dX (ev orc j) cs [s] st=some (.next,st1):=et h rfl
theorem eW (c:gA st.hp gd=true) (e:d9 cs 5 t v st=some st1) (d:dX (ev orc j) cs b st1=some (.next,st2)) (f:fL (ev orc j) cs t gd b l st2=some (fl,st3)):fL (ev orc j) cs t gd b (v::l) st=some (fl,st3):=
 (if_pos c).trans (qS e ((congrArg (λo:Option (Fl×St)=>match o with | some (.next,st)=>fL (ev orc j) cs t gd b l st | o=>o) d:_).trans f))
theorem qs (c:(ev orc j).E cs x st=some (v,st1)) (f:ef st1.hp v=some true) (e:dX (ev orc j) cs b st1=some (.next,st2)) (d:jd (ev orc j) cs x b m st2=o):jd (ev orc j) cs x b (m+1) st=o:=
 (qE c (qT f (congrArg (λo:Option (Fl×St)=>match o with | some (.next,st)=>jd (ev orc j) cs x b m st | o=>o) e:_))).trans d
theorem qt (c:(ev orc j).E cs x st=some (v,st1)) (d:ef st1.hp v=some false):jd (ev orc j) cs x b (m+1) st=some (.next,st1):=qE c (qF d rfl)
theorem Jv (d:hX cs cl=some pg) (c:d9 cs 5 t (.ref st.hp.length) ⟨st.loc,st.hp++[.fn f pg none]⟩=some st1):(ev orc (j+1)).S cs (.qQ t f cl) st=some (.next,st1):=qC d (qM c)
theorem BL (h:jd (ev orc j) cs x b 8 st=some (fl,st1)):(ev orc (j+1)).S cs (.yZ x b) st=some (fl,st1):=h
theorem vi {a b:Int} (e:a=b):some (V.int a)=some (V.int b):=e▸rfl
theorem dt [Decidable p] (h:p):some (decide p)=some true:=congrArg some (decide_eq_true h)
theorem df [Decidable p] (h:¬p):some (decide p)=some false:=congrArg some (decide_eq_false h)
noncomputable def Up:X->Bool
 | .enum _=>false
 | .rev _=>false
 | _=>true
theorem g' (c:Up x=true) (h:(ev orc j).E cs x st=some (v,st1)):fq (ev orc j) cs x st=Aq st1 v:=(qi (λa e=>by rw[e] at c;exact fT c) λa e=>by rw[e] at c;exact fT c).trans (qE h rfl)
end
noncomputable def nats (l:List Nat):List V:=l.map λ(d:Nat)=>V.int (d:Int)
theorem lJ (a b:Nat):Int.fdiv (a:Int) (b:Int)=((a / b:Nat):Int):=by
 rw[Int.fdiv_eq_ediv_of_nonneg _ (Int.natCast_nonneg _)];rfl
theorem qJ (a b:Nat):Int.fmod (a:Int) (b:Int)=((a % b:Nat):Int):=by
 rw[Int.fmod_eq_emod_of_nonneg _ (Int.natCast_nonneg _)];rfl
theorem fdiv_pow (a k:Nat):Int.fdiv (a:Int) (2 ^ k)=((a / 2 ^ k:Nat):Int):=by
 have:=lJ a (2 ^ k)
 rw[<- this];congr 1
theorem mul_pow (a k:Nat):(a:Int)*2 ^ k=((a*2 ^ k:Nat):Int):=by push_cast;rfl
theorem z' (a b:Nat):aQ (a:Int) (b:Int)=((a &&& b:Nat):Int):=by
 unfold aQ
 rw[decide_eq_true (Int.natCast_nonneg a),decide_eq_true (Int.natCast_nonneg b)]
 rfl
theorem CY (a b:Nat):bc (a:Int) (b:Int)=((a ||| b:Nat):Int):=by
 unfold bc aQ ay
 have h:decide ((0:Int)<=-(a:Int) - 1)=false:=decide_eq_false (by lia)
 have c:decide ((0:Int)<=-(b:Int) - 1)=false:=decide_eq_false (by lia)
 rw[h,c]
 have d:(- (-(a:Int) - 1) - 1).toNat=a:=by lia
 have e:(- (-(b:Int) - 1) - 1).toNat=b:=by lia
 dsimp only
 rw[d,e];lia
theorem BQ (x s:Nat):bz (x:Int) ((x / 2 ^ s*2 ^ s:Nat):Int)=((x % 2 ^ s:Nat):Int):=by
 unfold bz
 rw[CY,z']
 have a:x ||| (x / 2 ^ s*2 ^ s)=x:=by
  apply Nat.eq_of_testBit_eq
  intro i
  rw[Nat.testBit_or,Nat.testBit_mul_two_pow,Nat.testBit_div_two_pow]
  by_cases h:s<=i
  ·simp[h]
  ·simp[h]
 have b:x &&& (x / 2 ^ s*2 ^ s)=x / 2 ^ s*2 ^ s:=by
  apply Nat.eq_of_testBit_eq
  intro i
  rw[Nat.testBit_and,Nat.testBit_mul_two_pow,Nat.testBit_div_two_pow]
  by_cases h:s<=i
  ·simp[h]
  ·simp[h]
 rw[a,b]
 have:=Nat.div_add_mod x (2 ^ s)
 rw[Nat.mul_comm] at this
 lia
theorem ym (a k:Nat):aQ (a:Int) ((2 ^ k - 1:Nat):Int)=((a % 2 ^ k:Nat):Int):=by
 rw[z',Nat.and_two_pow_sub_one_eq_mod]
theorem CZ (q r k:Nat) (h:r < 2 ^ k):bc ((q*2 ^ k:Nat):Int) (r:Int)=((q*2 ^ k+r:Nat):Int):=by
 rw[CY,Nat.mul_comm,Nat.two_pow_add_eq_or_of_lt h]
theorem Pe (k):(1:Int)*2 ^ k - 1=((2 ^ k - 1:Nat):Int):=by
 have:1<=2 ^ k:=Nat.one_le_two_pow
 push_cast [this];lia
theorem qX (a:Nat):aa (a:Int)=if a=0 then 0 else a.log2+1:=by
 unfold aa
 by_cases h:a=0
 ·subst h;rfl
 ·have e:((a:Int)==0)=false:=by simpa using h
  simp[e,h]
theorem bits_le {a k:Nat}:aa (a:Int)<=k↔a < 2 ^ k:=by
 rw[qX]
 by_cases h:a=0
 ·subst h;simp[Nat.two_pow_pos]
 ·rw[if_neg h,Nat.succ_le_iff,Nat.log2_lt h]
theorem gE {a:Int}{k:Nat}(h:a.natAbs < 2 ^ k):aa a<=k:=by
 have e:aa a=aa (a.natAbs:Int):=by
  unfold aa
  by_cases h:a=0
  ·subst h;rfl
  ·have b:(a==0)=false:=by simpa using h
   have c:((a.natAbs:Int)==0)=false:=by simp;lia
   rw[b,c];rfl
 rw[e];exact bits_le.mpr h
theorem KV {b n:Nat}(c:2 ^ (n - 1)<=b) (a:b < 2 ^ n) (d:0 < n):aa (b:Int)=n:=by
 apply Nat.le_antisymm (bits_le.mpr a)
 apply Nat.le_of_not_lt
 intro h
 have:b < 2 ^ (n - 1):=bits_le.mp (by lia)
 lia
theorem jW {a b:Nat}(h:aa (a:Int)<=aa (b:Int)+4100\/aa (b:Int)<=9000):ab (a:Int) (b:Int)=false:=by
 have c:∀x:Nat,(if ((x:Int)==0)=true then 0 else (x:Int).natAbs.log2 / 30+1)=(aa (x:Int)+29) / 30:=λx=>by
  rw[qX]
  by_cases h:x=0
  ·subst h;rfl
  ·have e:((x:Int)==0)=false:=by simpa using h
   rw[if_neg h,if_neg (by rw[e];simp),Int.natAbs_natCast];lia
 unfold ab
 dsimp only
 rw[Bool.and_eq_false_iff]
 simp only[decide_eq_false_iff_not,c]
 lia
section
variable {hp:List O}
theorem fR (a b):eF hp .Add (.int a) (.int b)=some (.int (a+b)):=rfl
theorem gH (a b):eF hp .Sub (.int a) (.int b)=some (.int (a - b)):=rfl
theorem n_ (a k:Nat):eF hp .RShift (.int a) (.int k)=some (.int ((a / 2 ^ k:Nat):Int)):=by
 show (if (0:Int)<=k then some (V.int (Int.fdiv a (2 ^ (k:Int).toNat))) else none)=_
 rw[if_pos (Int.natCast_nonneg _),Int.toNat_natCast,fdiv_pow]
theorem oe (a k j:Nat) (b:a < 2 ^ j) (c:j<=50000) (d:k<=50000):eF hp .LShift (.int a) (.int k)=some (.int ((a*2 ^ k:Nat):Int)):=by
 show (if (0:Int)<=k/\(aa (a:Int):Int)+k<=100000 then _ else _)=_
 have:=bits_le.mpr b
 rw[if_pos ⟨Int.natCast_nonneg _,by lia⟩,Int.toNat_natCast,mul_pow]
theorem Ss (a k j:Nat) (b:a < 2 ^ j) (c:j<=50000) (d:k<=50000):jL .LShift (.int a) (.int k)=some (.int ((a*2 ^ k:Nat):Int)):=by
 show (if (0:Int)<=k/\(aa (a:Int):Int)+k<=100000 then _ else _)=_
 have:=bits_le.mpr b
 rw[if_pos ⟨Int.natCast_nonneg _,by lia⟩,Int.toNat_natCast,mul_pow]
theorem Sr (a k:Nat):jL .RShift (.int a) (.int k)=some (.int ((a / 2 ^ k:Nat):Int)):=by
 show (if (0:Int)<=k then some (V.int (Int.fdiv a (2 ^ (k:Int).toNat))) else none)=_
 rw[if_pos (Int.natCast_nonneg _),Int.toNat_natCast,fdiv_pow]
theorem i4 (a b:Int) (i j) (c:a.natAbs < 2 ^ i) (d:b.natAbs < 2 ^ j) (h:i<=50000) (k:j<=50000):eF hp .Mult (.int a) (.int b)=some (.int (a*b)):=by
 have e:u6 a b=true:=by
  unfold u6
  have:=gE c
  have:=gE d
  exact decide_eq_true (by lia)
 show (if u6 a b=true then _ else _)=_
 rw[if_pos e]
theorem Jn (a b):eF hp .BitAnd (.int a) (.int b)=some (.int (aQ a b)):=rfl
theorem OV (a b):eF hp .BitOr (.int a) (.int b)=some (.int (bc a b)):=rfl
theorem Tx (a b):eF hp .BitXor (.int a) (.int b)=some (.int (bz a b)):=rfl
theorem aaL (a b):jL .Add (.int a) (.int b)=some (.int (a+b)):=rfl
theorem aaK (a b):jL .Sub (.int a) (.int b)=some (.int (a - b)):=rfl
theorem Xw (a b):fy hp .Eq (.int a) (.int b)=some (decide (a=b)):=rfl
theorem aa0 (a b):fy hp .Lt (.int a) (.int b)=some (decide (a < b)):=rfl
theorem aa1 (a b):fy hp .LtE (.int a) (.int b)=some (decide (a<=b)):=rfl
theorem X0 (b):ef hp (.bool b)=some b:=rfl
theorem aaH (i):ef hp (.int i)=some (decide (i≠0)):=rfl
end
theorem Eb (k:Nat) (a:k<=50000):eF hp .LShift (.int 1) (.int k)=some (.int ((2 ^ k:Nat):Int)):=by
 have:=oe (hp:=hp) 1 k 1 (by decide) (by decide) a
 rw[Nat.one_mul] at this
 exact this
theorem pQ {a b:Nat}(c:0 < b) (h:ab (a:Int) (b:Int)=false):¬((b:Int)=0\/ab (a:Int) (b:Int)=true):=
 λq=>q.elim (λe=>Nat.ne_of_gt c (Int.ofNat.inj e)) λe=>fT (h.symm.trans e)
theorem Hb {hp:List O}(a b:Nat) (c:0 < b) (h:ab (a:Int) (b:Int)=false):iP hp .divmod [.int a,.int b]=some (.tup [.int (a / b:Nat),.int (a % b:Nat)]):=by
 show (if (b:Int)=0\/ab (a:Int) (b:Int)=true then none else some (V.tup [.int (Int.fdiv a b),.int (Int.fmod a b)]))=_
 rw[if_neg (pQ c h),lJ,qJ]
theorem Lc (n:Nat):aQ (n:Int) 1=((n % 2:Nat):Int):=ym n 1
theorem x_ (n:Nat):eF hp .RShift (.int n) (.int 1)=some (.int ((n / 2:Nat):Int)):=n_ n 1
theorem DA (a j:Nat) (c:a < 2 ^ j) (b:j<=50000):jL .LShift (.int a) (.int 1)=some (.int ((a*2 ^ 1:Nat):Int)):=Ss a 1 j c b (by decide)
theorem N0 (a:Nat):jL .RShift (.int a) (.int 1)=some (.int ((a / 2:Nat):Int)):=Sr a 1
theorem lP {hp:List O}(a b:Nat) (c:0 < b) (h:ab (a:Int) (b:Int)=false):eF hp .FloorDiv (.int a) (.int b)=some (.int (a / b:Nat)):=by
 show (if (b:Int)=0\/ab (a:Int) (b:Int)=true then none else some (V.int (Int.fdiv a b)))=_
 rw[if_neg (pQ c h),lJ]
theorem pv {hp:List O}(a b:Nat) (c:0 < b) (h:ab (a:Int) (b:Int)=false):eF hp .Mod (.int a) (.int b)=some (.int (a % b:Nat)):=by
 show (if (b:Int)=0\/ab (a:Int) (b:Int)=true then none else some (V.int (Int.fmod a b)))=_
 rw[if_neg (pQ c h),qJ]
theorem Jm (a:Int) (k:Nat) (h:(aa a:Int)*(k:Int)<=100000):eF hp .Pow (.int a) (.int k)=some (.int (a ^ k)):=by
 show (if (0:Int)<=k/\(aa a:Int)*(k:Int)<=100000 then some (V.int (a ^ (k:Int).toNat)) else none)=_
 rw[if_pos ⟨Int.natCast_nonneg _,h⟩,Int.toNat_natCast]
theorem nJ (a b):nats (a++b)=nats a++nats b:=List.map_append
theorem g6 (a):(nats a).length=a.length:=List.length_map ..
theorem FI (a:List Nat) (i:Nat):(nats a)[i]?=(a[i]?).map λ(d:Nat)=>V.int (d:Int):=List.getElem?_map ..
theorem lC (hp) (n):∀l:List Nat,dI (eE hp (n+1)) (nats l)=some (nats l)
 | []=>rfl
 | d::l=>by
  have a:=lC hp n l
  unfold nats at a ⊢
  rw[List.map_cons,dI,a]
  rfl
theorem Jt {hp:List O}{i:Nat} (h:hp[i]?=some (.list l)) (a:l.length<=65536):mj hp .gv (.ref i) [v]=some (.none,hp.set i (.list (l++[v]))):=(wG _ _ h).trans (if_pos (decide_eq_true a))
theorem vn {a:List O}{i:Nat} (c:(ev orc j).E cs x st=some (.ref i,st1)) (h:st1.hp[i]?=some (.list l0)) (b:fG (ev orc j) cs as st1=some ([v],⟨loc,a⟩)) (d:a[i]?=some (.list l)) (e:l.length<=65536) :
  (ev orc (j+1)).E cs (.mt .append x as) st=some (.none,⟨loc,a.set i (.list (l++[v]))⟩):=
 iF c ((congrArg rK h:isFn st1.hp (.ref i)=_)) (k:=.gv) ((congrArg (λo=>oU .append (pE i o)) h:oU .append (view st1.hp (.ref i))=_)) b (Jt d e)
theorem tQ {k n:Nat}(h:k < n):place (k:Int) n=some k:=by
 unfold place
 rw[if_neg (Int.not_lt.mpr (Int.natCast_nonneg k)),if_pos ⟨Int.natCast_nonneg k,Int.ofNat_lt.mpr h⟩]
 rfl
theorem An {hp:List O}{l:List V}{k:Nat}{v:V}(h:l[k]?=some v) (a:l.length<=65536):fx hp (.lst l) (.int k)=some v:=by
 show (if dQ l.length=true then (place (k:Int) l.length).bind λj=>l[j]? else none)=_
 rw[if_pos (show dQ l.length=true from decide_eq_true a),tQ (List.getElem?_eq_some_iff.mp h).1]
 exact h
theorem QM {hp:List O}{o:V}{l:List V}{k:Nat}{v:V}(e:view hp o=.lst l) (h:l[k]?=some v) (a:l.length<=65536):fx hp o (.int k)=some v:=by
 unfold fx
 rw[e]
 exact An (hp:=hp) h a
theorem JY {hp:List O}{j k:Nat}{l:List V}{v:V}(b:hp[j]?=some (.list l)) (c:k < l.length) (a:l.length<=65536):jV hp (.ref j) (.int k) v=some (hp.set j (.list (l.set k v))):=by
 show Ft hp j (.int k) v hp[j]?=_
 rw[b]
 exact (if_pos (decide_eq_true a)).trans (if_pos ⟨Int.natCast_nonneg _,Int.ofNat_lt.mpr c⟩)
theorem AV (e:view hp (eN a)=.lst l) (h:l.length<=65536):iP hp .len [a]=some (.int l.length):=(congrArg FU e:_).trans (if_pos (decide_eq_true h))
theorem za (e:view hp a=.lst l) (h:l.length<=65536):ef hp a=some (decide (l.length≠0)):=(congrArg vD e:_).trans (if_pos (decide_eq_true h))
theorem Q1 {hp:List O}{i:Nat} (h:hp[i]?=some (.list l)) (a:l.length<=65536):mj hp .i8 (.ref i) []=some (.none,hp.set i (.list l.reverse)):=(wG _ _ h).trans (if_pos (decide_eq_true a))
theorem I8 {hp:List O}{i:Nat} (h:hp[i]?=some (.list l)) (a:l.length<=65536):iL orc (.bm "list.append" (.ref i)) [v] [] [] hp=some (.none,hp.set i (.list (l++[v]))):=
 (if_pos ⟨rfl,rfl,rfl⟩:(if "list.append"="list.append"/\([]:List Str)=[]/\([]:List V)=[] then zq hp .gv (.ref i) [v] else none)=_).trans ((wG _ _ h).trans (if_pos (decide_eq_true a)))
theorem xW {a:List O}{i:Nat} (b:(ev orc j).E cs x st=some (.bm "list.append" (.ref i),st1)) (d:fG (ev orc j) cs as st1=some ([v],⟨loc,a⟩)) (h:a[i]?=some (.list l)) (c:l.length<=65536) :
  (ev orc (j+1)).E cs (.call x as [] []) st=some (.none,⟨loc,a.set i (.list (l++[v]))⟩):=pA (st3:=⟨loc,a⟩) b d (ks:=[]) rfl (I8 h c)
theorem pL {st:St} (h:jZ st.hp (.gf a b c)=some l):Aq st (.gf a b c)=some (l,none,st):=(qM h:(jZ st.hp (.gf a b c)).map (λl=>(l,none,st))=_)
theorem T5 {a b:Nat}(h:b < 2 ^ 9000):ab (a:Int) (b:Int)=false:=jW (.inr (bits_le.mpr h))
theorem mr {a b:List V} (h:a.length+b.length<=65536):eF hp .Add (.lst a) (.lst b)=some (.lst (a++b)):=by
 show (if dQ (a.length+b.length)=true then _ else _)=_
 rw[if_pos (show dQ (a.length+b.length)=true from decide_eq_true h)]
def gT (r:Ev) (cs:List Nat) (elt:X) (f:List X) (ts:List Tg) (is:List X) (fs:List (List X)) (st:St):Option (List V×St):=match o9 r cs f st with
 | some (true,st)=>j0 r cs elt ts is fs st
 | some (false,st)=>some ([],st)
 | none=>none
theorem jS {α a:Type} (f:α->a):∀l:List α,(l.flatMap λx=>[f x])=l.map f
 | []=>rfl
 | x::l=>by rw[List.flatMap_cons,jS f l];rfl
theorem nY {α a:Type} (p:α->Bool) (f:α->a):∀l:List α,(l.flatMap λx=>if p x=true then [f x] else [])=(l.filter p).map f
 | []=>rfl
 | x::l=>by
  rw[List.flatMap_cons,nY p f l,List.filter_cons]
  cases p x<;>rfl
theorem LA {r:Ev} (h:r.E cs t st=some (.bool b,st1)):o9 r cs [t] st=some (b,st1):=by
 refine qE h ?_
 cases b<;>rfl
section
variable {α:Type}{r:Ev}{cs:List Nat}{elt i:X}{f:List X}{st:St}{ρ:α->V}{g:α->V}
theorem Cf {F:α->List V}:∀(l:List α),(∀a∈l,gT r cs elt f [] [] [] ⟨[some (ρ a)],hp⟩=some (F a,⟨[some (ρ a)],hp⟩))->∀y,∃c,gx cs (.loc 0) none (gT r cs elt f [] [] []) (l.map ρ) ⟨[y],hp⟩=some (l.flatMap F,⟨[c],hp⟩)
 | [],_,y=>⟨y,rfl⟩
 | a::l,h,y=>(Cf l (λb d=>h b (.tail _ d)) (some (ρ a))).elim λc i=>⟨c,nz rfl rfl (h a (.head _)) i⟩
theorem I_ {F:α->List V}{l:List α} (hs:fq r cs i st=some (l.map ρ,none,st)) (Se:∀a∈l,gT r cs elt f [] [] [] ⟨[some (ρ a)],st.hp⟩=some (F a,⟨[some (ρ a)],st.hp⟩)) (hl:(l.flatMap F).length<=65536) :
  eU r cs (.comp elt [.loc 0] [i] [f] 1 0) st=some (.list (l.flatMap F),st):=
 (Cf l Se none).elim λy' h=>qM (f:=λx:List V×St=>(O.list x.1,x.2)) (xN (ts:=[]) (is:=[]) (fs:=[]) (n:=1) hs h hl)
theorem fh {l:List α} (e:fq (ev orc j) cs i st=some (l.map ρ,none,st)) (b:∀a∈l,(ev orc j).E cs elt ⟨[some (ρ a)],st.hp⟩=some (g a,⟨[some (ρ a)],st.hp⟩)) (c:l.length<=65536) :
  (ev orc (j+1)).E cs (.comp elt [.loc 0] [i] [[]] 1 0) st=some (.lst (l.map g),st):=by
 rw[<- jS g l]
 exact qM (I_ (F:=λa=>[g a]) (elt:=elt) (f:=[]) e (λa d=>w4 (b a d)) (by rw[jS,List.length_map];exact c))
theorem Ad {l:List α} (p:α->Bool) (h:fq (ev orc j) cs i st=some (l.map ρ,none,st)) (b:∀a∈l,(ev orc j).E cs q ⟨[some (ρ a)],st.hp⟩=some (.bool (p a),⟨[some (ρ a)],st.hp⟩)) (c:∀a∈l,p a=true->(ev orc j).E cs elt ⟨[some (ρ a)],st.hp⟩=some (g a,⟨[some (ρ a)],st.hp⟩)) (e:l.length<=65536) :
  (ev orc (j+1)).E cs (.comp elt [.loc 0] [i] [[q]] 1 0) st=some (.lst ((l.filter p).map g),st):=by
 rw[<- nY p g l]
 refine qM (I_ (F:=λa=>if p a=true then [g a] else []) (elt:=elt) (f:=[q]) h (λa d=>?_) (by rw[nY,List.length_map];exact Nat.le_trans (List.length_filter_le ..) e))
 unfold gT
 rw[LA (b a d)]
 cases hp:p a with
 | false=>rfl
 | true=>exact w4 (c a d hp)
end
theorem aaT (k):V.int (k:Int)=V.int (k:Int):=rfl
theorem xA:∀(a b:List Nat) (n:Nat),a.length=b.length->j3 (eQ (n+1)) (nats a) (nats b)=some (decide (a=b))
 | [],[],_,_=>rfl
 | [],_::_,_,h=>by cases h
 | _::_,[],_,h=>by cases h
 | x::a,y::b,n,h=>by
  have i:=xA a b n (Nat.succ.inj h)
  unfold nats at i ⊢
  rw[List.map_cons,List.map_cons,j3,i]
  show some (decide ((x:Int)=(y:Int))&&decide (a=b))=_
  congr 1
  by_cases c:x=y<;>by_cases d:a=b<;>simp[c,d]
  exact λq=>c (by lia)
theorem sY (a b):fy hp .Eq (.lst (nats a)) (.lst (nats b))=some (decide (a=b)):=by
 show (if (nats a).length=(nats b).length then j3 (eQ 7) (nats a) (nats b) else some false)=_
 have e:∀l:List Nat,(nats l).length=l.length:=λl=>List.length_map ..
 rw[e,e]
 split
 ·exact xA a b 6 ‹_›
 ·rename_i h
  rw[decide_eq_false (λq=>h (by rw[q]))]
def yu (m:Nat) (N:Nat):Prop:=∀(a b n:Nat) (c:List O),0 < n->n<=N->2 ^ (n - 1)<=b->b < 2 ^ n->a < b*2 ^ n->(dA m).top 79 [.int a,.int b,.int n] [] [] c=some (.tup [.int (a / b:Nat),.int (a % b:Nat)],c)
def Pc (m:Nat) (N:Nat):Prop:=∀(iQ a3 b1 b2 n:Nat) (a:List O),0 < n->n<=N->2 ^ (n - 1)<=b1->b1 < 2 ^ n->b2 < 2 ^ n->a3 < 2 ^ n->iQ < b1*2 ^ n+b2->
 (dA m).top 86 [.int iQ,.int a3,.int (b1*2 ^ n+b2:Nat),.int b1,.int b2,.int n] [] [] a=some (.tup [.int ((iQ*2 ^ n+a3) / (b1*2 ^ n+b2):Nat),.int ((iQ*2 ^ n+a3) % (b1*2 ^ n+b2):Nat)],a)
theorem MW (orc:er) (l0 g d e h:Option V) (q r:Int) (b:Nat) (k:r < b) (l:-2*(b:Int)<=r):∃i a:Int,i*b+a=q*b+r/\0<=a/\a < b/\
  (ev orc 60).S [] HQ ⟨[l0,g,some (.int b),d,e,h,some (.int q),some (.int r)],[]⟩=some (.next,⟨[l0,g,some (.int b),d,e,h,some (.int i),some (.int a)],[]⟩):=by
 by_cases c:r < 0
 ·by_cases f:r+b < 0
  ·exact ⟨q - 1 - 1,r+b+b,by rw[Int.sub_mul,Int.sub_mul];lia,by lia,by lia,BL <| qs (j:=59) rfl (dt c) rfl (qs rfl (dt f) rfl (qt rfl (df (by lia))))⟩
  ·exact ⟨q - 1,r+b,by rw[Int.sub_mul];lia,by lia,by lia,BL <| qs (j:=59) rfl (dt c) rfl (qt rfl (df f))⟩
 ·exact ⟨q,r,rfl,by lia,k,BL <| qt (j:=59) rfl (df c)⟩
theorem Ku (m N a k b d n:Nat) (s:N<=16000) (r:yu m N) (o:0 < n) (f:n<=N) (c1:2 ^ (n - 1)<=b) (c2:b < 2 ^ n) (c3:d < 2 ^ n) (c5:a < b*2 ^ n+d) (i:Option V) :
  ∃q0 r0:Nat,a=q0*b+r0/\q0 < 2 ^ n/\(r0 < b\/q0=2 ^ n - 1)/\(ev (dA m) 60).S [] HR ⟨[some (.int a),some (.int k),i,some (.int b),some (.int d),some (.int n),none,none],[]⟩ =
   some (.next,⟨[some (.int a),some (.int k),i,some (.int b),some (.int d),some (.int n),some (.int q0),some (.int r0)],[]⟩):=by
 have c:n<=50000:=by lia
 by_cases h:a / 2 ^ n=b
 ·have e:b*2 ^ n<=a:=h▸Nat.div_mul_le_self _ _
  have g:1<=2 ^ n:=Nat.one_le_two_pow
  refine ⟨2 ^ n - 1,a - b*2 ^ n+b,?_,Nat.sub_lt (Nat.two_pow_pos _) (by decide),.inr rfl,?_⟩
  ·rw[Nat.sub_mul,Nat.one_mul,Nat.mul_comm (2 ^ n) b]
   have:b<=b*2 ^ n:=Nat.le_mul_of_pos_right _ g
   generalize b*2 ^ n=y at *
   clear h c1 c2 c3 c5
   lia
  ·refine ib (dW (dB rfl rfl (n_ a n)) rfl (dt (congrArg _ h))) rfl (gq (dM (fE (dD (dB (dB rfl rfl (Eb n c)) rfl (vi ?_)) (dH (dB (dB rfl (dB rfl rfl (oe b n n c2 c c)) rfl) rfl (vi ?_))))) rfl))
   ·exact (Int.ofNat_sub g).symm
   ·rw[<- Int.ofNat_sub e];rfl
 ·have e:a / 2 ^ n < b:=by
   have:a / 2 ^ n < b+1:=by rw[Nat.div_lt_iff_lt_mul (Nat.two_pow_pos _),Nat.add_mul,Nat.one_mul];exact Nat.lt_trans c5 (Nat.add_lt_add_left c3 _)
   exact Nat.lt_of_le_of_ne (Nat.le_of_lt_succ this) h
  have p:a < b*2 ^ n:=by rwa [Nat.div_lt_iff_lt_mul (Nat.two_pow_pos _)] at e
  have l:0 < b:=Nat.lt_of_le_of_lt (Nat.zero_le _) e
  refine ⟨a / b,a % b,by rw[Nat.mul_comm];exact (Nat.div_add_mod _ _).symm,by rwa [Nat.div_lt_iff_lt_mul l,Nat.mul_comm],.inl (Nat.mod_lt _ l),?_⟩
  exact ic (dW (dB rfl rfl (n_ a n)) rfl (df λq=>h (Int.ofNat.inj q))) rfl (gq (dM (call_top (j:=56) rfl (r a b n [] o f c1 c2 p)) rfl))
section
variable {n q0 r0 a3 b1 b2 iQ:Nat}
theorem Vw (b:iQ=q0*b1+r0) (d3:r0 < b1\/q0=2 ^ n - 1) (c4:a3 < 2 ^ n) (c5:iQ < b1*2 ^ n+b2) (c:((iQ*2 ^ n+a3:Nat):Int)=(q0:Int)*((b1*2 ^ n+b2:Nat):Int)+(((r0*2 ^ n+a3:Nat):Int) - (q0*b2:Nat))):(((r0*2 ^ n+a3:Nat):Int) - (q0*b2:Nat)) < ((b1*2 ^ n+b2:Nat):Int):=by
 rcases d3 with d3 | d3
 ·have a:(r0+1)*2 ^ n<=b1*2 ^ n:=Nat.mul_le_mul_right _ d3
  rw[Nat.add_mul,Nat.one_mul] at a
  generalize q0*b2=x,b1*2 ^ n=y,r0*2 ^ n=z at *
  clear c b c5
  lia
 ·have a:(iQ+1)*2 ^ n<=(b1*2 ^ n+b2)*2 ^ n:=Nat.mul_le_mul_right _ c5
  rw[Nat.add_mul,Nat.one_mul] at a
  have e:1<=2 ^ n:=Nat.one_le_two_pow
  have d:(q0:Int)*((b1*2 ^ n+b2:Nat):Int)=((b1*2 ^ n+b2)*2 ^ n:Nat) - ((b1*2 ^ n+b2:Nat):Int):=by
   rw[d3,Int.ofNat_sub e,Int.sub_mul,Int.natCast_mul (b1*2 ^ n+b2),Int.mul_comm];exact congrArg _ (Int.one_mul _)
  rw[d] at c
  generalize (b1*2 ^ n+b2)*2 ^ n=x,b1*2 ^ n+b2=y,iQ*2 ^ n=u,(((r0*2 ^ n+a3:Nat):Int) - (q0*b2:Nat))=z at *
  clear b d3 c5 d
  lia
theorem RK (c1:2 ^ (n - 1)<=b1) (c:0 < n) (b:q0 < 2 ^ n) (c3:b2 < 2 ^ n):-2*((b1*2 ^ n+b2:Nat):Int)<=(((r0*2 ^ n+a3:Nat):Int) - (q0*b2:Nat)):=by
 have a:2 ^ n=2*2 ^ (n - 1):=by
  rw[<- Nat.pow_succ'];exact congrArg _ (Nat.sub_add_cancel c).symm
 have e:q0*b2<=2 ^ n*2 ^ n:=Nat.mul_le_mul (Nat.le_of_lt b) (Nat.le_of_lt c3)
 have d:2 ^ n*2 ^ n<=2*(b1*2 ^ n):=by
  rw[<- Nat.mul_assoc]
  exact Nat.mul_le_mul_right _ (a▸Nat.mul_le_mul_left 2 c1)
 generalize q0*b2=x,2 ^ n*2 ^ n=y,b1*2 ^ n=u,r0*2 ^ n=z at *
 clear a b c3 c1
 lia
theorem Ii (c2:b1 < 2 ^ n) (c3:b2 < 2 ^ n) (c5:iQ < b1*2 ^ n+b2) (b:iQ=q0*b1+r0):r0 < 2 ^ (n+n+1):=by
 have c:b1*2 ^ n+b2<=2 ^ n*2 ^ n+2 ^ n:=Nat.add_le_add (Nat.mul_le_mul_right _ (Nat.le_of_lt c2)) (Nat.le_of_lt c3)
 have a:2 ^ n<=2 ^ n*2 ^ n:=Nat.le_mul_of_pos_right _ (Nat.two_pow_pos _)
 rw[Nat.pow_succ,Nat.pow_add]
 generalize q0*b1=x,2 ^ n*2 ^ n=y,b1*2 ^ n=u at *
 clear c2 c3
 lia
end
theorem Xb (m N:Nat) (hN:N<=16000) (h2:yu m N):Pc (m+1) N:=λiQ a3 b1 b2 n hp hn Zc c1 c2 c3 c4 c5=>by
 refine eg m (t:=LQ) (k:=6) rfl rfl rfl rfl (as':=[.int iQ,.int a3,.int (b1*2 ^ n+b2:Nat),.int b1,.int b2,.int n]) rfl (hp':=[]) (v:=.tup [.int ((iQ*2 ^ n+a3) / (b1*2 ^ n+b2):Nat),.int ((iQ*2 ^ n+a3) % (b1*2 ^ n+b2):Nat)]) ?_ rfl
 obtain ⟨q0,r0,d1,d2,d3,d4⟩:=Ku m N iQ a3 b1 b2 n hN h2 hn Zc c1 c2 c3 c5 (some (.int (b1*2 ^ n+b2:Nat)))
 have hb:0 < b1*2 ^ n+b2:=Nat.lt_of_le_of_lt (Nat.zero_le _) c5
 have Ds:n<=50000:=by lia
 have hA:((iQ*2 ^ n+a3:Nat):Int)=(q0:Int)*((b1*2 ^ n+b2:Nat):Int)+(((r0*2 ^ n+a3:Nat):Int) - (q0*b2:Nat)):=by
  rw[d1];push_cast;clear d4 d3 h2;grind
 obtain ⟨q',r',f1,f2,f3,f4⟩:=MW (dA m) (some (.int iQ)) (some (.int a3)) (some (.int b1)) (some (.int b2)) (some (.int n)) q0 (((r0*2 ^ n+a3:Nat):Int) - (q0*b2:Nat)) (b1*2 ^ n+b2) (Vw d1 d3 c4 c5 hA) (RK c1 hn d2 c3)
 have g1:r'+((b1*2 ^ n+b2:Nat):Int)*q'=((iQ*2 ^ n+a3:Nat):Int):=by rw[hA,<-f1,Int.mul_comm,Int.add_comm]
 have g2:=(Int.ediv_emod_unique (a:=((iQ*2 ^ n+a3:Nat):Int)) (b:=((b1*2 ^ n+b2:Nat):Int)) (r:=r') (q:=q') (Int.ofNat_lt.mpr hb)).mpr ⟨g1,f2,f3⟩
 obtain rfl:=g2.1
 obtain rfl:=g2.2
 show gL (dX (ev (dA m) 60) [] Lo ⟨[some (.int iQ),some (.int a3),some (.int (b1*2 ^ n+b2:Nat)),some (.int b1),some (.int b2),some (.int n),none,none],[]⟩)=_
 refine dG d4 (dG (dM (dB (dB (dB rfl rfl (oe r0 n _ (Ii c2 c3 c5 d1) (by lia) Ds)) rfl ((OV _ _).trans (vi (CZ r0 a3 n c4)))) (dB rfl rfl ((i4 q0 b2 n n d2 c3 Ds Ds).trans (vi (Int.natCast_mul ..).symm))) rfl) rfl) (dG f4 (fH (fD (fE (dD rfl (dH rfl)))))))
theorem Cb {X:Nat} (f:0 < b):(a / X / b)*X+(a / X % b*X+a % X) / b=a / b/\(a / X % b*X+a % X) % b=a % b:=by
 have e:a=b*(a / X / b*X)+(a / X % b*X+a % X):=by
  have g:=Nat.div_add_mod a X
  have d:=Nat.div_add_mod (a / X) b
  have c:X*(a / X)=b*(a / X / b*X)+a / X % b*X:=(congrArg (X*·) d.symm).trans (by rw[Nat.mul_add,Nat.mul_left_comm,Nat.mul_comm X (a / X / b),Nat.mul_comm X (a / X % b)])
  exact g.symm.trans ((congrArg (·+a % X) c).trans (Nat.add_assoc ..))
 constructor
 ·conv=>rhs;rw[e]
  rw[Nat.mul_add_div f]
 ·conv=>rhs;rw[e]
  rw[Nat.mul_add_mod]
section
variable {a b n p h A B:Nat}
theorem Sp (c1:2 ^ (n - 1)<=b) (f:0 < n) (d:b*2 ^ p=B) (g:n+p=2*h) (c:0 < h):2 ^ (h - 1)*2 ^ h<=B:=by
 have:2 ^ (n - 1)*2 ^ p<=B:=d▸Nat.mul_le_mul_right _ c1
 rw[<- Nat.pow_add] at this ⊢
 cases n with
 | zero=>exact absurd f (Nat.lt_irrefl 0)
 | succ n=>cases h with
  | zero=>exact absurd c (Nat.lt_irrefl 0)
  | succ h=>
   have e:h+(h+1)=n+p:=Nat.succ.inj ((Nat.succ_add h (h+1)).symm.trans ((Nat.two_mul (h+1)).symm.trans (g.symm.trans (Nat.succ_add n p))))
   exact e▸this
theorem So (e:a*2 ^ p=A) (c:b*2 ^ p=B) (d:2 ^ (n+p)=2 ^ h*2 ^ h) (c3:a < b*2 ^ n):A < B*2 ^ h*2 ^ h:=by
 have:a*2 ^ p < b*2 ^ n*2 ^ p:=Nat.mul_lt_mul_of_pos_right c3 (Nat.two_pow_pos _)
 rw[e,Nat.mul_right_comm,c] at this
 refine Nat.lt_of_lt_of_le this ?_
 rw[Nat.mul_assoc,<-d]
 exact Nat.mul_le_mul_left _ (Nat.pow_le_pow_right (by decide) (Nat.le_add_right _ _))
theorem Sn (d:0 < B):(A / 2 ^ h % B*2 ^ h+A % 2 ^ h) / B < 2 ^ h:=by
 rw[Nat.div_lt_iff_lt_mul d]
 have c:=Nat.mul_le_mul_right (2 ^ h) (Nat.succ_le_of_lt (Nat.mod_lt (A / 2 ^ h) d))
 rw[Nat.succ_mul,Nat.mul_comm B] at c
 exact Nat.lt_of_lt_of_le (Nat.add_lt_add_left (Nat.mod_lt _ (Nat.two_pow_pos _)) _) c
theorem Ws (n):n % 2=0\/n % 2=1:=by lia
theorem Rx (c:n % 2=p):∃h,n+p=2*h:=⟨n / 2+p,(congrArg (·+p) (c▸(Nat.div_add_mod n 2).symm:n=2*(n / 2)+p)).trans (by rw[Nat.mul_add,Nat.two_mul p,Nat.add_assoc])⟩
variable {m:Nat}{orc:er}{l0 l1 l2 l4 l5 l6 l7 l8 zx:Option V}
theorem Lq (c:p=0\/p=1) (d:a < 2 ^ (n+n)) (c2:b < 2 ^ n) (e:n<=16000):(ev orc 60).S [] HU ⟨[some (.int a),some (.int b),some (.int n),some (.int p),none,none,none,none,none,none,none],[]⟩ =
   some (.next,⟨[some (.int (a*2 ^ p:Nat)),some (.int (b*2 ^ p:Nat)),some (.int (n+p:Nat)),some (.int p),none,none,none,none,none,none,none],[]⟩):=by
 rcases c with rfl | rfl
 ·rw[Nat.pow_zero,Nat.mul_one,Nat.mul_one];exact ic rfl rfl rfl
 ·exact ib rfl rfl (eP (oh rfl rfl (DA a _ d (by lia)) rfl) (eP (oh rfl rfl (DA b n c2 (by lia)) rfl) (gq (oh rfl rfl rfl rfl))))
theorem Lp (c:p=0\/p=1) (r):(ev orc 60).S [] HT ⟨[l0,l1,l2,some (.int p),l4,l5,l6,l7,l8,some (.int (r*2 ^ p:Nat)),zx],[]⟩=some (.next,⟨[l0,l1,l2,some (.int p),l4,l5,l6,l7,l8,some (.int r),zx],[]⟩):=by
 rcases c with rfl | rfl
 ·rw[Nat.pow_zero,Nat.mul_one];exact ic rfl rfl rfl
 ·refine ib rfl rfl (gq (oh rfl rfl (N0 _) ?_))
  rw[Nat.mul_div_cancel _ (show 0 < 2 ^ 1 by decide)];rfl
theorem XA (c:¬(B:Int) - n<=4000) (d:B<=n+n):4000 < n:=by lia
theorem Xz (N) (l:N<=16000) (c:n<=N) (i:0 < n) (k:¬(aa (a:Int):Int) - n<=4000) (j:aa (a:Int)<=n+n) (d:n+p=2*h) (hp:p=0\/p=1):4000 < N/\h<=(N+1) / 2/\0 < h/\n+p<=50000/\h<=50000:=
 have g:p<=1:=hp.elim (λe=>e▸Nat.zero_le 1) λe=>Nat.le_of_eq e
 have f:n+p<=50000:=Nat.le_trans (Nat.add_le_add (Nat.le_trans c l) g) (by decide)
 ⟨Nat.lt_of_lt_of_le (XA k j) c,(Nat.le_div_iff_mul_le (by decide)).mpr (by rw[Nat.mul_comm,<-d];exact Nat.add_le_add c g),Nat.pos_of_ne_zero λe=>by rw[e] at d;exact absurd (Nat.eq_zero_of_add_eq_zero_right d) (Nat.ne_of_gt i),f,
  Nat.le_trans (d▸Nat.le_mul_of_pos_left h (by decide)) f⟩
end
theorem uu (m N) (hN:N<=16000) (h3:4000 < N->Pc m ((N+1) / 2)):yu (m+1) N:=λa b n hp Q r z q Y=>by
 refine eg m (t:=LR) (k:=3) rfl rfl rfl rfl (as':=[.int a,.int b,.int n]) rfl (hp':=[]) (v:=.tup [.int (a / b:Nat),.int (a % b:Nat)]) ?_ rfl
 show gL (dX (ev (dA m) 60) [] Lr ⟨[some (.int a),some (.int b),some (.int n),none,none,none,none,none,none,none,none],[]⟩)=_
 have hb:0 < b:=Nat.lt_of_lt_of_le (Nat.two_pow_pos _) z
 have e:=KV z q Q
 have T:a < 2 ^ (n+n):=by
  rw[Nat.pow_add]
  exact Nat.lt_trans Y (Nat.mul_lt_mul_of_pos_right q (Nat.two_pow_pos _))
 by_cases I:(aa (a:Int):Int) - n<=4000
 ·have J:=jW (a:=a) (b:=b) (by rw[e];clear h3 e z q Y T;lia)
  exact fH (ib (dW rfl rfl (dt I)) rfl (fU (fD (fJ rfl (Hb a b hb J)))))
 have g:=Ws n
 generalize y:n % 2=p at g
 obtain ⟨h,E⟩:=Rx y
 obtain ⟨b1,s,j,hnp,i⟩:=Xz N hN r Q I (bits_le.mpr T) E g
 have D3:=h3 b1
 refine dG (jU (dW rfl rfl (df I))) (dG (dM (dB rfl rfl ((Jn _ _).trans (vi ((Lc n).trans (congrArg _ y))))) rfl) (dG (Lq g T q (Nat.le_trans r hN)) ?_))
 generalize M:a*2 ^ p=A
 generalize o:b*2 ^ p=B
 have d:0 < B:=o▸Nat.mul_pos hb (Nat.two_pow_pos _)
 have D:2 ^ (n+p)=2 ^ h*2 ^ h:=by rw[E,<-Nat.pow_add,Nat.two_mul]
 have G:B < 2 ^ h*2 ^ h:=by rw[<- o,<-D,Nat.pow_add];exact Nat.mul_lt_mul_of_pos_right q (Nat.two_pow_pos _)
 have H:=So M o D Y
 have f:B / 2 ^ h*2 ^ h+B % 2 ^ h=B:=Nat.mul_comm (2 ^ h) _▸Nat.div_add_mod _ _
 have c:0 < 2 ^ h:=Nat.two_pow_pos _
 have k1:2 ^ (h - 1)<=B / 2 ^ h:=(Nat.le_div_iff_mul_le c).mpr (Sp z Q o E j)
 have k2:B / 2 ^ h < 2 ^ h:=(Nat.div_lt_iff_lt_mul c).mpr G
 have k3:B % 2 ^ h < 2 ^ h:=Nat.mod_lt _ c
 have k4:A / 2 ^ (n+p) < B:=by rwa [D,Nat.div_lt_iff_lt_mul (Nat.mul_pos c c),<-Nat.mul_assoc]
 have d1:=D3 (A / 2 ^ (n+p)) (A / 2 ^ h % 2 ^ h) (B / 2 ^ h) (B % 2 ^ h) h [] j s k1 k2 k3 (Nat.mod_lt _ c) (by rw[f];exact k4)
 have eA:A / 2 ^ (n+p)*2 ^ h+A / 2 ^ h % 2 ^ h=A / 2 ^ h:=by
  rw[D,<-Nat.div_div_eq_div_mul,Nat.mul_comm];exact Nat.div_add_mod _ _
 rw[f,eA] at d1
 have d2:=D3 (A / 2 ^ h % B) (A % 2 ^ h) (B / 2 ^ h) (B % 2 ^ h) h [] j s k1 k2 k3 (Nat.mod_lt _ c) (by rw[f];exact Nat.mod_lt _ d)
 rw[f] at d2
 obtain ⟨e1,e2⟩:=Cb (a:=A) (b:=B) (X:=2 ^ h) d
 have U:A / 2 ^ h / B < 2 ^ h:=by
  rw[Nat.div_lt_iff_lt_mul d,Nat.div_lt_iff_lt_mul c,Nat.mul_comm (2 ^ h) B];exact H
 have u:A / B=a / b:=by rw[<- M,<-o,Nat.mul_div_mul_right _ _ (Nat.two_pow_pos _)]
 have w:A % B=a % b*2 ^ p:=by rw[<- M,<-o,Nat.mul_mod_mul_right]
 have l:(n+p) / 2=h:=by rw[E];exact Nat.mul_div_cancel_left _ (by decide)
 have ho:=CZ (A / 2 ^ h / B) ((A / 2 ^ h % B*2 ^ h+A % 2 ^ h) / B) h (Sn d)
 rw[e1,u] at ho
 have L:∀x:Nat,eF [] .BitAnd (.int x) (.int ((2 ^ h - 1:Nat):Int))=some (.int ((x % 2 ^ h:Nat):Int)):=λx=>(Jn _ _).trans (vi (ym x h))
 refine dG (dM (dB rfl rfl ((x_ _).trans (vi (congrArg _ l)))) rfl) (dG (dM (dB (dB rfl rfl (Eb h i)) rfl ((gH _ _).trans (vi (Int.ofNat_sub c).symm))) rfl)
  (dG (dM (fE (dD (dB rfl rfl (n_ B h)) (dH (dB rfl rfl (L B))))) rfl)
  (dG (dM (call_top (dD (dB rfl rfl (n_ A (n+p))) (dD (dB (dB rfl rfl (n_ A h)) rfl (L _)) rfl)) d1) rfl) (dG (dM (call_top (dD rfl (dD (dB rfl rfl (L A)) rfl)) d2) rfl) ?_))))
 rw[e2,w]
 exact dG (Lp g _) (fH (fD (fE (dD (dB (dB rfl rfl (oe (A / 2 ^ h / B) h h U i i)) rfl ((OV _ _).trans (vi ho))) (dH rfl)))))
theorem xC:∀(j N m:Nat),N<=4000*2 ^ j->N<=16000->2*j+1<=m->yu m N
 | 0,N,m+1,d,c,_=>uu m N c (λh=>by lia)
 | j+1,N,m+2,d,c,e=>uu (m+1) N c λh=>by
  have:(2:Nat) ^ (j+1)=2*2 ^ j:=Nat.pow_succ'
  exact Xb m _ (by lia) (xC j _ m (by lia) (by lia) (by lia))
theorem KL (m) (h:5<=m):yu m 16000:=xC 2 16000 m (by decide) (by decide) (by lia)
noncomputable def eR (n:Nat):Nat->Nat->List Nat
 | _,0=>[]
 | x,w+1=>x % 2 ^ n::eR n (x / 2 ^ n) w
noncomputable def valN (n:Nat):List Nat->Nat
 | []=>0
 | d::l=>d+2 ^ n*valN n l
theorem n1 (n):∀(w x:Nat),(eR n x w).length=w
 | 0,_=>rfl
 | w+1,x=>congrArg (·+1) (n1 n w _)
theorem zU (n):∀(w x:Nat),∀d∈eR n x w,d < 2 ^ n
 | 0,_,_,h=>nomatch h
 | w+1,x,d,h=>by
  rcases List.mem_cons.mp h with rfl | h
  ·exact Nat.mod_lt _ (Nat.two_pow_pos _)
  ·exact zU n w _ d h
theorem xE (n):∀(u w x:Nat),eR n x (u+w)=eR n x u++eR n (x / 2 ^ (n*u)) w
 | 0,w,x=>by simp[eR]
 | u+1,w,x=>by
  rw[show u+1+w=(u+w)+1 by lia,eR,eR,xE n u w,List.cons_append]
  congr 2
  rw[Nat.div_div_eq_div_mul,<-Nat.pow_add,Nat.mul_succ,Nat.add_comm]
theorem xD (n):∀(u x:Nat),eR n (x % 2 ^ (n*u)) u=eR n x u
 | 0,x=>rfl
 | u+1,x=>by
  have e:2 ^ (n*(u+1))=2 ^ n*2 ^ (n*u):=by rw[<- Nat.pow_add,Nat.mul_succ,Nat.add_comm]
  rw[eR,eR,e,Nat.mod_mul_right_mod,Nat.mod_mul_right_div_self,xD n u]
theorem y_ (n):∀(w x:Nat),x < 2 ^ (n*w)->valN n (eR n x w)=x
 | 0,x,h=>by simp at h;subst h;rfl
 | w+1,x,h=>by
  rw[eR,valN,y_ n w]
  ·exact Nat.mod_add_div _ _
  ·rw[Nat.div_lt_iff_lt_mul (Nat.two_pow_pos _),<-Nat.pow_add];exact h
theorem mY (n):∀(l r:List Nat),valN n (l++r)=valN n l+2 ^ (n*l.length)*valN n r
 | [],r=>by simp[valN]
 | d::l,r=>by
  rw[List.cons_append,valN,valN,mY n l r,List.length_cons,Nat.mul_succ,Nat.pow_add,Nat.mul_add]
  rw[<- Nat.mul_assoc,Nat.mul_comm (2 ^ n) (2 ^ (n*l.length))];lia
theorem q7 (n):∀(l:List Nat),(∀d∈l,d < 2 ^ n)->valN n l < 2 ^ (n*l.length)
 | [],_=>by simp[valN]
 | d::l,h=>by
  have e:=h d (.head _)
  have c:=q7 n l λx a=>h x (.tail _ a)
  rw[valN,List.length_cons,Nat.mul_succ,Nat.pow_add,Nat.mul_comm _ (2 ^ n)]
  have b:2 ^ n*(valN n l+1)<=2 ^ n*2 ^ (n*l.length):=Nat.mul_le_mul_left _ c
  rw[Nat.mul_add,Nat.mul_one] at b
  lia
def L8:Scope:=⟨.function,[("x",.local),("L",.local),("R",.local),("mid",.local),("shift",.local),("upper",.local),("lower",.local),("a_digits",.free),("inner",.free),("n",.free)],false,false,kU.scope.more⟩
def Nd:K:=⟨L8,["x","L","R","mid","shift","upper","lower"],["a_digits","inner","n"],"_int2digits.<locals>.inner.<locals>.",none⟩
noncomputable def Hx:XS:=(.dT (.cmp (.bin .Add (.loc 1) (.k (.int 1))) [.Eq] [(.loc 2)]) [(.ji (.cell 0) (.loc 1) (.loc 0)),(.ret (.k .none))] [])
noncomputable def Hw:XS:=(.asg (.loc 3) (.bin .RShift (.bin .Add (.loc 1) (.loc 2)) (.k (.int 1))))
noncomputable def Hv:XS:=(.asg (.loc 4) (.bin .Mult (.bin .Sub (.loc 3) (.loc 1)) (.cell 2)))
noncomputable def Hu:XS:=(.asg (.loc 5) (.bin .RShift (.loc 0) (.loc 4)))
noncomputable def Ht:XS:=(.asg (.loc 6) (.bin .BitXor (.loc 0) (.bin .LShift (.loc 5) (.loc 4))))
noncomputable def Hs:XS:=(.expr (.call (.cell 1) [(.loc 6),(.loc 1),(.loc 3)] [] []))
noncomputable def Hr:XS:=(.expr (.call (.cell 1) [(.loc 5),(.loc 3),(.loc 2)] [] []))
def xg:Fn:=⟨Nd,["x","L","R"],[(.loc 0),(.loc 1),(.loc 2)],.inl [Hx,Hw,Hv,Hu,Ht,Hs,Hr]⟩
theorem D4:nh g0 [] kU=some xg:=by kernel_rfl
noncomputable def DY:List (Str×Nat):=[("n",0),("inner",2),("a_digits",1)]
def wY (n:Nat) (l:List V):List O:=[.cell (some (.int n)),.cell (some (.ref 3)),.cell (some (.ref 4)),.list l,.fn kU DY none]
theorem Ma (orc) (vs) (hp):fz orc xg DY vs hp=match Vm.bindAll [1,2,0] [.loc 0,.loc 1,.loc 2] vs ⟨[none,none,none,none,none,none,none],hp++[]⟩ with
 | some st=>gX orc [1,2,0] [Hx,Hw,Hv,Hu,Ht,Hs,Hr] st
 | none=>none:=by
 have a:iz DY xg.κ.scope.names hp.length=some [1,2,0]:=by kernel_rfl
 unfold fz
 rw[a]
 rfl
theorem Ea (n m x L:Nat) (l:List V) (a:L+1<=l.length) (c:l.length<=65536) (b:x < 2 ^ n) :
  (dA (m+1)).mx kU DY [.int x,.int L,.int (L+1:Nat)] (wY n l)=some (.none,wY n (l.take L++(nats (eR n x 1)++l.drop (L+1)))):=by
 have d:l.set L (V.int x)=l.take L++(nats (eR n x 1)++l.drop (L+1)):=by
  rw[List.set_eq_take_append_cons_drop,if_pos (show L < l.length from a),eR,Nat.mod_eq_of_lt b];rfl
 rw[ni m D4 rfl,Ma,<-d]
 exact fH (ib (dW (dB rfl rfl (fR _ _)) rfl (dt rfl)) rfl (et (yo rfl rfl rfl (JY rfl a c)) (fU (fD rfl))))
theorem tE {R:Nat} (a:L<=M) (b:M<=R):R - L=(M - L)+(R - M):=by
 obtain ⟨i,rfl⟩:=Nat.exists_eq_add_of_le a
 obtain ⟨j,rfl⟩:=Nat.exists_eq_add_of_le b
 rw[Nat.add_assoc,Nat.add_sub_cancel_left,Nat.add_sub_cancel_left,<-Nat.add_assoc,Nat.add_sub_cancel_left]
theorem w3 (L D):(L+(L+D)) / 2=L+D / 2:=by rw[<- Nat.add_assoc,<-Nat.two_mul,Nat.mul_add_div (by decide)]
theorem Iz {R:Nat} (h:L < R) (c:¬R=L+1) (a:(L+R) / 2=M):L < M/\M < R/\R - L=(M - L)+(R - M):=by
 obtain ⟨D,rfl⟩:=Nat.exists_eq_add_of_le (Nat.le_of_lt h)
 have b:2<=D:=Nat.lt_of_le_of_ne (Nat.lt_of_add_lt_add_left h) λe=>c (e▸rfl)
 rw[w3] at a
 subst a
 rw[Nat.add_sub_cancel_left,Nat.add_sub_cancel_left,Nat.add_sub_add_left]
 exact ⟨Nat.lt_add_of_pos_right (Nat.div_pos b (by decide)),Nat.add_lt_add_left (Nat.div_lt_self (Nat.lt_of_lt_of_le (by decide) b) (by decide)) _,(Nat.add_sub_cancel' (Nat.div_le_self ..)).symm⟩
theorem Kp {K:Nat} (h:D < 2*(q+1)) (k:D<=2*K):D<=K+q:=
 (Nat.lt_or_ge q K).elim (λz=>Nat.le_trans (Nat.le_of_lt_succ (h:D < (2*q+1)+1)) (by show 2*q+1<=K+q;rw[Nat.two_mul,Nat.add_right_comm];exact Nat.add_le_add_right z q)) λz=>Nat.le_trans k (by rw[Nat.two_mul];exact Nat.add_le_add_left z K)
theorem C_ {R:Nat} (h:L < R) (a:R - L<=2*2 ^ k) (b:(L+R) / 2=M):M - L<=2 ^ k/\R - M<=2 ^ k:=by
 obtain ⟨D,rfl⟩:=Nat.exists_eq_add_of_le (Nat.le_of_lt h)
 rw[w3] at b
 subst b
 rw[Nat.add_sub_cancel_left] at a
 rw[Nat.add_sub_cancel_left,Nat.add_sub_add_left]
 exact ⟨Nat.div_le_of_le_mul a,Nat.sub_le_of_le_add (Kp (Nat.lt_mul_div_succ D (by decide)) a)⟩
theorem u5 (h:x<=65536):((x:Nat):Int).natAbs < 2 ^ 17:=Nat.lt_of_le_of_lt h (by decide)
theorem Sy (n x L M R) (l:List V) (b:L < M) (a:M < R) (d:R<=l.length) (f:R - L=(M - L)+(R - M)):(l.take L++(nats (eR n x (M - L))++l.drop M)).take M++(nats (eR n (x / 2 ^ (n*(M - L))) (R - M))++(l.take L++(nats (eR n x (M - L))++l.drop M)).drop R)=l.take L++(nats (eR n x (R - L))++l.drop R):=by
 have c:(l.take L++nats (eR n x (M - L))).length=M:=by
  rw[List.length_append,List.length_take,g6,n1,Nat.min_eq_left (Nat.le_trans (Nat.le_of_lt (Nat.lt_trans b a)) d),Nat.add_sub_cancel' (Nat.le_of_lt b)]
 have e:l.take L++(nats (eR n x (M - L))++l.drop M)=(l.take L++nats (eR n x (M - L)))++l.drop M:=(List.append_assoc ..).symm
 rw[e,List.take_left' c,List.drop_append,c,List.drop_of_length_le (c.symm▸Nat.le_of_lt a),List.nil_append,List.drop_drop,f,xE,nJ,List.append_assoc,List.append_assoc,Nat.add_sub_cancel' (Nat.le_of_lt a)]
theorem Kn (n:Nat) (I:0 < n):∀(k m:Nat) (x L R:Nat) (l:List V),k+1<=m->L < R->R - L<=2 ^ k->R<=l.length->l.length<=65536->n*(R - L)<=50000->x < 2 ^ (n*(R - L))->
  (dA m).mx kU DY [.int x,.int L,.int R] (wY n l)=some (.none,wY n (l.take L++(nats (eR n x (R - L))++l.drop R))):=by
 intro k
 induction k with
 | zero=>
  intro m x L R l o c u a h v g
  obtain ⟨m,rfl⟩:=Nat.exists_eq_add_of_le' (Nat.le_trans (Nat.le_add_left 1 _) o)
  obtain rfl:R=L+1:=Nat.le_antisymm (Nat.sub_le_iff_le_add'.mp u) c
  rw[Nat.add_sub_cancel_left] at g ⊢
  exact Ea n m x L l a h (by rwa [Nat.mul_one] at g)
 | succ k H=>
  intro m x L R l o c u a h v g
  obtain ⟨m,rfl⟩:=Nat.exists_eq_add_of_le' (Nat.le_trans (Nat.le_add_left 1 _) o)
  by_cases w:R=L+1
  ·subst w
   rw[Nat.add_sub_cancel_left] at g ⊢
   exact Ea n m x L l a h (by rwa [Nat.mul_one] at g)
  obtain ⟨M,z⟩:∃M,(L+R) / 2=M:=⟨_,rfl⟩
  obtain ⟨e,d,b⟩:=Iz c w z
  rw[Nat.pow_succ'] at u
  obtain ⟨y,A⟩:=C_ c u z
  have r:2 ^ (n*(R - L))=2 ^ (n*(M - L))*2 ^ (n*(R - M)):=by rw[<- Nat.pow_add,<-Nat.mul_add,b]
  have s:x / 2 ^ (n*(M - L)) < 2 ^ (n*(R - M)):=by
   rw[Nat.div_lt_iff_lt_mul (Nat.two_pow_pos _),Nat.mul_comm,<-r];exact g
  have j:n*(R - L)=n*(M - L)+n*(R - M):=by rw[<- Nat.mul_add,b]
  have i:n*(M - L)<=50000:=Nat.le_trans (j▸Nat.le_add_right _ _) v
  have t:n*(R - M)<=50000:=Nat.le_trans (j▸Nat.le_add_left _ _) v
  have E:=H m (x % 2 ^ (n*(M - L))) L M l (Nat.le_of_succ_le_succ o) e y (Nat.le_trans (Nat.le_of_lt d) a) h i (Nat.mod_lt _ (Nat.two_pow_pos _))
  have f:(l.take L++(nats (eR n x (M - L))++l.drop M)).length=l.length:=by
   rw[List.length_append,List.length_append,List.length_take,g6,n1,List.length_drop,Nat.min_eq_left (Nat.le_trans (Nat.le_of_lt c) a),<-tE (Nat.le_of_lt e) (Nat.le_trans (Nat.le_of_lt d) a),Nat.add_sub_cancel' (Nat.le_trans (Nat.le_of_lt c) a)]
  rw[xD] at E
  have D:=H m (x / 2 ^ (n*(M - L))) M R (l.take L++(nats (eR n x (M - L))++l.drop M)) (Nat.le_of_succ_le_succ o) d A (f.symm▸a) (f.symm▸h) t s
  rw[Sy n x L M R l e d a b] at D
  have B:n<=50000:=Nat.le_trans (Nat.le_mul_of_pos_right n (Nat.sub_pos_of_lt c)) v
  have p:∀G,eF G .Mult (.int ((M - L:Nat):Int)) (.int n)=some (.int ((n*(M - L):Nat):Int)):=λG=>
   (i4 ((M - L:Nat):Int) (n:Int) 17 17 (u5 (Nat.le_trans (Nat.sub_le ..) (Nat.le_trans (Nat.le_of_lt d) (Nat.le_trans a h)))) (u5 (Nat.le_trans B (by decide))) (by decide) (by decide)).trans (vi (by rw[<- Int.natCast_mul,Nat.mul_comm]))
  rw[ni m D4 rfl,Ma]
  exact dG (jU (dW (dB rfl rfl (fR _ _)) rfl (df λq=>w (Int.ofNat.inj q).symm))) (dG (dM (dB (dB rfl rfl (fR _ _)) rfl ((x_ (L+R)).trans (vi (congrArg _ z)))) rfl)
   (dG (dM (dB (dB rfl rfl ((gH _ _).trans (vi (Int.ofNat_sub (Nat.le_of_lt e)).symm))) rfl (p _)) rfl) (dG (dM (dB rfl rfl (n_ x (n*(M - L)))) rfl)
   (dG (dM (dB rfl (dB rfl rfl (oe _ (n*(M - L)) _ s t i)) ((Tx _ _).trans (vi (BQ x (n*(M - L)))))) rfl) (dG (gz (iA rfl rfl rfl E)) (dG (gz (iA rfl rfl rfl D)) W_))))))
noncomputable abbrev nd (a n:Nat):Nat:=(aa (a:Int)+n - 1) / n
theorem It (d:0 < n):a < 2 ^ (n*nd a n)/\n*nd a n<=aa (a:Int)+n - 1:=by
 have c:=Nat.div_add_mod (aa (a:Int)+n - 1) n
 have e:=Nat.mod_lt (aa (a:Int)+n - 1) d
 refine ⟨bits_le.mp ?_,c▸Nat.le_add_right _ _⟩
 cases n with
 | zero=>exact absurd d (Nat.lt_irrefl 0)
 | succ n=>exact Nat.le_of_add_le_add_right (b:=n) (Nat.le_trans (Nat.le_of_eq c.symm) (Nat.add_le_add_left (Nat.le_of_lt_succ e) _))
theorem RG (a:0 < n) (b:n<=16000) (h:x<=30000):(x+n - 1) / n<=30000:=by
 apply Nat.le_of_lt_succ
 rw[Nat.div_lt_iff_lt_mul a]
 have:30000*1<=30000*n:=Nat.mul_le_mul_left _ a
 exact Nat.lt_of_lt_of_le (Nat.sub_lt (Nat.lt_of_lt_of_le a (Nat.le_add_left n x)) (by decide)) (Nat.succ_mul 30000 n▸Nat.add_le_add_right (Nat.le_trans h this) n)
theorem MJ {x n:Nat}(a:0 < n):(x:Int)+(n:Int) - 1=((x+n - 1:Nat):Int):=
 ((Int.natCast_sub (Nat.le_trans a (Nat.le_add_left n x))).trans (congrArg (· - 1) (Int.natCast_add x n))).symm
theorem Uz (m a n:Nat) (hp:List O) (s:18<=m) (i:0 < n) (g:n<=16000) (w:aa (a:Int)<=30000) :
  (dA m).top 93 [.int a,.int n] [] [] hp=some (.lst (nats (eR n a (nd a n))),hp):=by
 obtain ⟨m,rfl⟩:∃x,m=x+1:=⟨m - 1,by lia⟩
 obtain ⟨d,j⟩:=It (a:=a) i
 have c:nd a n<=30000:=RG i g w
 have o:eE (wY n (nats (eR n a (nd a n)))) 9 (.ref 3)=some (.lst (nats (eR n a (nd a n)))):=by
  show (dI (eE _ 8) _).map V.lst=_
  rw[lC];rfl
 refine eg m (t:=LP) (k:=2) rfl rfl rfl rfl (as':=[.int a,.int n]) rfl (hp':=wY n (nats (eR n a (nd a n)))) (v:=.ref 3) ?_ o
 show gL (dX (ev (dA m) 60) [0,1,2] Ln ⟨[some (.int a)],[.cell (some (.int n)),.cell none,.cell none]⟩)=_
 have p:=λhp:List O=>lP (hp:=hp) (aa (a:Int)+n - 1) n i (jW (.inr (Nat.le_trans (bits_le.mpr (show n < 2 ^ 17 from Nat.lt_of_le_of_lt g (by decide))) (by decide))))
 have u:(0:Int)<=((nd a n:Nat):Int)/\((nd a n:Nat):Int) < 65536:=⟨Int.natCast_nonneg _,Int.ofNat_lt.mpr (Nat.lt_of_le_of_lt c (by decide))⟩
 refine dG (st1:=⟨[some (.int a)],[.cell (some (.int n)),.cell (some (.ref 3)),.cell none,.list (List.replicate (nd a n) (V.int 0))]⟩) (dM (oo (TP rfl (dB (dB (dB rfl rfl (fR _ _)) rfl ((gH _ _).trans (vi (MJ i)))) rfl (p _)) u)) rfl)
  (dG (st1:=⟨[some (.int a)],wY n (List.replicate (nd a n) (V.int 0))⟩) (Jv rfl rfl) ?_)
 have b:(List.replicate (nd a n) (V.int 0)).length=nd a n:=List.length_replicate ..
 by_cases l:a=0
 ·subst l
  have r:nd 0 n=0:=Nat.div_eq_of_lt (by show 0+n - 1 < n;lia)
  rw[r]
  exact dG (ic rfl rfl rfl) (fH (fD rfl))
 ·have r:(a:Int)≠0:=λq=>l (Int.ofNat.inj q)
  have f:0 < nd a n:=by
   rcases Nat.eq_zero_or_pos (nd a n) with h | h
   ·rw[h] at d;exact absurd (Nat.lt_one_iff.mp d) l
   ·exact h
  have e:=Kn n i 15 m a 0 (nd a n) (List.replicate (nd a n) (V.int 0)) (Nat.le_of_succ_le_succ (Nat.le_trans (by decide) s)) f (Nat.le_trans c (by decide)) (Nat.le_of_eq b.symm) (b.symm▸Nat.le_trans c (by decide)) (by rw[Nat.sub_zero];refine Nat.le_trans j ?_;lia) (by rw[Nat.sub_zero];exact d)
  rw[Nat.sub_zero,List.take_zero,List.nil_append,List.drop_of_length_le (Nat.le_of_eq b),List.append_nil] at e
  refine dG (ib rfl (dt r) (gq (gz (iA rfl (dD rfl (dD rfl (dH (fJ rfl ?_)))) rfl e)))) (fH (fD rfl))
  exact (AV rfl (b.symm▸Nat.le_trans c (by decide))).trans (vi (congrArg _ b))
def L7:Scope:=⟨.function,[("L",.local),("R",.local),("mid",.local),("shift",.local),("digits",.free),("inner",.free),("n",.free)],false,false,hV.scope.more⟩
def Nc:K:=⟨L7,["L","R","mid","shift"],["digits","inner","n"],"_digits2int.<locals>.inner.<locals>.",none⟩
noncomputable def Hq:XS:=(.dT (.cmp (.bin .Add (.loc 0) (.k (.int 1))) [.Eq] [(.loc 1)]) [(.ret (.sub (.cell 0) (.loc 0)))] [])
noncomputable def Hp:XS:=(.asg (.loc 2) (.bin .RShift (.bin .Add (.loc 0) (.loc 1)) (.k (.int 1))))
noncomputable def Ho:XS:=(.asg (.loc 3) (.bin .Mult (.bin .Sub (.loc 2) (.loc 0)) (.cell 2)))
noncomputable def Hn:XS:=(.ret (.bin .Add (.bin .LShift (.call (.cell 1) [(.loc 2),(.loc 1)] [] []) (.loc 3)) (.call (.cell 1) [(.loc 0),(.loc 2)] [] [])))
def xd:Fn:=⟨Nc,["L","R"],[(.loc 0),(.loc 1)],.inl [Hq,Hp,Ho,Hn]⟩
theorem D0:nh g0 [] hV=some xd:=by kernel_rfl
noncomputable def rY (b:Nat):List (Str×Nat):=[("n",b+1),("inner",b+2),("digits",b)]
theorem Mb (orc) (b) (vs) (hp):fz orc xd (rY b) vs hp=match Vm.bindAll [b,b+2,b+1] [.loc 0,.loc 1] vs ⟨[none,none,none,none],hp++[]⟩ with
 | some st=>gX orc [b,b+2,b+1] [Hq,Hp,Ho,Hn] st
 | none=>none:=by
 have a:iz (rY b) xd.κ.scope.names hp.length=some [b,b+2,b+1]:=by kernel_rfl
 unfold fz
 rw[a]
 rfl
theorem B8 (n) (a:List Nat){R:Nat} (b:L<=M) (c:M<=R) (d:R<=a.length):valN n ((a.drop L).take (R - L))=valN n ((a.drop L).take (M - L))+2 ^ (n*(M - L))*valN n ((a.drop M).take (R - M)):=by
 have e:(a.drop L).take (R - L)=(a.drop L).take (M - L)++(a.drop M).take (R - M):=by
  rw[tE b c,List.take_add,List.drop_drop,Nat.add_sub_cancel' b]
 rw[e,mY,List.length_take,List.length_drop,Nat.min_eq_left (Nat.sub_le_sub_right (Nat.le_trans c d) _)]
theorem JK (b:view hp dv=.lst (nats a)) (d:L < a.length) (c:a.length<=65536):fx hp dv (.int L)=some (.int (a[L]'hL:Nat)):=
 QM b (by rw[FI,List.getElem?_eq_getElem d];rfl) ((g6 a).symm▸c)
theorem Jl (n m L:Nat) (hp:List O) (b:Nat) (dv:V) (ds:List Nat) (IW:hp[b]?=some (.cell (some dv))) (hv:view hp dv=.lst (nats ds)) (hL:L+1<=ds.length) (hl:ds.length<=65536) :
  (dA (m+1)).mx hV (rY b) [.int L,.int (L+1:Nat)] hp=some (.int (valN n ((ds.drop L).take 1):Nat),hp):=by
 have e3:valN n ((ds.drop L).take 1)=ds[L]'hL:=by
  rw[List.drop_eq_getElem_cons hL];exact Nat.add_zero _
 rw[ni m D0 rfl,Mb,e3,List.append_nil]
 exact fH (ib (dW (dB rfl rfl (fR _ _)) rfl (dt rfl)) rfl (fU (fD (eI (d_ rfl IW) rfl (JK hv hL hl)))))
theorem Nk (n:Nat) (hn:0 < n) (hp:List O) (b:Nat) (dv:V) (ds:List Nat) (IW:hp[b]?=some (.cell (some dv))) (Zy:hp[b+1]?=some (.cell (some (.int n)))) (UN:hp[b+2]?=some (.cell (some (.ref (b+3))))) (UM:hp[b+3]?=some (.fn hV (rY b) none)) (hv:view hp dv=.lst (nats ds)) (hl:ds.length<=65536) (hd:∀d∈ds,d < 2 ^ n) (zF:n*ds.length<=50000):∀(k m:Nat) (L R:Nat),k+1<=m->L < R->R - L<=2 ^ k->R<=ds.length->
  (dA m).mx hV (rY b) [.int L,.int R] hp=some (.int (valN n ((ds.drop L).take (R - L)):Nat),hp):=by
 intro k
 induction k with
 | zero=>
  intro m L R hm Dw hk qf
  obtain ⟨m,rfl⟩:=Nat.exists_eq_add_of_le' (Nat.le_trans (Nat.le_add_left 1 _) hm)
  obtain rfl:R=L+1:=Nat.le_antisymm (Nat.sub_le_iff_le_add'.mp hk) Dw
  rw[Nat.add_sub_cancel_left]
  exact Jl n m L hp b dv ds IW hv qf hl
 | succ k ih=>
  intro m L R hm Dw hk qf
  obtain ⟨m,rfl⟩:=Nat.exists_eq_add_of_le' (Nat.le_trans (Nat.le_add_left 1 _) hm)
  by_cases hR:R=L+1
  ·subst hR
   rw[Nat.add_sub_cancel_left]
   exact Jl n m L hp b dv ds IW hv qf hl
  obtain ⟨M,hM⟩:∃M,(L+R) / 2=M:=⟨_,rfl⟩
  obtain ⟨NT,IX,Y3⟩:=Iz Dw hR hM
  rw[Nat.pow_succ'] at hk
  obtain ⟨NP,NO⟩:=C_ Dw hk hM
  have hm:=Nat.le_of_succ_le_succ hm
  have UR:=Nat.le_trans (Nat.le_of_lt IX) qf
  have i1:=ih m M R hm IX NO qf
  have i2:=ih m L M hm NT NP UR
  have Y1:=B8 n ds (Nat.le_of_lt NT) (Nat.le_of_lt IX) qf
  have Zd:n*(M - L)<=50000:=Nat.le_trans (Nat.mul_le_mul_left n (Nat.le_trans (Nat.sub_le _ _) UR)) zF
  have Zb:n*(R - M)<=50000:=Nat.le_trans (Nat.mul_le_mul_left n (Nat.le_trans (Nat.sub_le _ _) qf)) zF
  have Y2:valN n ((ds.drop M).take (R - M)) < 2 ^ (n*(R - M)):=by
   have:=q7 n ((ds.drop M).take (R - M)) λd hx=>hd d (List.mem_of_mem_drop (List.mem_of_mem_take hx))
   rwa [List.length_take,List.length_drop,Nat.min_eq_left (Nat.sub_le_sub_right qf _)] at this
  have Ds:n<=50000:=Nat.le_trans (Nat.le_mul_of_pos_right n (Nat.lt_of_lt_of_le (Nat.lt_of_le_of_lt (Nat.zero_le _) Dw) qf)) zF
  have hmul:∀hp,eF hp .Mult (.int ((M - L:Nat):Int)) (.int n)=some (.int ((n*(M - L):Nat):Int)):=λhp=>
   (i4 ((M - L:Nat):Int) (n:Int) 17 17 (u5 (Nat.le_trans (Nat.sub_le ..) (Nat.le_trans (Nat.le_of_lt IX) (Nat.le_trans qf hl)))) (u5 (Nat.le_trans Ds (by decide))) (by decide) (by decide)).trans (vi (by rw[<- Int.natCast_mul,Nat.mul_comm]))
  rw[ni m D0 rfl,Mb,List.append_nil]
  refine dG (jU (dW (dB rfl rfl (fR _ _)) rfl (df λq=>hR (Int.ofNat.inj q).symm))) (dG (dM (dB (dB rfl rfl (fR _ _)) rfl ((x_ (L+R)).trans (vi (congrArg _ hM)))) rfl)
   (dG (dM (dB (dB rfl rfl ((gH _ _).trans (vi (Int.ofNat_sub (Nat.le_of_lt NT)).symm))) (d_ rfl Zy) (hmul _)) rfl)
   (fH (fD (dB (dB (iA (d_ rfl UN) rfl UM i1) rfl (oe _ (n*(M - L)) _ Y2 Zb Zd)) (iA (d_ rfl UN) rfl UM i2) ((fR _ _).trans (vi ?_)))))))
  rw[Y1,Nat.mul_comm,Nat.add_comm,Int.natCast_add]
theorem EA (r) (h:view hp v=.lst l):view (hp++r) v=.lst l:=by
 cases v with
 | ref i=>
  unfold view at h ⊢
  dsimp only at h ⊢
  cases q:hp[i]? with
  | none=>rw[q] at h;exact V.noConfusion (h:V.ref i=V.lst l)
  | some o=>
   have a:i < hp.length:=(List.getElem?_eq_some_iff.mp q).1
   rw[List.getElem?_append_left a,q]
   rw[q] at h
   exact h
 | _=>exact h
theorem Oh (m n:Nat) (hp:List O) (dv:V) (ds:List Nat) (hm:18<=m) (hn:0 < n) (hv:view hp dv=.lst (nats ds)) (hu:eN dv=dv) (hd:∀d∈ds,d < 2 ^ n) (zF:n*ds.length<=50000) :
  ∃j,(dA m).top 100 [dv,.int n] [] [] hp=some (.int (valN n ds:Nat),hp++j):=by
 obtain ⟨m,rfl⟩:∃m',m=m'+1:=⟨m - 1,by lia⟩
 have hl:ds.length<=50000:=Nat.le_trans (Nat.le_mul_of_pos_left _ hn) zF
 refine ⟨[.cell (some dv),.cell (some (.int n)),.cell (some (.ref (hp.length+3))),.fn hV (rY hp.length) none],?_⟩
 rw[kJ m (t:=LO) rfl rfl (vs:=[dv,.int n]) rfl]
 have qd:=λr=>EA r hv
 have hlen:(nats ds).length=ds.length:=g6 ds
 have NK:(nats ds).length<=65536:=hlen.symm▸Nat.le_trans hl (by decide)
 have hb:∀r,iP (hp++r) .len [dv]=some (.int (ds.length:Nat)):=λr=>(AV (hu.symm▸qd r) NK).trans (vi (congrArg _ hlen))
 have rO:bindAll [hp.length,hp.length+1,hp.length+2] [.cell 0,.cell 1] [dv,.int n] ⟨[],hp++[.cell none,.cell none,.cell none]⟩=some ⟨[],hp++[.cell (some dv),.cell (some (.int n)),.cell none]⟩:=
  pq ((ik rfl (iy ..)).trans (congrArg (λh=>some (⟨[],h⟩:St)) (v9 ..))) (pq ((ik rfl (fg ..)).trans (congrArg (λh=>some (⟨[],h⟩:St)) (kN ..))) rfl)
 refine (qS rO ?_:fz (dA m) U3 [] [dv,.int n] hp=_)
 show gL (dX (ev (dA m) 60) [hp.length,hp.length+1,hp.length+2] Lm ⟨[],hp++[.cell (some dv),.cell (some (.int n)),.cell none]⟩)=_
 have Sh:(hp++[O.cell (some dv),.cell (some (.int n)),.cell none]).length=hp.length+3:=len_app ..
 refine dG (st1:=⟨[],hp++[.cell (some dv),.cell (some (.int n)),.cell (some (.ref (hp.length+3))),.fn hV (rY hp.length) none]⟩) (Jv rfl ?_) (fH (loc:=[]) (fD ?_))
 ·show d9 _ 5 (.cell 2) (.ref (hp++[O.cell (some dv),.cell (some (.int n)),.cell none]).length) ⟨[],(hp++[O.cell (some dv),.cell (some (.int n)),.cell none])++[.fn hV (rY hp.length) none]⟩=_
  rw[Sh,List.append_assoc]
  exact (ik rfl (fg ..)).trans (congrArg (λh=>some (⟨[],h⟩:St)) (kN ..))
 by_cases h0:ds.length=0
 ·obtain rfl:=List.length_eq_zero_iff.mp h0
  exact kF (d_ rfl (iy ..)) (za (qd _) NK) rfl
 ·have IT:=Nk n hn (hp++[.cell (some dv),.cell (some (.int n)),.cell (some (.ref (hp.length+3))),.fn hV (rY hp.length) none]) hp.length dv ds (iy ..) (fg ..) (fg ..) (fg ..) (qd _) (Nat.le_trans hl (by decide)) hd zF 16 m 0 ds.length (Nat.le_of_succ_le_succ hm) (Nat.pos_of_ne_zero h0) (Nat.le_trans hl (by decide)) (Nat.le_refl _)
  rw[Nat.sub_zero,List.drop_zero,List.take_length] at IT
  exact i5 (d_ rfl (iy ..)) ((za (qd _) NK).trans (dt (hlen.symm▸h0))) (iA (d_ rfl (fg ..)) (dD rfl (dH (fJ (dH (d_ rfl (iy ..))) (hb _)))) (fg ..) IT)
noncomputable def jz (n b:Nat):List Nat->Nat->List Nat×Nat
 | [],r=>([],r)
 | d::l,r=>((r*2 ^ n+d) / b::(jz n b l ((r*2 ^ n+d) % b)).1,(jz n b l ((r*2 ^ n+d) % b)).2)
theorem vw (n d):valN n [d]=d:=by simp[valN]
theorem sT (n b):∀(l:List Nat) (r:Nat),(jz n b l r).1.length=l.length
 | [],_=>rfl
 | d::l,r=>congrArg (·+1) (sT n b l _)
theorem Kq {X:Nat} (c:b*q+s=r*Y+d) (a:s*X+A=B*b+u):r*(Y*X)+(A+X*d)=(B+X*q)*b+u:=by
 have h:(r*Y+d)*X+A=(B+X*q)*b+u:=by
  rw[<- c,Nat.add_mul,Nat.add_assoc,a,<-Nat.add_assoc,Nat.add_mul B,Nat.add_comm (B*b),Nat.mul_comm X q,Nat.mul_right_comm q X b,Nat.mul_comm b q]
 rw[<- h,Nat.add_mul,Nat.mul_assoc,Nat.mul_comm d X,Nat.add_assoc,Nat.add_comm (X*d) A]
theorem IS {r b Y d:Nat}(c:r < b) (a:d < Y):r*Y+d < b*Y:=
 Nat.lt_of_lt_of_le (Nat.add_lt_add_left a _) (Nat.succ_mul r Y▸Nat.mul_le_mul_right Y c)
theorem NW (n b) (e:0 < b) (l):∀r:Nat,r < b->(∀d∈l,d < 2 ^ n)->
  (jz n b l r).2 < b/\(∀q∈(jz n b l r).1,q < 2 ^ n)/\r*2 ^ (n*l.length)+valN n l.reverse=valN n (jz n b l r).1.reverse*b+(jz n b l r).2:=by
 induction l with
 | nil=>exact λr a _=>⟨a,(λ_ h=>nomatch h),by rw[List.length_nil,Nat.mul_zero,Nat.pow_zero,Nat.mul_one];exact (Nat.add_zero r).trans ((Nat.zero_add r).symm.trans (congrArg (·+r) (Nat.zero_mul b).symm))⟩
 | cons d l f=>
  intro r a c
  obtain ⟨i,k,g⟩:=f ((r*2 ^ n+d) % b) (Nat.mod_lt _ e) λx j=>c x (.tail _ j)
  refine ⟨i,List.forall_mem_cons.mpr ⟨(Nat.div_lt_iff_lt_mul e).mpr (Nat.mul_comm b _▸IS a (c d (.head _))),k⟩,?_⟩
  show r*2 ^ (n*(l.length+1))+valN n (d::l).reverse=valN n ((r*2 ^ n+d) / b::(jz n b l ((r*2 ^ n+d) % b)).1).reverse*b+(jz n b l ((r*2 ^ n+d) % b)).2
  rw[List.reverse_cons,mY,List.length_reverse,List.reverse_cons,mY,List.length_reverse,sT,vw,vw,Nat.mul_succ,Nat.add_comm (n*l.length),Nat.pow_add]
  exact Kq (Nat.div_add_mod (r*2 ^ n+d) b) g
noncomputable def Oy:List XS:=[(.asg (.tup [(.loc 7),(.loc 4)]) (.call (.k (.con (.ref 79))) [(.bin .Add (.bin .LShift (.loc 4) (.loc 2)) (.loc 6)),(.loc 1),(.loc 2)] [] [])),(.expr (.mt .append (.loc 5) [(.loc 7)]))]
theorem MV (m n b:Nat) (y:5<=m) (w:0 < n) (h:n<=16000) (c1:2 ^ (n - 1)<=b) (c2:b < 2 ^ n) (l0 q p:Option V):∀(e:List Nat) (r:Nat) (a:List Nat) (j o:Option V),r < b->(∀d∈e,d < 2 ^ n)->a.length+e.length<=65536->
  ∃g f,fL (ev (dA m) 59) [] (.loc 6) none Oy (nats e) ⟨[l0,some (.int b),some (.int n),q,some (.int r),some (.ref 0),j,o,p],[.list (nats a)]⟩ =
   some (.next,⟨[l0,some (.int b),some (.int n),q,some (.int (jz n b e r).2),some (.ref 0),g,f,p],[.list (nats (a++(jz n b e r).1))]⟩):=by
 intro e
 induction e with
 | nil=>
  intro r a j o _ _ _
  refine ⟨j,o,?_⟩
  show _=some (Fl.next,(⟨[l0,some (.int b),some (.int n),q,some (.int r),some (.ref 0),j,o,p],[.list (nats (a++[]))]⟩:St))
  rw[List.append_nil];rfl
 | cons d l z=>
  intro r a j o u v c
  have G:0 < b:=Nat.lt_of_le_of_lt (Nat.zero_le _) u
  have D:=v d (.head _)
  have s:r*2 ^ n+d < b*2 ^ n:=IS u D
  have t:(a++[(r*2 ^ n+d) / b]).length+l.length<=65536:=by rw[List.length_append,Nat.add_assoc,Nat.add_comm [_].length];exact c
  obtain ⟨g,f,i⟩:=z ((r*2 ^ n+d) % b) (a++[(r*2 ^ n+d) / b]) (some (.int d)) (some (.int ((r*2 ^ n+d) / b:Nat))) (Nat.mod_lt _ G) (λx E=>v x (.tail _ E)) t
  refine ⟨g,f,?_⟩
  have k:n<=50000:=Nat.le_trans h (by decide)
  have B:(nats a).length<=65536:=(g6 a).symm▸Nat.le_trans (Nat.le_add_right _ _) c
  have A:nats (a++[(r*2 ^ n+d) / b])=nats a++[V.int ((r*2 ^ n+d) / b:Nat)]:=nJ ..
  rw[A,List.append_assoc] at i
  exact eW rfl rfl (eP (dM (call_top (dD (dB (dB rfl rfl (oe r n n (Nat.lt_trans u c2) k k)) rfl (fR _ _)) rfl) (KL m y (r*2 ^ n+d) b n _ w h c1 c2 s)) rfl) (gq (gz (iF rfl rfl rfl (dH rfl) (Jt rfl B))))) i
theorem Xa (m a b:Nat) (hp:List O) (H:19<=m) (w:0 < b) (z:aa (b:Int)<=16000) (J:aa (a:Int)<=30000):(dA m).top 107 [.int a,.int b] [] [] hp=some (.tup [.int (a / b:Nat),.int (a % b:Nat)],hp):=by
 obtain ⟨m,rfl⟩:∃m',m=m'+1:=⟨m - 1,by lia⟩
 obtain ⟨n,D⟩:∃n,aa (b:Int)=n:=⟨_,rfl⟩
 have g:0 < n:=by
  rw[<- D,qX,if_neg (by lia)];lia
 have Y:b < 2 ^ n:=bits_le.mp (by lia)
 have c1:2 ^ (n - 1)<=b:=by
  apply Nat.le_of_not_lt
  intro h
  have:=bits_le.mpr h
  lia
 obtain ⟨w1,Q⟩:=It (a:=a) g
 have e:n<=16000:=D▸z
 have A:n*nd a n<=50000:=Nat.le_trans Q (Nat.le_trans (Nat.sub_le _ _) (Nat.le_trans (Nat.add_le_add J e) (by decide)))
 have E:nd a n<=46000:=Nat.le_trans (Nat.le_mul_of_pos_left _ g) (Nat.le_trans Q (Nat.le_trans (Nat.sub_le _ _) (Nat.add_le_add J e)))
 generalize i:eR n a (nd a n)=f at *
 have T:f.length=nd a n:=by rw[<- i,n1]
 have r:∀d∈f,d < 2 ^ n:=by rw[<- i];exact zU n _ _
 have p:valN n f=a:=by rw[<- i];exact y_ n _ _ w1
 have l:f.length<=46000:=T▸E
 obtain ⟨g1,g2,L⟩:=NW n b w f.reverse 0 w (λd x=>r d (List.mem_reverse.mp x))
 have N:=sT n b f.reverse 0
 rw[Nat.zero_mul,Nat.zero_add,List.reverse_reverse,p] at L
 obtain ⟨l6,l7,y⟩:=MV m n b (Nat.le_of_succ_le_succ (Nat.le_trans (by decide) H)) g e c1 Y (some (.int a)) (some (.lst (nats f))) none f.reverse 0 [] none none w (λd x=>r d (List.mem_reverse.mp x)) (by rw[List.length_reverse,List.length_nil,Nat.zero_add];exact Nat.le_trans l (by decide))
 rw[List.nil_append] at y
 generalize hG:jz n b f.reverse 0=G at *
 have s:nats f.reverse=(nats f).reverse:=List.map_reverse ..
 have o:nats G.1.reverse=(nats G.1).reverse:=List.map_reverse ..
 have I:G.1.length<=46000:=by rw[N,List.length_reverse];exact l
 obtain ⟨j,B⟩:=Oh m n [.list (nats G.1.reverse)] (.ref 0) G.1.reverse (Nat.le_of_succ_le_succ H) g rfl rfl (λq u=>g2 q (List.mem_reverse.mp u)) (by rw[List.length_reverse,N,List.length_reverse,T];exact A)
 have u:valN n G.1.reverse=a / b/\G.2=a % b:=by
  have h1:a=b*valN n G.1.reverse+G.2:=by rw[Nat.mul_comm];exact L
  have M:=(Nat.div_mod_unique w (a:=a) (c:=G.2) (d:=valN n G.1.reverse)).mpr ⟨(Nat.add_comm ..).trans h1.symm,g1⟩
  exact ⟨M.1.symm,M.2.symm⟩
 have U:=λhp=>Uz m a n hp (Nat.le_of_succ_le_succ (Nat.le_trans (by decide) H)) g e J
 rw[i] at U
 refine eg m (t:=LN) (k:=2) rfl rfl rfl rfl (as':=[.int a,.int b]) rfl (hp':=[.list (nats G.1.reverse)]++j) (v:=.tup [.int (a / b:Nat),.int (a % b:Nat)]) ?_ rfl
 rw[u.1] at B
 rw[u.2,s] at y
 rw[o] at B ⊢
 show gL (dX (ev (dA m) 60) [] Ll ⟨[some (.int a),some (.int b),none,none,none,none,none,none,none],[]⟩)=_
 exact dG (st1:=⟨[some (.int a),some (.int b),some (.int n),none,none,none,none,none,none],[]⟩) (dM (iF rfl rfl rfl rfl (congrArg (λk:Nat=>some (V.int k,([]:List O))) D)) rfl)
  (dG (st1:=⟨[some (.int a),some (.int b),some (.int n),some (.lst (nats f)),none,none,none,none,none],[]⟩) (dM (call_top rfl (U _)) rfl)
  (dG (st1:=⟨[some (.int a),some (.int b),some (.int n),some (.lst (nats f)),some (.int 0),none,none,none,none],[]⟩) (dM rfl rfl)
  (dG (st1:=⟨[some (.int a),some (.int b),some (.int n),some (.lst (nats f)),some (.int 0),some (.ref 0),none,none,none],[.list []]⟩) (dM (oo rfl) rfl)
  (dG (ie rfl y) (dG (gz (iF rfl rfl rfl rfl (Q1 rfl ((g6 G.1).symm▸Nat.le_trans I (by decide))))) (dG (dM (call_top rfl B) rfl) (fH (fD (fE rfl)))))))))
theorem uq (a b):Int.fdiv (-a) (-b)=Int.fdiv a b:=Int.neg_fdiv_neg ..
theorem IK (m:Nat) (a b:Nat) (hp:List O) (h:20<=m) (d:0 < b) (c:aa (b:Int)<=16000) (e:aa (a:Int)<=30000) :
  (dA m).top 114 [.int a,.int b] [] [] hp=some (.tup [.int (a / b:Nat),.int (a % b:Nat)],hp):=by
 obtain ⟨m,rfl⟩:∃g,m=g+1:=⟨m - 1,by lia⟩
 refine eg m (t:=Cp) (k:=2) rfl rfl rfl rfl (as':=[.int a,.int b]) rfl (hp':=[]) (v:=.tup [.int (a / b:Nat),.int (a % b:Nat)]) ?_ rfl
 show gX (dA m) [] B4 ⟨[some (.int a),some (.int b),none,none],[]⟩=_
 have f:¬((b:Int)=0):=λq=>Nat.ne_of_gt d (Int.ofNat.inj q)
 exact fH (x:=uQ) (ic (dW rfl rfl (df f)) rfl (fU (ic (dW rfl rfl (df (Int.not_lt.mpr (Int.natCast_nonneg b)))) rfl (fU (ic (dW rfl rfl (df (Int.not_lt.mpr (Int.natCast_nonneg a)))) rfl (fU (fD (call_top rfl (Xa m a b [] (Nat.le_of_succ_le_succ h) d c e)))))))))
theorem IJ (m:Nat) (a b:Int) (hp:List O) (u:21<=m) (o:0 < b) (f:aa b<=16000) (l:a.natAbs < 2 ^ 30000) :
  (dA m).top 114 [.int a,.int b] [] [] hp=some (.tup [.int (Int.fdiv a b),.int (Int.fmod a b)],hp):=by
 obtain ⟨b,rfl⟩:∃p:Nat,b=p:=⟨b.toNat,by lia⟩
 rcases Int.lt_or_le a 0 with h | h
 ·obtain ⟨m,rfl⟩:∃s,m=s+1:=⟨m - 1,by lia⟩
  obtain ⟨c,j⟩:∃c:Nat,ay a=c:=⟨(-a - 1).toNat,by unfold ay;lia⟩
  have g:a=-(c:Int) - 1:=by unfold ay at j;lia
  have i:aa (c:Int)<=30000:=bits_le.mpr (Nat.lt_of_le_of_lt (by lia) l)
  have r:=Nat.mod_lt c (show 0 < b by lia)
  have y:=Nat.div_add_mod c b
  have d:Int.fdiv a b=ay ((c / b:Nat):Int)/\Int.fmod a b=(b:Int)+ay ((c % b:Nat):Int):=by
   unfold ay
   rw[Int.fdiv_eq_ediv_of_nonneg _ (Int.natCast_nonneg b),Int.fmod_eq_emod_of_nonneg _ (Int.natCast_nonneg b)]
   have e:(b:Int)*(-((c / b:Nat):Int) - 1)=-((b*(c / b):Nat):Int) - b:=by
    push_cast
    rw[Int.mul_sub,Int.mul_neg,Int.mul_one]
   refine (Int.ediv_emod_unique (by lia)).mpr ⟨?_,by lia,by lia⟩
   rw[e,g];lia
  refine eg m (t:=Cp) (k:=2) rfl rfl rfl rfl (as':=[.int a,.int b]) rfl (hp':=[]) (v:=.tup [.int (Int.fdiv a b),.int (Int.fmod a b)]) ?_ rfl
  show gX (dA m) [] B4 ⟨[some (.int a),some (.int b),none,none],[]⟩=_
  rw[d.1,d.2]
  have n:=IK m c b [] (Nat.le_of_succ_le_succ u) (Int.ofNat_lt.mp o) f i
  rw[<- j] at n
  exact fH (x:=uQ) (ic (dW rfl rfl (df (λq=>Int.ne_of_gt o q))) rfl (fU (ic (dW rfl rfl (df (Int.not_lt.mpr (Int.natCast_nonneg b)))) rfl (fU (ib (dW rfl rfl (dt h)) rfl (et (dM (call_top (dD (BO rfl) rfl) n) rfl) (fU (fD (fE (dD (BO rfl) (dH (dB rfl (BO rfl) (fR _ _)))))))))))))
 ·obtain ⟨a,rfl⟩:∃w:Nat,a=w:=⟨a.toNat,by lia⟩
  rw[lJ,qJ]
  exact IK m a b hp (by lia) (by lia) f (bits_le.mpr l)
theorem F0 (m) (a b:Int) (hp) (j:22<=m) (i:b≠0) (d:b.natAbs < 2 ^ 16000) (e:a.natAbs < 2 ^ 30000) :
  (dA m).top 114 [.int a,.int b] [] [] hp=some (.tup [.int (Int.fdiv a b),.int (Int.fmod a b)],hp):=by
 rcases Int.lt_or_le b 0 with h | h
 ·obtain ⟨m,rfl⟩:∃g,m=g+1:=⟨m - 1,by lia⟩
  have f:=IJ m (-a) (-b) [] (by lia) (by lia) (gE (by rw[Int.natAbs_neg];exact d)) (by rw[Int.natAbs_neg];exact e)
  rw[uq] at f
  have c:-(Int.fmod (-a) (-b))=Int.fmod a b:=by rw[Int.fmod_def,Int.fmod_def,uq,Int.neg_mul];lia
  refine eg m (t:=Cp) (k:=2) rfl rfl rfl rfl (as':=[.int a,.int b]) rfl (hp':=[]) (v:=.tup [.int (Int.fdiv a b),.int (Int.fmod a b)]) ?_ rfl
  show gX (dA m) [] B4 ⟨[some (.int a),some (.int b),none,none],[]⟩=_
  rw[<- c]
  exact fH (x:=uQ) (ic (dW rfl rfl (df i)) rfl (fU (ib (dW rfl rfl (dt h)) rfl (et (dM (call_top (dD (vl rfl) (dH (vl rfl))) f) rfl) (fU (fD (fE (dD rfl (dH (vl rfl))))))))))
 ·exact IJ m a b hp (by lia) (by lia) (gE d) e
def e_ (b:Nat) (tag:V) (ye tail:V) (kids:List V):List O:=
 [.cell (some tag),.cell (some (.ref (b+2))),.fn sX [] (some (b+3)),
  .ns [("itertext",.ref (b+5)),("makeelement",.con (.ref 190)),("append",.bm "list.append" (.ref (b+4))),("kids",.ref (b+4)),("tail",tail),("attrib",ye),("tag",tag)],
  .list kids,.fn iJ [("tag",b),("one",b+1)] none]
theorem mi:fp (Str.ofString "tag")=true/\fp (Str.ofString "attrib")=true/\fp (Str.ofString "tail")=true/\fp (Str.ofString "kids")=true/\fp (Str.ofString "append")=true/\fp (Str.ofString "makeelement")=true/\fp (Str.ofString "itertext")=true:=by decide +kernel
section
variable {hp l:List O}{k d:Nat}{n:Str}{v:V}{f:iS}{c:List (Str×Nat)}{q:List (Str×V)}
theorem Mu (a:l[k]?=some (.fn f c none)) (g:fp n=true) (e:hp.length+l.length=hp.length+d):kO (hp++l) (.ref (hp.length+k)) n v=some (hp++(l.set k (.fn f c (some (hp.length+d)))++[.ns [(n,v)]])):=by
 show AA (hp++l) (hp.length+k) n v (hp++l)[hp.length+k]?=_
 rw[fg,a]
 refine (if_pos g).trans ?_
 rw[kN,len_app,e,List.append_assoc]
theorem kQ (a:l[k]?=some (.fn f c (some (hp.length+d)))) (e:l[d]?=some (.ns q)) (h:fp n=true) (g:q.length < 100):kO (hp++l) (.ref (hp.length+k)) n v=some (hp++l.set d (.ns ((n,v)::q))):=by
 show AA (hp++l) (hp.length+k) n v (hp++l)[hp.length+k]?=_
 rw[fg,a]
 show putN (hp++l) (hp.length+d) n v (hp++l)[hp.length+d]?=_
 rw[fg,e]
 refine (if_pos ⟨h,g⟩).trans ?_
 rw[kN]
theorem TC (g:l[k]?=some (.fn f c (some (hp.length+d)))) (h:l[d]?=some (.ns q)) (i:fp n=true) (e:q.lookup n=some v) (a:tS v=true):fM (hp++l) (.ref (hp.length+k)) n=some v:=by
 show og (hp++l) (hp.length+k) n (hp++l)[hp.length+k]?=_
 rw[fg,g]
 refine (if_pos i).trans ?_
 rw[fg,h]
 show (List.lookup n q).bind _=_
 rw[e]
 exact if_pos a
theorem Ed (a:l[k]?=some (.list x)):fM (hp++l) (.ref (hp.length+k)) "append"=some (.bm "list.append" (.ref (hp.length+k))):=by
 show og (hp++l) (hp.length+k) "append" (hp++l)[hp.length+k]?=_
 rw[fg,a]
 exact (if_pos rfl:(if ("append":Str)="append" then some (V.bm "list.append" (.ref (hp.length+k))) else none)=_)
theorem J' (d) (h:eU (ev orc j) cs x ⟨loc,hp++l⟩=some (o,⟨loc,hp++l⟩)) (e:hp.length+l.length=hp.length+d):(ev orc (j+1)).E cs (.new x) ⟨loc,hp++l⟩=some (.ref (hp.length+d),⟨loc,hp++(l++[o])⟩):=by
 refine (oo h).trans ?_
 show some (V.ref (hp++l).length,(⟨loc,(hp++l)++[o]⟩:St))=_
 rw[len_app,e,List.append_assoc]
theorem zw (d) (h:hX cs cl=some pg) (e:hp.length+l.length=hp.length+d):(ev orc (j+1)).E cs (.lam f cl) ⟨loc,hp++l⟩=some (.ref (hp.length+d),⟨loc,hp++(l++[.fn f pg none])⟩):=by
 refine (qC h rfl:(ev orc (j+1)).E cs (.lam f cl) ⟨loc,hp++l⟩=some (V.ref (hp++l).length,(⟨loc,(hp++l)++[.fn f pg none]⟩:St))).trans ?_
 rw[len_app,e,List.append_assoc]
theorem xV {cs:List Nat} (hc:cs[i]?=some (hp.length+k)) (hk:l[k]?=some (.cell w)):d9 cs 5 (.cell i) v ⟨loc,hp++l⟩=some ⟨loc,hp++l.set k (.cell (some v))⟩:=
 (ik (st:=⟨loc,hp++l⟩) hc ((fg ..).trans hk)).trans (congrArg (λh=>some (⟨loc,h⟩:St)) (kN ..))
end
theorem Gs (a:findKey ks vs (.str "tail")=some r) (hp):mj hp .n3 (.dE ks vs) [.dw "tail"]=some (kg r .none,hp):=by
 show ((findKey ks vs (.str "tail")).map (kg · .none)).map (·,hp)=_
 rw[a]
 rfl
theorem Bm (m:Nat) (tag:V) (ks vs:List V) (r:Option V) (hr:findKey ks vs (.str "tail")=some r) (hp:List O) :
  (dA (m+1)).top 190 [tag,.dE ks vs] [] [] hp=some (.ref (hp.length+2),hp++e_ hp.length tag (.dE ks vs) (kg r .none) []):=by
 rw[kJ m (t:=LL) rfl rfl (vs:=[tag,.dE ks vs]) rfl]
 have rO:bindAll [hp.length,hp.length+1] [.cell 0,.loc 0] [tag,.dE ks vs] ⟨[none],hp++[.cell none,.cell none]⟩=some ⟨[some (.dE ks vs)],hp++[.cell (some tag),.cell none]⟩:=pq (xV (k:=0) rfl rfl) rfl
 refine (qS rO ?_:fz (dA m) U2 [] [tag,.dE ks vs] hp=_)
 show gL (dX (ev (dA m) 60) [hp.length,hp.length+1] Lk ⟨[some (.dE ks vs)],hp++[.cell (some tag),.cell none]⟩)=_
 have c1:∀{l:List O}{j:Nat},l[1]?=some (.cell (some (.ref (hp.length+2))))->(ev (dA m) (j+1)).E [hp.length,hp.length+1] (.cell 1) ⟨[some (.dE ks vs)],hp++l⟩=some (.ref (hp.length+2),⟨[some (.dE ks vs)],hp++l⟩):=λh=>d_ rfl ((fg ..).trans h)
 exact dG (st1:=⟨[some (.dE ks vs)],hp++[.cell (some tag),.cell (some (.ref (hp.length+2))),.fn sX [] none]⟩) (dM (zw 2 rfl rfl) (xV (k:=1) rfl rfl))
  (dG (iD (d_ rfl (iy ..)) (c1 rfl) (Mu (d:=3) rfl mi.1 rfl))
  (dG (iD rfl (c1 rfl) (kQ rfl rfl mi.2.1 (by decide:1 < 100)))
  (dG (iD (iF rfl rfl rfl (dH rfl) (Gs hr _)) (c1 rfl) (kQ rfl rfl mi.2.2.1 (by decide:2 < 100)))
  (dG (iD (J' 4 rfl rfl) (c1 rfl) (kQ rfl rfl mi.2.2.2.1 (by decide:3 < 100)))
  (dG (iD (jw (jw (c1 rfl) (TC rfl rfl mi.2.2.2.1 rfl rfl)) (Ed rfl)) (c1 rfl) (kQ rfl rfl mi.2.2.2.2.1 (by decide:4 < 100)))
  (dG (iD rfl (c1 rfl) (kQ rfl rfl mi.2.2.2.2.2.1 (by decide:5 < 100)))
  (dG (iD (zw 5 rfl rfl) (c1 rfl) (kQ rfl rfl mi.2.2.2.2.2.2 (by decide:6 < 100)))
  (fH (fD (c1 rfl))))))))))
def eD (hp:List O) (b:Nat) (tag attr tail:V) (kids:List V):Prop:=∀k,k < 6->hp[b+k]?=(e_ b tag attr tail kids)[k]?
section
variable {hp:List O}{b:Nat}{tag attr tail:V}{kids:List V}
theorem kY (h:eD hp b tag attr tail kids) (hn:fp n=true) (hl:([("itertext",.ref (b+5)),("makeelement",.con (.ref 190)),("append",.bm "list.append" (.ref (b+4))),("kids",.ref (b+4)),("tail",tail),("attrib",ye),("tag",tag)]:List (Str×V)).lookup n=some v) (hv:tS v=true) (e:ye=attr):fM hp (.ref (b+2)) n=some v:=by
 subst e
 show og hp (b+2) n hp[b+2]?=_
 rw[h 2 (by decide)]
 show BF hp n (some (b+3))=_
 refine (if_pos hn).trans ?_
 rw[h 3 (by decide)]
 show (List.lookup n _).bind _=_
 rw[hl]
 exact if_pos hv
theorem qn (h:eD hp b tag attr tail kids):fM hp (.ref (b+2)) "itertext"=some (.ref (b+5)):=kY h mi.2.2.2.2.2.2 rfl rfl rfl
theorem K5 (h:eD hp b tag attr tail kids):fM hp (.ref (b+2)) "kids"=some (.ref (b+4)):=kY h mi.2.2.2.1 rfl rfl rfl
theorem K4 (h:eD hp b tag attr tail kids):fM hp (.ref (b+2)) "makeelement"=some (.con (.ref 190)):=kY h mi.2.2.2.2.2.1 rfl rfl rfl
theorem Eg (h:eD hp b tag attr tail kids):fM hp (.ref (b+2)) "append"=some (.bm "list.append" (.ref (b+4))):=kY h mi.2.2.2.2.1 rfl rfl rfl
theorem z9 (h:eD hp b tag attr tail kids) (a:tS tail=true):fM hp (.ref (b+2)) "tail"=some tail:=kY h mi.2.2.1 rfl a rfl
theorem Ef (h:eD hp b tag attr tail kids) (a:tS attr=true):fM hp (.ref (b+2)) "attrib"=some attr:=kY h mi.2.1 rfl a rfl
theorem K6 (h:eD hp b tag attr tail kids):isFn hp (.ref (b+2))=true:=by
 show rK hp[b+2]?=true
 rw[h 2 (by decide)]
 rfl
end
inductive Fo where
 | nil
 | cons (tag tail attr:V) (kids rest:Fo)
noncomputable def oC:V->Bool
 | .str s=>decide (s.cps.size≠0)
 | .dw s=>decide (s.cps.size≠0)
 | _=>false
def My:V->Bool
 | .str s=>dQ s.cps.size
 | .dw s=>dQ s.cps.size
 | _=>false
def jc (v:V):Bool:=My v||(match v with | .none=>true | _=>false)
theorem m8 (h:jc v=true):ef hp v=some (oC v)/\tS v=true:=by
 unfold jc at h
 cases v with
 | none=>exact ⟨rfl,rfl⟩
 | str s=>
  have h:dQ s.cps.size=true:=by simpa[My] using h
  refine ⟨?_,rfl⟩
  exact if_pos h
 | dw s=>
  have h:dQ s.cps.size=true:=by simpa[My] using h
  refine ⟨?_,rfl⟩
  exact if_pos h
 | _=>cases h
def eH (v:V):List V:=if oC v=true then [v] else []
noncomputable def eM:Fo->List V
 | .nil=>[]
 | .cons tag tail _ kids a=>(eH tag++eM kids)++(eH tail++eM a)
noncomputable def ka:Fo->Nat
 | .nil=>0
 | .cons _ _ _ kids a=>max (ka kids+1) (ka a)
noncomputable def oM:Fo->Bool
 | .nil=>true
 | .cons tag tail _ kids a=>jc tag&&jc tail&&oM kids&&oM a
noncomputable def refsOf (a:List Nat):List V:=a.map λb=>V.ref (b+2)
def iU (hp:List O):List Nat->Fo->Prop
 | bs,.nil=>bs=[]
 | bs,.cons tag tail attr kids e=>∃b a g,bs=b::a/\eD hp b tag attr tail (refsOf g)/\iU hp g kids/\iU hp a e
theorem p_ (a):il (refsOf a)=some (a.map (·+2)):=by
 induction a with
 | nil=>rfl
 | cons b a e=>
  show (il (refsOf a)).map (_::·)=_
  rw[e];rfl
noncomputable def qW (b:Nat):List (Str×Nat):=[("tag",b),("one",b+1)]
def L6:Scope:=⟨.function,[("one",.free),("tag",.free)],false,false,iJ.scope.more⟩
def Nb:K:=⟨L6,[],["one","tag"],"_law_element.<locals>.<lambda>.<locals>.",none⟩
noncomputable def DT:X:=(.comp (.loc 1) [(.loc 0),(.loc 1)] [(.attr (.cell 0) "kids"),(.bin .Add (.mc (.loc 0) "itertext" []) (.dT (.attr (.loc 0) "tail") (.list [(.attr (.loc 0) "tail")]) (.list [])))] [[],[]] 2 0)
def D6:X:=.bin .Add (.dT (.cell 1) (.list [(.cell 1)]) (.list [])) DT
def w_:Fn:=⟨Nb,[],[],.inr D6⟩
theorem Ou:nh g0 [] iJ=some w_:=by kernel_rfl
theorem V_ (orc) (b) (hp):fz orc w_ (qW b) [] hp=((ev orc 60).E [b+1,b] D6 ⟨[],hp++[]⟩).map λx=>(x.1,x.2.hp):=by
 have a:iz (qW b) w_.κ.scope.names hp.length=some [b+1,b]:=by kernel_rfl
 unfold fz
 rw[a]
 rfl
theorem Ce (cs:List Nat) (x:Option V) (hp:List O) (g:St->Option (List V×St)) (hg:∀v,g ⟨[x,some v],hp⟩=some ([v],⟨[x,some v],hp⟩)):∀(l:List V) (y:Option V),∃y',gx cs (.loc 1) none g l ⟨[x,y],hp⟩=some (l,⟨[x,y'],hp⟩)
 | [],y=>⟨y,rfl⟩
 | v::l,y=>by
  obtain ⟨y',h⟩:=Ce cs x hp g hg l (some v)
  exact ⟨y',nz rfl rfl (hg v) h⟩
def gO (orc:er) (cs:List Nat) (st:St):Option (List V×St):=gT (ev orc 58) cs (.loc 1) [] [.loc 1] [(.bin .Add (.mc (.loc 0) "itertext" []) (.dT (.attr (.loc 0) "tail") (.list [(.attr (.loc 0) "tail")]) (.list [])))] [[]] st
theorem Qq {orc:er}{c:Nat}{l:List V} (e:eD hp c tag attr tail ks) (x:jc tail=true) (p:orc.mx iJ (qW c) [] hp=some (.lst l,hp)) (A:l.length+(eH tail).length<=65536) (y) :
  ∃h,gO orc cs ⟨[some (.ref (c+2)),y],hp⟩=some (l++eH tail,⟨[some (.ref (c+2)),h],hp⟩):=by
 obtain ⟨h,s⟩:=Ce cs (some (.ref (c+2))) hp (gT (ev orc 58) cs (.loc 1) [] [] [] []) (λv=>rfl) (l++eH tail) y
 refine ⟨h,?_⟩
 have g:=m8 (hp:=hp) x
 have u:=qn e
 have o:=z9 e g.2
 have w:hp[c+5]?=some (.fn iJ (qW c) none):=e 5 (by decide)
 have z:=mr (hp:=hp) A
 have t:∀j,(ev orc (j+3)).E cs (.mc (.loc 0) "itertext" []) ⟨[some (.ref (c+2)),y],hp⟩=some (.lst l,⟨[some (.ref (c+2)),y],hp⟩):=λj=>Hm rfl u rfl (xJ w p)
 have a:∀j,(ev orc (j+3)).E cs (.attr (.loc 0) "tail") ⟨[some (.ref (c+2)),y],hp⟩=some (tail,⟨[some (.ref (c+2)),y],hp⟩):=λj=>jw rfl o
 have m:(ev orc 57).E cs (.dT (.attr (.loc 0) "tail") (.list [(.attr (.loc 0) "tail")]) (.list [])) ⟨[some (.ref (c+2)),y],hp⟩=some (.lst (eH tail),⟨[some (.ref (c+2)),y],hp⟩):=by
  unfold eH
  cases i:oC tail with
  | true=>exact i5 (a 53) (i▸g.1) (vm (dH (a 52)))
  | false=>exact kF (a 53) (i▸g.1) rfl
 exact Dz (r:=ev orc 58) (elt:=.loc 1) (ts:=[]) (is:=[]) (f:=[]) (fs:=[]) (g' rfl (dB (t 54) m z)) s
theorem Cd (m) (cs) (hp) (j) (e) (a:gA hp (some (j,e))=true) (z:∀(kids:Fo) (b:Nat) (tag attr tail:V) (p:List Nat),ka kids < m->jc tag=true->oM kids=true->eD hp b tag attr tail (refsOf p)->iU hp p kids->(eH tag++eM kids).length<=65536->
   (dA m).mx iJ (qW b) [] hp=some (.lst (eH tag++eM kids),hp)) :
  ∀(g:Fo) (o:List Nat) (x y:Option V),ka g<=m->oM g=true->iU hp o g->(eM g).length<=65536->
   ∃t u,gx cs (.loc 0) (some (j,e)) (gO (dA m) cs) (refsOf o) ⟨[x,y],hp⟩=some (eM g,⟨[t,u],hp⟩)
 | .nil,o,x,y,_,_,h,_=>by
  obtain rfl:o=[]:=h
  exact ⟨x,y,Cc a⟩
 | .cons tag tail attr kids i,o,x,y,Q,s,h,A=>by
  obtain ⟨c,r,p,rfl,w,D,H⟩:=h
  unfold ka at Q
  unfold oM at s
  simp only[Bool.and_eq_true] at s
  obtain ⟨⟨⟨J,M⟩,L⟩,I⟩:=s
  unfold eM at A
  rw[List.length_append,List.length_append (as:=eH tail)] at A
  have G:=z kids c tag attr tail p (by lia) J L w D (by lia)
  obtain ⟨N,E⟩:=Qq (cs:=cs) w M G (by lia) y
  obtain ⟨t,u,B⟩:=Cd m cs hp j e a z i r (some (.ref (c+2))) N (by lia) I H (by lia)
  refine ⟨t,u,?_⟩
  rw[eM,<-List.append_assoc (eH tag++eM kids)]
  exact nz a rfl E B
theorem qc (hp:List O):∀(m:Nat) (kids:Fo) (b:Nat) (tag attr tail:V) (ks:List Nat),ka kids < m->jc tag=true->oM kids=true->eD hp b tag attr tail (refsOf ks)->iU hp ks kids->(eH tag++eM kids).length<=65536->
   (dA m).mx iJ (qW b) [] hp=some (.lst (eH tag++eM kids),hp)
 | 0,_,_,_,_,_,_,h,_,_,_,_,_=>by lia
 | m+1,kids,b,tag,attr,tail,ks,hd,o1,o2,h1,h2,hl=>by
  rw[ni m Ou rfl,V_,List.append_nil]
  have h4:hp[b+4]?=some (.list (refsOf ks)):=h1 4 (by decide)
  have h0:hp[b]?=some (.cell (some tag)):=h1 0 (by decide)
  have h5:hp[b+1]?=some (.cell (some (.ref (b+2)))):=h1 1 (by decide)
  have NR:gA hp (some (b+4,ks.map (·+2)))=true:=by
   show (match hp[b+4]? with
    | some (.list l)=>il l==some (ks.map (·+2))
    | _=>false)=true
   rw[h4]
   show (il (refsOf ks)==_)=true
   rw[p_]
   exact beq_self_eq_true _
  rw[List.length_append] at hl
  obtain ⟨x',y',i⟩:=Cd m [b+1,b] hp (b+4) (ks.map (·+2)) NR (qc hp m) kids ks none none (by lia) o2 h2 (by lia)
  have t1:=(m8 (hp:=hp) o1).1
  have wX:fq (ev (dA m) 58) [b+1,b] (.attr (.cell 0) "kids") ⟨[],hp⟩=some (refsOf ks,some (b+4,ks.map (·+2)),⟨[],hp⟩):=by
   refine (g' rfl (jw (d_ rfl h5) (K5 h1))).trans ?_
   show E4 (b+4) ⟨[],hp⟩ hp[b+4]?=_
   rw[h4]
   show (il (refsOf ks)).map _=_
   rw[p_]
   rfl
  have Sm:(ev (dA m) 59).E [b+1,b] DT ⟨[],hp⟩=some (.lst (eM kids),⟨[],hp⟩):=qM (qM (f:=λx:List V×St=>(O.list x.1,x.2)) (xN (n:=2) (f:=[]) (elt:=.loc 1) (ts:=[.loc 1]) (is:=[(.bin .Add (.mc (.loc 0) "itertext" []) (.dT (.attr (.loc 0) "tail") (.list [(.attr (.loc 0) "tail")]) (.list [])))]) (fs:=[[]]) wX i (by lia)))
  have hL:(ev (dA m) 59).E [b+1,b] (.dT (.cell 1) (.list [(.cell 1)]) (.list [])) ⟨[],hp⟩=some (.lst (eH tag),⟨[],hp⟩):=by
   have c1:∀j,(ev (dA m) (j+1)).E [b+1,b] (.cell 1) ⟨[],hp⟩=some (tag,⟨[],hp⟩):=λj=>d_ rfl h0
   unfold eH
   cases hq:oC tag with
   | true=>exact i5 (c1 57) (hq▸t1) (vm (dH (c1 56)))
   | false=>exact kF (c1 57) (hq▸t1) rfl
  exact qM (f:=λx:V×St=>(x.1,x.2.hp)) (dB hL Sm (mr (hp:=hp) (a:=eH tag) (b:=eM kids) hl))
section
variable {hp:List O}{b p j:Nat}{tag attr tail:V}{kids:List V}
theorem eD.lt (h:eD hp b tag attr tail kids) (a:k < 6):b+k < hp.length:=by
 have e:=h k a
 have:(e_ b tag attr tail kids)[k]?=some ((e_ b tag attr tail kids)[k]'(by simpa[e_] using a)):=List.getElem?_eq_getElem _
 rw[this] at e
 exact (List.getElem?_eq_some_iff.mp e).1
theorem eD.app (h:eD hp b tag attr tail kids) (r):eD (hp++r) b tag attr tail kids:=λk a=>by
 rw[List.getElem?_append_left (h.lt a)];exact h k a
theorem eD.set (h:eD hp b tag attr tail kids) (o) (c:j < b\/b+6<=j):eD (hp.set j o) b tag attr tail kids:=λk a=>by
 rw[List.getElem?_set_ne (by lia)];exact h k a
theorem eD.sy (h:eD hp b tag attr tail kids) (l):eD (hp.set (b+4) (.list l)) b tag attr tail l:=λk a=>by
 by_cases e:k=4
 ·subst e
  rw[List.getElem?_set_self (h.lt a)];rfl
 ·rw[List.getElem?_set_ne (by lia),h k a]
  have e:∀k,k < 6->k≠4->(e_ b tag attr tail kids)[k]?=(e_ b tag attr tail l)[k]?:=λk a q=>by
   show (e_ b tag attr tail kids)[k]?=((e_ b tag attr tail kids).set 4 (.list l))[k]?
   rw[List.getElem?_set_ne (aN q)]
  exact e k a ‹_›
theorem jJ (hp r):eD (hp++(e_ hp.length tag attr tail kids++r)) hp.length tag attr tail kids:=λk a=>by
 rw[fg,List.getElem?_append_left (by simpa[e_] using a)]
theorem vR (m) (l:subB as kn kv=some [.ref (p+2),t,a,e]) (g:mergeAll [] [] [a,e]=some (ks,vs)) (f:findKey ks vs (.str "tail")=some r) (h:eD hp p aaP aaM aaG lk) (i:lk.length<=65536) :
  (dA (m+2)).top 23 as kn kv hp=some (.ref (hp.length+2),hp.set (p+4) (.list (lk++[.ref (hp.length+2)]))++e_ hp.length t (.dE ks vs) (kg r .none) []):=by
 rw[kJ (m+1) (t:=t1) rfl rfl l]
 show fz (dA (m+1)) f1 [] _ hp=_
 show gL (dX (ev (dA (m+1)) 60) [] x1 ⟨[some (.ref (p+2)),some t,some a,some e,none],hp++[]⟩)=_
 rw[List.append_nil,<-List.set_append_left _ _ (h.lt (k:=4) (by decide))]
 have c:=Bm m t ks vs r f hp
 have d:=h.app (e_ hp.length t (.dE ks vs) (kg r .none) [])
 exact dG (st1:=⟨[some (.ref (p+2)),some t,some (.dE ks vs),some e,none],hp⟩) (dM (Pb rfl g) rfl) (dG (st1:=⟨[some (.ref (p+2)),some t,some (.dE ks vs),some e,some (.ref (hp.length+2))],_⟩) (dM (Hm rfl (K4 h) rfl c) rfl)
  (dG (gz (TU rfl (K6 d) (Eg d) (dH rfl) (I8 (d 4 (by decide)) i))) (fH (fD rfl))))
theorem writes (orc:er) (x1:Option V):∀(l acc:List V) (hp:List O) (y:Option V),hp[j]?=some (.list acc)->acc.length+l.length<=65536->
  ∃y',fL (ev orc 59) [] (.loc 2) none [(.expr (.call (.loc 0) [(.loc 2)] [] []))] l ⟨[some (.bm "list.append" (.ref j)),x1,y],hp⟩=some (.next,⟨[some (.bm "list.append" (.ref j)),x1,y'],hp.set j (.list (acc++l))⟩)
 | [],acc,hp,y,h,_=>by
  refine ⟨y,?_⟩
  have hi:j < hp.length:=(List.getElem?_eq_some_iff.mp h).1
  have e:hp.set j (.list (acc++[]))=hp:=by
   rw[List.append_nil]
   refine List.ext_getElem? λi=>?_
   by_cases q:i=j
   ·subst q;rw[List.getElem?_set_self hi,h]
   ·rw[List.getElem?_set_ne (aN q)]
  rw[e];rfl
 | x::l,acc,hp,y,h,hlen=>by
  have hi:j < hp.length:=(List.getElem?_eq_some_iff.mp h).1
  obtain ⟨y',i⟩:=writes orc x1 l (acc++[x]) (hp.set j (.list (acc++[x]))) (some x) (by rw[List.getElem?_set_self hi]) (by simp at hlen ⊢;lia)
  rw[List.set_set,List.append_assoc] at i
  exact ⟨y',eW rfl rfl (gq (gz (xW rfl (dH rfl) h (Nat.le_trans (Nat.le_add_right _ _) hlen)))) i⟩
theorem CD (m) (z:ka kd < m) (v:jc tag=true) (y:jc tail=true) (w:oM kd=true) (d:eD hp b tag attr tail (refsOf ks)) (r:iU hp ks kd) (l:hp[j]?=some (.list acc)) (h:j < b\/b+6<=j) (o:acc.length+(eH tag++eM kd).length+1<=65536) :
  (dA (m+1)).top 30 [.bm "list.append" (.ref j),.ref (b+2)] [] [] hp=some (.none,hp.set j (.list (acc++((eH tag++eM kd)++eH tail)))):=by
 rw[kJ m (t:=t2) rfl rfl (vs:=[.bm "list.append" (.ref j),.ref (b+2)]) rfl]
 show fz (dA m) f2 [] _ hp=_
 show gL (dX (ev (dA m) 60) [] x2 ⟨[some (.bm "list.append" (.ref j)),some (.ref (b+2)),none],hp++[]⟩)=_
 rw[List.append_nil]
 have f:=qc hp m kd b tag attr tail ks z v w d r (by lia)
 have u:hp[b+5]?=some (.fn iJ (qW b) none):=d 5 (by decide)
 have q:j < hp.length:=(List.getElem?_eq_some_iff.mp l).1
 obtain ⟨x,s⟩:=writes (j:=j) (dA m) (some (.ref (b+2))) (eH tag++eM kd) acc hp none l (by lia)
 have g:(eH tag++eM kd).length+acc.length<=65536:=by lia
 refine dG (ie ((g' rfl (Hm rfl (qn d) rfl (xJ u f))).trans rfl) s) ?_
 have i:=d.set (.list (acc++(eH tag++eM kd))) h
 have e:=m8 (hp:=hp.set j (.list (acc++(eH tag++eM kd)))) y
 have c:=z9 i e.2
 have a:(hp.set j (.list (acc++(eH tag++eM kd))))[j]?=some (.list (acc++(eH tag++eM kd))):=List.getElem?_set_self q
 have k:(acc++(eH tag++eM kd)).length<=65536:=by rw[List.length_append,Nat.add_comm];exact g
 refine dG (st1:=⟨[some (.bm "list.append" (.ref j)),some (.ref (b+2)),x],hp.set j (.list (acc++((eH tag++eM kd)++eH tail)))⟩) ?_ rfl
 unfold eH at a k c e ⊢
 cases n:oC tail with
 | true=>
  refine ib (jw rfl c) (n▸e.1) (gq ((gz (xW rfl (dH (jw rfl c)) a k)).trans ?_))
  rw[List.set_set,List.append_assoc,if_pos rfl]
 | false=>
  rw[if_neg Bool.false_ne_true,List.append_nil]
  exact ic (jw rfl c) (n▸e.1) rfl
end
section
variable {hp:List O}{b p j:Nat}{tag attr tail:V}{kids:List V}
theorem iU.app (r):∀{d:Fo}{a:List Nat},iU hp a d->iU (hp++r) a d
 | .nil,a,h=>h
 | .cons _ _ _ _ _,a,⟨b,c,f,e,g,k,i⟩=>⟨b,c,f,e,g.app r,iU.app r k,iU.app r i⟩
def fA (l:List V):Option Str:=(strsOf l).bind λl=>if cO ("":Str) l then some (aw ("":Str) l) else none
theorem Dh (hv:view hp (eN a)=.lst l) (hs:fA l=some s):mj hp .rt (.dw "") [a]=some (.str s,hp):=by
 unfold fA at hs
 show ((lV (λl=>(strsOf l).bind λl=>if cO ("":Str) l then some (V.str (aw ("":Str) l)) else none) (view hp (eN a))).map λx=>(x,hp))=_
 rw[hv]
 exact qM (ee hs λss e1 e2=>dN e2 λe3 e2=>(congrArg (λo:Option (List Str)=>o.bind λl=>if cO ("":Str) l then some (V.str (aw ("":Str) l)) else none) e1).trans ((if_pos e3).trans (congrArg (λs=>some (V.str s)) (Option.some.inj e2))))
theorem zl (m) (e:ka kd < m) (f:jc tag=true) (i:jc tail=true) (g:oM kd=true) (d:eD hp b tag attr tail (refsOf ks)) (h:iU hp ks kd) (c:(eH tag++eM kd).length+1<=65536) (n:fA ((eH tag++eM kd)++eH tail)=some s) :
  ∃r,(dA (m+2)).top 197 [.ref (b+2)] [] [] hp=some (.str s,hp++[r]):=by
 refine ⟨.list ((eH tag++eM kd)++eH tail),?_⟩
 rw[kJ (m+1) (t:=LK) rfl rfl (vs:=[.ref (b+2)]) rfl]
 show gL (dX (ev (dA (m+1)) 60) [] Lj ⟨[some (.ref (b+2)),none,none],hp++[]⟩)=_
 rw[List.append_nil]
 have l:b+5 < hp.length:=d.lt (by decide)
 have a:=CD (hp:=hp++[.list []]) (j:=hp.length) (acc:=[]) m e f i g (d.app _) (iU.app _ h) (iy ..) (.inr l) ((Nat.zero_add _).symm▸c)
 rw[List.nil_append,v9] at a
 exact dG (st1:=⟨[some (.ref (b+2)),some (.ref hp.length),none],hp++[.list []]⟩) (dM (oo rfl) rfl) (dG (dM (call_top (dD (jw rfl (Ed (k:=0) rfl)) (dH rfl)) a) rfl)
  (fH (fD (i5 (dW rfl rfl rfl) rfl (iF rfl rfl rfl (dH rfl) (Dh (show view _ (.ref hp.length)=.lst _ from (congrArg (pE _) (iy ..)).trans rfl) n))))))
noncomputable def lay:Nat->Fo->List Nat×List O
 | _,.nil=>([],[])
 | b,.cons tag tail attr kids a=>
  (b::(lay (b+6+(lay (b+6) kids).2.length) a).1,e_ b tag attr tail (refsOf (lay (b+6) kids).1)++((lay (b+6) kids).2++(lay (b+6+(lay (b+6) kids).2.length) a).2))
theorem wN:∀(c:Fo) (hp r:List O),iU (hp++((lay hp.length c).2++r)) (lay hp.length c).1 c
 | .nil,hp,r=>rfl
 | .cons tag tail attr kids a,hp,r=>by
  have f:(hp++e_ hp.length tag attr tail (refsOf (lay (hp.length+6) kids).1)).length=hp.length+6:=by rw[List.length_append];rfl
  have d:=wN kids (hp++e_ hp.length tag attr tail (refsOf (lay (hp.length+6) kids).1)) ((lay (hp.length+6+(lay (hp.length+6) kids).2.length) a).2++r)
  rw[f] at d
  have g:(hp++e_ hp.length tag attr tail (refsOf (lay (hp.length+6) kids).1)++(lay (hp.length+6) kids).2).length=hp.length+6+(lay (hp.length+6) kids).2.length:=by rw[List.length_append,f]
  have e:=wN a (hp++e_ hp.length tag attr tail (refsOf (lay (hp.length+6) kids).1)++(lay (hp.length+6) kids).2) r
  rw[g] at e
  refine ⟨hp.length,_,(lay (hp.length+6) kids).1,rfl,?_,?_,?_⟩
  ·rw[lay]
   dsimp only
   rw[List.append_assoc]
   exact jJ hp _
  ·rw[lay]
   dsimp only
   simp only[List.append_assoc] at d ⊢
   exact d
  ·rw[lay]
   dsimp only
   simp only[List.append_assoc] at e ⊢
   exact e
end
noncomputable def tailD:V:=.dE [.str "tail"] [.dw ")"]
noncomputable def I3 (e:Nat->Option Fo) (above cs:List Nat) (d:Nat):List Nat->Option Fo
 | []=>some .nil
 | k::r=>if above[k]?=some d then (cs[k]?).bind λc=>(e (k+1)).bind λa=>(I3 e above cs d r).map λb=>.cons (.str (Vm.one c)) (.dw ")") tailD a b
  else if (above[k]?).isSome=true then I3 e above cs d r else none
noncomputable def rN (cs above:List Nat):Nat->Nat->Option Fo
 | 0,_=>none
 | n+1,place=>I3 (rN cs above n) above cs place (List.range cs.length)
theorem k9 {hp:List O}{l:List Nat}{k x:Nat}(h:l[k]?=some x) (a:l.length<=65536):fx hp (.lst (nats l)) (.int k)=some (.int x):=
 An (by unfold nats;rw[List.getElem?_map,h];rfl) ((List.length_map ..).symm▸a)
theorem pJ {hp:List O}{s:Str}{cs:List Nat}(a:s.cps.toList=cs) {k c:Nat}(h:cs[k]?=some c) (e:cs.length<=65536):fx hp (.dw s) (.int k)=some (.str (Vm.one c)):=by
 have b:k < cs.length:=(List.getElem?_eq_some_iff.mp h).1
 have d:s.cps.size=cs.length:=by rw[<- a];exact Array.length_toList.symm
 show (if dQ s.cps.size=true then (place (k:Int) s.cps.size).bind λj=>(s.cps[j]?).map λc=>V.str (Vm.one c) else none)=_
 rw[d,if_pos (show dQ cs.length=true from decide_eq_true e),tQ b,Option.bind_some,<-Array.getElem?_toList,a,h];rfl
theorem LW (p t v):subB [p,t] ["tail"] [v]=some [p,t,.dE [] [],.dE [.str "tail"] [v]]:=if_pos ⟨rfl,.inr rfl⟩
theorem LY (p t):subB [p,t] [] []=some [p,t,.dE [] [],.dE [] []]:=if_pos ⟨rfl,.inl rfl⟩
theorem LX (p t a v):subB [p,t,a] ["tail"] [v]=some [p,t,a,.dE [.str "tail"] [v]]:=if_pos ⟨rfl,.inr rfl⟩
noncomputable def Ox:List XS:=[(.dT (.cmp (.sub (.loc 2) (.loc 4)) [.Eq] [(.loc 1)]) [(.expr (.call (.k (.con (.ref 221))) [(.call (.k (.con (.ref 23))) [(.loc 0),(.sub (.loc 3) (.loc 4))] ["tail"] [(.k (.dw ")"))]),(.bin .Add (.loc 4) (.k (.int 1))),(.loc 2),(.loc 3)] [] []))] [])]
theorem wM {s:Str}{above:List Nat} (M:s.cps.toList=cs) (hl:cs.length<=1000) (Q:above.length<=1000) (m g) (v:Nat->Option Fo) (U:∀k u,v k=some u->∀(hp:List O) (p:Nat) (j d f:V) (l:List V),eD hp p j d f l->l.length<=60000->
   (dA (m+2)).top 221 [.ref (p+2),.int k,.lst (nats above),.dw s] [] [] hp=some (.none,hp.set (p+4) (.list (l++refsOf (lay hp.length u).1))++(lay hp.length u).2)) :
  ∀(ks:List Nat) (u:Fo),I3 v above cs g ks=some u->∀(hp:List O) (p:Nat) (j d f:V) (l:List V) (y:Option V),eD hp p j d f l->l.length+ks.length<=61000->
   ∃G,fL (ev (dA (m+2)) 59) [] (.loc 4) none Ox (nats ks) ⟨[some (.ref (p+2)),some (.int g),some (.lst (nats above)),some (.dw s),y],hp⟩ =
    some (.next,⟨[some (.ref (p+2)),some (.int g),some (.lst (nats above)),some (.dw s),G],hp.set (p+4) (.list (l++refsOf (lay hp.length u).1))++(lay hp.length u).2⟩)
 | [],u,h,hp,p,j,d,f,l,y,z,_=>by
  (refine Vm.sI h ?_;clear h;rintro rfl)
  refine ⟨y,?_⟩
  have h4:hp[p+4]?=some (.list l):=z 4 (by decide)
  have e:hp.set (p+4) (.list (l++refsOf []))++[]=hp:=by
   rw[List.append_nil,show refsOf []=[] from rfl,List.append_nil]
   refine List.ext_getElem? λi=>?_
   by_cases q:i=p+4
   ·subst q;rw[List.getElem?_set_self (z.lt (by decide)),h4]
   ·rw[List.getElem?_set_ne (aN q)]
  show some (Fl.next,_)=some (Fl.next,(⟨_,hp.set (p+4) (.list (l++refsOf []))++[]⟩:St))
  rw[e]
 | k::ks,u,h,hp,p,j,d,f,l,y,z,n=>by
  rw[List.length_cons] at n
  have H:above.length<=65536:=Nat.le_trans Q (by decide)
  by_cases I:above[k]?=some g
  ·refine ee ((if_pos I).symm.trans h) λc hc h=>ee h λa hr h=>dK h λb hg h=>?_
   subst h
   have T:p+4 < hp.length:=z.lt (by decide)
   have D:=vR (m:=m) (as:=[.ref (p+2),.str (Vm.one c)]) (kn:=["tail"]) (kv:=[.dw ")"]) (t:=.str (Vm.one c)) (a:=.dE [] []) (e:=.dE [.str "tail"] [.dw ")"]) (ks:=[.str "tail"]) (vs:=[.dw ")"]) (r:=some (.dw ")")) (LW _ _ _) rfl rfl z (Nat.le_trans (Nat.le_add_right _ _) (Nat.le_trans n (by decide)))
   have N:eD (hp.set (p+4) (.list (l++[.ref (hp.length+2)]))++e_ hp.length (.str (Vm.one c)) tailD (.dw ")") []) hp.length (.str (Vm.one c)) tailD (.dw ")") []:=by
    have:=jJ (tag:=.str (Vm.one c)) (attr:=tailD) (tail:=.dw ")") (kids:=[]) (hp.set (p+4) (.list (l++[.ref (hp.length+2)]))) []
    rwa [List.append_nil,List.length_set] at this
   have L:=U (k+1) a hr _ _ _ _ _ [] N (Nat.zero_le _)
   have A:(hp.set (p+4) (.list (l++[.ref (hp.length+2)]))++e_ hp.length (.str (Vm.one c)) tailD (.dw ")") []).length=hp.length+6:=by rw[List.length_append,List.length_set];rfl
   have B:(hp.set (p+4) (.list (l++[.ref (hp.length+2)]))++e_ hp.length (.str (Vm.one c)) tailD (.dw ")") []).set (hp.length+4) (.list (refsOf (lay (hp.length+6) a).1)) =
     hp.set (p+4) (.list (l++[.ref (hp.length+2)]))++e_ hp.length (.str (Vm.one c)) tailD (.dw ")") (refsOf (lay (hp.length+6) a).1):=by
    rw[List.set_append_right _ _ (by rw[List.length_set];exact Nat.le_add_right _ _),List.length_set,Nat.add_sub_cancel_left];rfl
   rw[A,List.nil_append,B] at L
   generalize o:hp.set (p+4) (.list (l++[.ref (hp.length+2)]))++e_ hp.length (.str (Vm.one c)) tailD (.dw ")") (refsOf (lay (hp.length+6) a).1)++(lay (hp.length+6) a).2=lx at L
   have w:lx.length=hp.length+6+(lay (hp.length+6) a).2.length:=by rw[<- o,List.length_append,List.length_append,List.length_set];rfl
   have J:eD lx p j d f (l++[.ref (hp.length+2)]):=by
    rw[<- o];exact ((z.sy _).app _).app _
   obtain ⟨G,i2⟩:=wM M hl Q m g v U ks b hg lx p j d f (l++[.ref (hp.length+2)]) (some (.int k)) J (by rw[List.length_append];show l.length+1+ks.length<=61000;rw[Nat.add_assoc,Nat.add_comm 1];exact n)
   have E:lx.set (p+4) (.list (l++[.ref (hp.length+2)]++refsOf (lay lx.length b).1))++(lay lx.length b).2=hp.set (p+4) (.list (l++refsOf (lay hp.length (.cons (.str (Vm.one c)) (.dw ")") tailD a b)).1))++(lay hp.length (.cons (.str (Vm.one c)) (.dw ")") tailD a b)).2:=by
    rw[w,lay,<-o,List.append_assoc,List.set_append_left _ _ (by rw[List.length_set];exact T),List.set_set,List.append_assoc,List.append_assoc,List.append_assoc]
    rfl
   rw[E] at i2
   exact ⟨G,eW rfl rfl (gq (ib (dW (eI rfl rfl (k9 I H)) rfl (dt rfl)) rfl (gq (gz (call_top (dD (pk (dD rfl (dH (eI rfl rfl (pJ M hc (Nat.le_trans hl (by decide)))))) rfl D) (dD (dB rfl rfl (fR _ _)) rfl)) L))))) i2⟩
  ·refine dN ((if_neg I).symm.trans h) λY h=>?_
   obtain ⟨x,hx⟩:=Option.isSome_iff_exists.mp Y
   obtain ⟨G,i⟩:=wM M hl Q m g v U ks u h hp p j d f l (some (.int k)) z (Nat.le_trans (Nat.le_succ _) n)
   exact ⟨G,eW rfl rfl (gq (jU (dW (eI rfl rfl (k9 hx H)) rfl (df λq=>I (hx.trans (congrArg some (Int.ofNat.inj q))))))) i⟩
theorem tL {hp:List O}{L:Nat}(h:L=2\/L=3\/L=4):jZ hp (.gf 0 L 1)=some (nats (List.range L)):=by
 rcases h with rfl | rfl | rfl<;>rfl
theorem len_str {s:Str} (b:s.cps.toList=cs) (h:cs.length<=65536):iP hp .len [.dw s]=some (.int (cs.length:Nat)):=by
 have a:s.cps.size=cs.length:=by rw[<- b];exact Array.length_toList.symm
 have e:dQ s.cps.size=true:=by rw[a];exact decide_eq_true h
 show (if dQ s.cps.size=true then some (V.int (s.cps.size:Nat)) else none)=_
 rw[if_pos e,a]
theorem IY (h:n=2\/n=3):n=2\/n=3\/n=4:=h.elim .inl λh=>.inr (.inl h)
theorem Dx (h:n=2\/n=3):n<=100:=by rcases h with rfl | rfl<;>decide
theorem NU (h:n=2\/n=3):n<=65536:=by rcases h with rfl | rfl<;>decide
theorem zE {s:Str}{cs above:List Nat}(l:s.cps.toList=cs) (j:cs.length=2\/cs.length=3) (q:above.length<=1000):∀(n place:Nat) (d:Fo),rN cs above n place=some d->∀m,n+3<=m->∀(hp:List O) (p:Nat) (c a b:V) (f:List V),eD hp p c a b f->f.length<=60000->
   (dA m).top 221 [.ref (p+2),.int place,.lst (nats above),.dw s] [] [] hp=some (.none,hp.set (p+4) (.list (f++refsOf (lay hp.length d).1))++(lay hp.length d).2)
 | 0,place,d,h,m,r,hp,p,c,a,b,f,g,o=>by exact Vm.nS h
 | n+1,place,d,h,m,r,hp,p,c,a,b,f,g,o=>by
  obtain ⟨m,rfl⟩:∃v,m=v+3:=⟨m - 3,by lia⟩
  obtain ⟨w,i⟩:=wM l (by lia) q m place (rN cs above n) (λk d u hp p c a b f g o=>zE l j q n k d u (m+2) (by lia) hp p c a b f g o) (List.range cs.length) d h hp p c a b f none g (by simp;lia)
  rw[kJ (m+2) (t:=LG) rfl rfl (vs:=[.ref (p+2),.int place,.lst (nats above),.dw s]) rfl]
  show gL (dX (ev (dA (m+2)) 60) [] Lh ⟨[some (.ref (p+2)),some (.int place),some (.lst (nats above)),some (.dw s),none],hp++[]⟩)=_
  rw[List.append_nil]
  have e:∀hp:List O,iP hp .range [.int (cs.length:Nat)]=some (.gf 0 (cs.length:Nat) 1):=λhp=>rfl
  exact dG (ie ((g' rfl (fJ (dH (fJ rfl (len_str l (NU j)))) (e _))).trans (pL (tL (IY j)))) i) rfl
noncomputable def kZ (n a:Nat):List Nat:=0::(List.range n).map λk=>a / n ^ k % n+if a / n ^ k % n > k then 1 else 0
noncomputable def js (l:List Nat) (k:Nat):Nat:=(l[k]?).getD 0
noncomputable def q9 (s:Str):List Nat->Nat->List Nat->Option Nat
 | path,t,[]=>some t
 | path,t,c::r=>if path.length<=3 then (match b8 s (Vm.one c) with
   | .ofNat k=>q9 s (path++[k]) (t+(path.filter λx=>decide (k < x)).length) r
   | .negSucc _=>q9 s path.dropLast t r) else none
def H7 (s:Str) (cs:List Nat) (n a:Nat) (acc:List Nat):Option (List Nat):=
 if (kZ n a).all (λx=>decide (x<=n))=true/\acc.length<=1000 then
  if (List.range (n+1)).map (λk=>js (kZ n a) (js (kZ n a) (js (kZ n a) k)))=List.replicate (n+1) 0 then
   (rN cs (kZ n a).tail 4 0).bind λd=>if oM d=true/\ka d<=10/\(eM d).length<=1000 then (fA (eM d)).bind λb=>(q9 s [] 0 b.cps.toList).map λt=>acc++[t] else none
  else some acc
 else none
noncomputable def m4 (s:Str) (cs:List Nat) (n:Nat):List Nat->List Nat->Option (List Nat)
 | acc,[]=>some acc
 | acc,x::l=>(H7 s cs n x acc).bind λacc=>m4 s cs n acc l
section
variable {hp:List O}{orc:er}{n number:Nat}{c:List Nat}{loc:List (Option V)}
noncomputable def Lw:X:=(.bin .Add (.bin .Mod (.bin .FloorDiv (.cell 1) (.bin .Pow (.cell 0) (.loc 0))) (.cell 0)) (.dT (.cmp (.bin .Mod (.bin .FloorDiv (.cell 1) (.bin .Pow (.cell 0) (.loc 0))) (.cell 0)) [.Gt] [(.loc 0)]) (.k (.int 1)) (.k (.int 0))))
def T3:X:=(.bin .Add (.list [(.k (.int 0))]) (.comp Lw [(.loc 0)] [(.bf .range [(.cell 0)])] [[]] 1 0))
theorem aa2 (a b):fy hp .Gt (.int a) (.int b)=some (decide (b < a)):=rfl
theorem aa3 (a b):fy hp .GtE (.int a) (.int b)=some (decide (b<=a)):=rfl
theorem pO {orc:er}{j:Nat}{cs:List Nat}{e:X}{st:St}{L:Nat}(h:(ev orc j).E cs e st=some (.int L,st)) (a:L=2\/L=3\/L=4):fq (ev orc (j+1)) cs (.bf .range [e]) st=some ((List.range L).map λd:Nat=>V.int (d:Int),none,st):=
 (g' rfl (fJ (v:=.gf 0 L 1) (dH h) rfl)).trans (pL (tL a))
theorem CO (a:n=2\/n=3) (b:k < n):n ^ k < 2 ^ 5/\0 < n ^ k/\n < 2 ^ 5/\0 < n/\(aa (n:Int):Int)*(k:Int)<=100000:=by
 rcases a with rfl | rfl
 ·rcases (by lia:k=0\/k=1) with rfl | rfl<;>decide
 ·rcases (by lia:k=0\/k=1\/k=2) with rfl | rfl | rfl<;>decide
theorem vI {a b:Nat}(h:b < 2 ^ 5):ab (a:Int) (b:Int)=false:=jW (.inr (Nat.le_trans (bits_le.mpr h) (by decide)))
theorem Lv {j:Nat}(o:n=2\/n=3) (k:Nat) (l:k < n) (b:hp[0]?=some (.cell (some (.int n)))) (p:hp[1]?=some (.cell (some (.int number)))) :
  (ev orc (j+8)).E [0,1,2,3] Lw ⟨[some (.int k)],hp⟩=some (.int ((number / n ^ k % n+if number / n ^ k % n > k then 1 else 0:Nat):Int),⟨[some (.int k)],hp⟩):=by
 obtain ⟨m,e,f,g,i⟩:=CO o l
 have d:eF hp .Pow (.int n) (.int k)=some (.int ((n ^ k:Nat):Int)):=(Jm _ _ i).trans (vi (Int.natCast_pow ..).symm)
 have a:∀j,(ev orc (j+4)).E [0,1,2,3] (.bin .Mod (.bin .FloorDiv (.cell 1) (.bin .Pow (.cell 0) (.loc 0))) (.cell 0)) ⟨[some (.int k)],hp⟩=some (.int ((number / n ^ k % n:Nat):Int),⟨[some (.int k)],hp⟩):=λj=>
  dB (dB (d_ rfl p) (dB (d_ rfl b) rfl d) (lP _ _ e (vI m))) (d_ rfl b) (pv _ _ g (vI f))
 by_cases h:number / n ^ k % n > k
 ·rw[if_pos h];exact dB (a (j+3)) (i5 (dW (a (j+1)) rfl rfl) (dt (Int.ofNat_lt.mpr h)) rfl) rfl
 ·rw[if_neg h];exact dB (a (j+3)) (kF (dW (a (j+1)) rfl rfl) (df λq=>h (Int.ofNat_lt.mp q)) rfl) rfl
theorem Ze (a:n=2\/n=3):n+1=2\/n+1=3\/n+1=4:=by rcases a with rfl | rfl<;>decide
theorem n6 (a:n=2\/n=3):n+1<=65536/\1+n<=65536:=by rcases a with rfl | rfl<;>decide
theorem Qn {j:Nat}(b:n=2\/n=3) (d:hp[0]?=some (.cell (some (.int n)))) (e:hp[1]?=some (.cell (some (.int number)))) :
  (ev orc (j+10)).E [0,1,2,3] T3 ⟨loc,hp⟩=some (.lst (nats (kZ n number)),⟨loc,hp⟩):=by
 have f:=fh (orc:=orc) (j:=j+8) (cs:=[0,1,2,3]) (i:=.bf .range [.cell 0]) (elt:=Lw) (g:=λk:Nat=>.int ((number / n ^ k % n+if number / n ^ k % n > k then 1 else 0:Nat):Int)) (st:=⟨loc,hp⟩) (pO (d_ rfl d) (IY b)) (λk h=>Lv b k (List.mem_range.mp h) d e) (by rw[List.length_range];exact Nat.le_of_succ_le (n6 b).1)
 refine (dB rfl f (mr (a:=[.int 0]) ?_)).trans ?_
 ·rw[List.length_map,List.length_range];exact (n6 b).2
 ·unfold kZ nats
  rw[List.map_cons,List.map_map]
  rfl
noncomputable def Uq:X:=(.cmp (.comp (.sub (.cell 3) (.sub (.cell 3) (.sub (.cell 3) (.loc 0)))) [(.loc 0)] [(.bf .range [(.bin .Add (.cell 0) (.k (.int 1)))])] [[]] 1 0) [.Eq] [(.bin .Mult (.list [(.k (.int 0))]) (.bin .Add (.cell 0) (.k (.int 1))))])
theorem yh {l:List Nat} (h:k < l.length):l[k]?=some (js l k):=by
 unfold js
 rw[List.getElem?_eq_getElem h];rfl
theorem EC {j:Nat}(h:n=2\/n=3) {a:List Nat}(d:a.length=n+1) (f:a.all (λx=>decide (x<=n))=true) (q:hp[0]?=some (.cell (some (.int n)))) (o:hp[3]?=some (.cell (some (.lst (nats a))))) :
  (ev orc (j+10)).E [0,1,2,3] Uq ⟨loc,hp⟩=some (.bool (decide ((List.range (n+1)).map (λk=>js a (js a (js a k)))=List.replicate (n+1) 0)),⟨loc,hp⟩):=by
 have e:∀k,k < n+1->js a k < n+1:=λk b=>
  Nat.lt_succ_of_le (of_decide_eq_true (List.all_eq_true.mp f _ (List.mem_of_getElem? (yh (l:=a) (d.symm▸b)))))
 have m:∀k,k < n+1->fx hp (.lst (nats a)) (.int k)=some (.int (js a k:Nat)):=λk b=>k9 (yh (d.symm▸b)) (d.symm▸(n6 h).1)
 have p:∀j loc,(ev orc (j+2)).E [0,1,2,3] (.bin .Add (.cell 0) (.k (.int 1))) ⟨loc,hp⟩=some (.int ((n+1:Nat):Int),⟨loc,hp⟩):=λj loc=>dB (d_ rfl q) rfl rfl
 have r:=fh (orc:=orc) (j:=j+8) (cs:=[0,1,2,3]) (i:=.bf .range [.bin .Add (.cell 0) (.k (.int 1))]) (elt:=(.sub (.cell 3) (.sub (.cell 3) (.sub (.cell 3) (.loc 0))))) (g:=λk:Nat=>V.int ((js a (js a (js a k)):Nat):Int)) (st:=⟨loc,hp⟩) (pO (p (j+5) _) (Ze h)) (λk b=>by
  have b:=List.mem_range.mp b
  exact eI (d_ rfl o) (eI (d_ rfl o) (eI (d_ rfl o) rfl (m k b)) (m _ (e k b))) (m _ (e _ (e k b)))) (by rw[List.length_range];exact (n6 h).1)
 have s:∀n:Nat,List.replicate n (V.int 0)=nats (List.replicate n 0):=λn=>by unfold nats;rw[List.map_replicate];rfl
 have u:(0:Int)<=((n+1:Nat):Int)/\((n+1:Nat):Int) < 65536:=⟨Int.natCast_nonneg _,by rcases h with rfl | rfl<;>decide⟩
 have t:eF hp .Mult (.lst [.int 0]) (.int ((n+1:Nat):Int))=some (.lst (nats (List.replicate (n+1) 0))):=by
  show (if 0<=((n+1:Nat):Int)/\((n+1:Nat):Int) < 65536 then some (V.lst (List.replicate (((n+1:Nat):Int)).toNat (.int 0))) else none)=_
  rw[if_pos u,Int.toNat_natCast,s]
 refine dW r (dB rfl (p (j+6) _) t) ?_
 have:=sY (hp:=hp) ((List.range (n+1)).map λk=>js a (js a (js a k))) (List.replicate (n+1) 0)
 unfold nats at this ⊢
 rw[List.map_map] at this
 exact this
end
section
variable {hp:List O}{orc:er}{n number:Nat}{c:List Nat}{loc:List (Option V)}
noncomputable def uU:List XS:=[(.asg (.cell 2) (.mt .find (.loc 0) [(.loc 5)])),(.aug (.loc 4) .Add (.dT (.cmp (.cell 2) [.GtE] [(.k (.int 0))]) (.bf .len [(.comp (.k (.int 1)) [(.loc 0)] [(.loc 3)] [[(.cmp (.loc 0) [.Gt] [(.cell 2)])]] 1 0)]) (.k (.int 0)))),(.asg (.loc 3) (.dT (.cmp (.cell 2) [.GtE] [(.k (.int 0))]) (.bin .Add (.loc 3) (.list [(.cell 2)])) (.k_ (.loc 3) (.k .none) (.un .USub (.k (.int 1))))))]
theorem Wb:aO (ae none (some (-1)) none 2).1 (ae none (some (-1)) none 2).2.1 (ae none (some (-1)) none 2).2.2=[0]:=by decide +kernel
theorem Wa:aO (ae none (some (-1)) none 3).1 (ae none (some (-1)) none 3).2.1 (ae none (some (-1)) none 3).2.2=[0,1]:=by decide +kernel
theorem E8:∀{path:List Nat},path.length<=3->nG hp (.lst (nats path)) .none (.int (-1))=some (.lst (nats path.dropLast))
 | [],_=>rfl
 | [a],_=>rfl
 | [a,b],_=>by
  show some (V.lst (List.filterMap _ (aO (ae none (some (-1)) none 2).1 (ae none (some (-1)) none 2).2.1 (ae none (some (-1)) none 2).2.2)))=_
  rw[Wb];rfl
 | [a,b,c],_=>by
  show some (V.lst (List.filterMap _ (aO (ae none (some (-1)) none 3).1 (ae none (some (-1)) none 3).2.1 (ae none (some (-1)) none 3).2.2)))=_
  rw[Wa];rfl
 | a::b::c::d::l,h=>by simp at h
section
variable {j cc t:Nat}{s:Str}{path:List Nat}{x1 x2:Option V}{c2:Option V}(h2:hp[2]?=some (.cell c2)) (hl:path.length<=3)
include h2 hl
theorem QX {k:Nat}(f:b8 s (Vm.one cc)=k):dX (ev orc (j+12)) [0,1,2,3] uU ⟨[some (.dw s),x1,x2,some (.lst (nats path)),some (.int t),some (.str (Vm.one cc))],hp⟩ =
  some (.next,⟨[some (.dw s),x1,x2,some (.lst (nats (path++[k]))),some (.int ((t+(path.filter λx=>decide (k < x)).length:Nat):Int)),some (.str (Vm.one cc))],hp.set 2 (.cell (some (.int k)))⟩):=by
 have b:(hp.set 2 (.cell (some (.int k))))[2]?=some (.cell (some (.int (k:Int)))):=List.getElem?_set_self (List.getElem?_eq_some_iff.mp h2).1
 have e:path.length<=65536:=Nat.le_trans hl (by decide)
 refine eP (dM (iF rfl rfl rfl (dH rfl) (congrArg (λd=>some (V.int d,hp)) f)) (ik rfl h2)) (eP (oh rfl (i5 (dW (d_ rfl b) rfl rfl) (dt (Int.natCast_nonneg k)) (fJ (dH (Ad (ρ:=λd:Nat=>V.int (d:Int)) (g:=λ_=>V.int 1) (λx=>decide (k < x)) ((g' rfl rfl).trans rfl) (λa _=>dW rfl (d_ rfl b) (congrArg some (decide_eq_decide.mpr Int.ofNat_lt))) (λa _ _=>rfl) e)) ((AV rfl ?_).trans (vi (congrArg _ (List.length_map ..)))))) rfl rfl)
  (gq (dM (i5 (dW (d_ rfl b) rfl rfl) (dt (Int.natCast_nonneg k)) (dB rfl (vm (dH (d_ rfl b))) ((mr ?_).trans (congrArg (λl=>some (V.lst l)) (nJ path [k]).symm)))) rfl)))
 ·rw[List.length_map];exact Nat.le_trans (List.length_filter_le ..) e
 ·rw[g6];exact Nat.le_trans (Nat.add_le_add_right hl 1) (by decide)
theorem QY (b:b8 s (Vm.one cc)=.negSucc q):dX (ev orc (j+12)) [0,1,2,3] uU ⟨[some (.dw s),x1,x2,some (.lst (nats path)),some (.int t),some (.str (Vm.one cc))],hp⟩ =
  some (.next,⟨[some (.dw s),x1,x2,some (.lst (nats path.dropLast)),some (.int t),some (.str (Vm.one cc))],hp.set 2 (.cell (some (.int (.negSucc q))))⟩):=by
 have a:(hp.set 2 (.cell (some (.int (.negSucc q)))))[2]?=some (.cell (some (.int (.negSucc q)))):=List.getElem?_set_self (List.getElem?_eq_some_iff.mp h2).1
 exact eP (dM (iF rfl rfl rfl (dH rfl) (congrArg (λd=>some (V.int d,hp)) b)) (ik rfl h2)) (eP (oh rfl (kF (dW (d_ rfl a) rfl rfl) rfl rfl) rfl rfl)
  (gq (dM (kF (dW (d_ rfl a) rfl rfl) rfl (sj rfl rfl (vl rfl) (E8 hl))) rfl)))
end
theorem set_same {l:List O} (h:l[i]?=some x):l.set i x=l:=by
 have a:i < l.length:=(List.getElem?_eq_some_iff.mp h).1
 refine List.ext_getElem? λk=>?_
 by_cases q:k=i
 ·subst q;rw[List.getElem?_set_self a,h]
 ·rw[List.getElem?_set_ne (aN q)]
theorem signs {j:Nat}{s:Str}{x1 x2:Option V}:∀(l path:List Nat) (t e:Nat),q9 s path t l=some e->∀(hp:List O) (c2 x5:Option V),hp[2]?=some (.cell c2)->
  ∃d b a,fL (ev orc (j+12)) [0,1,2,3] (.loc 5) none uU (l.map λc=>V.str (Vm.one c)) ⟨[some (.dw s),x1,x2,some (.lst (nats path)),some (.int t),x5],hp⟩ =
   some (.next,⟨[some (.dw s),x1,x2,some (.lst (nats d)),some (.int e),b],hp.set 2 (.cell a)⟩)
 | [],path,t,e,h,hp,c2,x5,h2=>by
  (refine Vm.sI h ?_;clear h;rintro rfl)
  refine ⟨path,x5,c2,?_⟩
  rw[set_same h2];rfl
 | c::l,path,t,e,h,hp,c2,x5,h2=>by
  refine dN h λhl h=>?_
  have g:2 < hp.length:=(List.getElem?_eq_some_iff.mp h2).1
  cases i:b8 s (Vm.one c) with
  | ofNat k=>
   rw[i] at h
   obtain ⟨m,b,a,f⟩:=signs l _ _ e h (hp.set 2 (.cell (some (.int k)))) _ (some (.str (Vm.one c))) (List.getElem?_set_self g)
   rw[List.set_set] at f
   exact ⟨m,b,a,eW rfl rfl (QX h2 hl i) f⟩
  | negSucc k=>
   rw[i] at h
   obtain ⟨m,b,a,f⟩:=signs l _ _ e h (hp.set 2 (.cell (some (.int (.negSucc k))))) _ (some (.str (Vm.one c))) (List.getElem?_set_self g)
   rw[List.set_set] at f
   exact ⟨m,b,a,eW rfl rfl (QY h2 hl i) f⟩
end
theorem X2:aO (ae (some 1) none none 3).1 (ae (some 1) none none 3).2.1 (ae (some 1) none none 3).2.2=[1,2]:=by decide +kernel
theorem X1:aO (ae (some 1) none none 4).1 (ae (some 1) none none 4).2.1 (ae (some 1) none none 4).2.2=[1,2,3]:=by decide +kernel
theorem E7:∀{f:List Nat},f.length=3\/f.length=4->nG hp (.lst (nats f)) (.int 1) .none=some (.lst (nats f.tail))
 | [],h=>by simp at h
 | [a],h=>by simp at h
 | [a,b],h=>by simp at h
 | [a,b,c],_=>by
  show some (V.lst (List.filterMap _ (aO (ae (some 1) none none 3).1 (ae (some 1) none none 3).2.1 (ae (some 1) none none 3).2.2)))=_
  rw[X2];rfl
 | [a,b,c,d],_=>by
  show some (V.lst (List.filterMap _ (aO (ae (some 1) none none 4).1 (ae (some 1) none none 4).2.1 (ae (some 1) none none 4).2.2)))=_
  rw[X1];rfl
 | a::b::c::d::e::l,h=>by simp at h
def H8:List XS:=[(.asg (.tup [(.loc 2),(.loc 3),(.loc 4)]) (.tup [(.call (.k (.con (.ref 23))) [(.call (.k (.con (.ref 190))) [(.k (.dw "")),(.dict [] [])] [] []),(.k (.dw ""))] [] []),(.list []),(.k (.int 0))])),(.expr (.call (.k (.con (.ref 221))) [(.loc 2),(.k (.int 0)),(.k_ (.cell 3) (.k (.int 1)) (.k .none)),(.loc 0)] [] [])),(.fI (.loc 5) (.call (.k (.con (.ref 197))) [(.loc 2)] [] []) uU),(.expr (.mt .append (.loc 1) [(.loc 4)]))]
def hY (hp hp':List O):Prop:=∀i,i < 5->hp'[i]?=hp[i]?
theorem hY.trans (h:hY a b) (k:hY b c):hY a c:=λi q=>(k i q).trans (h i q)
theorem pS {hp:List O} (h:5<=hp.length):hY hp (hp++r):=λi q=>List.getElem?_append_left (by lia)
theorem zu (h:5<=j):hY hp (hp.set j o):=λi q=>List.getElem?_set_ne (by lia)
theorem XT {a cs:List Nat} (b:a.length=cs.length+1) (c:cs.length=2\/cs.length=3):a.length=3\/a.length=4:=by rcases c with h | h<;>rw[b,h]<;>decide
structure lR (n:Nat) (acc:List Nat) (hp:List O):Prop where
 len:5<=hp.length
 h0:hp[0]?=some (.cell (some (.int n)))
 h1:∃c,hp[1]?=some (.cell c)
 h2:∃c,hp[2]?=some (.cell c)
 h3:∃c,hp[3]?=some (.cell c)
 h4:hp[4]?=some (.list (nats acc))
theorem lR.VP (h:lR n acc hp) (v):lR n acc (hp.set 1 (.cell v)):=
 ⟨(List.length_set ..).symm▸h.len,(List.getElem?_set_ne (by decide)).trans h.h0,⟨v,List.getElem?_set_self (Nat.lt_of_lt_of_le (by decide) h.len)⟩,h.h2.elim λc e=>⟨c,(List.getElem?_set_ne (by decide)).trans e⟩,h.h3.elim λc e=>⟨c,(List.getElem?_set_ne (by decide)).trans e⟩,(List.getElem?_set_ne (by decide)).trans h.h4⟩
theorem lR.VO (h:lR n acc hp) (v):lR n acc (hp.set 3 (.cell v)):=
 ⟨(List.length_set ..).symm▸h.len,(List.getElem?_set_ne (by decide)).trans h.h0,h.h1.elim λc e=>⟨c,(List.getElem?_set_ne (by decide)).trans e⟩,h.h2.elim λc e=>⟨c,(List.getElem?_set_ne (by decide)).trans e⟩,⟨v,List.getElem?_set_self (Nat.lt_of_lt_of_le (by decide) h.len)⟩,(List.getElem?_set_ne (by decide)).trans h.h4⟩
theorem EI (M) (hM:30<=M){s:Str}{f:List Nat}{x2 x3 x4 x5:Option V} (hs:s.cps.toList=cs) (E:cs.length=2\/cs.length=3) (z:f.length=cs.length+1) (o:lR cs.length acc hp) (N:hp[3]?=some (.cell (some (.lst (nats f))))) (n:acc.length<=1000) (A:rN cs f.tail 4 0=some b) (ho:oM b=true) (hd:ka b<=10) (hl:(eM b).length<=1000) (p:fA (eM b)=some fc) (ht:q9 s [] 0 fc.cps.toList=some t) :
  ∃y2 y3 y4 y5 hp',dX (ev (dA M) 58) [0,1,2,3] H8 ⟨[some (.dw s),some (.ref 4),x2,x3,x4,x5],hp⟩=some (.next,⟨[some (.dw s),some (.ref 4),y2,y3,y4,y5],hp'⟩)/\lR cs.length (acc++[t]) hp':=by
 obtain ⟨h5,Y,⟨c1,h1⟩,⟨U,h2⟩,_,h4⟩:=o
 obtain ⟨m,rfl⟩:∃m,M=m+2:=⟨M - 2,by lia⟩
 have k1:=Bm (m+1) (.dw "") [] [] none rfl hp
 have E1:eD (hp++e_ hp.length (.dw "") (.dE [] []) .none []) hp.length (.dw "") (.dE [] []) .none []:=by
  have:=jJ (tag:=.dw "") (attr:=.dE [] []) (tail:=.none) (kids:=[]) hp []
  rwa [List.append_nil] at this
 have D:(hp++e_ hp.length (.dw "") (.dE [] []) .none []).length=hp.length+6:=by rw[List.length_append];rfl
 have x:=vR (m:=m) (as:=[.ref (hp.length+2),.dw ""]) (kn:=[]) (kv:=[]) (t:=.dw "") (a:=.dE [] []) (e:=.dE [] []) (ks:=[]) (vs:=[]) (r:=none) (LY _ _) rfl rfl E1 (by simp)
 generalize i:(hp++e_ hp.length (.dw "") (.dE [] []) .none []).set (hp.length+4) (.list ([]++[.ref ((hp++e_ hp.length (.dw "") (.dE [] []) .none []).length+2)]))=mm at x
 have L:hY hp mm:=by rw[<- i];exact (pS h5).trans (zu (by lia))
 have G:mm.length=hp.length+6:=by rw[<- i,List.length_set,D]
 rw[D] at x
 have v:eD (mm++e_ (hp.length+6) (.dw "") (.dE [] []) .none []) (hp.length+6) (.dw "") (.dE [] []) .none []:=by
  have:=jJ (tag:=.dw "") (attr:=.dE [] []) (tail:=.none) (kids:=[]) mm []
  rwa [List.append_nil,G] at this
 have w:(mm++e_ (hp.length+6) (.dw "") (.dE [] []) .none []).length=hp.length+12:=by rw[List.length_append,G];rfl
 have l:=zE hs E (above:=f.tail) (by rw[List.length_tail];lia) 4 0 b A (m+2) (by lia) _ _ _ _ _ [] v (by simp)
 rw[w,List.nil_append] at l
 have q:hY mm (mm++e_ (hp.length+6) (.dw "") (.dE [] []) .none []):=pS (by lia)
 generalize hD:mm++e_ (hp.length+6) (.dw "") (.dE [] []) .none []=uf at v w l q
 have B:eD (uf.set (hp.length+6+4) (.list (refsOf (lay (hp.length+12) b).1))++(lay (hp.length+12) b).2) (hp.length+6) (.dw "") (.dE [] []) .none (refsOf (lay (hp.length+12) b).1):=(v.sy _).app _
 have Q:iU (uf.set (hp.length+6+4) (.list (refsOf (lay (hp.length+12) b).1))++(lay (hp.length+12) b).2) (lay (hp.length+12) b).1 b:=by
  have:=wN b (uf.set (hp.length+6+4) (.list (refsOf (lay (hp.length+12) b).1))) []
  rwa [List.append_nil,List.length_set,w] at this
 have T:hY uf (uf.set (hp.length+6+4) (.list (refsOf (lay (hp.length+12) b).1))++(lay (hp.length+12) b).2):=(zu (by lia)).trans (pS (by rw[List.length_set];lia))
 have I:5<=(uf.set (hp.length+6+4) (.list (refsOf (lay (hp.length+12) b).1))++(lay (hp.length+12) b).2).length:=by rw[List.length_append,List.length_set];lia
 generalize uf.set (hp.length+6+4) (.list (refsOf (lay (hp.length+12) b).1))++(lay (hp.length+12) b).2=Ny at l B Q T I
 obtain ⟨r,J⟩:=zl (s:=fc) m (by lia) rfl rfl ho B Q (by show (eM b).length+1<=65536;lia) (by show fA (eM b++[])=_;rw[List.append_nil];exact p)
 have g:hY hp (Ny++[r]):=((L.trans q).trans T).trans (pS I)
 have H:5<=(Ny++[r]).length:=by rw[List.length_append];lia
 generalize Ny++[r]=gQ at J g H
 obtain ⟨c,u,d,k5⟩:=signs (orc:=dA (m+2)) (j:=45) (x1:=some (.ref 4)) (x2:=some (.ref (hp.length+6+2))) fc.cps.toList [] 0 t ht gQ U x5 (by rw[g 2 (by decide)];exact h2)
 have h:(gQ.set 2 (.cell d))[4]?=some (.list (nats acc)):=by rw[List.getElem?_set_ne (by decide),g 4 (by decide)];exact h4
 refine ⟨some (.ref (hp.length+6+2)),some (.lst (nats c)),some (.int t),u,(gQ.set 2 (.cell d)).set 4 (.list (nats (acc++[t]))),?_,by rw[List.length_set,List.length_set];exact H,?_,⟨c1,?_⟩,⟨d,?_⟩,⟨some (.lst (nats f)),?_⟩,?_⟩
 ·have k:uf[3]?=some (.cell (some (.lst (nats f)))):=by rw[(L.trans q) 3 (by decide),N]
  have y:(nats acc).length<=65536:=(g6 acc).symm▸Nat.le_trans n (by decide)
  rw[nJ]
  rw[<- hD] at l k
  exact eP (dM (fE (dD (call_top (dD (call_top (dD rfl (dH rfl)) k1) (dH rfl)) x) (dD rfl (dH rfl)))) rfl)
   (eP (gz (call_top (dD rfl (dD rfl (dD (sj (d_ rfl k) rfl rfl (E7 (XT z E))) (dH rfl)))) l))
   (eP (ie ((g' rfl (call_top (dH rfl) J)).trans rfl) k5) (gq (gz (vn rfl h (dH rfl) h y)))))
 ·rw[List.getElem?_set_ne (by decide),List.getElem?_set_ne (by decide),g 0 (by decide),Y]
 ·rw[List.getElem?_set_ne (by decide),List.getElem?_set_ne (by decide),g 1 (by decide),h1]
 ·rw[List.getElem?_set_ne (by decide),List.getElem?_set_self (by lia)]
 ·rw[List.getElem?_set_ne (by decide),List.getElem?_set_ne (by decide),g 3 (by decide),N]
 ·rw[List.getElem?_set_self (by rw[List.length_set];lia)]
def MD:List XS:=[(.asg (.cell 3) T3),(.dT Uq H8 [])]
section
variable (M:Nat) (hM:30<=M) {s:Str}{cs:List Nat}(hs:s.cps.toList=cs) (hL:cs.length=2\/cs.length=3)
include hM hs hL
theorem Cg {x2 x3 x4 x5:Option V} (b:H7 s cs cs.length x acc=some XG) (c:lR cs.length acc hp) (B:hp[1]?=some (.cell (some (.int x)))) :
  ∃q i p m hp',dX (ev (dA M) 59) [0,1,2,3] MD ⟨[some (.dw s),some (.ref 4),x2,x3,x4,x5],hp⟩=some (.next,⟨[some (.dw s),some (.ref 4),q,i,p,m],hp'⟩)/\lR cs.length XG hp':=by
 refine dN b λd b=>?_
 obtain ⟨G,y⟩:=c.h3
 have a:=c.VO (some (.lst (nats (kZ cs.length x))))
 have r:(hp.set 3 (.cell (some (.lst (nats (kZ cs.length x))))))[3]?=some (.cell (some (.lst (nats (kZ cs.length x))))):=List.getElem?_set_self (Nat.lt_of_lt_of_le (by decide) c.len)
 have f:(kZ cs.length x).length=cs.length+1:=by unfold kZ;rw[List.length_cons,List.length_map,List.length_range]
 have v:=dM (Qn (orc:=dA M) (j:=48) (loc:=[some (.dw s),some (.ref 4),x2,x3,x4,x5]) hL c.h0 B) (ik (n:=4) (k:=3) rfl y)
 have u:=EC (orc:=dA M) (j:=48) (loc:=[some (.dw s),some (.ref 4),x2,x3,x4,x5]) hL f d.1 a.h0 r
 by_cases h:(List.range (cs.length+1)).map (λk=>js (kZ cs.length x) (js (kZ cs.length x) (js (kZ cs.length x) k)))=List.replicate (cs.length+1) 0
 ·refine ee ((if_pos h).symm.trans b) λE o b=>dN b λg b=>ee b λw l b=>dK b λt A e=>?_
  subst e
  obtain ⟨q,i,p,m,hp',z,D⟩:=EI M hM (x2:=x2) (x3:=x3) (x4:=x4) (x5:=x5) hs hL f a r d.2 o g.1 g.2.1 g.2.2 l A
  exact ⟨q,i,p,m,hp',eP v (gq (ib u (dt h) z)),D⟩
 ·obtain rfl:=Option.some.inj ((if_neg h).symm.trans b)
  exact ⟨x2,x3,x4,x5,_,eP v (gq (ic u (df h) rfl)),a⟩
theorem rb:∀(l acc ts:List Nat),m4 s cs cs.length acc l=some ts->∀(hp:List O) (x2 x3 x4 x5:Option V),lR cs.length acc hp->
  ∃g c f e hp',fL (ev (dA M) 59) [0,1,2,3] (.cell 1) none MD (nats l) ⟨[some (.dw s),some (.ref 4),x2,x3,x4,x5],hp⟩=some (.next,⟨[some (.dw s),some (.ref 4),g,c,f,e],hp'⟩)/\hp'[4]?=some (.list (nats ts))
 | [],acc,ts,h,hp,x2,x3,x4,x5,a=>⟨x2,x3,x4,x5,hp,rfl,Option.some.inj h▸a.h4⟩
 | x::l,acc,ts,h,hp,x2,x3,x4,x5,a=>ee h λb q h=>by
  obtain ⟨u,m⟩:=a.h1
  obtain ⟨g,c,f,e,hp',k,n⟩:=Cg M hM hs hL (x2:=x2) (x3:=x3) (x4:=x4) (x5:=x5) q (a.VP (some (.int x))) (List.getElem?_set_self (Nat.lt_of_lt_of_le (by decide) a.len))
  obtain ⟨p,o,j,t,d,i,r⟩:=rb l b ts h hp' g c f e n
  exact ⟨p,o,j,t,d,eW rfl (ik rfl m) k i,r⟩
end
theorem uL {hp:List O} (h:hp[i]?=some (.list (nats l))):eE hp (n+2) (.ref i)=some (.lst (nats l)):=
 (congrArg (Bd (dI (eE hp (n+1)))) h).trans (qM (lC hp n l))
theorem EH (M) (i:31<=M){s:Str} (d:s.cps.toList=cs) (c:cs.length=2\/cs.length=3) (h:m4 s cs cs.length [] (List.range (cs.length ^ cs.length))=some ts) (hp) :
  (dA M).top 226 [.dw s] [] [] hp=some (.lst (nats ts),hp):=by
 obtain ⟨m,rfl⟩:∃m,M=m+1:=⟨M - 1,by lia⟩
 obtain ⟨p,j,o,l,b,f,g⟩:=rb m (Nat.le_of_succ_le_succ i) d c _ [] ts h [.cell (some (.int cs.length)),.cell none,.cell none,.cell none,.list []] none none none none ⟨Nat.le_refl 5,rfl,⟨_,rfl⟩,⟨_,rfl⟩,⟨_,rfl⟩,rfl⟩
 refine eg m (t:=LF) (k:=1) rfl rfl rfl rfl (as':=[.dw s]) rfl (hp':=b) (v:=.ref 4) ?_ (uL (n:=7) g)
 show gL (dX (ev (dA m) 60) [0,1,2,3] Lg ⟨[some (.dw s),none,none,none,none,none],[.cell none,.cell none,.cell none,.cell none]⟩)=_
 have a:fq (ev (dA m) 59) [0,1,2,3] (.bf .range [(.bin .Pow (.cell 0) (.cell 0))]) ⟨[some (.dw s),some (.ref 4),none,none,none,none],[.cell (some (.int cs.length)),.cell none,.cell none,.cell none,.list []]⟩=some (nats (List.range (cs.length ^ cs.length)),none,⟨[some (.dw s),some (.ref 4),none,none,none,none],[.cell (some (.int cs.length)),.cell none,.cell none,.cell none,.list []]⟩):=by
  rcases c with e | e<;>rw[e]<;>kernel_rfl
 exact dG (st1:=⟨[some (.dw s),some (.ref 4),none,none,none,none],[.cell (some (.int cs.length)),.cell none,.cell none,.cell none,.list []]⟩) (dM (fE (dD (fJ rfl (len_str d (NU c))) (dH (oo rfl)))) rfl)
  (dG (ie a f) (fH (fD rfl)))
section
noncomputable def pZ (i:Nat):Str:=(["fil","stm","hpz","kmv","wbn","rso","nok","flh"]:List Str).getD i ""
def gB (i n:Nat):Str:=aM (pZ i) none (some (n:Int))
noncomputable def mZ:Nat->List Nat
 | 2=>[0,1,0]
 | _=>[0,1,1,0,2,1,3,2,0,1,0,1,0,1,2,0]
set_option maxHeartbeats 0
theorem JF:∀i,i < 8->m4 (gB i 2) (gB i 2).cps.toList 2 [] (List.range (2 ^ 2))=some (mZ 2):=by decide +kernel
theorem JE:∀i,i < 8->m4 (gB i 3) (gB i 3).cps.toList 3 [] (List.range (3 ^ 3))=some (mZ 3):=by decide +kernel
end
noncomputable def i9:List (Str×Str)->V->Option V
 | [],v=>some v
 | (a,b)::l,v=>sV (λs=>if hasSub a s=true then (if gJ s b=true then i9 l (.str (az s a b)) else none) else i9 l v) (eN v)
noncomputable def Bj (l:List (Str×Str)):List XS:=l.map (λp=>.dT (.cmp (.k (.dw p.1)) [.In] [(.loc 0)]) [(.asg (.loc 0) (.mt .replace (.loc 0) [(.k (.dw p.1)),(.k (.dw p.2))]))] [])++[.ret (.loc 0)]
noncomputable def jf:Nat->List (Str×Str)
 | 0=>[("&","&amp;"),("<","&lt;"),(">","&gt;")]
 | 1=>[("&","&amp;"),("<","&lt;"),(">","&gt;"),("\"","&quot;"),("\x0d","&#13;"),("\n","&#10;"),("\t","&#09;")]
 | 2=>[("&","&amp;"),(">","&gt;"),("\"","&quot;")]
 | 3=>[("&","&amp;"),("<","&lt;"),(">","&gt;"),("\x0d","&#xD;")]
 | _=>[("&","&amp;"),("<","&lt;"),("\"","&quot;"),("\t","&#x9;"),("\n","&#xA;"),("\x0d","&#xD;")]
theorem L' {α:Type}{f:Str->Option α}{v:V}{y:α}{G:Prop}(h:sV f v=some y) (k:∀s,v=.str s->f s=some y->G):G:=by
 cases v with
 | str s=>exact k s rfl h
 | _=>exact nS h
theorem FZ (h:gh v=true):∃s,v=.str s:=by
 cases v with
 | str s=>exact ⟨s,rfl⟩
 | _=>exact fT h
theorem A4 (a:eN v=.str s):view hp v=.str s/\isFn hp v=false/\∀n,eE hp (n+1) v=some v:=by
 cases v with
 | str t=>exact ⟨a,rfl,λ_=>rfl⟩
 | dw t=>exact ⟨a,rfl,λ_=>rfl⟩
 | _=>exact V.noConfusion a
theorem Nm (b:view hp v=.str s):fy hp .In (.dw a) v=some (hasSub a s):=(congrArg (xP .In (.dw a) (.str a)) b:_)
theorem wj (c:view hp v=.str s) (d:gJ s b=true):mj hp .nI v [.dw a,.dw b]=some (.str (az s a b),hp):=qM ((congrArg (λv=>uX v [.dw a,.dw b]) c:uX (view hp v) [.dw a,.dw b]=_).trans (if_pos d))
theorem o_:∀(l:List (Str×Str)) (v r:V),i9 l v=some r->(∃s,eN v=.str s)->dX (ev orc (j+9)) [] (Bj l) ⟨[some v],[]⟩=some (.ret r,⟨[some r],[]⟩)
 | [],v,r,h,_=>Option.some.inj h▸rfl
 | (a,b)::l,v,r,h,⟨s,hs⟩=>by
  obtain ⟨hv,hf,_⟩:=A4 (hp:=[]) hs
  have h:(if hasSub a s=true then (if gJ s b=true then i9 l (.str (az s a b)) else none) else i9 l v)=some r:=(congrArg (sV _) hs).symm.trans h
  by_cases hh:hasSub a s=true
  ·refine dN ((if_pos hh).symm.trans h) λhr h=>?_
   exact et (ib (dW rfl rfl (Nm hv)) (congrArg some hh) (gq (dM (iF rfl hf (congrArg (oU .replace) hv:_) (dD rfl (dH rfl)) (wj hv hr)) rfl))) (o_ l _ r h ⟨_,rfl⟩)
  ·exact et (ic (dW rfl rfl (Nm hv)) (congrArg some (eq_false_of_ne_true hh)) rfl) (o_ l v r ((if_neg hh).symm.trans h) ⟨s,hs⟩)
noncomputable def gM:Nat->Addr
 | 0=>44
 | 1=>51
 | 2=>58
 | 3=>65
 | _=>72
theorem W6 {P:Nat->Prop} (d:P 0) (e:P 1) (b:P 2) (f:P 3) (c:P 4) (a:h < 5):P h:=by
 cases h with
 | zero=>exact d
 | succ h=>cases h with
  | zero=>exact e
  | succ h=>cases h with
   | zero=>exact b
   | succ h=>cases h with
    | zero=>exact f
    | succ h=>cases h with
     | zero=>exact c
     | succ h=>exact absurd a (Nat.not_lt_of_le (Nat.le_add_left 5 h))
theorem DJ (m h:Nat) (hh:h < 5) (he:i9 (jf h) v=some r) (hs:∃s,eN v=.str s) (hr:∃s,eN r=.str s) (hp:List O):(dA (m+1)).top (gM h) [v] [] [] hp=some (r,hp):=by
 obtain ⟨s,UC⟩:=hs
 obtain ⟨s',Y4⟩:=hr
 have hv:eE [] 9 v=some v:=(A4 (hp:=[]) UC).2.2 8
 have qd:eE [] 9 r=some r:=(A4 (hp:=[]) Y4).2.2 8
 have hm:dI (eE [] 9) [v]=some [v]:=pR hv
 have st:=o_ (orc:=dA m) (j:=50) (jf h) v r he ⟨s,UC⟩
 have run:gL (dX (ev (dA m) 60) [] [.j_ (Bj (jf h))] ⟨[some v],[]⟩)=some (r,[]):=fH (st:(ev (dA m) 60).S [] (.j_ (Bj (jf h))) ⟨[some v],[]⟩=_)
 exact W6 (P:=λh=>gL (dX (ev (dA m) 60) [] [.j_ (Bj (jf h))] ⟨[some v],[]⟩)=some (r,[])->(dA (m+1)).top (gM h) [v] [] [] hp=some (r,hp))
  (λrun=>eg m (t:=t4) (k:=1) rfl rfl rfl rfl hm run qd) (λrun=>eg m (t:=t5) (k:=1) rfl rfl rfl rfl hm run qd) (λrun=>eg m (t:=t6) (k:=1) rfl rfl rfl rfl hm run qd)
  (λrun=>eg m (t:=t7) (k:=1) rfl rfl rfl rfl hm run qd) (λrun=>eg m (t:=t8) (k:=1) rfl rfl rfl rfl hm run qd) hh run
noncomputable def Ru (n:Nat) (a:List (Nat×Nat)) (w:Nat):List (Nat×Nat):=
 let f:=(((List.range (n - w)).map (·+w)).filter λp=>!(a.any λx=>x.1==p)).headD n
 if (a.any λx=>x.1==f) then a.map λx=>if x.1=f then (f,f - w) else x else a++[(f,f - w)]
def AE (n:Nat) (row:List Nat):List (Nat×Nat):=row.foldl (Ru n) []
def jN (n:Nat) (row:List Nat):V:=.dE (nats ((AE n row).map (·.1))) (nats ((AE n row).map (·.2)))
noncomputable def ed (n:Nat):List (List Nat):=(List.range n).foldl (λa _=>a.flatMap λb=>(List.range n).map λk=>b++[k]) [[]]
def AG (orc:er) (row:List Nat):Option V:=(fz orc U1 [] [.lst (nats row)] []).bind λx=>eE x.2 9 x.1
theorem Rw (m):(ed 2).map (AG (dA m))=(ed 2).map (λrow=>some (jN 2 row)):=by kernel_rfl
theorem Rv (m):(ed 3).map (AG (dA m))=(ed 3).map (λrow=>some (jN 3 row)):=by kernel_rfl
noncomputable def qg:V:=.dE [.str "tail",.str "lamp"] [.dw "?",.dw "!"]
noncomputable def atS (x:V):V:=.dE [.str "tail",.str "lamp"] [x,.dw "!"]
noncomputable def rS:List (V×V)->Fo
 | []=>.nil
 | (t,x)::l=>.cons t x (atS x) .nil (rS l)
def ju (hp:List O):List Nat->List (V×V)->Prop
 | [],[]=>True
 | b::a,(t,x)::l=>7<=b/\eD hp b t (atS x) x []/\ju hp a l
 | _,_=>False
section
variable {hp:List O}
theorem ju.app (r):∀{a:List Nat}{l:List (V×V)},ju hp a l->ju (hp++r) a l
 | [],[],_=>trivial
 | b::a,(t,x)::l,⟨e,d,c⟩=>⟨e,d.app r,ju.app r c⟩
theorem ju.set (f:j < 7) (o):∀{a:List Nat}{l:List (V×V)},ju hp a l->ju (hp.set j o) a l
 | [],[],_=>trivial
 | b::a,(t,x)::l,⟨e,d,c⟩=>⟨e,d.set o (.inl (by lia)),ju.set f o c⟩
theorem ju.snoc (e:7<=b) (d:eD hp b t (atS x) x []):∀{a:List Nat}{l:List (V×V)},ju hp a l->ju hp (a++[b]) (l++[(t,x)])
 | [],[],_=>⟨e,d,trivial⟩
 | c::a,(f,g)::l,⟨k1,k2,k3⟩=>⟨k1,k2,ju.snoc e d k3⟩
theorem ju.fo:∀{a:List Nat}{l:List (V×V)},ju hp a l->iU hp a (rS l)
 | [],[],_=>rfl
 | b::a,(t,x)::l,⟨e,d,c⟩=>⟨b,a,[],rfl,d,rfl,ju.fo c⟩
theorem Oe:∀l:List (V×V),ka (rS l)<=1
 | []=>Nat.zero_le _
 | (t,x)::l=>by
  have:=Oe l
  show max (0+1) (ka (rS l))<=1
  lia
end
noncomputable def nP (h:Nat):Nat->V->Option V
 | 0,v=>some v
 | d+1,v=>(i9 (jf h) v).bind (nP h d)
def zB (v:V):Bool:=gh (eN v)
theorem wQ (h:zB v=true):∃s,eN v=.str s:=FZ h
theorem qP:∀{l:List (Str×Str)}{v r:V},i9 l v=some r->zB v=true->zB r=true
 | [],v,r,h,c=>Option.some.inj h▸c
 | (a,b)::l,v,r,h,c=>L' h λs _ h=>by
  by_cases d:hasSub a s=true
  ·exact dN ((if_pos d).symm.trans h) λ_ h=>qP h rfl
  ·exact qP ((if_neg d).symm.trans h) c
noncomputable def r_:List XS:=[(.asg (.loc 8) (.call (.loc 2) [(.loc 8)] [] []))]
theorem zA (hM:2<=M) (hh:h < 5){x1 x3 x4 x5 x6 x7:Option V}:∀(l:List V) (v r:V) (x9:Option V),nP h l.length v=some r->zB v=true->
  ∃y9,zB r=true/\fL (ev (dA M) (j+5)) [] (.loc 9) none r_ l ⟨[x0,x1,some (.con (.ref (gM h))),x3,x4,x5,x6,x7,some v,x9],hp⟩=some (.next,⟨[x0,x1,some (.con (.ref (gM h))),x3,x4,x5,x6,x7,some r,y9],hp⟩)
 | [],v,r,x9,hi,hv=>by (refine Vm.sI hi ?_;clear hi;rintro rfl);exact ⟨x9,hv,rfl⟩
 | a::l,v,r,x9,hi,hv=>by
  obtain ⟨m,rfl⟩:∃m,M=m+1:=⟨M - 1,by lia⟩
  refine ee hi λw e1 e2=>?_
  have hw:=qP e1 hv
  obtain ⟨y9,hr,i⟩:=zA hM hh (j:=j) (x0:=x0) (x1:=x1) (x3:=x3) (x4:=x4) (x5:=x5) (x6:=x6) (x7:=x7) (hp:=hp) l w r (some a) e2 hw
  exact ⟨y9,hr,eW rfl rfl (gq (dM (pA (v:=.con (.ref (gM h))) rfl (dH rfl) (ks:=[]) rfl (DJ m h hh e1 (wQ hv) (wQ hw) hp)) rfl)) i⟩
theorem Q0 {hp:List O}{d:Nat}(h:d<=2):jZ hp (.gf 0 d 1)=some (nats (List.range d)):=by
 rcases (by lia:d=0\/d=1\/d=2) with rfl | rfl | rfl<;>rfl
theorem SD (h:zB x=true):fy hp .Eq (atS x) (atS x)=some true:=by
 obtain ⟨s,c⟩:=wQ h
 have e:eQ 8 x x=some true:=by
  unfold eQ
  rw[c]
  exact congrArg some (decide_eq_true rfl)
 show Bk [.str "tail",.str "lamp"] [x,.dw "!"] [.str "tail",.str "lamp"] [x,.dw "!"]=some true
 refine (if_pos ⟨rfl,rfl⟩).trans ((if_pos rfl).trans ?_)
 show (match eQ 8 x x,(some true:Option Bool) with
   | some a,some b=>some (a&&b)
   | _,_=>none)=_
 rw[e]
 rfl
noncomputable def natOf:Option V->Option Nat
 | some (.int (.ofNat d))=>some d
 | _=>none
theorem tY (h:natOf o=some d):o=some (.int d):=by
 cases o with
 | none=>exact nS h
 | some v=>cases v with
  | int i=>cases i with
   | ofNat k=>exact Option.some.inj h▸rfl
   | negSucc k=>exact nS h
  | _=>exact nS h
noncomputable def lu (h:Nat) (cs a b:List Nat):List Nat->Option (List (V×V))
 | []=>some []
 | k::e=>(cs[k]?).bind λc=>((findKey (nats a) (nats b) (.int k)).bind natOf).bind λd=>(lu h cs a b e).bind λr=>if d<=2 then (nP h d (.dw "&")).map λx=>(.str (Vm.one c),x)::r else none
noncomputable def SP:X:=(.cmp (.attr (.call (.k (.con (.ref 23))) [(.loc 4),(.sub (.loc 1) (.loc 7)),(.loc 5)] ["tail"] [(.loc 8)]) "attrib") [.Eq] [(.dict [(.k (.dw "tail")),(.k (.dw "lamp"))] [(.loc 8),(.k (.dw "!"))])])
def Jf:List XS:=[(.asg (.loc 8) (.k (.dw "&"))),(.fI (.loc 9) (.bf .range [(.sub (.loc 0) (.loc 7))]) r_),(.expr (.mt .append (.loc 6) [SP]))]
theorem CJ (c) (b):refsOf c++[V.ref (b+2)]=refsOf (c++[b]):=by
 unfold refsOf
 rw[List.map_append];rfl
structure BM (tail:V) (bs:List Nat) (l:List (V×V)) (n:Nat) (hp:List O):Prop where
 len:7<=hp.length
 E:eD hp 0 (.dw "") (.dE [.str "tail"] [tail]) tail (refsOf bs)
 h6:hp[6]?=some (.list (List.replicate n (.bool true)))
 S:ju hp bs l
 bs:bs.length=n
section
variable {m h:Nat}(hh:h < 5) {s:Str}{cs a b:List Nat}{tail:V}(hs:s.cps.toList=cs) (hL:cs.length<=100)
abbrev p7 (a b:List Nat) (s:Str) (h:Nat) (tail:V) (c y8 y9:Option V) (hp:List O):St:=⟨[some (.dE (nats a) (nats b)),some (.dw s),some (.con (.ref (gM h))),some tail,some (.ref 2),some qg,some (.ref 6),c,y8,y9],hp⟩
include hh hs hL
theorem Mr {hp:List O}{l:List (V×V)}{bs:List Nat}{k c d n:Nat}{x:V}{y8 y9:Option V}(hc:cs[k]?=some c)
  (hd:findKey (nats a) (nats b) (.int k)=some (some (.int d))) (hd2:d<=2) (hx:nP h d (.dw "&")=some x) (P:BM tail bs l n hp) (hn:n<=100) :
  ∃vq hp' z0,dX (ev (dA (m+2)) 59) [] Jf (p7 a b s h tail (some (.int k)) y8 y9 hp)=some (.next,p7 a b s h tail (some (.int k)) (some x) vq hp')/\BM tail z0 (l++[(.str (Vm.one c),x)]) (n+1) hp':=by
 obtain ⟨h7,hE,h6,hS,UL⟩:=P
 have Nu:∀hp,fx hp (.dE (nats a) (nats b)) (.int k)=some (.int d):=λhp=>(congrArg (λo:Option (Option V)=>o.bind id) hd:_)
 obtain ⟨vq,Y0,it⟩:=zA (M:=m+2) (Nat.le_add_left _ _) hh (j:=53) (x0:=some (.dE (nats a) (nats b))) (x1:=some (.dw s)) (x3:=some tail) (x4:=some (.ref 2)) (x5:=some qg) (x6:=some (.ref 6)) (x7:=some (.int k)) (hp:=hp) (nats (List.range d)) (.dw "&") x y9 (by rw[g6,List.length_range];exact hx) rfl
 have UB:=vR (m:=m) (as:=[.ref (0+2),.str (Vm.one c),qg]) (kn:=["tail"]) (kv:=[x]) (t:=.str (Vm.one c)) (a:=qg) (e:=.dE [.str "tail"] [x]) (ks:=[.str "tail",.str "lamp"]) (vs:=[x,.dw "!"]) (r:=some x) (LX _ _ _ _) rfl rfl hE (by unfold refsOf;rw[List.length_map,UL];exact Nat.le_trans hn (by decide))
 rw[CJ] at UB
 have uj:eD (hp.set (0+4) (.list (refsOf (bs++[hp.length])))++e_ hp.length (.str (Vm.one c)) (atS x) x []) hp.length (.str (Vm.one c)) (atS x) x []:=by
  have:=jJ (tag:=.str (Vm.one c)) (attr:=atS x) (tail:=x) (kids:=[]) (hp.set (0+4) (.list (refsOf (bs++[hp.length])))) []
  rwa [List.append_nil,List.length_set] at this
 have IZ:eD (hp.set (0+4) (.list (refsOf (bs++[hp.length])))++e_ hp.length (.str (Vm.one c)) (atS x) x []) 0 (.dw "") (.dE [.str "tail"] [tail]) tail (refsOf (bs++[hp.length])):=(hE.sy _).app _
 have Dv:ju (hp.set (0+4) (.list (refsOf (bs++[hp.length])))++e_ hp.length (.str (Vm.one c)) (atS x) x []) (bs++[hp.length]) (l++[(.str (Vm.one c),x)]):=ju.snoc h7 uj ((hS.set (by decide) _).app _)
 have NL:7<=(hp.set (0+4) (.list (refsOf (bs++[hp.length])))++e_ hp.length (.str (Vm.one c)) (atS x) x []).length:=by rw[List.length_append,List.length_set];exact Nat.le_trans h7 (Nat.le_add_right _ _)
 have UY:(hp.set (0+4) (.list (refsOf (bs++[hp.length])))++e_ hp.length (.str (Vm.one c)) (atS x) x [])[6]?=some (.list (List.replicate n (.bool true))):=by
  rw[List.getElem?_append_left (by rw[List.length_set];exact h7),List.getElem?_set_ne (by decide)];exact h6
 have Nv:(dA (m+2)).top 23 [.ref 2,.str (Vm.one c),qg] ["tail"] [x] hp=some (.ref (hp.length+2),hp.set (0+4) (.list (refsOf (bs++[hp.length])))++e_ hp.length (.str (Vm.one c)) (atS x) x []):=UB
 generalize hp.set (0+4) (.list (refsOf (bs++[hp.length])))++e_ hp.length (.str (Vm.one c)) (atS x) x []=Dp at Nv uj IZ Dv NL UY
 refine ⟨vq,Dp.set 6 (.list (List.replicate (n+1) (.bool true))),_,?_,by rw[List.length_set];exact NL,IZ.set _ (.inr (by decide)),List.getElem?_set_self NL,Dv.set (by decide) _,by rw[List.length_append,UL];rfl⟩
 rw[List.replicate_succ']
 exact eP (st1:=p7 a b s h tail (some (.int k)) (some (.dw "&")) y9 hp) (dM rfl rfl) (eP (ie ((g' rfl (fJ (dH (eI rfl rfl (Nu _))) rfl)).trans (pL (Q0 hd2))) it)
  (gq (gz (vn (i:=6) rfl h6 (dH (dW (jw (pk (dD rfl (dD (eI rfl rfl (pJ hs hc (Nat.le_trans hL (by decide)))) (dH rfl))) rfl Nv) (Ef uj rfl)) rfl (SD Y0))) UY (by rw[List.length_replicate];exact Nat.le_trans hn (by decide))))))
theorem places:∀(ks:List Nat) (rI:List (V×V)),lu h cs a b ks=some rI->∀(hp:List O) (l:List (V×V)) (bs:List Nat) (n:Nat) (y7 y8 y9:Option V),n+ks.length<=100->BM tail bs l n hp->
  ∃Lf Le vq hp' z0,fL (ev (dA (m+2)) 59) [] (.loc 7) none Jf (nats ks) (p7 a b s h tail y7 y8 y9 hp)=some (.next,p7 a b s h tail Lf Le vq hp')/\BM tail z0 (l++rI) (n+ks.length) hp'
 | [],rI,hi,hp,l,bs,n,y7,y8,y9,hn,P=>by
  obtain rfl:=Option.some.inj hi
  exact ⟨y7,y8,y9,hp,bs,rfl,(List.append_nil l).symm▸P⟩
 | k::ks,rI,hi,hp,l,bs,n,y7,y8,y9,hn,P=>by
  refine ee hi λc hc hi=>ee hi λd hd hi=>ee hd λo ho hd=>ee hi λr hr hi=>dN hi λhd2 hi=>dK hi λx hx e=>?_
  subst e
  rw[tY hd] at ho
  have e1:n+1+ks.length=n+(k::ks).length:=by rw[List.length_cons,Nat.add_assoc,Nat.add_comm 1]
  rw[<- e1] at hn ⊢
  obtain ⟨XK,Dn,bsa,i1,i2⟩:=Mr (m:=m) (y8:=y8) (y9:=y9) hh hs hL hc ho hd2 hx P (Nat.le_of_succ_le (Nat.le_trans (Nat.le_add_right _ _) hn))
  obtain ⟨Lf,Le,vq,hp',z0,j1,j2⟩:=places ks r hr Dn _ _ (n+1) (some (.int k)) (some x) XK hn i2
  exact ⟨Lf,Le,vq,hp',z0,eW rfl rfl i1 j1,by rw[List.append_assoc] at j2;exact j2⟩
end
theorem GH {hp:List O} (n:Nat) (h:hp[6]?=some (.list (List.replicate n (V.bool true)))):fy hp .Eq (.ref 6) (.lst (List.replicate n (.bool true)))=some true:=by
 have e:∀n,j3 (eQ 7) (List.replicate n (V.bool true)) (List.replicate n (V.bool true))=some true:=λn=>by
  induction n with
  | zero=>rfl
  | succ n ih=>exact (congrArg (td (some true)) ih:td (some true) (j3 (eQ 7) (List.replicate n (V.bool true)) (List.replicate n (V.bool true)))=_)
 have q:view hp (.ref 6)=.lst (List.replicate n (.bool true)):=congrArg (pE 6) h
 show xP .Eq (.ref 6) (view hp (.ref 6)) (.lst (List.replicate n (.bool true)))=_
 rw[q]
 exact (if_pos rfl).trans (e n)
def jB (h:Nat) (cs a b:List Nat) (tail:V):Option Str:=(lu h cs a b (List.range cs.length)).bind λc=>if oM (rS c)=true/\jc tail=true/\c.length<=10 then fA (eM (rS c)++eH tail) else none
theorem wB (v):(eH v).length<=1:=by
 unfold eH
 by_cases h:oC v=true
 ·rw[if_pos h];exact Nat.le_refl 1
 ·rw[if_neg h];exact Nat.zero_le 1
theorem vz:∀l:List (V×V),(eM (rS l)).length<=2*l.length
 | []=>Nat.le_refl _
 | (t,x)::l=>by
  have b:=vz l
  have c:=wB t
  have a:=wB x
  show (((eH t++[])++(eH x++eM (rS l)))).length<=2*(l.length+1)
  rw[List.append_nil,List.length_append,List.length_append]
  lia
theorem NX:fy hp .Eq qg qg=some true:=rfl
theorem Vy (h:x<=2*y) (k:y<=10):x+1<=65536:=by lia
theorem zm (h:jc v=true):eE [] 9 v=some v:=by
 cases v with
 | none=>rfl
 | str s=>rfl
 | dw s=>rfl
 | _=>exact fT h
theorem WW (c:eE [] 9 x=some x) (d:eE [] 9 y=some y) (hz:eE [] 9 z=some z):dI (eE [] 9) [.dE (nats a) (nats b),x,y,z]=some [.dE (nats a) (nats b),x,y,z]:=by
 have e:eE [] 9 (.dE (nats a) (nats b))=some (.dE (nats a) (nats b)):=qM (lC [] 7 b)
 exact iY e (iY c (iY d (pR hz)))
theorem Cv (M:Nat) (hM:10<=M) (hh:h < 5){s:Str} (hs:s.cps.toList=cs) (hL:cs.length=2\/cs.length=3) (ht:jB h cs a b tail=some fc) (hp:List O) :
  (dA M).top 209 [.dE (nats a) (nats b),.dw s,.con (.ref (gM h)),tail] [] [] hp=some (.str fc,hp):=by
 obtain ⟨m,rfl⟩:∃m,M=m+5:=⟨M - 5,by lia⟩
 refine ee ht λrI hi ht=>dN ht λDq ht=>?_
 obtain ⟨o1,o2,o3⟩:=Dq
 have IZ:eD (e_ 0 (.dw "") (.dE [.str "tail"] [tail]) tail []++[.list []]) 0 (.dw "") (.dE [.str "tail"] [tail]) tail (refsOf []):=jJ (tag:=.dw "") (attr:=.dE [.str "tail"] [tail]) (tail:=tail) (kids:=[]) [] [.list []]
 have WE:0+(List.range cs.length).length<=100:=by rw[List.length_range,Nat.zero_add];exact Dx hL
 obtain ⟨y7,y8,y9,hp',z0,j1,P⟩:=places (m:=m+2) (tail:=tail) hh hs (Dx hL) (List.range cs.length) rI hi (e_ 0 (.dw "") (.dE [.str "tail"] [tail]) tail []++[O.list []]) [] [] 0 none none none WE ⟨Nat.le_refl 7,IZ,rfl,trivial,rfl⟩
 rw[List.nil_append,List.length_range,Nat.zero_add] at P
 have hlen:=vz rI
 obtain ⟨r,Y7⟩:=zl (s:=fc) (m+2) (hp:=hp') (b:=0) (Nat.lt_of_le_of_lt (Oe rI) (Nat.le_add_left _ _)) (tag:=.dw "") rfl o2 o1 P.E P.S.fo (by show (eM (rS rI)).length+1<=65536;exact Vy hlen o3) ht
 refine eg (m+4) (t:=LI) (k:=4) rfl rfl rfl rfl (WW rfl rfl (zm o2)) (hp':=hp'++[r]) (v:=.str fc) ?_ rfl
 show gX (dA (m+4)) [] Li ⟨[some (.dE (nats a) (nats b)),some (.dw s),some (.con (.ref (gM h))),some tail,none,none,none,none,none,none],[]⟩=_
 rw[gW]
 have k1:(dA (m+4)).top 190 [.dw "",.dE [.str "tail"] [tail]] [] [] []=some (.ref 2,e_ 0 (.dw "") (.dE [.str "tail"] [tail]) tail []):=Bm (m+3) (.dw "") [.str "tail"] [tail] (some tail) rfl []
 have ln:∀j st,st.loc[1]?=some (some (.dw s))->(ev (dA (m+4)) (j+2)).E [] (.bf .len [(.loc 1)]) st=some (.int (cs.length:Nat),st):=λj st e=>fJ (dH (eZ e)) (len_str hs (NU hL))
 have e3:(0:Int)<=(cs.length:Nat)/\((cs.length:Nat):Int) < 65536:=⟨Int.natCast_nonneg _,by rcases hL with e | e<;>rw[e]<;>decide⟩
 have rep:∀hp:List O,eF hp .Mult (.lst [.bool true]) (.int (cs.length:Nat))=some (.lst (List.replicate cs.length (.bool true))):=λhp=>by
  show (if (0:Int)<=(cs.length:Nat)/\((cs.length:Nat):Int) < 65536 then some (V.lst (List.replicate ((cs.length:Nat):Int).toNat (.bool true))) else none)=_
  rw[if_pos e3,Int.toNat_natCast]
 refine dG (st1:=p7 a b s h tail none none none (e_ 0 (.dw "") (.dE [.str "tail"] [tail]) tail []++[.list []])) (dM (fE (dD (call_top (dD rfl (dH rfl)) k1) (dD (v:=qg) rfl (dH (oo rfl))))) rfl) ?_
 refine dG (ie (pO (ln _ _ rfl) (IY hL)) j1) ?_
 have c1:(ev (dA (m+4)) 57).E [] (.cmp (.loc 6) [.Eq] [(.bin .Mult (.list [(.k (.bool true))]) (.bf .len [(.loc 1)]))]) (p7 a b s h tail y7 y8 y9 hp')=some (.bool true,p7 a b s h tail y7 y8 y9 hp'):=dW rfl (dB rfl (ln _ _ rfl) (rep _)) (GH _ P.h6)
 have c2:(ev (dA (m+4)) 57).E [] (.cmp (.loc 5) [.Eq] [(.dict [(.k (.dw "tail")),(.k (.dw "lamp"))] [(.k (.dw "?")),(.k (.dw "!"))])]) (p7 a b s h tail y7 y8 y9 hp')=some (.bool true,p7 a b s h tail y7 y8 y9 hp'):=dW (v:=qg) (u:=qg) rfl rfl NX
 exact fH (fD (i5 (yt c1 rfl c2) rfl (call_top (dH rfl) Y7)))
def rB (n:Nat) (row:List Nat):List (Int×Int):=uZ ((List.range n).map λa=>(((row.getD a 0:Nat):Int),(a:Int)))
def AY (n:Nat) (row:List Nat):List Int:=(List.range n).map λ(a:Nat)=>(a:Int) - ((rB n row).getD a (0,0)).1
def pj (n:Nat) (row:List Nat):List Bool:=(List.range n).flatMap λt=>(List.range t).map λs=>
 decide ((AY n row).getD s 0 - (AY n row).getD t 0=if ((rB n row).getD s (0,0)).2 < ((rB n row).getD t (0,0)).2 then 0 else 1)
def wx (n:Nat) (row:List Nat):V:=.lst ((rB n row).map λp=>.tup [.int p.1,.int p.2])
def AX (n:Nat) (row:List Nat):V:=.lst ((AY n row).map .int)
def r9 (n:Nat) (row:List Nat):V:=.lst ((pj n row).map .bool)
def jr (n:Nat) (row:List Nat):Nat:=(pj n row).count true
noncomputable def Mw:X:=(.bf .sorted [(.comp (.tup [(.sub (.cell 3) (.loc 0)),(.loc 0)]) [(.loc 0)] [(.bf .range [(.cell 2)])] [[]] 1 0)])
noncomputable def R2:X:=(.comp (.bin .Sub (.loc 0) (.sub (.sub (.cell 5) (.loc 0)) (.k (.int 0)))) [(.loc 0)] [(.bf .range [(.cell 2)])] [[]] 1 0)
noncomputable def Ov:X:=(.comp (.cmp (.bin .Sub (.sub (.cell 6) (.loc 1)) (.sub (.cell 6) (.loc 0))) [.Eq] [(.dT (.cmp (.sub (.sub (.cell 5) (.loc 1)) (.k (.int 1))) [.Lt] [(.sub (.sub (.cell 5) (.loc 0)) (.k (.int 1)))]) (.k (.int 0)) (.k (.int 1)))]) [(.loc 0),(.loc 1)] [(.bf .range [(.cell 2)]),(.bf .range [(.loc 0)])] [[],[]] 2 0)
def ID:List XS:=[(.asg (.cell 5) Mw),(.asg (.cell 6) R2),(.asg (.loc 10) Ov)]
section
variable (orc:er) (x0 x1 x2 x3 x4 x5 x6 x7 x8 x9 tu:Option V) (c0 c1 c4:O) (c5 c6:Option V) (tb:O)
def FX (n:Nat) (row:List Nat):Option (Fl×St):=dX (ev orc 58) [0,1,2,3,4,5,6] ID ⟨[x0,x1,x2,x3,x4,x5,x6,x7,x8,x9,tu],[c0,c1,.cell (some (.int n)),.cell (some (.lst (nats row))),c4,.cell c5,.cell c6,tb]⟩
def A0 (n:Nat) (row:List Nat):Option (Fl×St):=some (.next,⟨[x0,x1,x2,x3,x4,x5,x6,x7,x8,x9,some (r9 n row)],[c0,c1,.cell (some (.int n)),.cell (some (.lst (nats row))),c4,.cell (some (wx n row)),.cell (some (AX n row)),tb]⟩)
theorem R5:(ed 2).map (FX orc x0 x1 x2 x3 x4 x5 x6 x7 x8 x9 tu c0 c1 c4 c5 c6 tb 2)=(ed 2).map (A0 x0 x1 x2 x3 x4 x5 x6 x7 x8 x9 c0 c1 c4 tb 2):=by kernel_rfl
theorem R4:(ed 3).map (FX orc x0 x1 x2 x3 x4 x5 x6 x7 x8 x9 tu c0 c1 c4 c5 c6 tb 3)=(ed 3).map (A0 x0 x1 x2 x3 x4 x5 x6 x7 x8 x9 c0 c1 c4 tb 3):=by kernel_rfl
end
theorem Ol:(ed 2).map (λrow=>lM (.bool true) ((pj 2 row).map .bool))=(ed 2).map λrow=>some (jr 2 row):=by kernel_rfl
theorem count3:(ed 3).map (λrow=>lM (.bool true) ((pj 3 row).map .bool))=(ed 3).map λrow=>some (jr 3 row):=by kernel_rfl
theorem qO:∀(a b:List XS) (st st1:St),dX r cs a st=some (.next,st1)->dX r cs (a++b) st=dX r cs b st1
 | [],b,st,st1,h=>by cases h;rfl
 | x::a,b,st,st1,h=>mF (f:=dX r cs a) h (λc g d=>et g (qO a b _ _ d)) λv _ e=>Fl.noConfusion e
theorem nu {st:St} (h:(ev orc (j+1)).E cs x st=some (.lst l,st)) (hp:fA l=some s):(ev orc (j+2)).E cs (.mt .join (.k (.dw "")) [x]) st=some (.str s,st):=iF (v:=.dw "") rfl rfl rfl (dH h) (Dh rfl hp)
def ones (l:List Nat):List V:=l.map λc=>V.str (Vm.one c)
theorem qY {x:Str} (a:view hp v=.str y) (h:x.cps.size+y.cps.size<=65536):eF hp .Add (.str x) v=some (.str (x++y)):=
 (congrArg (OI .Add x) a:eF hp .Add (.str x) v=_).trans (if_pos (decide_eq_true h))
section
variable {s both meant typed fc pb:Str}{cs row pieces:List Nat}{F tail:V}{ks vs:List V}{x0 x1 x2 x3 x4 x5 x6 x7 x8 x9 tu:Option V}{c4 c5 c6:Option V}{tb:List V}{n:Nat}{loc:List (Option V)}
abbrev ki (s:Str) (F:V) (n:Nat) (row:List Nat) (c4 c5 c6:Option V) (tb:List V):List O:=[.cell (some (.dw s)),.cell (some F),.cell (some (.int n)),.cell (some (.lst (nats row))),.cell c4,.cell c5,.cell c6,.list tb]
noncomputable abbrev j5:List Nat:=[0,1,2,3,4,5,6]
def FR (cs:List Nat) (k:Nat):V:=.str (Vm.one (cs.getD k 0))
theorem getD_some {cs:List Nat} (h:k < cs.length):cs[k]?=some (cs.getD k 0):=by
 rw[List.getD_eq_getElem?_getD,List.getElem?_eq_getElem h];rfl
theorem mU (h:n<=100):n<=65536:=Nat.le_trans h (by decide)
theorem FL (hs:s.cps.toList=cs) (hL:cs.length<=100) (WR:∀k∈row,k < cs.length) (hr:row.length<=100) (hm:fA (row.map (FR cs))=some meant) :
  (ev orc (j+5)).E j5 (.mt .join (.k (.dw "")) [(.comp (.sub (.cell 0) (.loc 0)) [(.loc 0)] [(.cell 3)] [[]] 1 0)]) ⟨loc,ki s F n row c4 c5 c6 tb⟩=some (.str meant,⟨loc,ki s F n row c4 c5 c6 tb⟩):=
 nu (fh (ρ:=λd:Nat=>V.int d) (g:=FR cs) rfl (λk hk=>eI (d_ rfl rfl) rfl (pJ hs (getD_some (WR k hk)) (mU hL))) (mU hr)) hm
theorem pM {st:St} (a:Up x=true) (h:(ev orc j).E cs x st=some (.str s,st)) (e:s.cps.toList=l):fq (ev orc j) cs x st=some (ones l,none,st):=
 (g' a h).trans (congrArg (λl=>some (ones l,none,st)) e)
theorem Sq (h:(findKey ks vs (.str (Vm.one c))).map (kg · (.str (Vm.one c)))=some w):mj hp .n3 (.dE ks vs) [.str (Vm.one c),.str (Vm.one c)]=some (w,hp):=qM (f:=λx=>(x,hp)) h
theorem ne_str (x):fy hp .NotEq (.str x) (.str x)=some false:=congrArg (λb=>some (!b)) (decide_eq_true (rfl:x=x))
theorem EE (hz:s.cps.size<=100) (h2:aM s none (some 2)=s2) (hr:gJ meant both=true) (Y8:(az meant s2 both).cps.toList=pieces) (Y6:pieces.length<=100){G:Nat->V} (hG:∀c∈pieces,(findKey ks vs (.str (Vm.one c))).map (kg · (.str (Vm.one c)))=some (G c)) (ht:fA (pieces.map G)=some typed) (h6:loc[6]?=some (some (.str meant))) (h0:loc[0]?=some (some (.dw both))) :
  (ev orc (j+8)).E j5 (.mt .join (.k (.dw "")) [(.comp (.mt .get (.cell 1) [(.loc 0),(.loc 0)]) [(.loc 0)] [(.mt .replace (.loc 6) [(.k_ (.cell 0) (.k .none) (.k (.int 2))),(.loc 0)])] [[]] 1 0)]) ⟨loc,ki s (.dE ks vs) n row c4 c5 c6 tb⟩=some (.str typed,⟨loc,ki s (.dE ks vs) n row c4 c5 c6 tb⟩):=
 have e:nG (ki s (.dE ks vs) n row c4 c5 c6 tb) (.dw s) .none (.int 2)=some (.dw s2):=(if_pos (decide_eq_true (mU hz))).trans (congrArg (λx=>some (V.dw x)) h2)
 nu (fh (ρ:=λc:Nat=>V.str (Vm.one c)) (g:=G) (pM rfl (iF (eZ h6) rfl rfl (dD (sj (d_ rfl rfl) rfl rfl e) (dH (eZ h0))) (wj rfl hr)) Y8)
  (λk hk=>iF (k:=.n3) (d_ rfl rfl) rfl rfl (dD rfl (dH rfl)) (Sq (hG k hk))) (mU Y6)) ht
theorem J0 {orc:er}{B:Nat->Bool}{R:Nat->V} (m:typed.cps.toList.length<=100) (d:∀c∈typed.cps.toList,∀a,orc.top 132 [.str (Vm.one c)] [] [] a=some (.bool (B c),a)) (f:∀c∈typed.cps.toList,B c=false->∀a,orc.top 178 [.str (Vm.one c)] [] [] a=some (R c,a)) (l:fA ((typed.cps.toList.filter λc=>!B c).map R)=some meant) (h:loc[6]?=some (some (.str meant))) (e:loc[7]?=some (some (.str typed))) :
  (ev orc (j+8)).E j5 (.cmp (.mt .join (.k (.dw "")) [(.comp (.call (.k (.con (.ref 178))) [(.loc 0)] [] []) [(.loc 0)] [(.loc 7)] [[(.un .Not (.call (.k (.con (.ref 132))) [(.loc 0)] [] []))]] 1 0)]) [.NotEq] [(.loc 6)]) ⟨loc,ki s F n row c4 c5 c6 tb⟩=some (.bool false,⟨loc,ki s F n row c4 c5 c6 tb⟩):=
 dW (nu (Ad (ρ:=λc:Nat=>V.str (Vm.one c)) (g:=R) (λc=>!B c) (pM rfl (eZ e) rfl) (λk b=>Jx (call_top (dH rfl) (d k b _)) rfl)
  (λk b i=>call_top (dH rfl) (f k b ((Bool.not_eq_true' _).mp i) _)) (mU m)) l) (eZ h) (ne_str _)
end
section
variable {s both meant typed fc pb:Str}{cs row pieces a b:List Nat}{F tail:V}{ks vs:List V}{c4 c5 c6:Option V}{tb:List V}{n:Nat}{loc:List (Option V)}
def nZ (a b:List Nat) (k:Nat):Nat:=((findKey (nats a) (nats b) (.int k)).bind natOf).getD 100
def s6 (cs a b:List Nat) (k:Nat):V:=.str ((Vm.one (cs.getD k 0)++"&")++bY "amp;" (nZ a b k))
noncomputable def VL:V->Str
 | .str s=>s
 | .dw s=>s
 | _=>""
def qa (tail:V):Str:=if oC tail=true then VL tail else ""
theorem KH (h:nZ a b k<=10):fx hp (.dE (nats a) (nats b)) (.int k)=some (.int (nZ a b k)):=by
 show (findKey (nats a) (nats b) (.int k)).bind id=_
 unfold nZ at h ⊢
 cases q:findKey (nats a) (nats b) (.int k) with
 | none=>rw[q] at h;exact absurd h (by decide)
 | some o=>
  rw[q] at h
  cases r:natOf o with
  | none=>exact absurd ((congrArg (λx:Option Nat=>x.getD 100<=10) r:_)▸h) (by decide)
  | some d=>exact (tY r).trans (congrArg (λx:Option Nat=>some (V.int (x.getD 100))) r.symm)
theorem Kb (h:d<=10):2+(bY "amp;" (d:Nat)).cps.size<=65536:=
 (by decide +kernel:∀d:Nat,d < 11->2+(bY "amp;" (d:Nat)).cps.size<=65536) d (Nat.lt_succ_of_le h)
theorem MM:∀d:Nat,d < 11->dQ (("amp;":Str).cps.size*((d:Nat):Int).toNat)=true:=by decide +kernel
theorem WA (h:d<=10):eF hp .Mult (.dw "amp;") (.int (d:Nat))=some (.str (bY "amp;" (d:Nat))):=by
 show (if (0:Int)<=(d:Nat)/\((d:Nat):Int) < 65536/\dQ (("amp;":Str).cps.size*((d:Nat):Int).toNat)=true then some (V.str (bY "amp;" (d:Nat))) else none)=_
 exact if_pos ⟨Int.natCast_nonneg _,Int.ofNat_lt.mpr (Nat.lt_of_le_of_lt h (by decide)),MM d (Nat.lt_succ_of_le h)⟩
theorem Ey (h:jc tail=true):view hp (if oC tail=true then tail else .dw "")=.str (qa tail):=by
 unfold qa
 by_cases q:oC tail=true
 ·rw[if_pos q,if_pos q]
  cases tail with
  | none=>exact fT q
  | str s=>rfl
  | dw s=>rfl
  | _=>exact fT h
 ·rw[if_neg q,if_neg q];rfl
theorem KG (e:s.cps.toList=cs) (f:cs.length<=100) (d:k < cs.length) (c:nZ a b k<=10) :
  (ev orc (j+5)).E j5 (.bin .Add (.bin .Add (.sub (.cell 0) (.loc 0)) (.k (.dw "&"))) (.bin .Mult (.k (.dw "amp;")) (.sub (.cell 4) (.loc 0)))) ⟨[some (.int k)],ki s F n row (some (.dE (nats a) (nats b))) c5 c6 tb⟩=some (s6 cs a b k,⟨[some (.int k)],ki s F n row (some (.dE (nats a) (nats b))) c5 c6 tb⟩):=
 dB (dB (eI (d_ rfl rfl) rfl (pJ e (getD_some d) (mU f))) rfl (qY rfl (by decide:1+1<=65536))) (dB (v:=.dw "amp;") rfl (eI (d_ rfl rfl) rfl (KH c)) (WA c)) (qY rfl (Kb c))
theorem N_ (hs:s.cps.toList=cs) (hL:cs.length=2\/cs.length=3) (hn:n=cs.length) (hd:∀k,k < n->nZ a b k<=10) (hp:fA ((List.range n).map (s6 cs a b))=some pb) (ht:jc tail=true) (hl:pb.cps.size+(qa tail).cps.size<=65536) (h2:loc[2]?=some (some tail)) :
  (ev orc (j+10)).E j5 (.bin .Add (.mt .join (.k (.dw "")) [(.comp (.bin .Add (.bin .Add (.sub (.cell 0) (.loc 0)) (.k (.dw "&"))) (.bin .Mult (.k (.dw "amp;")) (.sub (.cell 4) (.loc 0)))) [(.loc 0)] [(.bf .range [(.cell 2)])] [[]] 1 0)]) (.or [(.loc 2),(.k (.dw ""))])) ⟨loc,ki s F n row (some (.dE (nats a) (nats b))) c5 c6 tb⟩ =
   some (.str (pb++qa tail),⟨loc,ki s F n row (some (.dE (nats a) (nats b))) c5 c6 tb⟩):=by
 subst hn
 have l1:cs.length<=100:=Dx hL
 have hj:=nu (fh (orc:=orc) (j:=j+7) (cs:=j5) (st:=⟨loc,ki s F cs.length row (some (.dE (nats a) (nats b))) c5 c6 tb⟩) (ρ:=λd:Nat=>V.int d) (g:=s6 cs a b) (l:=List.range cs.length) (pO (d_ (k:=2) (i:=2) rfl rfl) (IY hL)) (λk hk=>KG (j:=j+2) hs l1 (List.mem_range.mp hk) (hd k (List.mem_range.mp hk))) (by rw[List.length_range];exact mU l1)) hp
 have ho:(ev orc (j+9)).E j5 (.or [(.loc 2),(.k (.dw ""))]) ⟨loc,ki s F cs.length row (some (.dE (nats a) (nats b))) c5 c6 tb⟩=some (if oC tail=true then tail else .dw "",⟨loc,ki s F cs.length row (some (.dE (nats a) (nats b))) c5 c6 tb⟩):=by
  by_cases q:oC tail=true
  ·rw[if_pos q];exact TR (eZ h2) ((m8 ht).1.trans (congrArg some q))
  ·rw[if_neg q];exact Ep (eZ h2) ((m8 ht).1.trans (congrArg some (eq_false_of_ne_true q))) rfl
 exact dB hj ho (qY (Ey ht) hl)
theorem JR (k:1<=M) (e:h < 5) (i:gJ fc "&amp;"=true) (g:i9 (jf h) (.str fc)=some (.str (az fc "&" "&amp;"))) (f:loc[1]?=some (some (.con (.ref (gM h))))) (d:loc[8]?=some (some (.str fc))) (c:loc[9]?=some (some (.str fc))) :
  (ev (dA M) (j+5)).E j5 (.or [(.cmp (.loc 8) [.NotEq] [(.loc 9)]),(.cmp (.call (.loc 1) [(.loc 8)] [] []) [.NotEq] [(.mt .replace (.loc 9) [(.k (.dw "&")),(.k (.dw "&amp;"))])])]) ⟨loc,hp⟩=some (.bool false,⟨loc,hp⟩):=by
 obtain ⟨m,rfl⟩:∃m,M=m+1:=⟨M - 1,(Nat.sub_add_cancel k).symm⟩
 exact Jw (dW (eZ d) (eZ c) (ne_str _)) (dW (pA (v:=.con (.ref (gM h))) (st3:=⟨loc,hp⟩) (eZ f) (dH (eZ d)) (ks:=[]) rfl (DJ m h e g ⟨_,rfl⟩ ⟨_,rfl⟩ hp)) (iF (eZ c) rfl rfl (dD rfl (dH rfl)) (wj rfl i)) (ne_str _))
end
theorem CT (M) (g:1<=M) (f:n=2\/n=3) (d:row∈ed n) (hp):(dA M).top 202 [.lst (nats row)] [] [] hp=some (jN n row,hp):=by
 obtain ⟨m,rfl⟩:∃m,M=m+1:=⟨M - 1,(Nat.sub_add_cancel g).symm⟩
 have c:AG (dA m) row=some (jN n row):=f.elim (λe=>e▸List.map_inj_left.mp (Rw m) row (e▸d)) λe=>e▸List.map_inj_left.mp (Rv m) row (e▸d)
 refine ee c λx e k=>?_
 exact eg m (t:=LJ) (k:=1) rfl rfl rfl rfl (pR (qM (lC [] 7 row))) (v:=x.1) (hp':=x.2) e k
abbrev lh (n:Nat) (row:List Nat):List Nat:=(AE n row).map (·.1)
abbrev me (n:Nat) (row:List Nat):List Nat:=(AE n row).map (·.2)
structure XH where
 (meant typed fc pb:Str)
 (pieces:List Nat)
 (G:Nat->V)
 (B:Nat->Bool)
 (R:Nat->V)
structure Hk (orc:er) (h:Nat) (s:Str) (cs:List Nat) (ks vs:List V) (both:Str) (tail:V) (n:Nat) (row:List Nat) (CE:Int) (T:XH):Prop where
 a1:∀k∈row,k < cs.length
 a2:row.length<=100
 a3:fA (row.map (FR cs))=some T.meant
 b1:gJ T.meant both=true
 b2:(az T.meant (aM s none (some 2)) both).cps.toList=T.pieces
 b3:T.pieces.length<=100
 b4:∀c∈T.pieces,(findKey ks vs (.str (Vm.one c))).map (kg · (.str (Vm.one c)))=some (T.G c)
 b5:fA (T.pieces.map T.G)=some T.typed
 d1:T.typed.cps.toList.length<=100
 d2:∀c∈T.typed.cps.toList,∀hp,orc.top 132 [.str (Vm.one c)] [] [] hp=some (.bool (T.B c),hp)
 d3:∀c∈T.typed.cps.toList,T.B c=false->∀hp,orc.top 178 [.str (Vm.one c)] [] [] hp=some (T.R c,hp)
 d4:fA ((T.typed.cps.toList.filter λc=>!T.B c).map T.R)=some T.meant
 e1:jB h cs (lh n row) (me n row) tail=some T.fc
 f1:∀k,k < n->nZ (lh n row) (me n row) k<=10
 f2:fA ((List.range n).map (s6 cs (lh n row) (me n row)))=some T.pb
 f3:T.pb++qa tail=T.fc
 f4:T.pb.cps.size+(qa tail).cps.size<=65536
 g1:gJ T.fc "&amp;"=true
 g2:i9 (jf h) (.str T.fc)=some (.str (az T.fc "&" "&amp;"))
 g3:bU T.fc ";"=CE
noncomputable def YY:XS:=(.asg (.loc 6) (.mt .join (.k (.dw "")) [(.comp (.sub (.cell 0) (.loc 0)) [(.loc 0)] [(.cell 3)] [[]] 1 0)]))
noncomputable def YX:XS:=(.asg (.loc 7) (.mt .join (.k (.dw "")) [(.comp (.mt .get (.cell 1) [(.loc 0),(.loc 0)]) [(.loc 0)] [(.mt .replace (.loc 6) [(.k_ (.cell 0) (.k .none) (.k (.int 2))),(.loc 0)])] [[]] 1 0)]))
noncomputable def YW:XS:=(.dT (.cmp (.mt .join (.k (.dw "")) [(.comp (.call (.k (.con (.ref 178))) [(.loc 0)] [] []) [(.loc 0)] [(.loc 7)] [[(.un .Not (.call (.k (.con (.ref 132))) [(.loc 0)] [] []))]] 1 0)]) [.NotEq] [(.loc 6)]) [(.ret (.list []))] [])
noncomputable def YV:XS:=(.asg (.loc 8) (.call (.k (.con (.ref 209))) [(.cell 4),(.cell 0),(.loc 1),(.loc 2)] [] []))
noncomputable def YU:XS:=(.asg (.loc 9) (.bin .Add (.mt .join (.k (.dw "")) [(.comp (.bin .Add (.bin .Add (.sub (.cell 0) (.loc 0)) (.k (.dw "&"))) (.bin .Mult (.k (.dw "amp;")) (.sub (.cell 4) (.loc 0)))) [(.loc 0)] [(.bf .range [(.cell 2)])] [[]] 1 0)]) (.or [(.loc 2),(.k (.dw ""))])))
noncomputable def YT:XS:=(.dT (.or [(.cmp (.loc 8) [.NotEq] [(.loc 9)]),(.cmp (.call (.loc 1) [(.loc 8)] [] []) [.NotEq] [(.mt .replace (.loc 9) [(.k (.dw "&")),(.k (.dw "&amp;"))])])]) [(.ret (.list []))] [])
noncomputable def WM:XS:=(.expr (.mt .append (.loc 3) [(.tup [(.mt .count (.loc 8) [(.k (.dw ";"))]),(.mt .count (.loc 10) [(.k (.bool true))])])]))
def Dj:List XS:=[YY,YX,YW,YV,YU,YT]++(ID++[WM])
def Fh:List XS:=[(.asg (.cell 4) (.call (.k (.con (.ref 202))) [(.cell 3)] [] [])),(.dT (.cmp (.cell 2) [.NotIn] [(.cell 4)]) Dj [])]
noncomputable def ej (r:List (Nat×Nat)):List V:=r.map λp=>.tup [.int (p.1:Nat),.int (p.2:Nat)]
structure Fr where (y4 y5 y6 y7 y8 y9 XM d3 d4 d5 d6:Option V)
abbrev ZP (f:Fr) (row:List Nat):Fr:={ f with d3:=some (.lst (nats row)) }
abbrev ZQ (f:Fr) (n:Nat) (row:List Nat):Fr:={ f with d3:=some (.lst (nats row)),d4:=some (jN n row) }
abbrev lT (both:Str) (h:Nat) (tail:V) (x4 x5 x6 x7 x8 x9 a:Option V):List (Option V):=[some (.dw both),some (.con (.ref (gM h))),some tail,some (.ref 7),x4,x5,x6,x7,x8,x9,a]
abbrev p8 (s both:Str) (h:Nat) (tail F:V) (n:Nat) (f:Fr) (tb:List V):St:=⟨lT both h tail f.y4 f.y5 f.y6 f.y7 f.y8 f.y9 f.XM,[.cell (some (.dw s)),.cell (some F),.cell (some (.int n)),.cell f.d3,.cell f.d4,.cell f.d5,.cell f.d6,.list tb]⟩
section
variable {s both:Str}{cs row:List Nat}{tail:V}{ks vs:List V}{c4 c5 c6:Option V}{tb:List V}{n h M:Nat}{x3 x4 x5 x6 x7 x8 x9 tu:Option V}
theorem GX (b:n=2\/n=3) (a:row∈ed n):lM (.bool true) ((pj n row).map .bool)=some (jr n row):=
 b.elim (λe=>e▸List.map_inj_left.mp Ol row (e▸a)) λe=>e▸List.map_inj_left.mp count3 row (e▸a)
theorem Kj (orc) (c:n=2\/n=3) (b:row∈ed n) (x0 x1 x2 x3 x4 x5 x6 x7 x8 x9 a) (c0 c1 c4) (c5 c6) (tb):FX orc x0 x1 x2 x3 x4 x5 x6 x7 x8 x9 a c0 c1 c4 c5 c6 tb n row=A0 x0 x1 x2 x3 x4 x5 x6 x7 x8 x9 c0 c1 c4 tb n row:=
 c.elim (λe=>e▸List.map_inj_left.mp (R5 ..) row (e▸b)) λe=>e▸List.map_inj_left.mp (R4 ..) row (e▸b)
theorem SK (h:bU fc ";"=CE):mj hp .oH (.str fc) [.dw ";"]=some (.int CE,hp):=congrArg (λi=>some (V.int i,hp)) h
theorem SM (a:n=2\/n=3) (b:row∈ed n):mj hp .nc (r9 n row) [.bool true]=some (.int (jr n row:Nat),hp):=qM (f:=λx=>(x,hp)) (qM (f:=λn:Nat=>V.int n) (GX a b))
theorem nT (g:20<=M) (f:h < 5) (c:s.cps.toList=cs) (d:cs.length=2\/cs.length=3) (m:n=cs.length) (o:row∈ed n) (D:Hk (dA M) h s cs ks vs both tail n row CE T) (r:jc tail=true) (e:tb.length<=1000) :
  dX (ev (dA M) 58) j5 Dj ⟨lT both h tail x4 x5 x6 x7 x8 x9 tu,ki s (.dE ks vs) n row (some (jN n row)) c5 c6 tb⟩ =
   some (.next,p8 s both h tail (.dE ks vs) n ⟨x4,x5,some (.str T.meant),some (.str T.typed),some (.str T.fc),some (.str T.fc),some (r9 n row),some (.lst (nats row)),some (jN n row),some (wx n row),some (AX n row)⟩ (tb++[.tup [.int CE,.int (jr n row:Nat)]])):=
 have k:cs.length<=100:=Dx d
 have b:n=2\/n=3:=m.symm▸d
 have p:s.cps.size<=100:=Array.length_toList.symm.trans (congrArg List.length c)▸k
 have a:=N_ (orc:=dA M) (j:=47) (row:=row) (F:=.dE ks vs) (c5:=c5) (c6:=c6) (tb:=tb) (loc:=lT both h tail x4 x5 (some (.str T.meant)) (some (.str T.typed)) (some (.str T.fc)) x9 tu) c d m D.f1 D.f2 r D.f4 rfl
 have q:=vn (orc:=dA M) (j:=56) (cs:=j5) (x:=.loc 3) (i:=7) (l0:=tb) (l:=tb) (st1:=p8 s both h tail (.dE ks vs) n ⟨x4,x5,some (.str T.meant),some (.str T.typed),some (.str T.fc),some (.str T.fc),some (r9 n row),some (.lst (nats row)),some (jN n row),some (wx n row),some (AX n row)⟩ tb)
  rfl rfl (dH (fE (dD (iF (x:=.loc 8) (as:=[.k (.dw ";")]) rfl rfl rfl (dH rfl) (SK D.g3)) (dH (iF (x:=.loc 10) (as:=[.k (.bool true)]) rfl rfl rfl (dH rfl) (SM b o)))))) rfl (Nat.le_trans e (by decide))
 (qO _ _ _ ⟨lT both h tail x4 x5 (some (.str T.meant)) (some (.str T.typed)) (some (.str T.fc)) (some (.str T.fc)) tu,ki s (.dE ks vs) n row (some (jN n row)) c5 c6 tb⟩
  (et (dM (FL (j:=52) c k D.a1 D.a2 D.a3) rfl) (et (dM (EE (j:=49) p rfl D.b1 D.b2 D.b3 D.b4 D.b5 rfl rfl) rfl) (et (jU (J0 (j:=49) D.d1 D.d2 D.d3 D.d4 rfl rfl))
   (et (dM (v:=.str T.fc) (call_top (j:=55) (dD rfl (dD rfl (dD rfl (dH rfl)))) (Cv M (Nat.le_trans (by decide) g) f c d D.e1 _)) rfl)
    (et (dM (D.f3▸a) rfl) (et (jU (JR (j:=52) (Nat.le_trans (by decide) g) f D.g1 D.g2 rfl rfl rfl)) rfl))))))).trans
  ((qO _ _ _ _ (Kj (dA M) b o ..)).trans
   (gq (gz q)))
def oi (orc:er) (h:Nat) (s:Str) (cs:List Nat) (ks vs:List V) (both:Str) (tail:V) (n:Nat):List (List Nat)->List (Nat×Nat)->Prop
 | [],r=>r=[]
 | row::a,r=>row∈ed n/\((∃w,findKey (nats (lh n row)) (nats (me n row)) (.int n)=some (some w))/\oi orc h s cs ks vs both tail n a r\/
   findKey (nats (lh n row)) (nats (me n row)) (.int n)=some none/\∃b c,r=(b,jr n row)::c/\(∃T,Hk orc h s cs ks vs both tail n row (b:Nat) T)/\oi orc h s cs ks vs both tail n a c)
theorem Ir (a:findKey (nats (lh n row)) (nats (me n row)) (.int n)=some o):fy hp .NotIn (.int n) (jN n row)=some (!o.isSome):=
 congrArg (λo:Option (Option V)=>(o.map λx:Option V=>x.isSome).map not) a
theorem Fg (g:20<=M) (q:h < 5) (v:s.cps.toList=cs) (m:cs.length=2\/cs.length=3) (o:n=cs.length) (y:jc tail=true) (H:oi (dA M) h s cs ks vs both tail n (row::rows) r) (c:tb.length<=1000) (f) :
  ∃t a l,dX (ev (dA M) 59) j5 Fh (p8 s both h tail (.dE ks vs) n (ZP f row) tb)=some (.next,p8 s both h tail (.dE ks vs) n t a)/\oi (dA M) h s cs ks vs both tail n rows l/\a++ej l=tb++ej r/\a.length<=tb.length+1:=by
 have b:n=2\/n=3:=o.symm▸m
 refine gk λP k=>?_
 obtain ⟨p,H⟩:=H
 have i:=CT M (Nat.le_trans (by decide) g) b p
 rcases H with ⟨⟨w,d⟩,H⟩ | ⟨d,x,u,e,⟨T,D⟩,H⟩
 ·exact k ⟨ZQ f n row,tb,r,et (dM (call_top (j:=56) (dH rfl) (i _)) rfl) (et (jU (dW rfl rfl (Ir d))) rfl),H,rfl,Nat.le_succ _⟩
 ·exact k ⟨_,_,u,et (dM (call_top (j:=56) (dH rfl) (i _)) rfl) (et (ib (dW rfl rfl (Ir d)) rfl (nT g q v m o p D y c)) rfl),H,e▸List.append_assoc ..,Nat.le_of_eq List.length_append⟩
theorem tK (m:20<=M) (g:h < 5) (k:s.cps.toList=cs) (e:cs.length=2\/cs.length=3) (j:n=cs.length) (i:jc tail=true):∀(a:List (List Nat)) (r:List (Nat×Nat)),oi (dA M) h s cs ks vs both tail n a r->
  ∀(f:Fr) (tb:List V),tb.length+a.length<=1000->
  ∃u,fL (ev (dA M) 59) j5 (.cell 3) none Fh (a.map λrow=>V.lst (nats row)) (p8 s both h tail (.dE ks vs) n f tb)=some (.next,p8 s both h tail (.dE ks vs) n u (tb++ej r))
 | [],r,H,f,tb,_=>⟨f,(congrArg (λl=>some (Fl.next,p8 s both h tail (.dE ks vs) n f l)) ((congrArg (λr=>tb++ej r) (H:r=[])).trans (List.append_nil tb))).symm⟩
 | row::a,r,H,f,tb,c=>(Fg m g k e j i H (Nat.le_trans (Nat.le_add_right _ _) c) f).elim λq b=>b.elim λd b=>b.elim λp b=>
  (tK m g k e j i a p b.2.1 q d (Nat.le_trans (Nat.add_le_add_right b.2.2.2 _) (Nat.le_trans (Nat.le_of_eq (by rw[List.length_cons,Nat.add_assoc,Nat.add_comm 1])) c))).elim λt o=>⟨t,b.2.2.1▸eW rfl rfl b.1 o⟩
end
theorem o7 (hp) (n):∀r:List (Nat×Nat),dI (eE hp (n+2)) (ej r)=some (ej r)
 | []=>rfl
 | d::l=>iY (a:=V.tup [.int (d.1:Nat),.int (d.2:Nat)]) rfl (o7 hp n l)
noncomputable def aaI:XS:=(.fI (.loc 5) (.cell 0) [(.asg (.loc 4) (.comp (.bin .Add (.loc 0) (.list [(.loc 1)])) [(.loc 0),(.loc 1)] [(.loc 4),(.bf .range [(.cell 2)])] [[],[]] 2 0))])
section
variable {s both:Str}{cs row:List Nat}{tail F:V}{ks vs:List V}{n h M:Nat}
noncomputable abbrev ly (s:Str) (F:V) (n:Nat):List O:=[.cell (some (.dw s)),.cell (some F),.cell (some (.int n)),.cell none,.cell none,.cell none,.cell none,.list []]
noncomputable def uT:List XS:=[(.asg (.loc 4) (.comp (.bin .Add (.loc 0) (.list [(.loc 1)])) [(.loc 0),(.loc 1)] [(.loc 4),(.bf .range [(.cell 2)])] [[],[]] 2 0))]
theorem L0 (orc) (x0 x1 x2 x3) (v w):fL (ev orc 59) [0,1,2,3,4,5,6] (.loc 5) none uT [v,w] ⟨[x0,x1,x2,x3,some (.lst [.lst []]),none,none,none,none,none,none],ly s F 2⟩ =
  some (.next,⟨[x0,x1,x2,x3,some (.lst ((ed 2).map λrow=>V.lst (nats row))),some w,none,none,none,none,none],ly s F 2⟩):=by kernel_rfl
theorem LZ (orc) (x0 x1 x2 x3) (v w z):fL (ev orc 59) [0,1,2,3,4,5,6] (.loc 5) none uT [v,w,z] ⟨[x0,x1,x2,x3,some (.lst [.lst []]),none,none,none,none,none,none],ly s F 3⟩ =
  some (.next,⟨[x0,x1,x2,x3,some (.lst ((ed 3).map λrow=>V.lst (nats row))),some z,none,none,none,none,none],ly s F 3⟩):=by kernel_rfl
theorem EX (orc) (f:cs.length=2\/cs.length=3) (x0 x1 x2 x3):∃w,fL (ev orc 59) [0,1,2,3,4,5,6] (.loc 5) none uT (ones cs) ⟨[x0,x1,x2,x3,some (.lst [.lst []]),none,none,none,none,none,none],ly s F cs.length⟩ =
  some (.next,⟨[x0,x1,x2,x3,some (.lst ((ed cs.length).map λrow=>V.lst (nats row))),some w,none,none,none,none,none],ly s F cs.length⟩):=by
 match cs,f with
 | [a,b],_=>exact ⟨_,L0 orc x0 x1 x2 x3 _ _⟩
 | [a,b,c],_=>exact ⟨_,LZ orc x0 x1 x2 x3 _ _ _⟩
 | [],h=>exact absurd h (by decide:¬(0=2\/0=3))
 | [a],h=>exact absurd h (by decide:¬(1=2\/1=3))
 | a::b::c::d::l,h=>exact h.elim (λe=>Nat.noConfusion (Nat.succ.inj (Nat.succ.inj e))) λe=>Nat.noConfusion (Nat.succ.inj (Nat.succ.inj (Nat.succ.inj e)))
theorem AW (a:s.cps.toList=cs) (h:cs.length<=100):iP hp .len [.dw s]=some (.int (cs.length:Nat)):=len_str a (mU h)
theorem Me:0+(ed 2).length<=1000:=by decide +kernel
theorem Md:0+(ed 3).length<=1000:=by decide +kernel
noncomputable abbrev UD (s:Str) (F:V):List O:=[.cell (some (.dw s)),.cell (some F),.cell none,.cell none,.cell none,.cell none,.cell none]
theorem EL (o:21<=M) (A:h < 5) (d:s.cps.toList=cs) (a:cs.length=2\/cs.length=3) (q:jc tail=true) (u:eE [] 9 (.dE ks vs)=some (.dE ks vs)) (H:∀M,20<=M->oi (dA M) h s cs ks vs both tail cs.length (ed cs.length) r) (hp) :
  (dA M).top 214 [.dw s,.dE ks vs,.dw both,.con (.ref (gM h)),tail] [] [] hp=some (.lst (ej r),hp):=by
 obtain ⟨m,rfl⟩:∃m,M=m+1:=⟨M - 1,(Nat.sub_add_cancel (Nat.le_trans (by decide) o)).symm⟩
 have p:20<=m:=Nat.le_of_succ_le_succ o
 have g:0+(ed cs.length).length<=1000:=a.elim (λe=>(congrArg (λn=>0+(ed n).length<=1000) e).mpr Me) λe=>(congrArg (λn=>0+(ed n).length<=1000) e).mpr Md
 refine gk λP k=>?_
 obtain ⟨w,j⟩:=EX (s:=s) (F:=.dE ks vs) (dA m) a (some (.dw both)) (some (.con (.ref (gM h)))) (some tail) (some (.ref 7))
 obtain ⟨f,i⟩:=tK p A d a rfl q (ed cs.length) r (H m p) ⟨some (.lst ((ed cs.length).map λrow=>V.lst (nats row))),some w,none,none,none,none,none,none,none,none,none⟩ [] g
 have b:fq (ev (dA m) 59) j5 (.cell 0) ⟨lT both h tail (some (.lst [.lst []])) none none none none none none,ly s (.dE ks vs) cs.length⟩=some (ones cs,none,⟨lT both h tail (some (.lst [.lst []])) none none none none none none,ly s (.dE ks vs) cs.length⟩):=congrArg (λl=>some (ones l,none,_)) d
 have c:gX (dA m) j5 HM ⟨[some (.dw both),some (.con (.ref (gM h))),some tail,none,none,none,none,none,none,none,none],UD s (.dE ks vs)⟩=some (.ref 7,(p8 s both h tail (.dE ks vs) cs.length f (ej r)).hp):=by
  have D:(ev (dA m) 60).S j5 HL ⟨[some (.dw both),some (.con (.ref (gM h))),some tail,none,none,none,none,none,none,none,none],UD s (.dE ks vs)⟩=some (.next,⟨lT both h tail (some (.lst [.lst []])) none none none none none none,ly s (.dE ks vs) cs.length⟩):=
   dM (v:=.tup [.int cs.length,.ref 7,.lst [.lst []]]) (fE (dD (fJ (dH (v:=.dw s) rfl) (AW d (Dx a))) (dD (oo (x:=.list []) rfl) (dH rfl)))) rfl
  have B:(ev (dA m) 60).S j5 (.fI (.loc 5) (.cell 0) uT) ⟨lT both h tail (some (.lst [.lst []])) none none none none none none,ly s (.dE ks vs) cs.length⟩=_:=ie b j
  have E:(ev (dA m) 60).S j5 (.fI (.cell 3) (.loc 4) Fh) ⟨lT both h tail (some (.lst ((ed cs.length).map λrow=>V.lst (nats row)))) (some w) none none none none none,ly s (.dE ks vs) cs.length⟩=_:=ie rfl i
  rw[gW]
  unfold HM
  exact dG D (dG B (dG E (fH rfl)))
 have z:(dI (eE (p8 s both h tail (.dE ks vs) cs.length f (ej r)).hp 8) (ej r)).map V.lst=some (.lst (ej r)):=qM (o7 _ 6 r)
 have y:dI (eE [] 9) [.dw s,.dE ks vs,.dw both,.con (.ref (gM h)),tail]=some [.dw s,.dE ks vs,.dw both,.con (.ref (gM h)),tail]:=iY rfl (iY u (iY rfl (iY rfl (pR (zm q)))))
 exact k (eg m (t:=LH) (k:=5) rfl rfl rfl rfl y (hp':=(p8 s both h tail (.dE ks vs) cs.length f (ej r)).hp) (v:=.ref 7) c z)
end
noncomputable def dU:List Nat:=[173,847,6150,6155,6156,6157,8203,8204,8205,8288,65279,65024,65025,65026,65027,65028,65029,65030,65031,65032,65033,65034,65035,65036,65037,65038,65039]
noncomputable def fY:List Nat:=[97,65,119808,119860,119912,120016,120172,120224,120276,120328,120380,120432]
def iZ (c num:Nat):Str:=Vm.one (fY.getD (num % 12) 0+c - 97)
def jQ (num:Nat):Str:=Vm.one (dU.getD (num / 12 % 27) 0)
def gm (c num:Nat):Str:=match num / 324 % 3 with
 | 0=>iZ c num
 | 1=>jQ num++iZ c num
 | _=>iZ c num++jQ num
noncomputable def fZ:List Nat->Nat->List V
 | [],_=>[]
 | c::cs,num=>.str (gm c num)::fZ cs (num / 972)
theorem N1 {a b:Nat}(d:0 < b) (h:ab (a:Int) (b:Int)=false):jL .FloorDiv (.int a) (.int b)=some (.int (a / b:Nat)):=by
 show (if (b:Int)=0\/ab (a:Int) (b:Int)=true then none else some (V.int (Int.fdiv a b)))=_
 rw[if_neg (pQ d h),lJ]
theorem hU {a b:Nat}(h:b < 2 ^ 20):ab (a:Int) (b:Int)=false:=jW (.inr (Nat.le_trans (bits_le.mpr h) (by decide)))
section
variable {s both:Str}{cs:List Nat}{num c:Nat}{x4 x5 x6 x7 x8 x9:Option V}{ks vs jy vs':List V}{orc:er}
theorem GZ:∀k,k < 12->∃a,fY[k]?=some a/\fY.getD k 0=a:=by decide
theorem DU:∀k,k < 12->∀c,c < 123->97<=c->nQ ((fY.getD k 0+c - 97:Nat):Int)=true:=by decide +kernel
theorem B_:∀k,k < 27->∃a,dU[k]?=some a/\dU.getD k 0=a/\nQ (a:Int)=true:=by decide +kernel
theorem KO (i):iP hp .chr [.int i]=if nQ i=true then some (.str (Vm.one i.toNat)) else none:=rfl
theorem xR {hp:List O}{i:Nat}(h:nQ (i:Int)=true):iP hp .chr [.int i]=some (.str (Vm.one i)):=(KO _).trans (if_pos h)
abbrev gQ (d:O):List O:=[.cell (some (.lst (nats dU))),.cell (some (.ref 2)),d]
noncomputable def FT:List XS:=[(.asg (.tup [(.loc 5),(.loc 6)]) (.tup [(.bf .chr [(.bin .Sub (.bin .Add (.sub (.loc 3) (.bin .Mod (.loc 2) (.k (.int 12)))) (.bf .ord [(.loc 4)])) (.k (.int 97)))]),(.bf .chr [(.sub (.cell 0) (.bin .Mod (.bin .FloorDiv (.loc 2) (.k (.int 12))) (.k (.int 27))))])])),(.ji (.cell 1) (.loc 4) (.sub (.list [(.loc 5),(.bin .Add (.loc 6) (.loc 5)),(.bin .Add (.loc 5) (.loc 6))]) (.bin .Mod (.bin .FloorDiv (.loc 2) (.k (.int 324))) (.k (.int 3))))),(.aug (.loc 2) .FloorDiv (.k (.int 972)))]
abbrev lF (s both:Str) (num:Nat) (x4 x5 x6 x7 x8 x9:Option V):List (Option V):=[some (.dw s),some (.dw both),some (.int num),some (.lst (nats fY)),x4,x5,x6,x7,x8,x9]
theorem Gx (c num):fx hp (.lst [.str (iZ c num),.str (jQ num++iZ c num),.str (iZ c num++jQ num)]) (.int (num / 324 % 3:Nat))=some (.str (gm c num)):=by
 have a:=Nat.mod_lt (num / 324) (show 0 < 3 by decide)
 unfold gm
 generalize num / 324 % 3=k at a
 rcases (by lia:k=0\/k=1\/k=2) with rfl | rfl | rfl<;>rfl
theorem GU (d:97<=c) (e:c<=122) (b:fY.getD (num % 12) 0=a):iP hp .chr [.int ((a:Int)+(c:Int) - 97)]=some (.str (iZ c num)):=
 (congrArg (λi=>iP hp .chr [.int i]) (Int.ofNat_sub (Nat.le_trans d (Nat.le_add_left c a))).symm).trans
  (b▸xR (DU _ (Nat.mod_lt _ (by decide)) _ (Nat.lt_succ_of_le e) d))
theorem Kh (g:97<=c) (e:c<=122) (d:fW ks vs (.str (Vm.one c)) (.str (gm c num))=some (jy,vs')) (j:ks.length<=1000) :
  dX (ev orc 59) [0,1] FT ⟨lF s both num (some (.str (Vm.one c))) x5 x6 x7 x8 x9,gQ (.dict ks vs)⟩ =
   some (.next,⟨lF s both (num / 972) (some (.str (Vm.one c))) (some (.str (iZ c num))) (some (.str (jQ num))) x7 x8 x9,gQ (.dict jy vs')⟩):=
 (GZ (num % 12) (Nat.mod_lt _ (by decide))).elim λa h=>(B_ (num / 12 % 27) (Nat.mod_lt _ (by decide))).elim λu k=>
  have i:some (V.str (Vm.one u))=some (.str (jQ num)):=congrArg (λu=>some (V.str (Vm.one u))) k.2.1.symm
  have b:jV (gQ (.dict ks vs)) (.ref 2) (.str (Vm.one c)) (.str (gm c num))=some (gQ (.dict jy vs')):=(if_pos ⟨rfl,Nat.le_trans j (by decide)⟩).trans (qM (f:=λx:List V×List V=>(gQ (.dict ks vs)).set 2 (.dict x.1 x.2)) d)
  eP (st1:=⟨lF s both num (some (.str (Vm.one c))) (some (.str (iZ c num))) (some (.str (jQ num))) x7 x8 x9,gQ (.dict ks vs)⟩)
   (dM (fE (dD (fJ (dH (dB (dB (eI (v:=.lst (nats fY)) rfl (dB rfl rfl (pv num 12 (by decide) (hU (by decide)))) (k9 h.1 (by decide))) (fJ (dH rfl) rfl) (fR a c)) rfl (gH _ 97))) (GU g e h.2))
    (dH (fJ (dH (eI (v:=.lst (nats dU)) rfl (dB (dB rfl rfl (lP num 12 (by decide) (hU (by decide)))) rfl (pv _ 27 (by decide) (hU (by decide)))) (k9 k.1 (by decide)))) ((xR k.2.2).trans i))))) rfl)
   (eP (yo (eI (vm (dD rfl (dD (dB rfl rfl (qY rfl (by decide:1+1<=65536))) (dH (dB rfl rfl (qY rfl (by decide:1+1<=65536))))))) (dB (dB rfl rfl (lP num 324 (by decide) (hU (by decide)))) rfl (pv _ 3 (by decide) (hU (by decide)))) (Gx c num)) rfl rfl b)
    (gq (oh rfl rfl (N1 (by decide) (hU (by decide))) rfl)))
end
theorem one_inj (h:Vm.one a=Vm.one b):a=b:=by
 have:=congrArg (λs:Str=>s.cps.toList.headD 0) h
 exact this
theorem uc (a b):fK (.str (Vm.one a)) (.str (Vm.one b))=some (decide (a=b)):=
 congrArg some (decide_eq_decide.mpr ⟨one_inj,congrArg Vm.one⟩)
theorem A2 (h:¬a=b):fK (.str (Vm.one a)) (.str (Vm.one b))=some false:=(uc a b).trans (congrArg some (decide_eq_false h))
theorem Yc {d:Type}{f:List V->List V->Option d}{r:Option d} (h:o=some (a,b)) (k:f a b=r):(match (generalizing:=false) o with | some (a,b)=>f a b | none=>none)=r:=h▸k
theorem rq (c) (v):∀(l:List Nat) (vs:List V),l.length=vs.length->c∉l->fW (ones l) vs (.str (Vm.one c)) v=some (ones (l++[c]),vs++[v])
 | [],[],_,_=>rfl
 | [],_::_,h,_=>Nat.noConfusion h
 | _::_,[],h,_=>Nat.noConfusion h
 | a::l,w::vs,h,hc=>qF (A2 λq=>hc (q▸.head _)) (Yc (rq c v l vs (Nat.succ.inj h) λq=>hc (.tail _ q)) rfl)
theorem B7:∀(cs:List Nat) (num:Nat),(fZ cs num).length=cs.length
 | [],_=>rfl
 | c::cs,num=>congrArg (·+1) (B7 cs _)
theorem wz (l):(ones l).length=l.length:=List.length_map ..
section
variable {s both:Str}{cs:List Nat}{num c:Nat}{x4 x5 x6 x7 x8 x9:Option V}{ks vs jy vs':List V}{orc:er}
theorem oW:∀(l done:List Nat) (vs:List V) (num:Nat) (x4 x5 x6:Option V),(∀c∈l,97<=c/\c<=122)->(done++l).Nodup->done.length=vs.length->done.length+l.length<=100->
  ∃a f e g,fL (ev orc 59) [0,1] (.loc 4) none FT (ones l) ⟨lF s both num x4 x5 x6 x7 x8 x9,gQ (.dict (ones done) vs)⟩ =
   some (.next,⟨lF s both a f e g x7 x8 x9,gQ (.dict (ones (done++l)) (vs++fZ l num))⟩)
 | [],done,vs,num,x4,x5,x6,_,_,_,_=>⟨num,x4,x5,x6,(congr (congrArg (λ(l:List Nat) v=>some (Fl.next,(⟨lF s both num x4 x5 x6 x7 x8 x9,gQ (.dict (ones l) v)⟩:St))) (List.append_nil done)) (List.append_nil vs)).symm⟩
 | c::l,done,vs,num,x4,x5,x6,hc,m,i,b=>by
  refine gk λP k=>?_
  have d:c∉done:=λq=>(List.nodup_append.mp m).2.2 c q c (.head _) rfl
  have n:(done++[c]).length+l.length<=100:=by rw[List.length_append,Nat.add_assoc,Nat.add_comm [c].length];exact b
  have o:=Kh (orc:=orc) (s:=s) (both:=both) (num:=num) (x5:=x5) (x6:=x6) (x7:=x7) (x8:=x8) (x9:=x9) (hc c (.head _)).1 (hc c (.head _)).2 (rq c (.str (gm c num)) done vs i d) (by rw[wz];exact Nat.le_trans (Nat.le_add_right _ _) (Nat.le_trans b (by decide)))
  obtain ⟨a,f,e,g,j⟩:=oW l (done++[c]) (vs++[.str (gm c num)]) (num / 972) (some (.str (Vm.one c))) (some (.str (iZ c num))) (some (.str (jQ num))) (λc h=>hc c (.tail _ h)) ((List.append_assoc done [c] l).symm▸m) (by rw[List.length_append,List.length_append,i];rfl) n
  rw[List.append_assoc,List.append_assoc] at j
  exact k ⟨a,f,e,g,eW rfl rfl o j⟩
theorem Tz (c:Nat):qm.contains (c:Int)=dU.contains c:=by
 have e:∀x∈qm,0<=x/\x.toNat∈dU:=by decide +kernel
 have a:∀x∈dU,(x:Int)∈qm:=by decide +kernel
 rw[Bool.eq_iff_iff,List.contains_iff_mem,List.contains_iff_mem]
 exact ⟨λh=>(e _ h).2,a c⟩
theorem wW (c:Nat):∀l:List Nat,zC (.int c) (nats l)=some (l.contains c)
 | []=>rfl
 | a::l=>by
  have e:decide ((a:Int)=(c:Int))=(c==a):=decide_eq_decide.mpr ⟨λh=>(Int.ofNat.inj h).symm,λh=>congrArg Int.ofNat h.symm⟩
  have i:=wW c l
  unfold nats at i ⊢
  rw[List.map_cons,zC,i]
  show some (decide ((a:Int)=(c:Int))||l.contains c)=_
  rw[List.contains_cons,e]
noncomputable def bools (l:List Bool):List V:=l.map .bool
theorem xw (l):fy hp .Eq (.lst (bools l)) (.lst (bools l))=some true:=by
 have e:∀l:List Bool,j3 (eQ 7) (bools l) (bools l)=some true:=λl=>by
  induction l with
  | nil=>rfl
  | cons a l b=>
   have q:eQ 7 (.bool a) (.bool a)=some true:=by cases a<;>rfl
   exact (congr (congrArg td q) b:td (eQ 7 (.bool a) (.bool a)) (j3 (eQ 7) (bools l) (bools l))=_)
 exact (if_pos rfl).trans (e l)
theorem z7 (M) (a:1<=M) (c) (hp):(dA M).top 132 [.str (Vm.one c)] [] [] hp=some (.bool (dU.contains c),hp):=by
 obtain ⟨m,rfl⟩:∃m,M=m+1:=⟨M - 1,(Nat.sub_add_cancel a).symm⟩
 rw[EJ m rfl,<-Tz]
 rfl
end
theorem I5:∀(l:List Str) (acc:Array Nat),(l.foldl (λacc p=>acc++("":Str).cps++p.cps) acc).toList=acc.toList++l.flatMap (·.cps.toList)
 | [],acc=>(List.append_nil _).symm
 | x::l,acc=>by
  have e:("":Str).cps.toList=[]:=rfl
  rw[List.foldl_cons,I5 l,Array.toList_append,Array.toList_append,e,List.append_nil,List.flatMap_cons,List.append_assoc]
theorem join_list:∀l:List Str,(aw "" l).cps.toList=l.flatMap (·.cps.toList)
 | []=>rfl
 | x::l=>I5 l x.cps
theorem EY (h:x<=k) (i:a<=b+x+0+k*m):a<=b+k*(m+1):=by
 rw[Nat.add_zero,Nat.add_assoc,Nat.add_comm x] at i
 exact Nat.le_trans i (Nat.add_le_add_left (Nat.add_le_add_left h _) _)
theorem w7:∀(l:List Str) (k n:Nat),(∀x∈l,x.length<=k)->l.foldl (λa x=>a+x.length+("":Str).length) n<=n+k*l.length
 | [],k,n,_=>Nat.le_add_right _ _
 | x::l,k,n,h=>EY (h x (.head _)) (w7 l k (n+x.length+0) λy b=>h y (.tail _ b))
theorem joinOk_of (h:∀x∈l,x.length<=k) (b:k*l.length<=60000):cO "" l=true:=by
 have e:b0 (l.foldl (λa x=>a+x.length+("":Str).length) 0)=false:=decide_eq_false (Nat.not_lt.mpr (Nat.le_trans (w7 l k 0 h) (by rw[Nat.zero_add];exact Nat.le_trans b (by decide))))
 unfold cO
 rw[List.foldl_toArray,e];rfl
theorem rl:∀l:List Str,strsOf (l.map .str)=some l
 | []=>rfl
 | x::l=>by
  show (strsOf (l.map .str)).map (x::·)=_
  rw[rl l];rfl
theorem CX (h:∀x∈l,x.length<=k) (a:k*l.length<=60000):fA (l.map .str)=some (aw "" l):=by
 show (strsOf (l.map .str)).bind _=_
 rw[rl];exact if_pos (joinOk_of h a)
theorem mf {α:Type}{f:α->Str}{l:List α} (h:∀x,(f x).length<=k) (c:k*l.length<=60000):fA (l.map λx=>.str (f x))=some (aw "" (l.map f)):=by
 have:=CX (l:=l.map f) (k:=k) (λx b=>(List.mem_map.mp b).elim λa e=>e.2▸h a) (by rw[List.length_map];exact c)
 rw[List.map_map] at this
 exact this
theorem xj:∀(l:List Str) (k:Nat),(∀x∈l,x.length<=k)->(l.flatMap (·.cps.toList)).length<=k*l.length
 | [],k,_=>Nat.zero_le _
 | x::l,k,h=>by
  rw[List.flatMap_cons,List.length_append,Nat.add_comm]
  exact Nat.add_le_add (xj l k λy a=>h y (.tail _ a)) (h x (.head _))
theorem ud {α:Type}{f:α->Str}{l:List α} (h:∀x,(f x).length<=k):(aw "" (l.map f)).cps.size<=k*l.length:=by
 have:=xj (l.map f) k λx b=>(List.mem_map.mp b).elim λa e=>e.2▸h a
 rw[<- join_list,List.length_map] at this
 exact this
noncomputable def j':List Nat->Nat->Nat->Str
 | [],_,_=>""
 | a::d,b,c=>if a=c then gm a b else j' d (b / 972) c
theorem xq (c):∀(cs:List Nat) (num:Nat),c∈cs->findKey (ones cs) (fZ cs num) (.str (Vm.one c))=some (some (.str (j' cs num c)))
 | [],_,h=>nomatch h
 | a::cs,num,h=>by
  show _=some (some (V.str (if a=c then gm a num else j' cs (num / 972) c)))
  by_cases e:a=c
  ·rw[if_pos e];exact qT ((uc a c).trans (dt e)) rfl
  ·rw[if_neg e];exact qF (A2 e) (xq c cs _ ((List.mem_cons.mp h).resolve_left λq=>e q.symm))
theorem DI (c):∀(cs:List Nat) (num:Nat),c∉cs->findKey (ones cs) (fZ cs num) (.str (Vm.one c))=some none
 | [],_,h=>rfl
 | a::cs,num,h=>qF (A2 λe=>h (e▸.head _)) (DI c cs _ λq=>h (.tail _ q))
theorem z_ {x y:Str} (h:x.cps.size=1) (k:y.cps.size=1):(x++y).length<=2:=Nat.le_of_eq ((Array.size_append:(x.cps++y.cps).size=_).trans (congr (congrArg (λa b:Nat=>a+b) h) k))
theorem DE (c num):(gm c num).length<=2:=by
 unfold gm
 match num / 324 % 3 with
 | 0=>exact Nat.le_succ 1
 | 1=>exact z_ (x:=jQ num) (y:=iZ c num) rfl rfl
 | n+2=>exact z_ (x:=iZ c num) (y:=jQ num) rfl rfl
theorem nV (c):∀(cs:List Nat) (num:Nat),(j' cs num c).length<=2
 | [],_=>Nat.zero_le _
 | a::cs,num=>by
  show (if a=c then gm a num else j' cs (num / 972) c).length<=2
  by_cases e:a=c
  ·rw[if_pos e];exact DE _ _
  ·rw[if_neg e];exact nV c cs _
theorem Bc (hp) (n):∀(cs:List Nat) (num:Nat),dI (eE hp (n+1)) (fZ cs num)=some (fZ cs num)
 | [],_=>rfl
 | c::cs,num=>iY (a:=V.str (gm c num)) rfl (Bc hp n cs _)
def HZ:Str:=aw "" (dU.map Vm.one)
theorem Ly:fA (ones dU)=some HZ:=by kernel_rfl
theorem vy:HZ.cps.size=27:=by decide +kernel
def nF (cs:List Nat) (num:Nat) (both:Str):Str:=(aw "" (cs.map (j' cs num))++both)++HZ
section
variable {s both:Str}{cs:List Nat}{num oP c:Nat}{x4 x5 x6 x7 x8 x9:Option V}{orc:er}
theorem Lx:∀c∈dU,nQ (c:Int)=true:=by decide +kernel
theorem qz (a:cs.length<=100) (b:both.cps.size<=10):(aw "" (cs.map (j' cs num))).cps.size+both.cps.size<=300:=
 Nat.le_trans (Nat.add_le_add (Nat.le_trans (ud (nV · cs num)) (Nat.mul_le_mul_left 2 a)) b) (by decide)
theorem yk {a b:Str}:(a++b).cps.size=a.cps.size+b.cps.size:=Array.size_append
theorem Ar (k:s.cps.toList=cs) (a:cs.length<=100) (f:both.cps.size<=10) (d) (i:∀c∈cs,findKey (ones cs) d (.str (Vm.one c))=some (some (.str (j' cs num c)))) :
  (ev orc (j+10)).E [0,1] (.bin .Add (.bin .Add (.mt .join (.k (.dw "")) [(.comp (.sub (.cell 1) (.loc 0)) [(.loc 0)] [(.loc 0)] [[]] 1 0)]) (.loc 1)) (.mt .join (.k (.dw "")) [(.comp (.bf .chr [(.loc 0)]) [(.loc 0)] [(.cell 0)] [[]] 1 0)])) ⟨lF s both oP x4 x5 x6 x7 x8 x9,gQ (.dict (ones cs) d)⟩ =
   some (.str (nF cs num both),⟨lF s both oP x4 x5 x6 x7 x8 x9,gQ (.dict (ones cs) d)⟩):=
 have b:fq (ev orc (j+6)) [0,1] (.loc 0) ⟨lF s both oP x4 x5 x6 x7 x8 x9,gQ (.dict (ones cs) d)⟩=some (cs.map λc=>V.str (Vm.one c),none,⟨lF s both oP x4 x5 x6 x7 x8 x9,gQ (.dict (ones cs) d)⟩):=congrArg (λl=>some (ones l,none,_)) k
 have h:(aw "" (cs.map (j' cs num))++both).cps.size+HZ.cps.size<=65536:=by
  rw[yk,vy]
  exact Nat.le_trans (Nat.add_le_add_right (qz a f) _) (by decide)
 dB (dB (nu (fh (ρ:=λc:Nat=>V.str (Vm.one c)) (g:=λc=>.str (j' cs num c)) b (λc e=>eI (v:=.ref 2) rfl rfl (congrArg (λo:Option (Option V)=>o.bind id) (i c e):_)) (mU a)) (mf (nV · cs num) (Nat.le_trans (Nat.mul_le_mul_left 2 a) (by decide)))) (w:=.dw both) rfl (qY rfl (Nat.le_trans (qz a f) (by decide))))
  (nu (fh (ρ:=λd:Nat=>V.int d) (g:=λc=>.str (Vm.one c)) (l:=dU) rfl (λc e=>fJ (dH rfl) (xR (Lx c e))) (by decide)) Ly)
  (qY rfl h)
theorem rm (a:cs.length<=100) (b:both.cps.size<=10):(nF cs num both).cps.toList.length<=1000:=by
 rw[Array.length_toList]
 unfold nF
 rw[yk,yk,vy]
 exact Nat.le_trans (Nat.add_le_add_right (qz a b) _) (by decide)
def jY (t:Str):List Bool:=t.cps.toList.map λc=>dU.contains c
theorem Bx (t:Str):(t.cps.toList.map λc=>V.bool (dU.contains c))=bools (jY t):=by
 unfold bools jY
 rw[List.map_map];rfl
theorem kinds_ok (e:1<=M){t:Str} (b:t.cps.toList.length<=1000) :
  (ev (dA M) (j+10)).E [0,1] (.tup [(.comp (.call (.k (.con (.ref 132))) [(.loc 0)] [] []) [(.loc 0)] [(.loc 7)] [[]] 1 0),(.comp (.cmp (.bf .ord [(.loc 0)]) [.In] [(.cell 0)]) [(.loc 0)] [(.loc 7)] [[]] 1 0)]) ⟨lF s both oP x4 x5 x6 (some (.str t)) x8 x9,gQ d⟩ =
   some (.tup [.lst (bools (jY t)),.lst (bools (jY t))],⟨lF s both oP x4 x5 x6 (some (.str t)) x8 x9,gQ d⟩):=
 have a:t.cps.toList.length<=65536:=Nat.le_trans b (by decide)
 Bx t▸fE (dD (fh (ρ:=λc:Nat=>V.str (Vm.one c)) (g:=λc=>V.bool (dU.contains c)) (pM (s:=t) rfl rfl rfl) (λc _=>call_top (dH rfl) (z7 M e c _)) a)
  (dH (fh (ρ:=λc:Nat=>V.str (Vm.one c)) (g:=λc=>V.bool (dU.contains c)) (pM (s:=t) rfl rfl rfl) (λc _=>dW (fJ (v:=.int c) (dH rfl) rfl) (u:=.lst (nats dU)) rfl (wW c dU)) a)))
theorem G1 {l:List Bool} (h:l.length<=1000){st:St} (k:st.loc[8]?=some (some (.lst (bools l)))) (d:st.loc[9]?=some (some (.lst (bools l)))) :
  (ev orc (j+10)).E [0,1] (.and [(.cmp (.comp (.cmp (.loc 0) [.Is] [(.k (.bool true))]) [(.loc 0)] [(.loc 8)] [[]] 1 0) [.Eq] [(.loc 9)]),(.cmp (.comp (.cmp (.loc 0) [.IsNot] [(.k (.bool false))]) [(.loc 0)] [(.loc 8)] [[]] 1 0) [.Eq] [(.loc 9)])]) st=some (.bool true,st):=by
 have e:l.length<=65536:=Nat.le_trans h (by decide)
 have a:fq (ev orc (j+7)) [0,1] (.loc 8) st=some (l.map V.bool,none,st):=g' rfl (eZ k)
 have i:=fh (ρ:=V.bool) (g:=V.bool) (elt:=(.cmp (.loc 0) [.Is] [(.k (.bool true))])) a (λb _=>by cases b<;>rfl) e
 have f:=fh (ρ:=V.bool) (g:=V.bool) (elt:=(.cmp (.loc 0) [.IsNot] [(.k (.bool false))])) a (λb _=>by cases b<;>rfl) e
 exact yt (dW i (eZ d) (xw l)) rfl (dW f (eZ d) (xw l))
theorem Gw (g:5<=M) (f:s.cps.toList=cs) (n:cs.length<=90) (a:both.cps.size<=10) (y:∀c∈cs,97<=c/\c<=122) (z:cs.Nodup) (hp) :
  (dA M).top 183 [.dw s,.dw both,.int num] [] [] hp=some (.dE (ones cs) (fZ cs num),hp):=by
 obtain ⟨m,rfl⟩:∃m,M=m+1:=⟨M - 1,(Nat.sub_add_cancel (Nat.le_trans (by decide) g)).symm⟩
 refine gk λP k=>?_
 obtain ⟨oP,w,v,p,i⟩:=oW (orc:=dA m) (s:=s) (both:=both) (x7:=none) (x8:=none) (x9:=none) cs [] [] num none none none y z rfl ((Nat.zero_add _).symm▸Nat.le_trans n (by decide))
 have e:cs.length<=100:=Nat.le_trans n (by decide)
 have b:fq (ev (dA m) 59) [0,1] (.loc 0) ⟨lF s both num none none none none none none,gQ (.dict [] [])⟩=some (ones cs,none,⟨lF s both num none none none none none none,gQ (.dict [] [])⟩):=congrArg (λl=>some (ones l,none,_)) f
 have d:gX (dA m) [0,1] HP ⟨[some (.dw s),some (.dw both),some (.int num),none,none,none,none,none,none,none],[.cell none,.cell none]⟩=some (.ref 2,gQ (.dict (ones cs) (fZ cs num))):=by
  have x:(ev (dA m) 60).S [0,1] HO ⟨[some (.dw s),some (.dw both),some (.int num),none,none,none,none,none,none,none],[.cell none,.cell none]⟩=some (.next,⟨[some (.dw s),some (.dw both),some (.int num),none,none,none,none,none,none,none],[.cell (some (.lst (nats dU))),.cell none]⟩):=by kernel_rfl
  have r:(ev (dA m) 60).S [0,1] HN ⟨[some (.dw s),some (.dw both),some (.int num),none,none,none,none,none,none,none],[.cell (some (.lst (nats dU))),.cell none]⟩=some (.next,⟨lF s both num none none none none none none,[.cell (some (.lst (nats dU))),.cell none]⟩):=by kernel_rfl
  have q:(ev (dA m) 60).S [0,1] (.fI (.loc 4) (.loc 0) FT) ⟨lF s both num none none none none none none,gQ (.dict [] [])⟩=_:=ie b i
  have u:(jY (nF cs num both)).length<=1000:=by unfold jY;rw[List.length_map];exact rm e a
  rw[gW]
  unfold HP
  exact dG x (dG r (dG (st1:=⟨lF s both num none none none none none none,gQ (.dict [] [])⟩) rfl (dG q (dG (dM (Ar (j:=49) f e a (fZ cs num) (λc h=>xq c cs num h)) rfl)
   (dG (st1:=⟨lF s both oP w v p (some (.str (nF cs num both))) (some (.lst (bools (jY (nF cs num both))))) (some (.lst (bools (jY (nF cs num both))))),gQ (.dict (ones cs) (fZ cs num))⟩) (dM (kinds_ok (j:=49) (Nat.le_trans (by decide) (Nat.le_of_succ_le_succ g)) (rm e a)) rfl)
    (fH (fD (i5 (G1 (j:=48) u rfl rfl) rfl rfl))))))))
 have o:(dI (eE (gQ (.dict (ones cs) (fZ cs num))) 8) (fZ cs num)).map (V.dE (ones cs))=some (.dE (ones cs) (fZ cs num)):=qM (Bc _ 7 cs num)
 exact k (eg m (t:=LM) (k:=3) rfl rfl rfl rfl (as':=[.dw s,.dw both,.int num]) rfl d o)
end
noncomputable def iX:Nat->V
 | 0=>.none
 | 1=>.dw "."
 | _=>.dw ""
def fb (i n:Nat):List Nat:=(gB i n).cps.toList
def qA (n:Nat) (row:List Nat):Nat:=(me n row).sum
def kp (n:Nat) (row:List Nat):Bool:=!((lh n row).contains n)
noncomputable def E_:List Nat:=[60,62,34,13,10,9]
noncomputable def Hj (s:Str):Str:=az s "&" "&amp;"
def Xs (i n t:Nat) (b a:Str):Bool:=decide (a++qa (iX t)=b)&&decide (a.cps.size+(qa (iX t)).cps.size<=65536)
def Xq (i n t:Nat) (row:List Nat) (a:Str):Bool:=(List.range n).all (λk=>decide (nZ (lh n row) (me n row) k<=10))&&((fA ((List.range n).map (s6 (fb i n) (lh n row) (me n row)))).any (Xs i n t a) &&
 (gJ a "&amp;"&&(decide (38∈a.cps.toList)&&((Hj a).cps.toList.all (λc=>!E_.contains c)&&decide (bU a ";"=(qA n row:Int))))))
def rZ (i n t:Nat) (row:List Nat):Bool:=(jB 0 (fb i n) (lh n row) (me n row) (iX t)).any (Xq i n t row)
theorem c_2:∀i,i < 8->∀t,t < 3->((ed 2).filter (kp 2)).all (rZ i 2 t)=true:=by decide +kernel
theorem c_3:∀i,i < 8->∀t,t < 3->((ed 3).filter (kp 3)).all (rZ i 3 t)=true:=by decide +kernel
theorem kM {a b:Str} (h:a.cps.toList=b.cps.toList):a=b:=congrArg Str.mk (Array.toList_inj.mp h)
noncomputable def Ex:V->Option (Bool×List Nat)
 | .str s=>some (false,s.cps.toList)
 | .dw s=>some (true,s.cps.toList)
 | _=>none
theorem Ew (h:Ex v=some k) (a:Ex w=some k):v=w:=by
 have e:=h.trans a.symm
 cases v with
 | str s=>cases w with
  | str t=>exact congrArg V.str (kM (af (Option.some.inj e)).2)
  | dw t=>exact fT (af (Option.some.inj e)).1
  | _=>exact nS a
 | dw s=>cases w with
  | str t=>exact tF (af (Option.some.inj e)).1
  | dw t=>exact congrArg V.dw (kM (af (Option.some.inj e)).2)
  | _=>exact nS a
 | _=>exact nS h
noncomputable def XF:Nat->Bool×List Nat
 | 0=>(true,[38])
 | 1=>(false,[38,97,109,112,59])
 | _=>(false,[38,97,109,112,59,97,109,112,59])
theorem ue:∀h,h < 5->∀d,d < 3->(nP h d (.dw "&")).bind Ex=some (XF d):=by decide +kernel
theorem iter_eq (f:h < 5) (a:d<=2):nP h d (.dw "&")=nP 0 d (.dw "&"):=
 ee (ue h f d (Nat.lt_succ_of_le a)) λv b e=>ee (ue 0 (by decide) d (Nat.lt_succ_of_le a)) λw g c=>b.trans ((congrArg some (Ew e c)).trans g.symm)
theorem Ek {α:Type}{o:Option α}{p:α->Bool}{G:Prop}(h:o.any p=true) (k:∀a,o=some a->p a=true->G):G:=by
 cases o with
 | none=>exact fT h
 | some a=>exact k a rfl h
theorem aL (h:(a&&b)=true):a=true:=(Bool.and_eq_true_iff.mp h).1
theorem aR (h:(a&&b)=true):b=true:=(Bool.and_eq_true_iff.mp h).2
theorem wO (f:h < 5) (cs a b):∀ks:List Nat,lu h cs a b ks=lu 0 cs a b ks
 | []=>rfl
 | k::ks=>by
  show (cs[k]?).bind (λc=>(Option.bind _ natOf).bind λd=>(lu h cs a b ks).bind λr=>_)=(cs[k]?).bind λc=>(Option.bind _ natOf).bind λd=>(lu 0 cs a b ks).bind λr=>_
  rw[wO f cs a b ks]
  refine congrArg _ (funext λc=>congrArg _ (funext λd=>congrArg _ (funext λr=>?_)))
  by_cases e:d<=2
  ·rw[if_pos e,if_pos e,iter_eq f e]
  ·rw[if_neg e,if_neg e]
theorem Cw (c:h < 5) (cs a b) (tail):jB h cs a b tail=jB 0 cs a b tail:=by
 unfold jB
 rw[wO c]
theorem xt:∀l:List (Str×Str),(∀p∈l,hasSub p.1 s=false)->i9 l (.str s)=some (.str s)
 | [],_=>rfl
 | (a,b)::l,h=>by
  show (if hasSub a s=true then _ else i9 l (.str s))=_
  rw[h (a,b) (List.mem_cons_self ..)]
  exact xt l (λp c=>h p (List.mem_cons_of_mem _ c))
theorem zd:∀h,h < 5->jf h=(("&":Str),("&amp;":Str))::(jf h).tail/\∀p∈(jf h).tail,p.1.cps.toList.length=1/\p.1.cps.toList.headD 0∈E_:=by decide +kernel
theorem zJ (c) (s):hasSub (Vm.one c) s=decide (c∈s.cps.toList):=StrLaws.found_one s c
theorem Mx {s:Str} (h:s.cps.toList.length=1):s=Vm.one (s.cps.toList.headD 0):=kM ((List.length_eq_one_iff.mp h).elim λa e=>by rw[e];rfl)
theorem Kx {s:Str} (a:h < 5) (e:38∈s.cps.toList) (d:gJ s "&amp;"=true) (f:(Hj s).cps.toList.all (λc=>!E_.contains c)=true):i9 (jf h) (.str s)=some (.str (Hj s)):=by
 rw[(zd h a).1]
 exact (if_pos ((zJ 38 s).trans (decide_eq_true e)):(if hasSub "&" s=true then (if gJ s "&amp;"=true then i9 (jf h).tail (.str (az s "&" "&amp;")) else none) else _)=_).trans
  ((if_pos d).trans (xt _ λp b=>by
   have q:=(zd h a).2 p b
   rw[Mx q.1,zJ]
   exact decide_eq_false λk=>fT (((Bool.not_eq_true' _).mp (List.all_eq_true.mp f _ k)).symm.trans (List.contains_iff_mem.mpr q.2))))
theorem G2 {i n t h:Nat}{row:List Nat}{G:Prop}(g:h < 5) (c:rZ i n t row=true) (k:∀a b,jB h (fb i n) (lh n row) (me n row) (iX t)=some a->
  (∀k,k < n->nZ (lh n row) (me n row) k<=10)->fA ((List.range n).map (s6 (fb i n) (lh n row) (me n row)))=some b->b++qa (iX t)=a->b.cps.size+(qa (iX t)).cps.size<=65536->
  gJ a "&amp;"=true->i9 (jf h) (.str a)=some (.str (az a "&" "&amp;"))->bU a ";"=(qA n row:Int)->G):G:=
 Ek c λa j c=>Ek (aL (aR c)) λb m f=>
  have e:=aR (aR c)
  have d:=aR e
  k a b ((Cw g ..).trans j) (λk l=>of_decide_eq_true (List.all_eq_true.mp (aL c) k (List.mem_range.mpr l))) m (of_decide_eq_true (aL f)) (of_decide_eq_true (aR f)) (aL e) (Kx g (of_decide_eq_true (aL d)) (aL e) (aL (aR d))) (of_decide_eq_true (aR (aR d)))
noncomputable def jG:List Nat:=[98,102,104,105,107,108,109,110,111,112,114,115,116,118,119,122]
def u4:List (Nat×List Nat):=[(8360,[114,115]),(8470,[110,111]),(13259,[104,112]),(13262,[107,109]),(13277,[119,98]),(64257,[102,105]),(64258,[102,108]),(64262,[115,116])] ++
 (fY.drop 2).flatMap λa=>jG.map λl=>(a+l - 97,[l])
noncomputable def vT:List (Nat×List Nat)->List (Int×Str)->Bool
 | [],_=>true
 | _::_,[]=>false
 | p::a,x::b=>if (p.1:Int)=x.1 then decide (p.2=x.2.cps.toList)&&vT a b else vT (p::a) b
noncomputable def B9:Int->List (Int×Str)->Bool
 | _,[]=>true
 | k,x::a=>decide (k < x.1)&&B9 x.1 a
theorem LU:vT u4 nk=true:=by decide +kernel
theorem HX:B9 180 nk=true:=by decide +kernel
theorem qy:∀(t:List (Int×Str)) (l:List (Nat×List Nat)),vT l t=true->∀p∈l,∃s,((p.1:Int),s)∈t/\s.cps.toList=p.2
 | _,[],_,p,h=>nomatch h
 | [],q::l,h,p,hp=>fT h
 | x::t,q::l,h,p,hp=>by
  by_cases e:(q.1:Int)=x.1
  ·have h:(decide (q.2=x.2.cps.toList)&&vT l t)=true:=(if_pos e).symm.trans h
   rcases List.mem_cons.mp hp with hp | hp
   ·exact ⟨x.2,hp▸e▸.head _,hp▸(of_decide_eq_true (aL h)).symm⟩
   ·exact (qy t l (aR h) p hp).elim λs a=>⟨s,.tail _ a.1,a.2⟩
  ·exact (qy t (q::l) ((if_neg e).symm.trans h) p hp).elim λs a=>⟨s,.tail _ a.1,a.2⟩
theorem HW:∀(t:List (Int×Str)) (k:Int),B9 k t=true->∀x∈t,k < x.1
 | [],_,_,x,h=>nomatch h
 | y::t,k,h,x,a=>(List.mem_cons.mp a).elim (λe=>e▸of_decide_eq_true (aL h)) λa=>Int.lt_trans (of_decide_eq_true (aL h)) (HW t _ (aR h) x a)
noncomputable abbrev kB (t:List (Int×Str)):List V:=t.map λx=>.int x.1
noncomputable abbrev vB (t:List (Int×Str)):List V:=t.map λx=>.str x.2
theorem find_eq (e:y.1=c):findKey (kB (y::t)) (vB (y::t)) (.int c)=some (some (.str y.2)):=(qT (dt e) rfl:(match some (decide (y.1=c)) with | some true=>some (some (V.str y.2)) | some false=>findKey (kB t) (vB t) (.int c) | none=>none)=_)
theorem zQ (e:¬y.1=c):findKey (kB (y::t)) (vB (y::t)) (.int c)=findKey (kB t) (vB t) (.int c):=(qF (df e) rfl:(match some (decide (y.1=c)) with | some true=>some (some (V.str y.2)) | some false=>findKey (kB t) (vB t) (.int c) | none=>none)=_)
theorem zP:∀(t:List (Int×Str)) (k c:Int) (s:Str),B9 k t=true->(c,s)∈t->findKey (kB t) (vB t) (.int c)=some (some (.str s))
 | [],_,_,_,_,h=>nomatch h
 | y::t,k,c,s,h,a=>(List.mem_cons.mp a).elim (λe=>(find_eq (e▸rfl)).trans (e▸rfl)) λa=>(zQ λq:y.1=c=>Int.lt_irrefl c ((congrArg (· < c) q).mp (HW t _ (aR h) _ a))).trans (zP t y.1 c s (aR h) a)
theorem xp:∀(t:List (Int×Str)) (k c:Int),B9 k t=true->c<=k->findKey (kB t) (vB t) (.int c)=some none
 | [],_,_,_,_=>rfl
 | y::t,k,c,h,hc=>have a:c < y.1:=Int.lt_of_le_of_lt hc (of_decide_eq_true (aL h))
  (zQ λq:y.1=c=>Int.lt_irrefl c ((congrArg (c < ·) q).mp a)).trans (xp t y.1 c (aR h) (Int.le_of_lt a))
abbrev fB (c:Nat):Option (Option V):=findKey (kB nk) (vB nk) (.int c)
theorem Ec (m c) (a:fB c=some r):(ev (dA m) 59).E [] (.mt .get (.k Jp) [(.bf .ord [(.loc 0)])]) ⟨[some (.str (Vm.one c)),none],[]⟩=some (kg r .none,⟨[some (.str (Vm.one c)),none],[]⟩):=
 iF (v:=Jp) (k:=.n3) rfl rfl rfl (dH (fJ (v:=.int c) (dH rfl) rfl)) (qM (f:=λx=>(x,([]:List O))) (qM (f:=(kg · .none)) a))
theorem Hc (M) (b:1<=M) (c) (h:fB c=some (some (.str s))) (hp):(dA M).top 178 [.str (Vm.one c)] [] [] hp=some (.str s,hp):=by
 obtain ⟨m,rfl⟩:∃m,M=m+1:=⟨M - 1,(Nat.sub_add_cancel b).symm⟩
 have a:gX (dA m) [] yY ⟨[some (.str (Vm.one c)),none],[]⟩=some (.str s,[]):=by
  rw[gW]
  unfold yY
  exact dG (st1:=⟨[some (.str (Vm.one c)),some (.str s)],[]⟩) (dM (Ec m c h) rfl) (fH rfl)
 exact eg m (t:=Ia) (k:=1) rfl rfl rfl rfl (as':=[.str (Vm.one c)]) rfl a rfl
theorem Hd (M) (d:1<=M) (c) (h:fB c=some none) (e:a8 (Vm.one c)=s) (hz:dQ s.length=true) (hp):(dA M).top 178 [.str (Vm.one c)] [] [] hp=some (.str s,hp):=by
 obtain ⟨m,rfl⟩:∃m,M=m+1:=⟨M - 1,(Nat.sub_add_cancel d).symm⟩
 subst e
 have b:mj [] .m7 (.str (Vm.one c)) []=some (.str (a8 (Vm.one c)),[]):=qM (f:=λx=>(x,([]:List O))) (if_pos hz)
 have a:gX (dA m) [] yY ⟨[some (.str (Vm.one c)),none],[]⟩=some (.str (a8 (Vm.one c)),[]):=by
  rw[gW]
  unfold yY
  exact dG (st1:=⟨[some (.str (Vm.one c)),some .none],[]⟩) (dM (Ec m c h) rfl) (dG (st1:=⟨[some (.str (Vm.one c)),some .none],[]⟩) rfl (fH (fD (iF (v:=.str (Vm.one c)) (k:=.m7) (vs:=[]) rfl rfl rfl rfl b))))
 exact eg m (t:=Ia) (k:=1) rfl rfl rfl rfl (as':=[.str (Vm.one c)]) rfl a rfl
theorem Kg:∀l∈jG,l<=122/\(a8 (Vm.one l)).cps.toList=[l]/\(a8 (Vm.one (65+l - 97))).cps.toList=[l]:=by decide +kernel
theorem tX (M) (b:1<=M) (h:p∈u4) (hp):(dA M).top 178 [.str (Vm.one p.1)] [] [] hp=some (.str ⟨p.2.toArray⟩,hp):=
 (qy nk u4 LU p h).elim λs a=>Hc M b p.1 ((zP nk 180 _ _ HX a.1).trans (congrArg (λs=>some (some (V.str s))) (kM a.2:s=⟨p.2.toArray⟩))) hp
theorem wK (M) (a:1<=M) (h:c<=180) (e:(a8 (Vm.one c)).cps.toList=[l]) (hp):(dA M).top 178 [.str (Vm.one c)] [] [] hp=some (.str (Vm.one l),hp):=
 Hd M a c (xp nk 180 _ HX (Int.ofNat_le.mpr h)) (kM e:_=Vm.one l) rfl hp
theorem Br:∀k,k < 10->fY.getD (k+2) 0∈fY.drop 2:=by decide
theorem DL (M) (b:1<=M) (h:l∈jG) (k) (c:k < 12) (hp):(dA M).top 178 [.str (Vm.one (fY.getD k 0+l - 97))] [] [] hp=some (.str (Vm.one l),hp):=by
 have a:=Kg l h
 match k,c with
 | 0,_=>
  have e:fY.getD 0 0+l - 97=l:=Nat.add_sub_cancel_left 97 l
  rw[e]
  exact wK M b (Nat.le_trans a.1 (by decide)) a.2.1 hp
 | 1,_=>exact wK M b (Nat.le_trans (Nat.sub_le_sub_right (Nat.add_le_add_left a.1 65) 97) (by decide)) a.2.2 hp
 | k+2,c=>exact tX M b (p:=(fY.getD (k+2) 0+l - 97,[l])) (List.mem_append_right _ (List.mem_flatMap.mpr ⟨fY.getD (k+2) 0,Br k (Nat.lt_of_succ_lt_succ (Nat.lt_of_succ_lt_succ c)),List.mem_map.mpr ⟨l,h,rfl⟩⟩)) hp
theorem KJ:∀l∈jG,∀k,k < 12->dU.contains (fY.getD k 0+l - 97)=false:=by decide +kernel
noncomputable def my (i:Nat):Nat:=[64257,64262,13259,13262,13277,8360,8470,64258].getD i 0
def EF (i:Nat):Str:=aM (pZ i) none (some 2)
noncomputable def ku (i:Nat):Str:=(["ﬁ","ﬆ","㏋","㏎","㏝","₨","№","ﬂ"]:List Str).getD i ""
def n8 (i n:Nat) (sel:Bool):Str:=if sel=true then ku i else aM (gB i n) none (some 2)
def qN (i n c:Nat):Str:=if c∈fb i n then Vm.one c else EF i
def m_ (i n:Nat) (row:List Nat):Str:=aw "" (row.map λk=>Vm.one ((fb i n).getD k 0))
def ip (i n:Nat) (sel:Bool) (row:List Nat):List Nat:=(az (m_ i n row) (aM (gB i n) none (some 2)) (n8 i n sel)).cps.toList
def Xr (i n:Nat) (row l:List Nat):Bool:=decide (l.length<=10)&&(l.all (λc=>decide (c∈fb i n\/c=my i))&&decide ((l.flatMap λc=>(qN i n c).cps.toList)=row.map λk=>(fb i n).getD k 0))
def xU (i n:Nat) (sel:Bool) (row:List Nat):Bool:=gJ (m_ i n row) (n8 i n sel)&&Xr i n row (ip i n sel row)
theorem Ye:∀i,i < 8->∀sel,((ed 2).filter (kp 2)).all (xU i 2 sel)=true:=by decide +kernel
theorem Yd:∀i,i < 8->∀sel,((ed 3).filter (kp 3)).all (xU i 3 sel)=true:=by decide +kernel
theorem pd:∀i,i < 8->∀n∈[2,3],(fb i n).length=n/\(fb i n).Nodup/\(∀c∈fb i n,c∈jG):=by decide +kernel
theorem aax:∀i,i < 8->∀n∈[2,3],my i∉fb i n:=by decide +kernel
theorem DM:∀i,i < 8->dU.contains (my i)=false/\(my i,(EF i).cps.toList)∈u4:=by decide +kernel
theorem Oj:∀i,i < 8->(ku i).cps.toList=[my i]/\(EF i).length=2:=by decide +kernel
theorem yK:∀c∈jG,97<=c/\c<=122:=by decide
theorem JT:∀n,n < 4->∀row∈ed n,row.length<=3/\∀k∈row,k < n:=by decide +kernel
theorem uk (c):∀(cs:List Nat) (num:Nat),c∈cs->∃b,j' cs num c=gm c b
 | [],_,h=>nomatch h
 | a::cs,num,h=>by
  by_cases e:a=c
  ·exact ⟨num,(if_pos e).trans (e▸rfl)⟩
  ·exact (uk c cs _ ((List.mem_cons.mp h).resolve_left λq=>e q.symm)).elim λd k=>⟨d,(if_neg e).trans k⟩
def gS (cs:List Nat) (num c:Nat):Str:=if c∈cs then j' cs num c else Vm.one c
theorem Kt (cs) (num c):(findKey (ones cs) (fZ cs num) (.str (Vm.one c))).map (kg · (.str (Vm.one c)))=some (.str (gS cs num c)):=by
 unfold gS
 by_cases h:c∈cs
 ·rw[xq c cs num h,if_pos h];rfl
 ·rw[DI c cs num h,if_neg h];rfl
theorem DB (cs) (num c):(gS cs num c).length<=2:=by
 unfold gS
 by_cases h:c∈cs
 ·rw[if_pos h];exact nV c cs num
 ·rw[if_neg h];exact Nat.le_succ 1
def mO (orc:er) (c:Nat):V:=((orc.top 178 [.str (Vm.one c)] [] [] []).map (·.1)).getD .none
theorem sD {orc:er} (h:∀a,orc.top 178 [.str (Vm.one c)] [] [] a=some (v,a)):mO orc c=v:=congrArg (λo:Option (V×List O)=>(o.map λx:V×List O=>x.1).getD V.none) (h [])
abbrev jj (orc:er) (l:List Nat):List V:=(l.filter λc=>!dU.contains c).map (mO orc)
theorem u1 (h:dU.contains d=false):jj orc (d::l)=mO orc d::jj orc l:=congrArg (List.map (mO orc)) (List.filter_cons_of_pos (p:=λc=>!dU.contains c) ((Bool.not_eq_true' _).mpr h))
theorem Im (h:dU.contains d=true):jj orc (d::l)=jj orc l:=congrArg (List.map (mO orc)) (List.filter_cons_of_neg (p:=λc=>!dU.contains c) (λq=>tF (h.symm.trans ((Bool.not_eq_true' _).mp q))))
theorem Fw:jj orc (a++b)=jj orc a++jj orc b:=(congrArg (List.map (mO orc)) (List.filter_append ..)).trans List.map_append
theorem Kf:∀k,k < 27->dU.contains (dU.getD k 0)=true:=by decide +kernel
theorem Be (c num):∃m d,dU.contains m=true/\d=fY.getD (num % 12) 0+c - 97/\((gm c num).cps.toList=[d]\/(gm c num).cps.toList=[m,d]\/(gm c num).cps.toList=[d,m]):=by
 refine ⟨_,_,Kf (num / 12 % 27) (Nat.mod_lt _ (by decide)),rfl,?_⟩
 unfold gm
 match num / 324 % 3 with
 | 0=>exact .inl rfl
 | 1=>exact .inr (.inl rfl)
 | n+2=>exact .inr (.inr rfl)
theorem Q5 (b:dU.contains m=true) (c:dU.contains d=false) (f:mO orc d=w) (h:l=[d]\/l=[m,d]\/l=[d,m]):jj orc l=[w]/\∀x∈l,dU.contains x=false->x=d:=by
 subst f
 rcases h with rfl | rfl | rfl
 ·exact ⟨u1 c,λx a _=>List.mem_singleton.mp a⟩
 ·exact ⟨(Im b).trans (u1 c),λx a q=>(List.mem_cons.mp a).elim (λe=>fT (q.symm.trans (e▸b))) List.mem_singleton.mp⟩
 ·exact ⟨(u1 c).trans (congrArg _ (Im (l:=[]) b)),λx a q=>(List.mem_cons.mp a).elim id λe=>fT (q.symm.trans (List.mem_singleton.mp e▸b))⟩
theorem jP (a:n=2\/n=3):n∈[2,3]:=a.elim (λe=>e▸.head _) λe=>e▸.tail _ (.head _)
section
variable {i n M num:Nat}{sel:Bool}{row:List Nat}
theorem zN (t:1<=M) (r:i < 8) (z:n=2\/n=3) (y:c∈fb i n\/c=my i) :
  jj (dA M) (gS (fb i n) num c).cps.toList=[.str (qN i n c)]/\
  ∀x∈(gS (fb i n) num c).cps.toList,dU.contains x=false->∀hp,(dA M).top 178 [.str (Vm.one x)] [] [] hp=some (mO (dA M) x,hp):=by
 unfold gS qN
 by_cases h:c∈fb i n
 ·rw[if_pos h,if_pos h]
  have g:=(pd i r n (jP z)).2.2 c h
  refine gk λP k=>?_
  obtain ⟨b,u⟩:=uk c (fb i n) num h
  rw[u] at k
  have f:=Nat.mod_lt b (show 0 < 12 by decide)
  have a:=λhp=>DL M t g (b % 12) f hp
  obtain ⟨m,d,w,o,q⟩:=Be c b
  have p:=Q5 (orc:=dA M) w (o▸KJ c g _ f) (o▸sD a) q
  exact k ⟨p.1,λx j s hp=>by rw[p.2 x j s,o,sD a];exact a hp⟩
 ·have a:=λhp=>tX M t (DM i r).2 hp
  have e:=sD a
  rw[if_neg h,if_neg h,y.resolve_left h]
  exact ⟨(u1 (l:=[]) (DM i r).1).trans (congrArg (λv=>[v]) e),λx j s hp=>by rw[List.mem_singleton.mp j,e];exact a hp⟩
theorem wq (b:1<=M) (d:i < 8) (a:n=2\/n=3):∀l:List Nat,(∀c∈l,c∈fb i n\/c=my i)->
  jj (dA M) (l.flatMap λc=>(gS (fb i n) num c).cps.toList)=l.map λc=>.str (qN i n c)
 | [],_=>rfl
 | c::l,h=>by
  rw[List.flatMap_cons,Fw,(zN b d a (h c (.head _))).1,wq b d a l λx e=>h x (.tail _ e)]
  rfl
theorem GG (a:i < 8) (c):(qN i n c).length<=2:=by
 unfold qN
 by_cases h:c∈fb i n
 ·rw[if_pos h];exact Nat.le_succ 1
 ·rw[if_neg h];exact Nat.le_of_eq (Oj i a).2
theorem H4 (h:k<=10):2*k<=60000:=Nat.le_trans (Nat.mul_le_mul_left 2 h) (by decide)
theorem Xu (a:i < 8) (c:n=2\/n=3) (b:t < 3) (h:row∈(ed n).filter (kp n)):rZ i n t row=true/\xU i n sel row=true:=by
 rcases c with rfl | rfl
 ·exact ⟨List.all_eq_true.mp (c_2 i a t b) row h,List.all_eq_true.mp (Ye i a sel) row h⟩
 ·exact ⟨List.all_eq_true.mp (c_3 i a t b) row h,List.all_eq_true.mp (Yd i a sel) row h⟩
theorem JU (s:1<=M) (l:i < 8) (j:n=2\/n=3) (z:h < 5) (Q:t < 3) (x:row∈ed n) (v:kp n row=true) :
  ∃T,Hk (dA M) h (gB i n) (fb i n) (ones (fb i n)) (fZ (fb i n) num) (n8 i n sel) (iX t) n row (qA n row:Nat) T:=by
 have d:=Xu (sel:=sel) l j Q (List.mem_filter.mpr ⟨x,v⟩)
 have r:=aR d.2
 have u:=JT n (j.elim (λe=>e▸by decide) λe=>e▸by decide) row x
 have w:∀c∈ip i n sel row,c∈fb i n\/c=my i:=λc p=>of_decide_eq_true (List.all_eq_true.mp (aL (aR r)) c p)
 have b:(ip i n sel row).length<=10:=of_decide_eq_true (aL r)
 have g:(aw "" ((ip i n sel row).map (gS (fb i n) num))).cps.toList=(ip i n sel row).flatMap λc=>(gS (fb i n) num c).cps.toList:=by
  rw[join_list,List.flatMap_map]
 have e:aw "" ((ip i n sel row).map (qN i n))=m_ i n row:=kM (by
  unfold m_
  rw[join_list,join_list,List.flatMap_map,List.flatMap_map,of_decide_eq_true (aR (aR r))]
  exact (jS (λk=>(fb i n).getD k 0) row).symm)
 have E:(aw "" ((ip i n sel row).map (gS (fb i n) num))).cps.toList.length<=100:=by
  rw[Array.length_toList]
  exact Nat.le_trans (ud (DB _ num)) (Nat.le_trans (Nat.mul_le_mul_left 2 b) (by decide))
 have N:∀c∈(aw "" ((ip i n sel row).map (gS (fb i n) num))).cps.toList,dU.contains c=false->∀o,(dA M).top 178 [.str (Vm.one c)] [] [] o=some (mO (dA M) c,o):=λc p=>by
  rw[g] at p
  exact (List.mem_flatMap.mp p).elim λa q=>(zN s l j (w a q.1)).2 c q.2
 have U:fA (jj (dA M) (aw "" ((ip i n sel row).map (gS (fb i n) num))).cps.toList)=some (m_ i n row):=by
  rw[g,wq s l j _ w,<-e]
  exact mf (GG l) (H4 b)
 exact G2 z d.1 λm f y B J H D G A L=>⟨⟨m_ i n row,aw "" ((ip i n sel row).map (gS (fb i n) num)),m,f,ip i n sel row,λc=>.str (gS (fb i n) num c),λc=>dU.contains c,mO (dA M)⟩,
  λk I=>(pd i l n (jP j)).1.symm▸u.2 k I,Nat.le_trans u.1 (by decide),mf (k:=1) (λk=>Nat.le_refl 1) (Nat.le_trans (Nat.mul_le_mul_left 1 u.1) (by decide)),aL d.2,rfl,Nat.le_trans b (by decide),λc _=>Kt _ _ _,mf (DB _ num) (H4 b),
  E,λc _ o=>z7 M s c o,N,U,y,B,J,H,D,G,A,L⟩
def Co (n:Nat):List (Nat×Nat):=((ed n).filter (kp n)).map λrow=>(qA n row,jr n row)
theorem uo (c):∀a b:List Nat,a.length=b.length->(a.contains c=true->∃w,findKey (nats a) (nats b) (.int c)=some (some w))/\(a.contains c=false->findKey (nats a) (nats b) (.int c)=some none)
 | [],[],_=>⟨(λh=>fT h),(λ_=>rfl)⟩
 | [],_::_,h=>Nat.noConfusion h
 | _::_,[],h=>Nat.noConfusion h
 | x::a,y::b,h=>by
  have i:=uo c a b (Nat.succ.inj h)
  rw[List.contains_cons]
  by_cases e:c=x
  ·exact ⟨λ_=>⟨.int y,(qT (dt (congrArg Int.ofNat e.symm)) rfl:(match some (decide ((x:Int)=(c:Int))) with | some true=>some (some (V.int y)) | some false=>findKey (nats a) (nats b) (.int c) | none=>none)=_)⟩,λq=>fT (q.symm.trans (congrArg (·||a.contains c) (beq_iff_eq.mpr e)))⟩
  ·have f:findKey (nats (x::a)) (nats (y::b)) (.int c)=findKey (nats a) (nats b) (.int c):=(qF (df λq=>e (Int.ofNat.inj q).symm) rfl:(match some (decide ((x:Int)=(c:Int))) with | some true=>some (some (V.int y)) | some false=>findKey (nats a) (nats b) (.int c) | none=>none)=_)
   rw[f,beq_eq_false_iff_ne.mpr e,Bool.false_or]
   exact i
theorem wg (j:1<=M) (m:i < 8) (l:n=2\/n=3) (f:h < 5) (k:t < 3):∀a:List (List Nat),(∀row∈a,row∈ed n)->
  oi (dA M) h (gB i n) (fb i n) (ones (fb i n)) (fZ (fb i n) num) (n8 i n sel) (iX t) n a ((a.filter (kp n)).map λrow=>(qA n row,jr n row))
 | [],_=>rfl
 | row::a,d=>by
  have g:=wg j m l f k a (λr q=>d r (.tail _ q))
  have e:=uo n (lh n row) (me n row) ((List.length_map ..).trans (List.length_map ..).symm)
  refine ⟨d row (.head _),?_⟩
  by_cases c:kp n row=true
  ·exact .inr ⟨e.2 ((Bool.not_eq_true' _).mp c),qA n row,_,congrArg (List.map λrow=>(qA n row,jr n row)) (List.filter_cons_of_pos c),JU j m l f k (d row (.head _)) c,g⟩
  ·rw[List.filter_cons_of_neg c]
   exact .inl ⟨e.1 ((Bool.not_eq_false' (b:=(lh n row).contains n)).mp (eq_false_of_ne_true c)),g⟩
theorem FC:∀t,t < 3->jc (iX t)=true:=by decide
theorem Am (b:21<=M) (f:i < 8) (a:n=2\/n=3) (c:h < 5) (e:t < 3) (hp) :
  (dA M).top 214 [.dw (gB i n),.dE (ones (fb i n)) (fZ (fb i n) num),.dw (n8 i n sel),.con (.ref (gM h)),iX t] [] [] hp=some (.lst (ej (Co n)),hp):=by
 have d:=(pd i f n (jP a)).1
 refine EL (cs:=fb i n) b c rfl (d.symm▸a) (FC t e) (qM (Bc _ 7 _ _)) (λM b=>?_) hp
 rw[d]
 exact wg (Nat.le_trans (by decide) b) f a c e (ed n) (λr q=>q)
end
theorem gy {a b:Int} (c:a.natAbs < 2 ^ i) (d:b.natAbs < 2 ^ j):(a*b).natAbs < 2 ^ (i+j):=by
 rw[Int.natAbs_mul,Nat.pow_add]
 exact Nat.mul_lt_mul'' c d
theorem fN {a:Int} (b:a.natAbs < 2 ^ i) (k) (c:k≠0):(a ^ k).natAbs < 2 ^ (i*k):=by
 rw[Int.natAbs_pow,Nat.pow_mul]
 exact Nat.pow_lt_pow_left b c
theorem eC {a:Int} (b:a.natAbs < 2 ^ i) (h:i<=j):a.natAbs < 2 ^ j:=Nat.lt_of_lt_of_le b (Nat.pow_le_pow_right (by decide) h)
theorem kA {a b:Int} (c:a.natAbs < 2 ^ i) (d:b.natAbs < 2 ^ i):(a+b).natAbs < 2 ^ (i+1):=
 Nat.lt_of_le_of_lt (Int.natAbs_add_le a b) (Nat.lt_of_lt_of_eq (Nat.add_lt_add c d) (Nat.mul_two (2 ^ i)).symm)
theorem BJ {a b:Int} (c:a.natAbs < 2 ^ i) (d:b.natAbs < 2 ^ i):(a - b).natAbs < 2 ^ (i+1):=
 Nat.lt_of_le_of_lt (Int.natAbs_sub_le a b) (Nat.lt_of_lt_of_eq (Nat.add_lt_add c d) (Nat.mul_two (2 ^ i)).symm)
theorem iW {a:Int} (b:a.natAbs < 2 ^ i) (k:Nat) (h:i*k<=100000):eF hp .Pow (.int a) (.int k)=some (.int (a ^ k)):=
 Jm a k (Int.ofNat_le.mpr (Nat.le_trans (Nat.mul_le_mul_right k (gE b)) h))
theorem J2 {a:Int} (b:a.natAbs < 2 ^ i):∀e:Nat,(a ^ e).natAbs < 2 ^ (i*e+1)
 | 0=>(Int.pow_zero a).symm▸Nat.one_lt_two_pow (Nat.succ_ne_zero _)
 | e+1=>eC (fN b (e+1) (Nat.succ_ne_zero e)) (Nat.le_succ _)
section
variable {orc:er}{B:Int}{K:Nat}{loc:List (Option V)}
noncomputable def pW:V:=.lst [.lst [.int 1],.lst [.int 1,.int 1],.lst [.int 1,.int 2,.int 1],.lst [.int 1,.int 3,.int 3,.int 1]]
abbrev ia (B m:Int) (wh:List V):List O:=[.cell (some (.int B)),.cell (some (.ref 4)),.cell (some pW),.cell (some (.int m)),.list wh]
noncomputable def Et:X:=(.bin .Mult (.bin .Mult (.sub (.sub (.cell 2) (.bin .Sub (.cell 3) (.k (.int 1)))) (.bin .Sub (.loc 0) (.k (.int 1)))) (.sub (.cell 1) (.loc 0))) (.bin .Pow (.bin .Add (.cell 0) (.k (.int 1))) (.bin .FloorDiv (.bin .Mult (.bin .Sub (.cell 3) (.loc 0)) (.bin .Sub (.bin .Sub (.cell 3) (.loc 0)) (.k (.int 1)))) (.k (.int 2)))))
theorem kG (g:(B+1).natAbs < 2 ^ K) (i:fx (ia B m wh) pW (.int (m - 1))=some (.lst r)) (h:fx (ia B m wh) (.lst r) (.int (k - 1))=some (.int c)) (q:fx (ia B m wh) (.ref 4) (.int k)=some (.int w)) (l:eF (ia B m wh) .Mult (.int (m - k)) (.int (m - k - 1))=some (.int ((m - k)*(m - k - 1)))) (p:eF (ia B m wh) .FloorDiv (.int ((m - k)*(m - k - 1))) (.int 2)=some (.int (e:Nat))) (d:c.natAbs < 2 ^ 2) (b:w.natAbs < 2 ^ iw) (f:iw<=20000) (n:e<=6) (o:K<=3000) :
  (ev orc (j+7)).E [0,1,2,3] Et ⟨[some (.int k)],ia B m wh⟩=some (.int (c*w*(B+1) ^ e),⟨[some (.int k)],ia B m wh⟩):=
 have a:K*e<=3000*6:=Nat.mul_le_mul o n
 dB (dB (eI (eI (v:=pW) rfl (dB rfl rfl (gH m 1)) i) (dB rfl rfl (gH k 1)) h) (eI (v:=.ref 4) rfl rfl q) (i4 c w 2 iw d b (by decide) (Nat.le_trans f (by decide))))
  (dB (dB rfl rfl (fR B 1)) (dB (dB (dB rfl rfl (gH m k)) (dB (dB rfl rfl (gH m k)) rfl (gH (m - k) 1)) l) rfl p) (iW g e (Nat.le_trans a (by decide))))
  (i4 (c*w) ((B+1) ^ e) (2+iw) (K*e+1) (gy d b) (J2 g e) (Nat.le_trans (Nat.add_le_add_left f 2) (by decide)) (Nat.le_trans (Nat.succ_le_succ a) (by decide)))
def sm:List XS:=[(.asg (.loc 1) (.comp Et [(.loc 0)] [(.bf .range [(.k (.int 1)),(.cell 3)])] [[]] 1 0)),(.expr (.mt .append (.cell 1) [(.bin .Sub (.bin .Pow (.bin .Add (.cell 0) (.k (.int 1))) (.bin .FloorDiv (.bin .Mult (.cell 3) (.bin .Sub (.cell 3) (.k (.int 1)))) (.k (.int 2)))) (.bf .sum [(.loc 1)]))]))]
theorem ints_of {α:Type} (f:α->Int):∀l:List α,intsOf (l.map λk=>.int (f k))=some (l.map f)
 | []=>rfl
 | a::l=>by
  show (intsOf (l.map λk=>.int (f k))).map (f a::·)=_
  rw[ints_of f l];rfl
theorem rh {α:Type} (f:α->Int) (l:List α):iP hp .sum [.lst (l.map λk=>.int (f k))]=some (.int (l.map f).sum):=qM (f:=λl:List Int=>V.int l.sum) (ints_of f l)
theorem qu {ks:List Int}{x1:Option V} (f:Int->Int) (a:fq (ev orc 57) [0,1,2,3] (.bf .range [(.k (.int 1)),(.cell 3)]) ⟨[x0,x1],ia B m wh⟩=some (ks.map .int,none,⟨[x0,x1],ia B m wh⟩)) (b:∀k∈ks,(ev orc 57).E [0,1,2,3] Et ⟨[some (.int k)],ia B m wh⟩=some (.int (f k),⟨[some (.int k)],ia B m wh⟩)) (c:ks.length<=100) (p:eF (ia B m wh) .Mult (.int m) (.int (m - 1))=some (.int (m*(m - 1)))) (o:eF (ia B m wh) .FloorDiv (.int (m*(m - 1))) (.int 2)=some (.int (e:Nat))) (s:(B+1).natAbs < 2 ^ K) (h:e<=6) (n:K<=3000) (d:wh.length<=100) (r:(B+1) ^ e - (ks.map f).sum=t) :
  dX (ev orc 59) [0,1,2,3] sm ⟨[x0,x1],ia B m wh⟩=some (.next,⟨[x0,some (.lst (ks.map λk=>.int (f k)))],ia B m (wh++[.int t])⟩):=
 have q:=vn (orc:=orc) (j:=57) (cs:=[0,1,2,3]) (x:=.cell 1) (i:=4) (l0:=wh) (l:=wh) (st1:=⟨[x0,some (.lst (ks.map λk=>.int (f k)))],ia B m wh⟩) rfl rfl
  (dH (dB (dB (dB (x:=.cell 0) (y:=.k (.int 1)) rfl rfl (fR B 1)) (dB (dB (x:=.cell 3) rfl (dB (x:=.cell 3) (y:=.k (.int 1)) rfl rfl (gH m 1)) p) (y:=.k (.int 2)) rfl o) (iW s e (Nat.le_trans (Nat.mul_le_mul n h) (by decide)))) (fJ (dH (x:=.loc 1) rfl) (rh f ks)) (gH _ _))) rfl (Nat.le_trans d (by decide))
 r▸eP (dM (fh (ρ:=V.int) (g:=λk=>.int (f k)) a b (mU c)) rfl) (gq (gz q))
end
section
variable {orc:er}{B:Int}{K:Nat}{x0 x1:Option V}
noncomputable def TZ:List V:=[.int 0,.int 1]
noncomputable def Ls (B:Int):List V:=[.int 0,.int 1,.int B]
noncomputable def HV (B:Int):List V:=[.int 0,.int 1,.int B,.int (B ^ 2*(B+3))]
noncomputable def TY (B:Int):List V:=[.int 0,.int 1,.int B,.int (B ^ 2*(B+3)),.int (B ^ 3*(6+6*(B+1)+3*(B+1) ^ 2+(B+1) ^ 3))]
theorem YS (B:Int):(B+1) ^ 1 - [1*1*(B+1) ^ 0].sum=B:=by simp only[List.sum_cons,List.sum_nil];grind
theorem YR (B:Int):(B+1) ^ 3 - [1*1*(B+1) ^ 1,2*B*(B+1) ^ 0].sum=B ^ 2*(B+3):=by simp only[List.sum_cons,List.sum_nil];grind
theorem YQ (B:Int):(B+1) ^ 6 - [1*1*(B+1) ^ 3,3*B*(B+1) ^ 1,3*(B ^ 2*(B+3))*(B+1) ^ 0].sum=B ^ 3*(6+6*(B+1)+3*(B+1) ^ 2+(B+1) ^ 3):=by simp only[List.sum_cons,List.sum_nil];grind
noncomputable abbrev XR (B k:Int):Int:=if k=1 then 1*1*(B+1) ^ 1 else 2*B*(B+1) ^ 0
noncomputable abbrev XQ (B k:Int):Int:=if k=1 then 1*1*(B+1) ^ 3 else if k=2 then 3*B*(B+1) ^ 1 else 3*(B ^ 2*(B+3))*(B+1) ^ 0
theorem H6 (hB:(B+1).natAbs < 2 ^ K) (hK:K<=3000):dX (ev orc 59) [0,1,2,3] sm ⟨[x0,x1],ia B 2 TZ⟩=some (.next,⟨[x0,some (.lst [.int (1*1*(B+1) ^ 0)])],ia B 2 (Ls B)⟩):=
 qu (e:=1) (ks:=[1]) (λk=>1*1*(B+1) ^ 0) rfl (λk hk=>by
  rw[List.mem_singleton.mp hk]
  exact kG (j:=50) (iw:=1) hB rfl rfl rfl rfl rfl (by decide) (by decide) (by decide) (by decide) hK) (by decide) rfl rfl hB (by decide) hK (by decide) (YS B)
theorem H5 (hB:(B+1).natAbs < 2 ^ K) (I2:B.natAbs < 2 ^ K) (hK:K<=3000):dX (ev orc 59) [0,1,2,3] sm ⟨[x0,x1],ia B 3 (Ls B)⟩=some (.next,⟨[x0,some (.lst [.int (1*1*(B+1) ^ 1),.int (2*B*(B+1) ^ 0)])],ia B 3 (HV B)⟩):=
 qu (e:=3) (wh:=Ls B) (ks:=[1,2]) (XR B) rfl (λk hk=>by
  rcases List.mem_cons.mp hk with rfl | hk
  ·exact kG (j:=50) (iw:=1) (c:=1) (w:=1) (e:=1) hB rfl rfl rfl rfl rfl (by decide) (by decide) (by decide) (by decide) hK
  ·rw[List.mem_singleton.mp hk]
   exact kG (j:=50) (iw:=K) (c:=2) (w:=B) (e:=0) hB rfl rfl rfl rfl rfl (by decide) I2 (Nat.le_trans hK (by decide)) (by decide) hK) (by decide) rfl rfl hB (by decide) hK (by decide:3<=100) (YR B)
theorem Jo (a:B.natAbs < 2 ^ K):(B ^ 2*(B+3)).natAbs < 2 ^ (K*2+(K+2)):=by
 refine gy (fN a 2 (by decide)) ?_
 have b:(B+3).natAbs<=B.natAbs+3:=Int.natAbs_add_le B 3
 have c:1<=2 ^ K:=Nat.one_le_two_pow
 rw[Nat.pow_add]
 lia
theorem WG {K:Nat}(a:K<=3000):K*2+(K+2)<=20000:=by lia
theorem Qp (hB:(B+1).natAbs < 2 ^ K) (I2:B.natAbs < 2 ^ K) (hK:K<=3000):dX (ev orc 59) [0,1,2,3] sm ⟨[x0,x1],ia B 4 (HV B)⟩=some (.next,⟨[x0,some (.lst [.int (1*1*(B+1) ^ 3),.int (3*B*(B+1) ^ 1),.int (3*(B ^ 2*(B+3))*(B+1) ^ 0)])],ia B 4 (TY B)⟩):=
 qu (e:=6) (wh:=HV B) (ks:=[1,2,3]) (XQ B) rfl (λk hk=>by
  rcases List.mem_cons.mp hk with rfl | hk
  ·exact kG (j:=50) (iw:=1) (c:=1) (w:=1) (e:=3) hB rfl rfl rfl rfl rfl (by decide) (by decide) (by decide) (by decide) hK
  ·rcases List.mem_cons.mp hk with rfl | hk
   ·exact kG (j:=50) (iw:=K) (c:=3) (w:=B) (e:=1) hB rfl rfl rfl rfl rfl (by decide) I2 (Nat.le_trans hK (by decide)) (by decide) hK
   ·rw[List.mem_singleton.mp hk]
    exact kG (j:=50) (iw:=K*2+(K+2)) (c:=3) (w:=B ^ 2*(B+3)) (e:=0) hB rfl rfl rfl rfl rfl (by decide) (Jo I2) (WG hK) (by decide) hK) (by decide) rfl rfl hB (by decide) hK (by decide:4<=100) (YQ B)
noncomputable def pC (n:Nat) (B:Int):Int:=if n=2 then B ^ 2*(B+3) else B ^ 3*(6+6*(B+1)+3*(B+1) ^ 2+(B+1) ^ 3)
abbrev A_ (B:Int):List O:=[.cell (some (.int B)),.cell (some (.ref 4)),.cell (some pW),.cell none,.list TZ]
theorem Jz {M n:Nat}(f:2<=M) (e:n=2\/n=3) (d:(B+1).natAbs < 2 ^ K) (a:B.natAbs < 2 ^ K) (c:K<=3000) (hp:List O):(dA M).top 231 [.int n,.int B] [] [] hp=some (.int (pC n B),hp):=by
 obtain ⟨m,rfl⟩:∃m,M=m+1:=⟨M - 1,(Nat.sub_add_cancel (Nat.le_trans (by decide) f)).symm⟩
 rcases e with rfl | rfl
 ·have b:gX (dA m) [0,1,2,3] yX ⟨[some (.int 2),none],[.cell (some (.int B)),.cell none,.cell none,.cell none]⟩=some (.int (pC 2 B),ia B 3 (HV B)):=by
   have s:(ev (dA m) 60).S [0,1,2,3] (.fI (.cell 3) (.bf .range [(.k (.int 2)),(.bin .Add (.loc 0) (.k (.int 2)))]) sm) ⟨[some (.int 2),none],A_ B⟩=_:=ie (l:=[.int 2,.int 3]) (gd:=none) rfl (eW rfl rfl (H6 d c) (eW rfl rfl (H5 d a c) rfl))
   rw[gW]
   unfold yX
   exact dG (st1:=⟨[some (.int 2),none],A_ B⟩) rfl (dG s (fH rfl))
  exact eg m (t:=H_) (k:=2) rfl rfl rfl rfl (as':=[.int 2,.int B]) rfl b rfl
 ·have b:gX (dA m) [0,1,2,3] yX ⟨[some (.int 3),none],[.cell (some (.int B)),.cell none,.cell none,.cell none]⟩=some (.int (pC 3 B),ia B 4 (TY B)):=by
   have s:(ev (dA m) 60).S [0,1,2,3] (.fI (.cell 3) (.bf .range [(.k (.int 2)),(.bin .Add (.loc 0) (.k (.int 2)))]) sm) ⟨[some (.int 3),none],A_ B⟩=_:=ie (l:=[.int 2,.int 3,.int 4]) (gd:=none) rfl (eW rfl rfl (H6 d c) (eW rfl rfl (H5 d a c) (eW rfl rfl (Qp d a c) rfl)))
   rw[gW]
   unfold yX
   exact dG (st1:=⟨[some (.int 3),none],A_ B⟩) rfl (dG s (fH rfl))
  exact eg m (t:=H_) (k:=2) rfl rfl rfl rfl (as':=[.int 3,.int B]) rfl b rfl
end
theorem ED (n d) (l):valN n (d::l)=d+2 ^ n*valN n l:=rfl
theorem zT (n):∀l:List Nat,(∀d∈l,d < 2 ^ n)->eR n (valN n l) l.length=l
 | [],_=>rfl
 | d::l,h=>by
  have a:=h d (List.mem_cons_self ..)
  have i:=zT n l (λx c=>h x (List.mem_cons_of_mem _ c))
  have b:0 < 2 ^ n:=Nat.two_pow_pos n
  show (valN n (d::l) % 2 ^ n)::eR n (valN n (d::l) / 2 ^ n) l.length=_
  rw[ED,Nat.add_mul_mod_self_left,Nat.mod_eq_of_lt a,Nat.add_mul_div_left _ _ b,Nat.div_eq_of_lt a,Nat.zero_add,i]
theorem RE (f:0 < n) (d:2 ^ (n*L)<=a) (b:a < 2 ^ (n*(L+1))):nd a n=L+1:=by
 have h:aa (a:Int)<=n*(L+1):=bits_le.mpr b
 have g:¬aa (a:Int)<=n*L:=λq=>by have:=bits_le.mp q;lia
 show (aa (a:Int)+n - 1) / n=L+1
 have e:n*(L+1)=n*L+n:=Nat.mul_succ ..
 apply Nat.div_eq_of_lt_le
 ·rw[Nat.mul_comm];lia
 ·have c:(L+1+1)*n=n*L+n+n:=by rw[Nat.mul_comm,Nat.mul_succ,Nat.mul_succ]
  show _ < (L+1+1)*n
  rw[c];lia
theorem val_last (n):∀(l:List Nat) (d:Nat),0 < d->2 ^ (n*l.length)<=valN n (l++[d]):=λl d a=>by
 rw[mY]
 show _<=_+2 ^ (n*l.length)*(d+2 ^ n*0)
 rw[Nat.mul_zero,Nat.add_zero]
 have:2 ^ (n*l.length)*1<=2 ^ (n*l.length)*d:=Nat.mul_le_mul_left _ a
 lia
theorem zD (m n) (l) (d) (hp) (h:18<=m) (g:0 < n) (e:n<=16000) (f:∀x∈l++[d],x < 2 ^ n) (j:0 < d) (i:n*(l.length+1)<=30000) :
  (dA m).top 93 [.int (valN n (l++[d]):Nat),.int n] [] [] hp=some (.lst (nats (l++[d])),hp):=by
 have b:=q7 n (l++[d]) f
 have a:(l++[d]).length=l.length+1:=by simp
 rw[a] at b
 have c:=RE g (val_last n l d j) b
 have:=Uz m (valN n (l++[d])) n hp h g e (Nat.le_trans (bits_le.mpr b) i)
 rw[c,<-a,zT n _ f] at this
 exact this
noncomputable def eX (n:Nat):Nat:=n*(n - 1) / 2
noncomputable def gG (n:Nat):List Nat:=if n=2 then [1,1]++[1] else [1,2,2,1,2,3,1,0,2,1,0,0]++[1]
noncomputable def fk (n:Nat):List (Nat×Nat):=if n=2 then [(1,0),(0,1),(0,0)] else [(3,0),(2,1),(1,1),(2,0),(1,1),(0,3),(1,2),(0,2),(2,0),(1,0),(0,2),(1,0),(0,1),(1,1),(0,1),(0,0)]
theorem LB:∀n∈[2,3],Co n=fk n:=by decide +kernel
def Ww (n w:Nat):Nat:=((fk n).map λp=>2 ^ (w*((eX n+1)*p.1+p.2))).sum
theorem J8 (a:n=2\/n=3) (w):Ww n w=valN w (gG n):=by
 have e:∀k,2 ^ (w*k)=(2 ^ w) ^ k:=λk=>Nat.pow_mul ..
 rcases a with rfl | rfl
 ·show (2 ^ (w*2)+(2 ^ (w*1)+(2 ^ (w*0)+0)):Nat)=1+2 ^ w*(1+2 ^ w*(1+2 ^ w*0))
  simp only[e]
  generalize 2 ^ w=X
  grind
 ·show (2 ^ (w*12)+(2 ^ (w*9)+(2 ^ (w*5)+(2 ^ (w*8)+(2 ^ (w*5)+(2 ^ (w*3)+(2 ^ (w*6)+(2 ^ (w*2)+(2 ^ (w*8)+(2 ^ (w*4)+(2 ^ (w*2)+(2 ^ (w*4)+(2 ^ (w*1)+(2 ^ (w*5)+(2 ^ (w*1)+(2 ^ (w*0)+0))))))))))))))):Nat) =
   1+2 ^ w*(2+2 ^ w*(2+2 ^ w*(1+2 ^ w*(2+2 ^ w*(3+2 ^ w*(1+2 ^ w*(0+2 ^ w*(2+2 ^ w*(1+2 ^ w*(0+2 ^ w*(0+2 ^ w*(1+2 ^ w*0))))))))))))
  simp only[e]
  generalize 2 ^ w=X
  grind
section
variable {orc:er}{n w M:Nat}{loc:List (Option V)}
noncomputable abbrev h_ (p:Nat×Nat):V:=.tup [.int (p.1:Nat),.int (p.2:Nat)]
noncomputable def Jd:X:=(.bin .Pow (.k (.int 2)) (.bin .Mult (.cell 1) (.bin .Add (.bin .Mult (.bin .Add (.cell 0) (.k (.int 1))) (.sub (.loc 0) (.k (.int 0)))) (.sub (.loc 0) (.k (.int 1))))))
theorem nj (a b:Nat):eF hp .Add (.int a) (.int b)=some (.int (a+b:Nat)):=rfl
theorem ya {hp:List O}{a b:Nat}(i j:Nat) (c:a < 2 ^ i) (e:b < 2 ^ j) (d:i<=50000) (f:j<=50000):eF hp .Mult (.int a) (.int b)=some (.int (a*b:Nat)):=i4 a b i j c e d f
theorem zk {hp:List O}{k:Nat}(h:2*k<=100000):eF hp .Pow (.int 2) (.int k)=some (.int ((2 ^ k:Nat):Int)):=(iW (a:=2) (i:=2) (by decide) k h).trans (congrArg (λx=>some (V.int x)) (Int.natCast_pow 2 k).symm)
theorem G7 {j:Nat}{m:Nat}{hp:List O}{p:Nat×Nat}(f:hp[0]?=some (.cell (some (.int m)))) (g:hp[1]?=some (.cell (some (.int w)))) (e:m<=3) (d:w<=2300) (a:p.1<=3) (c:p.2<=3) :
  (ev orc (j+7)).E [0,1] Jd ⟨[some (h_ p)],hp⟩=some (.int ((2 ^ (w*((m+1)*p.1+p.2)):Nat):Int),⟨[some (h_ p)],hp⟩):=
 have b:(m+1)*p.1+p.2<=15:=Nat.add_le_add (Nat.mul_le_mul (Nat.succ_le_succ e) a) c
 dB rfl (dB (d_ rfl g) (dB (dB (dB (d_ rfl f) rfl (nj m 1)) (eI (v:=h_ p) (w:=.int 0) rfl rfl rfl) (ya 3 3 (Nat.lt_succ_of_le (Nat.le_trans (Nat.succ_le_succ e) (by decide))) (Nat.lt_succ_of_le (Nat.le_trans a (by decide))) (by decide) (by decide))) (eI (v:=h_ p) (w:=.int 1) rfl rfl rfl) (nj _ _))
  (ya 12 4 (Nat.lt_of_le_of_lt d (by decide)) (Nat.lt_succ_of_le b) (by decide) (by decide))) (zk (Nat.le_trans (Nat.mul_le_mul_left 2 (Nat.mul_le_mul d b)) (by decide)))
theorem vO:∀l:List Nat,(l.map λx:Nat=>(x:Int)).sum=((l.sum:Nat):Int)
 | []=>rfl
 | x::l=>by rw[List.map_cons,List.sum_cons,List.sum_cons,vO l];rfl
theorem LS {α:Type} (f:α->Nat) (l:List α):iP hp .sum [.lst (l.map λa=>.int (f a:Nat))]=some (.int ((l.map f).sum:Nat)):=
 (rh (λa=>(f a:Int)) l).trans (congrArg (λx=>some (V.int x)) (by rw[<- vO,List.map_map];rfl))
noncomputable abbrev qe (m w:Nat) (a:List V):List O:=[.cell (some (.int m)),.cell (some (.int w)),.list a]
noncomputable def GF:List XS:=[(.nq (.loc 3) (.bin .Add (.bin .Mult (.bin .Add (.cell 0) (.k (.int 1))) (.sub (.loc 1) (.k (.int 1)))) (.sub (.loc 1) (.k (.int 0)))) .Add (.k (.int 1)))]
theorem SA (orc) (w) (x0 x1 x2):fL (ev orc 59) [0,1] (.loc 1) none GF (ej (fk 2)) ⟨[x0,x1,x2,some (.ref 2)],qe 1 w (List.replicate 3 (.int 0))⟩=some (.next,⟨[x0,some (h_ (0,0)),x2,some (.ref 2)],qe 1 w (nats (gG 2))⟩):=by kernel_rfl
theorem Sz (orc) (w) (x0 x1 x2):fL (ev orc 59) [0,1] (.loc 1) none GF (ej (fk 3)) ⟨[x0,x1,x2,some (.ref 2)],qe 3 w (List.replicate 13 (.int 0))⟩=some (.next,⟨[x0,some (h_ (0,0)),x2,some (.ref 2)],qe 3 w (nats (gG 3))⟩):=by kernel_rfl
end
section
variable {orc:er}{n w M:Nat}{loc:List (Option V)}
def Wv:X:=(.bf .sum [(.comp Jd [(.loc 0)] [(.loc 0)] [[]] 1 0)])
theorem J9 {hp:List O} (l:hp[0]?=some (.cell (some (.int m)))) (o:hp[1]?=some (.cell (some (.int w)))) (c:n=2\/n=3) (i:m=eX n) (h:w<=2300) (k:loc[0]?=some (some (.lst (ej (fk n))))) :
  (ev orc (j+10)).E [0,1] Wv ⟨loc,hp⟩=some (.int (valN w (gG n):Nat),⟨loc,hp⟩):=by
 subst i
 have e:eX n<=3:=by rcases c with rfl | rfl<;>decide
 have a:∀p∈fk n,p.1<=3/\p.2<=3:=by rcases c with rfl | rfl<;>decide
 have f:(fk n).length<=65536:=by rcases c with rfl | rfl<;>decide
 have d:fq (ev orc (j+8)) [0,1] (.loc 0) ⟨loc,hp⟩=some ((fk n).map h_,none,⟨loc,hp⟩):=g' (v:=.lst (ej (fk n))) rfl (eZ k)
 rw[<- J8 c w]
 exact fJ (dH (fh (ρ:=h_) (g:=λp=>.int ((2 ^ (w*((eX n+1)*p.1+p.2)):Nat):Int)) d (λp b=>G7 (j:=j+1) l o e h (a p b).1 (a p b).2) f)) (LS _ _)
theorem N5 (a:n=2\/n=3):(∀d∈gG n,d < 2 ^ 2)/\∃l,gG n=l++[1]/\l.length+1<=13:=by
 rcases a with rfl | rfl
 ·exact ⟨by decide,[1,1],rfl,by decide⟩
 ·exact ⟨by decide,[1,2,2,1,2,3,1,0,2,1,0,0],rfl,by decide⟩
theorem Kw (c:n=2\/n=3) (a:2<=w):∀d∈gG n,d < 2 ^ w:=λd b=>
 Nat.lt_of_lt_of_le ((N5 c).1 d b) (Nat.pow_le_pow_right (by decide) a)
theorem yO {hp:List O} (h:hp[i]?=some (.list (nats a))):fy hp .Eq (.lst (nats a)) (.ref i)=some true:=
 (congrArg (λo=>xP .Eq (.lst (nats a)) (.lst (nats a)) (pE i o)) h:fy hp .Eq (.lst (nats a)) (.ref i)=_).trans ((sY (hp:=hp) a a).trans (dt rfl))
abbrev ub (n:Nat) (x1 x2 x3:Option V):List (Option V):=[some (.lst (ej (fk n))),x1,x2,x3]
theorem KS (q:20<=M) (d:n=2\/n=3) (h:w<=2300) (b:2<=w) (hp):(dA M).top 236 [.lst (ej (fk n)),.int (eX n:Nat),.int w] [] [] hp=some (.bool true,hp):=by
 obtain ⟨m,rfl⟩:∃m,M=m+1:=⟨M - 1,(Nat.sub_add_cancel (Nat.le_trans (by decide) q)).symm⟩
 have y:19<=m:=Nat.le_of_succ_le_succ q
 have e:18<=m:=Nat.le_of_succ_le y
 have p:0 < w:=Nat.lt_of_lt_of_le (by decide) b
 refine gk λP k=>?_
 obtain ⟨_,l,i,a⟩:=N5 d
 have f:=Kw d b
 have c:w*(l.length+1)<=2300*13:=Nat.mul_le_mul h a
 have r:=λhp=>zD m w l 1 hp e p (Nat.le_trans h (by decide)) (i▸f) (by decide) (Nat.le_trans c (by decide))
 rw[<- i] at r
 have o:w*(gG n).length<=50000:=by
  rw[i,List.length_append]
  exact Nat.le_trans c (by decide)
 obtain ⟨B,x⟩:=Oh m w (qe (eX n) w (nats (gG n))) (.ref 2) (gG n) e p rfl rfl f o
 have g:gX (dA m) [0,1] HK ⟨ub n none none none,[.cell (some (.int (eX n:Nat))),.cell (some (.int w))]⟩=some (.bool true,qe (eX n) w (nats (gG n))++B):=by
  have D:=J9 (orc:=dA m) (j:=48) (n:=n) (m:=eX n) (w:=w) (loc:=ub n none none none) (hp:=[.cell (some (.int (eX n:Nat))),.cell (some (.int w))]) rfl rfl d rfl h rfl
  have z:(ev (dA m) 58).E [0,1] (.new (.bin .Mult (.list [(.k (.int 0))]) (.bin .Add (.bin .Mult (.bin .Add (.cell 0) (.k (.int 1))) (.cell 0)) (.k (.int 1))))) ⟨ub n none none none,[.cell (some (.int (eX n:Nat))),.cell (some (.int w))]⟩ =
    some (.ref 2,⟨ub n none none none,qe (eX n) w (List.replicate ((eX n+1)*eX n+1) (.int 0))⟩):=by
   rcases d with rfl | rfl<;>rfl
  have A:(ev (dA m) 60).S [0,1] HJ ⟨ub n none none none,[.cell (some (.int (eX n:Nat))),.cell (some (.int w))]⟩=some (.next,⟨ub n none (some (.int (valN w (gG n):Nat))) (some (.ref 2)),qe (eX n) w (List.replicate ((eX n+1)*eX n+1) (.int 0))⟩):=dM (fE (dD D (dH z))) rfl
  have v:(ev (dA m) 60).S [0,1] (.fI (.loc 1) (.loc 0) GF) ⟨ub n none (some (.int (valN w (gG n):Nat))) (some (.ref 2)),qe (eX n) w (List.replicate ((eX n+1)*eX n+1) (.int 0))⟩=some (.next,⟨ub n (some (h_ (0,0))) (some (.int (valN w (gG n):Nat))) (some (.ref 2)),qe (eX n) w (nats (gG n))⟩):=by
   rcases d with rfl | rfl
   ·exact ie rfl (SA ..)
   ·exact ie rfl (Sz ..)
  rw[gW]
  unfold HK
  exact dG A (dG v (fH (fD (yt (dW (call_top (dD rfl (dH rfl)) (r _)) rfl (yO rfl)) rfl (dW (u:=.int (valN w (gG n):Nat)) (call_top (dD rfl (dH rfl)) x) rfl (dt rfl))))))
 have s:dI (eE [] 9) [.lst (ej (fk n)),.int (eX n:Nat),.int w]=some [.lst (ej (fk n)),.int (eX n:Nat),.int w]:=iY (qM (o7 _ 6 _)) (iY rfl (pR rfl))
 exact k (eg m (t:=LD) (k:=3) rfl rfl rfl rfl s g rfl)
end
end L1
end
noncomputable section
open PySem PyProof.Rows PySem.Calls PySem.Spec
namespace L1
open Vm
theorem tP (h:aa y<=9000):ab x y=false:=by
 have a:¬300 < (if (y==0)=true then 0 else y.natAbs.log2 / 30+1):=by
  unfold aa at h
  by_cases e:(y==0)=true
  ·rw[if_pos e];decide
  ·rw[if_neg e] at h ⊢
   exact Nat.not_lt.mpr (Nat.succ_le_of_lt (Nat.div_lt_of_lt_mul (Nat.lt_of_succ_le (Nat.le_trans h (by decide)))))
 exact (congrArg (·&&_) (decide_eq_false a)).trans (Bool.false_and _)
theorem yb (c:b≠0) (h:aa b<=9000):eF hp .Mod (.int a) (.int b)=some (.int (Int.fmod a b)):=
 if_neg λq=>q.elim c λe=>fT ((tP h).symm.trans e)
theorem OP (a b):iP hp .min [.int a,.int b]=some (.int (if b < a then b else a)):=rfl
theorem OW (c:b≠0) (h:aa b<=9000):eF hp .FloorDiv (.int a) (.int b)=some (.int (Int.fdiv a b)):=
 if_neg λq=>q.elim c λe=>fT ((tP h).symm.trans e)
noncomputable def Na (slot L:Nat):List Nat:=(List.range L).filter λk=>decide (slot<=k)&&decide ((k - slot) % 3=0)
theorem A1:∀slot:Nat,slot < 3->∀L:Nat,L < 61->l_ slot L 3=true/\rangeInts (slot:Int) 3 (gI slot L 3)=(Na slot L).map (λk:Nat=>(k:Int))/\¬((3:Int)=0\/ab ((L:Int) - slot) 3=true):=by decide +kernel
section
variable {orc:er}{ns:List Int}{c2 c3 c4:Option V}
noncomputable def BE:V:=.tup [.int 18,.int 271828,.int 6720123]
abbrev mm (ns:List Int) (c2 c3 c4:Option V):List O:=[.cell (some (.lst (ns.map .int))),.cell (some BE),.cell c2,.cell c3,.cell c4]
noncomputable def MR:X:=(.bin .Mod (.sub (.cell 0) (.loc 0)) (.bin .Pow (.k (.int 10)) (.k (.int 12))))
theorem Kc (b:k < ns.length) (c:ns.length<=63):(ev orc (j+5)).E [0,1,2,3,4] MR ⟨[some (.int k)],mm ns c2 c3 c4⟩=some (.int (Int.fmod (ns.getD k 0) (10 ^ 12)),⟨[some (.int k)],mm ns c2 c3 c4⟩):=
 have e:(ns.map V.int)[k]?=some (.int (ns.getD k 0)):=by rw[List.getElem?_map,List.getElem?_eq_getElem b,List.getD_eq_getElem?_getD,List.getElem?_eq_getElem b];rfl
 dB (eI (v:=.lst (ns.map .int)) rfl rfl (An e (by rw[List.length_map];exact Nat.le_trans c (by decide)))) (dB (v:=.int 10) rfl rfl (iW (a:=10) (i:=4) (by decide) 12 (by decide))) (yb (by decide) (by decide))
theorem Cs {α:Type}{f:α->Int} (h:∀x,0<=f x):∀l:List α,0<=(l.map f).sum
 | []=>Int.le_refl 0
 | x::l=>by rw[List.map_cons,List.sum_cons];exact Int.add_nonneg (h x) (Cs h l)
theorem Ke (a:Nat):(if (60:Int) < (a:Int) then (60:Int) else a)=((min a 60:Nat):Int):=by split<;>lia
noncomputable def OU (slot:Nat):Nat:=[18,271828,6720123].getD slot 0
def Tp:X:=(.bin .Add (.sub (.cell 1) (.loc 0)) (.bf .sum [(.comp MR [(.loc 0)] [(.bf .range [(.loc 0),(.bf .min [(.bf .len [(.cell 0)]),(.k (.int 60))]),(.k (.int 3))])] [[]] 1 0)]))
theorem K0:(List.range 3).map (λslot:Nat=>fx hp BE (.int slot))=(List.range 3).map λslot=>some (.int (OU slot:Nat)):=rfl
theorem IC {l:List V} (e:l.length=n) (h:n<=65536):iP hp .len [.lst l]=some (.int n):=by
 subst e
 exact if_pos (decide_eq_true h)
theorem Kk (slot) (h:L<=60):(Na slot L).length<=65536:=Nat.le_trans (List.length_filter_le _ _) (Nat.le_trans (Nat.le_of_eq List.length_range) (Nat.le_trans h (by decide)))
theorem Mf {hp:List O}{slot L:Nat}(a:slot < 3) (h:L < 61):jZ hp (.gf slot L 3)=some (nats (Na slot L)):=by
 show (if l_ slot (L:Nat) 3=true then some ((rangeInts (slot:Int) 3 (gI slot (L:Nat) 3)).map V.int) else none)=_
 rw[if_pos (A1 slot a L h).1,(A1 slot a L h).2.1,List.map_map]
 rfl
theorem Mg {hp:List O}{slot L:Nat}(a:slot < 3) (h:L < 61):iP hp .range [.int slot,.int L,.int 3]=some (.gf slot L 3):=by
 show (if (3:Int)=0\/ab ((L:Int) - slot) 3=true then none else some (V.gf slot L 3))=_
 exact if_neg (A1 slot a L h).2.2
theorem G3 {j slot:Nat}(f:slot < 3) (h:ns.length<=63):∃c:Nat,(ev orc (j+12)).E [0,1,2,3,4] Tp ⟨[some (.int slot)],mm ns c2 c3 c4⟩=some (.int c,⟨[some (.int slot)],mm ns c2 c3 c4⟩):=
 have a:min ns.length 60<=60:=Nat.min_le_right ..
 have b:=(g' (x:=.bf .range [(.loc 0),(.bf .min [(.bf .len [(.cell 0)]),(.k (.int 60))]),(.k (.int 3))]) (orc:=orc) (j:=j+9) (cs:=[0,1,2,3,4]) (st:=⟨[some (.int slot)],mm ns c2 c3 c4⟩) rfl (fJ (v:=.gf slot (min ns.length 60:Nat) 3) (dD rfl (dD (fJ (dD (fJ (dH (v:=.lst (ns.map .int)) rfl) (IC (List.length_map ..) (Nat.le_trans h (by decide)))) (dH rfl)) ((OP _ _).trans (congrArg (λi=>some (V.int i)) (Ke ns.length)))) (dH rfl))) (Mg f (Nat.lt_succ_of_le a)))).trans (pL (Mf f (Nat.lt_succ_of_le a)))
 have l:=dB (eI (x:=.cell 1) (v:=BE) rfl rfl (List.map_inj_left.mp K0 slot (List.mem_range.mpr f))) (fJ (dH (fh (ρ:=λd:Nat=>V.int d) (g:=λk=>.int (Int.fmod (ns.getD k 0) (10 ^ 12))) b (λk m=>Kc (j:=j+4) (Nat.lt_of_lt_of_le (List.mem_range.mp (List.mem_filter.mp m).1) (Nat.min_le_left ..)) h) (Kk slot a))) (rh _ _)) (fR _ _)
 (Int.eq_ofNat_of_zero_le (Int.add_nonneg (Int.natCast_nonneg (OU slot)) (Cs (λk=>Int.fmod_nonneg_of_pos (ns.getD k 0) (by decide:(0:Int) < 10 ^ 12)) _))).elim λc e=>⟨c,l.trans (congrArg (λi:Int=>some (V.int i,_)) e)⟩
end
end L1
end
noncomputable section
open PySem
namespace L1
open Vm
noncomputable abbrev eG (l:List V):List (Option V):=l.map some++List.replicate (20 - l.length) none
noncomputable def ix:V:=.lst [.con (.ref 44),.con (.ref 51),.con (.ref 58),.con (.ref 65),.con (.ref 72)]
noncomputable def ig:V:=.lst [.tup [.dw "fil",.dw "ﬁ"],.tup [.dw "stm",.dw "ﬆ"],.tup [.dw "hpz",.dw "㏋"],.tup [.dw "kmv",.dw "㏎"],.tup [.dw "wbn",.dw "㏝"],.tup [.dw "rso",.dw "₨"],.tup [.dw "nok",.dw "№"],.tup [.dw "flh",.dw "ﬂ"]]
noncomputable def c5:List Nat:=[0,1,2,3,4]
section
variable {orc:er}{c0 c1 c2 j k:Nat}{loc:List (Option V)}{hp:List O}{cs:List Nat}
noncomputable def hO (c0 c1 c2:Nat):V:=.lst [.int c0,.int c1,.int c2]
theorem BG (h:loc[0]?=some (some (hO c0 c1 c2))):(ev orc (j+2)).E cs (.sub (.loc 0) (.k (.int 0))) ⟨loc,hp⟩=some (.int c0,⟨loc,hp⟩):=eI (eZ h) rfl rfl
theorem O4 (h:loc[0]?=some (some (hO c0 c1 c2))):(ev orc (j+2)).E cs (.sub (.loc 0) (.k (.int 1))) ⟨loc,hp⟩=some (.int c1,⟨loc,hp⟩):=eI (eZ h) rfl rfl
theorem yg (h:loc[0]?=some (some (hO c0 c1 c2))):(ev orc (j+2)).E cs (.sub (.loc 0) (.k (.int 2))) ⟨loc,hp⟩=some (.int c2,⟨loc,hp⟩):=eI (eZ h) rfl rfl
theorem Jy {x:X}{st:St}{v b:Nat}{b':Int}(h:(ev orc (j+1)).E cs x st=some (.int v,st)) (d:b'=(b:Int)) (c:0 < b) (a:b < 2 ^ 20) :
  (ev orc (j+2)).E cs (.bin .Mod x (.k (.int b'))) st=some (.int (v % b:Nat),st):=d▸dB h rfl (pv _ b c (hU a))
theorem tq {x:X}{st:St}{v a b:Nat}{a' b':Int}(h:(ev orc (j+1)).E cs x st=some (.int v,st)) (i:a'=(a:Int)) (g:b'=(b:Int)) (f:0 < a) (c:a < 2 ^ 20) (e:0 < b) (d:b < 2 ^ 20) :
  (ev orc (j+3)).E cs (.bin .Mod (.bin .FloorDiv x (.k (.int a'))) (.k (.int b'))) st=some (.int (v / a % b:Nat),st):=Jy (i▸dB h rfl (lP v a f (hU c))) g e d
theorem pK {α:Type}{f g:Nat->α} (h:(List.range m).map f=(List.range m).map g) (a:i < m):f i=g i:=List.map_inj_left.mp h i (List.mem_range.mpr a)
theorem JD {i:Nat}(a:i < 8):fx hp ig (.int i)=some (.tup [.dw (pZ i),.dw (ku i)]):=pK (f:=λi:Nat=>fx hp ig (.int i)) (g:=λi=>some (.tup [.dw (pZ i),.dw (ku i)])) rfl a
theorem Gr {i:Nat}(a:i < 5):fx hp ix (.int i)=some (.con (.ref (gM i))):=pK (f:=λi:Nat=>fx hp ix (.int i)) (g:=λi=>some (.con (.ref (gM i)))) rfl a
theorem tail_sub {i:Nat}(a:i < 3):fx hp (.lst [.none,.dw ".",.dw ""]) (.int i)=some (iX i):=pK (f:=λi:Nat=>fx hp (.lst [.none,.dw ".",.dw ""]) (.int i)) (g:=λi=>some (iX i)) rfl a
theorem EG:∀i,i < 8->dQ (pZ i).cps.size=true:=by decide +kernel
theorem FQ:∀i,i < 8->∀n∈[2,3],dQ (gB i n).cps.size=true:=by decide +kernel
theorem JM {i n:Nat}(a:i < 8):nG hp (.dw (pZ i)) .none (.int n)=some (.dw (gB i n)):=if_pos (EG i a)
theorem JN (a:i < 8) (b:n=2\/n=3):nG hp (.dw (gB i n)) .none (.int 2)=some (.dw (aM (gB i n) none (some 2))):=if_pos (FQ i a n (jP b))
noncomputable def nC (c0:Nat):Nat:=2+c0 % 2
noncomputable def iC (c0:Nat):Nat:=c0 / 30 % 8
noncomputable def hC (c0:Nat):Nat:=c0 / 2 % 5
noncomputable def tC (c0:Nat):Nat:=c0 / 10 % 3
noncomputable def Fc (c1:Nat):Bool:=decide (c1 % 5≠0)
abbrev iO (ns:List Int) (t b m:Option V):List O:=[.cell (some (.lst (ns.map .int))),.cell (some BE),.cell t,.cell b,.cell m]
def DO (c0:Nat):List Nat:=fb (iC c0) (nC c0)
def qb (c0 c1:Nat):V:=.dE (ones (DO c0)) (fZ (DO c0) c1)
variable {ns:List Int}{M:Nat}
theorem Ym:(2:Int)+((c0 % 2:Nat):Int)=((nC c0:Nat):Int):=rfl
theorem R0 (e:ns.length<=63):∃c0 c1 c2:Nat,(ev (dA M) 60).S [0,1,2,3,4] HH ⟨eG [],iO ns none none none⟩=some (.next,⟨eG [hO c0 c1 c2],iO ns none none none⟩):=
 have b:=λa i=>G3 (orc:=dA M) (ns:=ns) (c2:=none) (c3:=none) (c4:=none) (j:=46) (slot:=a) i e
 (b 0 (by decide)).elim λc0 f=>(b 1 (by decide)).elim λc1 c=>(b 2 (by decide)).elim λc2 h=>
  ⟨c0,c1,c2,dM (fh (l:=[0,1,2]) (ρ:=λd:Nat=>V.int d) (g:=λk=>.int ([c0,c1,c2].getD k 0:Nat)) rfl (λk hk=>by
   rcases List.mem_cons.mp hk with rfl | hk
   ·exact f
   ·rcases List.mem_cons.mp hk with rfl | hk
    ·exact c
    ·rw[List.mem_singleton.mp hk];exact h) (by decide)) rfl⟩
theorem RZ:(ev (dA M) 60).S [0,1,2,3,4] HG ⟨eG [hO c0 c1 c2],iO ns none none none⟩=some (.next,⟨eG [hO c0 c1 c2,.int (nC c0:Nat),ix],iO ns none none none⟩):=
 dM (fE (dD (dB rfl (Jy (b:=2) (b':=2) (BG rfl) rfl (by decide) (by decide)) (fR 2 _)) (dH (v:=ix) rfl))) rfl
theorem RY:(ev (dA M) 60).S [0,1,2,3,4] HE ⟨eG [hO c0 c1 c2,.int (nC c0:Nat),ix],iO ns none none none⟩=some (.next,⟨eG [hO c0 c1 c2,.int (nC c0:Nat),ix,ig],iO ns none none none⟩):=rfl
theorem ml:iC c0 < 8:=Nat.mod_lt _ (by decide)
theorem I1:hC c0 < 5:=Nat.mod_lt _ (by decide)
theorem H9:tC c0 < 3:=Nat.mod_lt _ (by decide)
theorem fQ:nC c0=2\/nC c0=3:=(Nat.mod_two_eq_zero_or_one c0).elim (λe=>.inl (congrArg (2+·) e)) λe=>.inr (congrArg (2+·) e)
abbrev l6 (c0 c1 c2:Nat):List V:=[hO c0 c1 c2,.int (nC c0:Nat),ix,ig,.dw (pZ (iC c0)),.dw (ku (iC c0)),.dw (gB (iC c0) (nC c0))]
theorem RW:(ev (dA M) 60).S [0,1,2,3,4] HD ⟨eG [hO c0 c1 c2,.int (nC c0:Nat),ix,ig],iO ns none none none⟩=some (.next,⟨eG [hO c0 c1 c2,.int (nC c0:Nat),ix,ig,.dw (pZ (iC c0)),.dw (ku (iC c0))],iO ns none none none⟩):=
 dM (eI (v:=ig) rfl (tq (a:=30) (b:=8) (a':=30) (b':=8) (BG rfl) rfl rfl (by decide) (by decide) (by decide) (by decide)) (JD (i:=iC c0) ml)) rfl
theorem RV:(ev (dA M) 60).S [0,1,2,3,4] HC ⟨eG [hO c0 c1 c2,.int (nC c0:Nat),ix,ig,.dw (pZ (iC c0)),.dw (ku (iC c0))],iO ns none none none⟩=some (.next,⟨eG (l6 c0 c1 c2),iO ns none none none⟩):=
 dM (sj (v:=.dw (pZ (iC c0))) rfl rfl rfl (JM ml)) rfl
theorem Bw:∀i,i < 8->(ku i).cps.size<=10:=by decide +kernel
theorem xK:(fb (iC c0) (nC c0)).length=nC c0:=(pd (iC c0) ml (nC c0) (jP fQ)).1
theorem RJ:nC c0<=90:=Nat.le_trans (Nat.le_of_lt_succ (Nat.add_lt_add_left (Nat.mod_lt c0 (by decide)) 2)) (by decide)
theorem RU (e:5<=M):(ev (dA M) 60).S [0,1,2,3,4] HB ⟨eG (l6 c0 c1 c2),iO ns none none none⟩=some (.next,⟨eG (l6 c0 c1 c2++[qb c0 c1]),iO ns none none none⟩):=
 have a:=pd (iC c0) ml (nC c0) (jP fQ)
 have b:=Gw (M:=M) (s:=gB (iC c0) (nC c0)) (both:=ku (iC c0)) (cs:=DO c0) (num:=c1) e rfl (Nat.le_trans (Nat.le_of_eq a.1) RJ) (Bw _ ml) (λc d=>yK c (a.2.2 c d)) a.2.1 (iO ns none none none)
 dM (call_top (dD rfl (dD rfl (dH (O4 (c0:=c0) (c1:=c1) (c2:=c2) rfl)))) b) rfl
theorem Xv (a b):fy hp .NotEq (.int a) (.int b)=some (!decide (a=b)):=rfl
theorem RT (e:21<=M):(ev (dA M) 60).S [0,1,2,3,4] HA ⟨eG (l6 c0 c1 c2++[qb c0 c1]),iO ns none none none⟩=some (.next,⟨eG (l6 c0 c1 c2++[qb c0 c1]),iO ns (some (.lst (ej (fk (nC c0))))) none none⟩):=by
 have d:=Am (M:=M) (i:=iC c0) (n:=nC c0) (num:=c1) (sel:=Fc c1) (h:=hC c0) (t:=tC c0) e ml fQ I1 H9 (iO ns none none none)
 rw[LB _ (jP fQ)] at d
 have c:=dW (op:=.NotEq) (y:=.k (.int 0)) (Jy (b:=5) (b':=5) (O4 (orc:=dA M) (j:=53) (cs:=[0,1,2,3,4]) (loc:=eG (l6 c0 c1 c2++[qb c0 c1])) (hp:=iO ns none none none) (c0:=c0) (c1:=c1) (c2:=c2) rfl) rfl (by decide) (by decide)) (u:=.int 0) rfl (Xv _ 0)
 have f:(ev (dA M) 58).E [0,1,2,3,4] (.dT (.cmp (.bin .Mod (.sub (.loc 0) (.k (.int 1))) (.k (.int 5))) [.NotEq] [(.k (.int 0))]) (.loc 5) (.k_ (.loc 6) (.k .none) (.k (.int 2)))) ⟨eG (l6 c0 c1 c2++[qb c0 c1]),iO ns none none none⟩=some (.dw (n8 (iC c0) (nC c0) (Fc c1)),⟨eG (l6 c0 c1 c2++[qb c0 c1]),iO ns none none none⟩):=by
  unfold n8 Fc
  by_cases h:c1 % 5=0
  ·rw[decide_eq_false (λq=>q h),if_neg (by decide)]
   exact kF c (congrArg (λb=>some (!b)) (decide_eq_true (congrArg Int.ofNat h))) (sj (v:=.dw (gB (iC c0) (nC c0))) rfl rfl rfl (JN ml fQ))
  ·rw[decide_eq_true h,if_pos rfl]
   exact i5 c (congrArg (λb=>some (!b)) (decide_eq_false λq=>h (Int.ofNat.inj q))) rfl
 exact dM (call_top (dD (v:=.dw (gB (iC c0) (nC c0))) rfl (dD (v:=qb c0 c1) rfl (dD f (dD (eI (v:=ix) rfl (tq (a:=2) (b:=5) (a':=2) (b':=5) (BG (c0:=c0) (c1:=c1) (c2:=c2) rfl) rfl rfl (by decide) (by decide) (by decide) (by decide)) (Gr (i:=hC c0) I1))
  (dH (eI (v:=.lst [.none,.dw ".",.dw ""]) rfl (tq (a:=10) (b:=3) (a':=10) (b':=3) (BG (c0:=c0) (c1:=c1) (c2:=c2) rfl) rfl rfl (by decide) (by decide) (by decide) (by decide)) (tail_sub (i:=tC c0) H9))))))) d) rfl
end
def n0 (n:Nat):List Nat:=(fk n).map (·.1)
noncomputable def vX (n:Nat):List Nat:=if n=2 then [0,0,1] else [0,0,0,0,0,0,1,1,1,1,1,1,2,2,2,3]
section
variable {orc:er}{c0 c1 c2 j k n:Nat}{loc:List (Option V)}{hp:List O}{cs:List Nat}{ns:List Int}{M:Nat}
abbrev l7 (c0 c1 c2:Nat):List V:=l6 c0 c1 c2++[qb c0 c1]
abbrev l8 (c0 c1 c2:Nat):List V:=l7 c0 c1 c2++[.lst (nats (n0 (nC c0)))]
abbrev o4 (ns:List Int) (n:Nat) (b m:Option V):List O:=iO ns (some (.lst (ej (fk n)))) b m
theorem vM:∀n∈[2,3],(fk n).length<=65536:=by decide
theorem GS (n):((fk n).map λp=>V.int (p.1:Nat))=nats (n0 n):=by unfold nats n0;rw[List.map_map];rfl
theorem RS:(ev (dA M) 60).S [0,1,2,3,4] Hz ⟨eG (l7 c0 c1 c2),o4 ns (nC c0) none none⟩=some (.next,⟨eG (l8 c0 c1 c2),o4 ns (nC c0) none none⟩):=by
 have q:=fh (orc:=dA M) (j:=58) (cs:=[0,1,2,3,4]) (elt:=(.sub (.loc 0) (.k (.int 0)))) (i:=.cell 2) (st:=⟨eG (l7 c0 c1 c2),o4 ns (nC c0) none none⟩) (ρ:=h_) (g:=λp=>.int (p.1:Nat)) (l:=fk (nC c0)) rfl (λp hp=>rfl) (vM _ (jP fQ))
 rw[GS] at q
 exact dM q rfl
theorem wy:∀l:List Nat,(ones l).all gh=true
 | []=>rfl
 | a::l=>wy l
theorem Of:fy hp .Eq (qb c0 c1) (.dE [] [])=some false:=by
 have e:(ones (DO c0)).length=nC c0:=(wz _).trans xK
 show Bk (ones (DO c0)) _ [] []=_
 exact (if_pos ⟨wy _,rfl⟩).trans (if_neg λq=>Nat.ne_of_gt (Nat.lt_of_lt_of_le (by decide:0 < 2) (Nat.le_add_right 2 (c0 % 2))) (e.symm.trans q))
theorem zp (a):fy hp .NotEq (.lst (nats a)) (.lst (nats a))=some false:=by
 have h:eQ 8 (.lst (nats a)) (.lst (nats a))=some (decide (a=a)):=sY (hp:=hp) a a
 exact (congrArg (Option.map not) h).trans (congrArg (λb=>some (!b)) (decide_eq_true rfl))
theorem ne_int (a):fy hp .NotEq (.int a) (.int a)=some false:=congrArg (λb=>some (!b)) (decide_eq_true (rfl:a=a))
theorem QT (a:n=2\/n=3):iP hp .sorted [.lst (nats (mZ n))]=some (.lst (nats (vX n))):=by
 rcases a with rfl | rfl<;>kernel_rfl
theorem QS (a:n=2\/n=3):iP hp .sorted [.lst (nats (n0 n))]=some (.lst (nats (vX n))):=by
 rcases a with rfl | rfl<;>kernel_rfl
theorem Aj (c:31<=M) (hp):(dA M).top 226 [.dw (gB (iC c0) (nC c0))] [] [] hp=some (.lst (nats (mZ (nC c0))),hp):=by
 have b:m4 (gB (iC c0) (nC c0)) (fb (iC c0) (nC c0)) (nC c0) [] (List.range (nC c0 ^ nC c0))=some (mZ (nC c0)):=by
  have a:=ml (c0:=c0)
  rcases fQ (c0:=c0) with e | e
  ·rw[e];exact JF _ a
  ·rw[e];exact JE _ a
 exact EH (s:=gB (iC c0) (nC c0)) (cs:=fb (iC c0) (nC c0)) (ts:=mZ (nC c0)) M c rfl (by rw[xK];exact fQ) (by rw[xK];exact b) hp
theorem J1 (a:n=2\/n=3):eF hp .Pow (.int ((n:Int)+1)) (.int ((n:Int) - 1))=some (.int ((fk n).length:Nat)):=by
 rcases a with rfl | rfl<;>rfl
theorem RR (c:31<=M):(ev (dA M) 60).S [0,1,2,3,4] Hy ⟨eG (l8 c0 c1 c2),o4 ns (nC c0) none none⟩=some (.next,⟨eG (l8 c0 c1 c2),o4 ns (nC c0) none none⟩):=
 have a:∀hp,iP hp .len [.lst (ej (fk (nC c0)))]=some (.int ((fk (nC c0)).length:Nat)):=λhp=>IC (List.length_map ..) (vM _ (jP fQ))
 have b:=dW (orc:=dA M) (j:=57) (cs:=[0,1,2,3,4]) (fJ (as:=[.cell 2]) (st:=⟨eG (l8 c0 c1 c2),o4 ns (nC c0) none none⟩) (dH (v:=.lst (ej (fk (nC c0)))) rfl) (a _)) (dB (dB (x:=.loc 1) (y:=.k (.int 1)) (v:=.int (nC c0:Nat)) (w:=.int 1) rfl rfl (fR _ 1)) (dB (x:=.loc 1) (y:=.k (.int 1)) (v:=.int (nC c0:Nat)) (w:=.int 1) rfl rfl (gH _ 1)) (J1 fQ)) (ne_int _)
 jU (TQ (dW (v:=qb c0 c1) (u:=.dE [] []) rfl rfl Of) b
  (dW (fJ (dH (call_top (dH rfl) (Aj c _))) (QT fQ)) (fJ (dH (v:=.lst (nats (n0 (nC c0)))) rfl) (QS fQ)) (zp _)))
end
noncomputable def mW (c2:Nat):Bool:=decide (c2 / 60000 % 16=5)
noncomputable def nx (c2:Nat):Nat:=1+c2 / 60 % 1000
def rD (c2:Nat):Nat:=if mW c2=true then 2200 else 0
def wC (c2:Nat):Nat:=5+c2 % 60+rD c2
def CG (K c2:Nat):Nat:=if mW c2=true then nx c2*2 ^ K - 1 else nx c2
def rr (K c2:Nat):Int:=CG K c2
theorem more_le (c2):rD c2<=2200:=by
 unfold rD
 by_cases h:mW c2=true
 ·rw[if_pos h];exact Nat.le_refl _
 ·rw[if_neg h];exact Nat.zero_le _
theorem jM (c2):5<=wC c2/\wC c2<=2264:=⟨Nat.le_trans (Nat.le_add_right 5 _) (Nat.le_add_right _ _),Nat.add_le_add (Nat.add_le_add_left (Nat.le_of_lt_succ (Nat.mod_lt c2 (by decide:0 < 60))) 5) (more_le c2)⟩
theorem sq (c2):1<=nx c2/\nx c2<=1000:=⟨Nat.le_add_right 1 _,Nat.add_le_add_left (Nat.le_of_lt_succ (Nat.mod_lt (c2 / 60) (by decide:0 < 1000))) 1⟩
theorem D9 (K c2) (a:1<=K):2<=nx c2*2 ^ K:=Nat.mul_le_mul (sq c2).1 (Nat.pow_le_pow_right (by decide:0 < 2) a)
theorem CF (K c2) (b:1<=K):1<=CG K c2/\CG K c2 < 2 ^ (K+11):=by
 have a:=sq c2
 unfold CG
 by_cases h:mW c2=true
 ·rw[if_pos h]
  refine ⟨Nat.le_sub_of_add_le (D9 K c2 b),Nat.lt_of_le_of_lt (Nat.sub_le _ _) ?_⟩
  rw[Nat.pow_add,Nat.mul_comm]
  exact Nat.mul_lt_mul_of_pos_left (Nat.lt_of_le_of_lt a.2 (by decide)) (Nat.two_pow_pos K)
 ·rw[if_neg h]
  exact ⟨a.1,Nat.lt_of_le_of_lt a.2 (Nat.lt_of_lt_of_le (by decide:1000 < 2 ^ 11) (Nat.pow_le_pow_right (by decide) (Nat.le_add_left 11 K)))⟩
theorem Ih (K c2) (a:1<=K):0 < rr K c2/\(rr K c2).natAbs < 2 ^ (K+11):=⟨Int.ofNat_lt.mpr (CF K c2 a).1,(CF K c2 a).2⟩
section
variable {orc:er}{c0 c1 c2 j k n:Nat}{loc:List (Option V)}{hp:List O}{cs:List Nat}{ns:List Int}{M:Nat}
abbrev zx (c0 c1 c2:Nat):List V:=l8 c0 c1 c2++[.bool (mW c2),.int (nx c2:Nat)]
abbrev oY (c0 c1 c2:Nat):List V:=zx c0 c1 c2++[.int (wC c2:Nat),.int (rr 4103 c2)]
theorem OK:decide (((c2 / 60000 % 16:Nat):Int)=5)=mW c2:=decide_eq_decide.mpr ⟨Int.ofNat.inj,congrArg Int.ofNat⟩
theorem M8:(ev (dA M) 60).S [0,1,2,3,4] B3 ⟨eG (l8 c0 c1 c2),hp⟩=some (.next,⟨eG (zx c0 c1 c2),hp⟩):=
 dM (fE (dD (dW (tq (a:=60000) (b:=16) (a':=60000) (b':=16) (yg (c0:=c0) (c1:=c1) (c2:=c2) rfl) rfl rfl (by decide) (by decide) (by decide) (by decide)) (u:=.int 5) rfl ((Xw _ 5).trans (congrArg some OK)))
  (dH (dB rfl (tq (a:=60) (b:=1000) (a':=60) (b':=1000) (yg (c0:=c0) (c1:=c1) (c2:=c2) rfl) rfl rfl (by decide) (by decide) (by decide) (by decide)) (nj 1 _))))) rfl
theorem xZ {hp:List O}{a b:Nat}(h:b<=a):eF hp .Sub (.int a) (.int b)=some (.int (a - b:Nat)):=congrArg (λx=>some (V.int x)) (Int.ofNat_sub h).symm
theorem Ko (a:loc[9]?=some (some (.bool (mW c2)))):(ev orc (j+2)).E cs (.dT (.loc 9) (.k (.int 2200)) (.k (.int 0))) ⟨loc,hp⟩=some (.int (rD c2:Nat),⟨loc,hp⟩):=by
 unfold rD
 by_cases h:mW c2=true
 ·rw[if_pos h];exact i5 (eZ a) (congrArg some h) rfl
 ·rw[if_neg h];exact kF (eZ a) (congrArg some (eq_false_of_ne_true h)) rfl
theorem Fd {K:Nat}(e:1<=K) (c:K<=5000) (d:loc[9]?=some (some (.bool (mW c2)))) (a:loc[10]?=some (some (.int (nx c2:Nat)))) :
  (ev orc (j+5)).E cs (.dT (.loc 9) (.bin .Sub (.bin .Mult (.loc 10) (.bin .Pow (.k (.int 2)) (.k (.int K)))) (.k (.int 1))) (.loc 10)) ⟨loc,hp⟩=some (.int (rr K c2),⟨loc,hp⟩):=by
 unfold rr CG
 by_cases h:mW c2=true
 ·rw[if_pos h]
  exact i5 (eZ d) (congrArg some h) (dB (dB (eZ a) (dB rfl rfl (zk (Nat.le_trans (Nat.mul_le_mul_left 2 c) (by decide)))) (ya 10 (K+1) (Nat.lt_of_le_of_lt (sq c2).2 (by decide)) (Nat.pow_lt_pow_succ (by decide)) (by decide) (Nat.le_trans (Nat.succ_le_succ c) (by decide)))) rfl (xZ (b:=1) (Nat.le_trans (by decide) (D9 K c2 e))))
 ·rw[if_neg h];exact kF (eZ d) (congrArg some (eq_false_of_ne_true h)) (eZ a)
theorem M7:(ev (dA M) 60).S [0,1,2,3,4] B2 ⟨eG (zx c0 c1 c2),hp⟩=some (.next,⟨eG (oY c0 c1 c2),hp⟩):=
 dM (fE (dD (dB (dB rfl (Jy (b:=60) (b':=60) (yg (c0:=c0) (c1:=c1) (c2:=c2) rfl) rfl (by decide) (by decide)) (nj 5 _)) (Ko (c2:=c2) rfl) (nj _ _))
  (dH (Fd (K:=4103) (c2:=c2) (by decide) (by decide) rfl rfl)))) rfl
def BC (c2:Nat):Int:=2 ^ wC c2
abbrev jR (ns:List Int) (c0 c2:Nat):List O:=iO ns (some (.lst (ej (fk (nC c0))))) (some (.int (BC c2))) (some (.int (eX (nC c0):Nat)))
theorem Ka (a:n=2\/n=3):eF hp .Mult (.int (n:Int)) (.int ((n:Int) - 1))=some (.int (n*(n - 1):Nat)):=by
 rcases a with rfl | rfl<;>rfl
theorem M6:(ev (dA M) 60).S [0,1,2,3,4] B1 ⟨eG (oY c0 c1 c2),o4 ns (nC c0) none none⟩=some (.next,⟨eG (oY c0 c1 c2),jR ns c0 c2⟩):=
 have p:=iW (hp:=o4 ns (nC c0) none none) (a:=2) (i:=2) (by decide) (wC c2) (Nat.le_trans (Nat.mul_le_mul_left 2 (jM c2).2) (by decide))
 dM (fE (dD (dB rfl rfl p) (dH (dB (dB (x:=.loc 1) (v:=.int (nC c0:Nat)) rfl (dB (x:=.loc 1) (y:=.k (.int 1)) (v:=.int (nC c0:Nat)) (w:=.int 1) rfl rfl (gH _ 1)) (Ka fQ)) rfl (lP _ 2 (by decide) (hU (by decide))))))) rfl
end
def SZ (n:Nat) (B:Int):Int:=((n0 n).map λd=>(B+1) ^ d).sum
theorem y0 (a:n=2\/n=3) (B):pC n B=B ^ n*SZ n B:=by
 rcases a with rfl | rfl
 ·show B ^ 2*(B+3)=B ^ 2*((B+1) ^ 1+((B+1) ^ 0+((B+1) ^ 0+0)))
  grind
 ·show B ^ 3*(6+6*(B+1)+3*(B+1) ^ 2+(B+1) ^ 3)=B ^ 3*((B+1) ^ 3+((B+1) ^ 2+((B+1) ^ 1+((B+1) ^ 2+((B+1) ^ 1+((B+1) ^ 0+((B+1) ^ 1+((B+1) ^ 0+((B+1) ^ 2+((B+1) ^ 1+((B+1) ^ 0+((B+1) ^ 1+((B+1) ^ 0+((B+1) ^ 1+((B+1) ^ 0+((B+1) ^ 0+0))))))))))))))))
  generalize B+1=X
  grind
theorem JA {K:Nat} (h:n=2\/n=3) (b:(B+1).natAbs < 2 ^ K) (a:B.natAbs < 2 ^ K):(pC n B).natAbs < 2 ^ (6*K+10):=by
 rcases h with rfl | rfl
 ·exact eC (Jo a) (by lia)
 ·show (B ^ 3*(6+6*(B+1)+3*(B+1) ^ 2+(B+1) ^ 3)).natAbs < _
  have c:(6:Int).natAbs < 2 ^ 3:=by decide
  have i:(6:Int).natAbs < 2 ^ (3*K+3):=eC c (by lia)
  have g:(6*(B+1)).natAbs < 2 ^ (3*K+3):=eC (gy c b) (by lia)
  have f:(3*(B+1) ^ 2).natAbs < 2 ^ (3*K+3):=eC (gy (show (3:Int).natAbs < 2 ^ 2 by decide) (fN b 2 (by decide))) (by lia)
  have e:((B+1) ^ 3).natAbs < 2 ^ (3*K+3):=eC (fN b 3 (by decide)) (by lia)
  have l:=kA i g
  have d:=kA l (eC f (by lia))
  have m:=kA d (eC e (by lia))
  exact eC (gy (fN a 3 (by decide)) m) (by lia)
theorem N' (a:n=2\/n=3):∀d∈n0 n,d<=3:=by rcases a with rfl | rfl<;>decide
theorem sk (c2):(BC c2+1).natAbs < 2 ^ (wC c2+1)/\(BC c2).natAbs < 2 ^ (wC c2+1)/\32<=BC c2/\(BC c2 - 1).natAbs < 2 ^ (wC c2+1):=by
 have b:2 ^ 5<=2 ^ wC c2:=Nat.pow_le_pow_right (by decide) (jM c2).1
 have d:1<=2 ^ wC c2:=Nat.one_le_two_pow
 have e:BC c2=((2 ^ wC c2:Nat):Int):=(Int.natCast_pow 2 _).symm
 have c:BC c2 - 1=((2 ^ wC c2 - 1:Nat):Int):=e▸(Int.ofNat_sub d).symm
 have a:2 ^ wC c2 < 2 ^ (wC c2+1):=Nat.pow_lt_pow_succ (by decide)
 rw[c,e]
 exact ⟨Nat.lt_of_lt_of_eq (Nat.add_lt_add_left (Nat.lt_of_lt_of_le (by decide) b) _) (Nat.mul_two (2 ^ wC c2)).symm,a,Int.ofNat_le.mpr b,Nat.lt_of_le_of_lt (Nat.sub_le _ _) a⟩
theorem N7 (a b):fy hp .NotEq (.tup [.int a,.int b]) (.tup [.int a,.int b])=some false:=by
 show (if ([.int a,.int b]:List V).length=([.int a,.int b]:List V).length then j3 (eQ 7) [.int a,.int b] [.int a,.int b] else none).map not=_
 rw[if_pos rfl]
 show (some (decide (a=a)&&(decide (b=b)&&true))).map not=_
 rw[decide_eq_true rfl,decide_eq_true rfl]
 rfl
section
variable {orc:er}{c0 c1 c2 j k n:Nat}{loc:List (Option V)}{hp:List O}{cs:List Nat}{ns:List Int}{M:Nat}
theorem wF:nC c0<=3:=Nat.le_of_lt_succ (Nat.add_lt_add_left (Nat.mod_lt c0 (by decide)) 2)
theorem AL:2<=nC c0:=Nat.le_add_right 2 _
theorem RI:nC c0≠0:=Nat.ne_of_gt (Nat.lt_of_lt_of_le (by decide) AL)
theorem KI:(n0 n).length=(fk n).length:=List.length_map ..
theorem M5 (h:31<=M):(ev (dA M) 60).S [0,1,2,3,4] BZ ⟨eG (oY c0 c1 c2),jR ns c0 c2⟩=some (.next,⟨eG (oY c0 c1 c2),jR ns c0 c2⟩):=by
 have a:=sk c2
 have c:=(jM c2).2
 have b:=fQ (c0:=c0)
 have e:BC c2 ^ nC c0≠0:=Int.pow_ne_zero (Int.ne_of_gt (Int.lt_of_lt_of_le (by decide) a.2.2.1))
 have o:(wC c2+1)*nC c0<=2265*3:=Nat.mul_le_mul (Nat.succ_le_succ c) wF
 have m:=Jz (M:=M) (Nat.le_trans (by decide) h) b a.1 a.2.1 (Nat.le_trans (Nat.succ_le_succ c) (by decide)) (jR ns c0 c2)
 have f:=F0 M (pC (nC c0) (BC c2)) (BC c2 ^ nC c0) (jR ns c0 c2) (Nat.le_trans (by decide) h) e (eC (fN a.2.1 _ RI) (Nat.le_trans o (by decide))) (eC (JA b a.1 a.2.1) (Nat.le_trans (Nat.add_le_add_right (Nat.mul_le_mul_left 6 (Nat.succ_le_succ c)) 10) (by decide)))
 rw[y0 b,Int.mul_fdiv_cancel_left _ e,Int.mul_fmod_right] at f
 rw[y0 b] at m
 have p:=fJ (orc:=dA M) (j:=55) (cs:=[0,1,2,3,4]) (st1:=⟨eG (oY c0 c1 c2),jR ns c0 c2⟩) (dH (fh (elt:=(.bin .Pow (.bin .Add (.cell 3) (.k (.int 1))) (.loc 0))) (i:=.loc 8) (ρ:=λd:Nat=>V.int d) (g:=λd=>.int ((BC c2+1) ^ d)) (l:=n0 (nC c0)) rfl
  (λd f=>dB (dB (d_ (i:=3) rfl rfl) rfl (fR _ 1)) (w:=.int d) rfl (iW a.1 d (Nat.le_trans (Nat.mul_le_mul (Nat.succ_le_succ c) (N' b d f)) (by decide)))) (by rw[KI];exact vM _ (jP b)))) (rh _ _)
 exact jU (Jw (dW (call_top (dD (call_top (dD rfl (dH rfl)) m) (dH (dB rfl rfl (iW a.2.1 (nC c0) (Nat.le_trans o (by decide)))))) f) (fE (dD p (dH rfl))) (N7 _ _))
  (Jx (call_top (dD rfl (dD rfl (dH rfl))) (KS (M:=M) (Nat.le_trans (by decide) h) b (Nat.le_trans c (by decide)) (Nat.le_trans (by decide) (jM c2).1) _)) rfl))
end
noncomputable def jq (n:Nat):List Nat:=if n=2 then [1,1]++[1] else [1,2,3,4,3,2]++[1]
noncomputable def G0:X:=(.comp (.bf .len [(.comp (.k (.int 1)) [(.loc 0)] [(.cell 3)] [[(.cmp (.bin .Sub (.bin .Add (.cell 5) (.sub (.loc 0) (.k (.int 0)))) (.sub (.loc 0) (.k (.int 1)))) [.Eq] [(.cell 0)])]] 1 0)]) [(.cell 0)] [(.bf .range [(.bin .Add (.bin .Mult (.k (.int 2)) (.cell 4)) (.k (.int 1)))])] [[]] 0 1)
theorem Xe (orc) (loc) (a b d):(ev orc 59).E [0,1,2,3,4] G0 ⟨loc,[.cell a,.cell b,.cell (some (.lst (ej (fk 2)))),.cell d,.cell (some (.int 1))]⟩=some (.lst (nats (jq 2)),⟨loc,[.cell a,.cell b,.cell (some (.lst (ej (fk 2)))),.cell d,.cell (some (.int 1)),.cell (some (.int 2))]⟩):=by kernel_rfl
theorem Xd (orc) (loc) (a b d):(ev orc 59).E [0,1,2,3,4] G0 ⟨loc,[.cell a,.cell b,.cell (some (.lst (ej (fk 3)))),.cell d,.cell (some (.int 3))]⟩=some (.lst (nats (jq 3)),⟨loc,[.cell a,.cell b,.cell (some (.lst (ej (fk 3)))),.cell d,.cell (some (.int 3)),.cell (some (.int 6))]⟩):=by kernel_rfl
noncomputable def WH (n:Nat) (B s:Int):Int:=(B ^ (n+1) - 1) ^ (n - 1)*s
noncomputable def DV (n:Nat) (B s:Int):Int:=(B - 1) ^ (n - 1)*s
def CV (n w:Nat):Nat:=valN w (jq n)
theorem Er (a:n=2\/n=3) (s):WH n (2 ^ w) s=(CV n w:Int)*DV n (2 ^ w) s:=by
 have e:((2 ^ w:Nat):Int)=(2:Int) ^ w:=by push_cast;rfl
 rcases a with rfl | rfl
 ·have h:((CV 2 w:Nat):Int)=1+(2:Int) ^ w*(1+2 ^ w*(1+2 ^ w*0)):=by
   show ((1+2 ^ w*(1+2 ^ w*(1+2 ^ w*0)):Nat):Int)=_
   push_cast;rfl
  rw[h]
  show ((2 ^ w) ^ 3 - 1) ^ 1*s=_*((2 ^ w - 1) ^ 1*s)
  generalize (2:Int) ^ w=X
  grind
 ·have h:((CV 3 w:Nat):Int)=1+(2:Int) ^ w*(2+2 ^ w*(3+2 ^ w*(4+2 ^ w*(3+2 ^ w*(2+2 ^ w*(1+2 ^ w*0)))))):=by
   show ((1+2 ^ w*(2+2 ^ w*(3+2 ^ w*(4+2 ^ w*(3+2 ^ w*(2+2 ^ w*(1+2 ^ w*0)))))):Nat):Int)=_
   push_cast;rfl
  rw[h]
  show ((2 ^ w) ^ 4 - 1) ^ 2*s=_*((2 ^ w - 1) ^ 2*s)
  generalize (2:Int) ^ w=X
  grind
section
variable {orc:er}{c0 c1 c2 j k n:Nat}{loc:List (Option V)}{hp:List O}{cs:List Nat}{ns:List Int}{M:Nat}
abbrev M' (c0 c1 c2:Nat):List V:=oY c0 c1 c2++[.lst (nats (jq (nC c0)))]
abbrev iN (ns:List Int) (c0 c2:Nat):List O:=jR ns c0 c2++[.cell (some (.int (2*eX (nC c0):Nat)))]
theorem M4:(ev (dA M) 60).S [0,1,2,3,4] BY ⟨eG (oY c0 c1 c2),jR ns c0 c2⟩=some (.next,⟨eG (M' c0 c1 c2),iN ns c0 c2⟩):=by
 have h:(ev (dA M) 59).E [0,1,2,3,4] G0 ⟨eG (oY c0 c1 c2),jR ns c0 c2⟩=some (.lst (nats (jq (nC c0))),⟨eG (oY c0 c1 c2),iN ns c0 c2⟩):=by
  generalize eG (oY c0 c1 c2)=loc
  unfold iN jR
  rcases fQ (c0:=c0) with e | e
  ·rw[e];exact Xe ..
  ·rw[e];exact Xd ..
 exact dM h rfl
abbrev sh (c0 c2:Nat):Int:=WH (nC c0) (BC c2) (rr 4103 c2)
abbrev kj (c0 c2:Nat):Int:=DV (nC c0) (BC c2) (rr 4103 c2)
abbrev Df (c0 c1 c2:Nat):List V:=M' c0 c1 c2++[.int (sh c0 c2),.int (kj c0 c2)]
theorem Iy:nC c0 - 1<=2:=Nat.sub_le_sub_right wF 1
theorem AM:nC c0 - 1≠0:=Nat.ne_of_gt (Nat.sub_pos_of_lt AL)
theorem II:(wC c2+1)*(nC c0+1)<=2265*4:=Nat.mul_le_mul (Nat.succ_le_succ (jM c2).2) (Nat.succ_le_succ wF)
theorem A3:(wC c2+1)*(nC c0 - 1)<=2265*2:=Nat.mul_le_mul (Nat.succ_le_succ (jM c2).2) Iy
theorem IH:((wC c2+1)*(nC c0+1)+1)*(nC c0 - 1)<=(2265*4+1)*2:=Nat.mul_le_mul (Nat.succ_le_succ II) Iy
theorem B6:(BC c2 ^ (nC c0+1) - 1).natAbs < 2 ^ ((wC c2+1)*(nC c0+1)+1):=BJ (fN (sk c2).2.1 _ (Nat.succ_ne_zero _)) (Nat.one_lt_two_pow (Nat.ne_of_gt (Nat.mul_pos (Nat.succ_pos _) (Nat.succ_pos _))))
theorem M3:(ev (dA M) 60).S [0,1,2,3,4] BX ⟨eG (M' c0 c1 c2),iN ns c0 c2⟩=some (.next,⟨eG (Df c0 c1 c2),iN ns c0 c2⟩):=
 have a:=sk c2
 have d:=(Ih 4103 c2 (by decide)).2
 have c:1<=nC c0:=Nat.le_trans (by decide) AL
 dM (fE (dD (dB (dB (dB (dB (v:=.int (BC c2)) rfl (dB (v:=.int (nC c0:Nat)) rfl rfl (nj _ 1)) (iW a.2.1 _ (Nat.le_trans II (by decide)))) rfl (gH _ 1)) (dB (v:=.int (nC c0:Nat)) rfl rfl (xZ (b:=1) c)) (iW B6 _ (Nat.le_trans IH (by decide)))) (w:=.int (rr 4103 c2)) rfl (i4 _ _ _ _ (fN B6 (nC c0 - 1) AM) d (Nat.le_trans IH (by decide)) (by decide)))
  (dH (dB (dB (dB (v:=.int (BC c2)) rfl rfl (gH _ 1)) (dB (v:=.int (nC c0:Nat)) rfl rfl (xZ (b:=1) c)) (iW a.2.2.2 _ (Nat.le_trans A3 (by decide)))) (w:=.int (rr 4103 c2)) rfl (i4 _ _ _ _ (fN a.2.2.2 (nC c0 - 1) AM) d (Nat.le_trans A3 (by decide)) (by decide)))))) rfl
theorem mH:kj c0 c2≠0/\0 < kj c0 c2/\(kj c0 c2).natAbs < 2 ^ 8650:=
 have s:=Ih 4103 c2 (by decide)
 have a:0 < kj c0 c2:=Int.mul_pos (Int.pow_pos (Int.sub_pos_of_lt (Int.lt_of_lt_of_le (by decide) (sk c2).2.2.1))) s.1
 ⟨Int.ne_of_gt a,a,eC (gy (fN (sk c2).2.2.2 (nC c0 - 1) AM) s.2) (Nat.le_trans (Nat.add_le_add_right A3 _) (by decide))⟩
theorem DW (a:n=2\/n=3):∃l,jq n=l++[1]/\l.length<=6/\∀d∈jq n,d < 2 ^ 5:=by
 rcases a with rfl | rfl
 ·exact ⟨[1,1],rfl,by decide,by decide⟩
 ·exact ⟨[1,2,3,4,3,2],rfl,by decide,by decide⟩
theorem zY (a:n=2\/n=3):(jq n).length<=7:=by rcases a with rfl | rfl<;>decide
theorem xO:∀d∈jq (nC c0),d < 2 ^ wC c2:=λd h=>(DW fQ).elim λ_ k=>Nat.lt_of_lt_of_le (k.2.2 d h) (Nat.pow_le_pow_right (by decide) (jM c2).1)
theorem BK:(sh c0 c2).natAbs < 2 ^ 25000/\((CV (nC c0) (wC c2):Nat):Int).natAbs < 2 ^ 16000/\sh c0 c2=(CV (nC c0) (wC c2):Int)*kj c0 c2:=by
 have a:((CV (nC c0) (wC c2):Nat):Int).natAbs < 2 ^ 16000:=by
  rw[Int.natAbs_natCast]
  exact Nat.lt_of_lt_of_le (q7 (wC c2) (jq (nC c0)) xO) (Nat.pow_le_pow_right (by decide) (Nat.le_trans (Nat.mul_le_mul (jM c2).2 (zY fQ)) (by decide)))
 have e:sh c0 c2=(CV (nC c0) (wC c2):Int)*kj c0 c2:=Er fQ _
 refine ⟨?_,a,e⟩
 rw[e]
 exact eC (gy a mH.2.2) (by decide)
end
noncomputable def wA (c2:Nat):Int:=if c2 / 7 % 4 < 2 then 1 else -1
noncomputable def sH (c2:Nat):Int:=if c2 / 7 % 4 % 2=0 then 1 else -1
noncomputable def v5:V:=.lst [.tup [.int 1,.int 1],.tup [.int 1,.int (-1)],.tup [.int (-1),.int 1],.tup [.int (-1),.int (-1)]]
theorem ro [Decidable p]:(if p then (1:Int) else -1)=1\/(if p then (1:Int) else -1)=-1:=by
 by_cases h:p
 ·exact .inl (if_pos h)
 ·exact .inr (if_neg h)
section
variable {orc:er}{c0 c1 c2 j k n:Nat}{loc:List (Option V)}{hp:List O}{cs:List Nat}{ns:List Int}{M:Nat}
theorem Fb:fx hp v5 (.int (c2 / 7 % 4:Nat))=some (.tup [.int (wA c2),.int (sH c2)]):=
 pK (m:=4) (i:=c2 / 7 % 4) (f:=λq:Nat=>fx hp v5 (.int q)) (g:=λq=>some (.tup [.int (if q < 2 then 1 else -1),.int (if q % 2=0 then 1 else -1)])) rfl (Nat.mod_lt _ (by decide))
def sA (c0 c2:Nat):Int:=Int.fmod ((c2 / 960000:Nat):Int) (kj c0 c2)
def Bn (c0 c2:Nat):Int:=wA c2*(sh c0 c2+sA c0 c2)
def divC (c0 c2:Nat):Int:=sH c2*kj c0 c2
abbrev M_ (c0 c1 c2:Nat):List V:=Df c0 c1 c2++[.int (sA c0 c2)]
abbrev M9 (c0 c1 c2:Nat):List V:=M_ c0 c1 c2++[.int (wA c2),.int (sH c2)]
abbrev De (c0 c1 c2:Nat):List V:=M9 c0 c1 c2++[.int (Bn c0 c2)]
theorem Sd (a:18<=M) (hp):(dA M).top 93 [.int (CV (nC c0) (wC c2):Nat),.int (wC c2:Nat)] [] [] hp=some (.lst (nats (jq (nC c0))),hp):=
 (DW (fQ (c0:=c0))).elim λl h=>by
  have q:=xO (c0:=c0) (c2:=c2)
  have w:=jM c2
  unfold CV
  rw[h.1] at q ⊢
  exact zD M (wC c2) l 1 hp a (Nat.le_trans (by decide) w.1) (Nat.le_trans w.2 (by decide)) q (by decide) (Nat.le_trans (Nat.mul_le_mul w.2 (Nat.succ_le_succ h.2.1)) (by decide))
theorem M1 (b:31<=M):(ev (dA M) 60).S [0,1,2,3,4] BW ⟨eG (Df c0 c1 c2),iN ns c0 c2⟩=some (.next,⟨eG (Df c0 c1 c2),iN ns c0 c2⟩):=by
 have d:=mH (c0:=c0) (c2:=c2)
 have v:=BK (c0:=c0) (c2:=c2)
 have a:=F0 M (sh c0 c2) (kj c0 c2) (iN ns c0 c2) (Nat.le_trans (by decide) b) d.1 (eC d.2.2 (by decide)) (eC v.1 (by decide))
 have e:Int.fdiv (sh c0 c2) (kj c0 c2)=(CV (nC c0) (wC c2):Int):=by rw[v.2.2,Int.mul_fdiv_cancel _ d.1]
 rw[e] at a
 exact jU (dW (call_top (dD (eI (y:=.k (.int 0)) (call_top (dD rfl (dH rfl)) a) rfl (r:=.int (CV (nC c0) (wC c2):Nat)) rfl) (dH (v:=.int (wC c2:Nat)) rfl)) (Sd (Nat.le_trans (by decide) b) _)) (u:=.lst (nats (jq (nC c0)))) rfl (zp _))
theorem KW:aa (kj c0 c2)<=9000:=gE (eC mH.2.2 (by decide))
theorem M0:(ev (dA M) 60).S [0,1,2,3,4] BV ⟨eG (Df c0 c1 c2),iN ns c0 c2⟩=some (.next,⟨eG (M_ c0 c1 c2),iN ns c0 c2⟩):=
 dM (dB (dB (yg (c0:=c0) (c1:=c1) (c2:=c2) rfl) rfl (lP c2 960000 (by decide) (hU (by decide)))) (w:=.int (kj c0 c2)) rfl (yb mH.1 KW)) rfl
theorem MZ:(ev (dA M) 60).S [0,1,2,3,4] BU ⟨eG (M_ c0 c1 c2),iN ns c0 c2⟩=some (.next,⟨eG (M9 c0 c1 c2),iN ns c0 c2⟩):=
 dM (eI (v:=v5) rfl (tq (a:=7) (b:=4) (a':=7) (b':=4) (yg (c0:=c0) (c1:=c1) (c2:=c2) rfl) rfl rfl (by decide) (by decide) (by decide) (by decide)) Fb) rfl
theorem Mc:(sA c0 c2).natAbs < 2 ^ 8650:=
 have d:=mH (c0:=c0) (c2:=c2)
 Nat.lt_trans (Int.natAbs_lt_natAbs_of_nonneg_of_lt (Int.fmod_nonneg_of_pos _ d.2.1) (Int.fmod_lt_of_pos _ d.2.1)) d.2.2
theorem vP:(sh c0 c2+sA c0 c2).natAbs < 2 ^ 25001:=kA BK.1 (eC Mc (by decide))
theorem uV (h:a=1\/a=-1):a.natAbs < 2 ^ 1:=by rcases h with rfl | rfl<;>decide
theorem MY (b:31<=M):∃a,(ev (dA M) 60).S [0,1,2,3,4] BS ⟨eG (M9 c0 c1 c2),iN ns c0 c2⟩=some (.next,⟨eG (De c0 c1 c2),iN ns c0 c2++a⟩):=
 have w:=jM c2
 have v:=BK (c0:=c0) (c2:=c2)
 (Oh M (wC c2) (iN ns c0 c2) (.lst (nats (jq (nC c0)))) (jq (nC c0)) (Nat.le_trans (by decide) b) (Nat.le_trans (by decide) w.1) rfl rfl xO (Nat.le_trans (Nat.mul_le_mul w.2 (zY fQ)) (by decide))).elim λa c=>
  have m:=(i4 (hp:=iN ns c0 c2++a) (CV (nC c0) (wC c2):Nat) (kj c0 c2) 16000 8650 v.2.1 mH.2.2 (by decide) (by decide)).trans (congrArg (λx=>some (V.int x)) v.2.2.symm)
  ⟨a,dM (dB (v:=.int (wA c2)) rfl (dB (dB (call_top (dD rfl (dH rfl)) c) (w:=.int (kj c0 c2)) rfl m) (w:=.int (sA c0 c2)) rfl (fR _ _)) (i4 _ _ 1 25001 (uV ro) vP (by decide) (by decide))) rfl⟩
theorem Ky (a b):fy hp .Eq (.tup [.int a,.int b]) (.tup [.int a,.int b])=some true:=by
 show (if ([.int a,.int b]:List V).length=([.int a,.int b]:List V).length then j3 (eQ 7) [.int a,.int b] [.int a,.int b] else none)=_
 rw[if_pos rfl]
 show some (decide (a=a)&&(decide (b=b)&&true))=_
 rw[decide_eq_true rfl,decide_eq_true rfl]
 rfl
theorem Ob:divC c0 c2≠0/\(divC c0 c2).natAbs < 2 ^ 8650:=by
 have d:=mH (c0:=c0) (c2:=c2)
 unfold divC
 have h:sH c2=1\/sH c2=-1:=ro
 rcases h with e | e
 ·rw[e,Int.one_mul];exact ⟨d.1,d.2.2⟩
 ·rw[e,Int.neg_mul,Int.one_mul,Int.natAbs_neg];exact ⟨Int.neg_ne_zero.mpr d.1,d.2.2⟩
theorem MX (f:31<=M) (a):(ev (dA M) 60).S [0,1,2,3,4] BR ⟨eG (De c0 c1 c2),iN ns c0 c2++a⟩=some (.ret (.bool true),⟨eG (De c0 c1 c2),iN ns c0 c2++a⟩):=
 have e:=Ob (c0:=c0) (c2:=c2)
 have b:aa (divC c0 c2)<=9000:=gE (eC e.2 (by decide))
 have c:∀j,(ev (dA M) (j+2)).E [0,1,2,3,4] (.bin .Mult (.loc 18) (.loc 15)) ⟨eG (De c0 c1 c2),iN ns c0 c2++a⟩=some (.int (divC c0 c2),⟨eG (De c0 c1 c2),iN ns c0 c2++a⟩):=λj=>
  dB (v:=.int (sH c2)) (w:=.int (kj c0 c2)) rfl rfl (i4 _ _ 1 8650 (uV ro) mH.2.2 (by decide) (by decide))
 have d:=F0 M (Bn c0 c2) (divC c0 c2) (iN ns c0 c2++a) (Nat.le_trans (by decide) f) e.1 (eC e.2 (by decide)) (eC (gy (uV ro) vP) (by decide))
 fD (dW (call_top (dD (dB (v:=.int (wA c2)) rfl (dB (v:=.int (sh c0 c2)) (w:=.int (sA c0 c2)) rfl rfl (fR _ _)) (i4 _ _ 1 25001 (uV ro) vP (by decide) (by decide))) (dH (c 55))) d)
  (fE (dD (dB (v:=.int (Bn c0 c2)) rfl (c 54) (OW e.1 b)) (dH (dB (v:=.int (Bn c0 c2)) rfl (c 54) (yb e.1 b))))) (Ky _ _))
theorem w5 (hp) (n):∀l:List Int,dI (eE hp (n+1)) (l.map .int)=some (l.map .int)
 | []=>rfl
 | d::l=>iY (a:=V.int d) rfl (w5 hp n l)
theorem FV (e:32<=M) (g:ns.length<=63):(dA M).top 241 [.lst (ns.map .int)] [] [] []=some (.bool true,[]):=by
 obtain ⟨m,rfl⟩:∃m,M=m+1:=⟨M - 1,(Nat.sub_add_cancel (Nat.le_trans (by decide) e)).symm⟩
 have a:31<=m:=Nat.le_of_succ_le_succ e
 refine gk λP k=>?_
 obtain ⟨c0,c1,c2,f⟩:=R0 (M:=m) g
 obtain ⟨d,c⟩:=MY (c0:=c0) (c1:=c1) (c2:=c2) (ns:=ns) (M:=m) a
 have b:gX (dA m) [0,1,2,3,4] HI ⟨eG [],[.cell (some (.lst (ns.map .int))),.cell none,.cell none,.cell none,.cell none]⟩=some (.bool true,iN ns c0 c2++d):=by
  rw[gW]
  unfold HI
  exact dG (st1:=⟨eG [],iO ns none none none⟩) rfl (dG f (dG RZ (dG RY (dG RW (dG RV (dG (RU (Nat.le_trans (by decide) a)) (dG (RT (Nat.le_trans (by decide) a)) (dG RS (dG (RR a) (dG M8 (dG M7 (dG M6 (dG (M5 a) (dG M4 (dG M3 (dG (M1 a) (dG M0 (dG MZ (dG c (fH (MX a d)))))))))))))))))))))
 have h:dI (eE [] 9) [.lst (ns.map .int)]=some [.lst (ns.map .int)]:=pR (qM (w5 [] 7 ns))
 exact k (eg m (t:=LC) (k:=1) rfl rfl rfl rfl h b rfl)
end
end L1
end
noncomputable section
open PySem
namespace L1
theorem R1:PySem.Challenge.rw_wc0030_01.Holds:=Ki λa h=>⟨40,by decide,FV (by decide) h⟩
end L1
end
theorem PySem.Challenge.cw_wc0030_01_holds : PySem.Challenge.rw_wc0030_01.Holds :=
 L1.R1
