import PyProof.Rows.All
import Wide.All
import OpenK.AllK
import Wide.FinOn
import KE.HeadEqs
import Lean
import PySem.Challenge.RW_xj0038_01
set_option Elab.async false
set_option genInjectivity false
set_option genSizeOf false
set_option tactic.hygienic false
set_option compiler.extract_closed false
set_option maxRecDepth 100000
set_option maxHeartbeats 0
set_option linter.all false
set_option linter.unusedVariables false
open PySem.Str renaming ofString->qb
open PySem renaming wpAny_bind->qc,Shared->qe,wpAny_pure->qf,Around->qq,sizeLine_eq->qu,wpAny_holding->qC,strKind->qJ,wpAny_mono->qL,wpAny_newObj_type->qM,wpAny_of_eq->ze,wpAny_setState_of->zm,wpAny_call_entry->zr,holding->zv,rawInt->zw,starEach->zB,foldedSetIterable->zE,letOwnedTupleGo->zF,slot_listiter_next->zI,wpAny_call->zL,builtinLookup_eq_fast->zQ,operate->zZ,cStatics->ja,codeAny_call_builtin->jb,compareOp->jd,sizeLine->ji,codeAny_builtin->jj,wpAny_askSetting->jn,wpAny_isInstance->jo,subscripted->jq,GenState->ju,wpAny_typeOf->jx,nsFind->jy,DictEntry->jz,wpAny_callSpecial?_slot->jA,wpAny_loadPart->jC,attributeBase->jE,wpAny_rule->jI,wpAny_assign_Name->jK,wpAny_field->jL,isSubtype_type->jP,standAt->jS,wpAny_specialOf->jT,pyNext->jY,getMethod->vg,Fin->vi,getItem->vn,wpAny_standAt->vp,wpAny_attempt->vq,wpAny_seqItems->vy,typeLookup_type->vD,strKind_is->vM,codeAny_mono->vP,FuncData->vS,wpAny_loadName_local->vT,valueOrNone->vU,checkBoundCall->vW,callSpecialIfBoundUnlessNone?->vX,storeName->Qi,wpAny_load->Qk,letTemporaryGo->Ql,firstArgMember->Qm,codeAny->Qq,newFields->Qs,closureFor->QA,isInstance->QC,wpAt_of_wpAny->QF,typeOf->QK,refuseLoop->QM,builtinsNs->QR,assign->QS
open List renaming getElem?_eq_getElem->qd,length_map->qh,getD_eq_getElem?_getD->qi,mem_of_getElem?->qk,length_append->qm,size_toArray->qo,getElem?_map->qp,getElem?_eq_some_iff->qr,mem_map->qw,length_cons->qy,all_eq_true->qz,mem_map_of_mem->qA,map_append->qB,getElem?_append_left->qE,mem_cons->qH,length_take->qI,mem_append->qO,length_nil->qP,map_cons->qR,take_add_one->qV,append_assoc->qY,length_reverse->qZ,append_nil->za,getElem?_append_right->zd,map_map->zf,take_length->zh,replicate->zk,range->zo,length_drop->zt,nodup_cons->zu,lookup_cons->zD,isPrefixOf_iff_prefix->zH,drop_eq_getElem_cons->zM,mem_reverse->zN,contains_iff_mem->zS,nil_append->zV,mem_range->zW,reverse_cons->zX,filter_cons->jl,map_congr_left->jr,mem_append_left->jB,eq_nil_or_concat->jM,length_filter_le->jN,getElem?_eq_none->jO,mem_singleton->vc,perm_middle->vf,cons_append->vj,mem_iff_getElem?->vG,filter_append->vH,getElem?_drop->vK,getElem_mem->vN,toArray->vQ,replicate_succ'->vV,takeWhile_append_of_pos->Qa,forIn_cons->Qb,take_of_length_le->Qe,map_reverse->Qj,exists_cons_of_ne_nil->Qo,mem_filter->Qt,any_eq_false->Qw,length->Qy,flatten_append->QG,getElem_of_mem->QH,prefix_refl->QL
open Nat renaming le_trans->qg,lt_of_lt_of_le->ql,le_of_lt->qv,lt_of_le_of_lt->qF,add_le_add_right->qG,le_of_eq->qN,le_of_not_lt->qQ,ne_of_lt->qS,lt_of_lt_of_eq->qU,mul_le_mul_left->qW,add_le_add_left->qX,le_refl->zg,lt_trans->zq,le_add_left->zy,add_right_comm->zG,lt_irrefl->zO,min_le_left->zU,pos_of_ne_zero->jg,le_add_right->jk,succ_le_succ->jm,le_of_lt_succ->jt,add_le_add->jQ,min_eq_left->jR,min_le_right->vd,mul_le_mul_right->ve,zero_le->vh,add_sub_cancel'->vA,le_antisymm->vC,add_comm->vO,le_of_sub_eq_zero->Qp,le_succ_of_le->Qu,lt_succ_of_le->Qx,add_lt_add_left->QE
open Pure renaming pure->qj
open Bool renaming and_eq_true->qt,false_ne_true->qx,false_eq_true->qT,not_eq_true'->zY,eq_iff_iff->vZ,and_eq_true_iff->QT
open PySem.Heap renaming get?_push_of_some->qD,lt_size->zi,get?_push_size->zK,get?_update_self->zR,SameBut->Qv
open PySem.Heap.SameBut renaming update->qK
open Inhabited renaming default->zb
open PySem.BindsTo renaming of_eq->zc
open PySem.SetTable renaming bits->zj,grown->QP
open PySem.Builtin.Str renaming occurrences->zp,strKind->jJ,tooLong->Qd
open Int renaming natCast_nonneg->zx,ofNat_lt->zT,fmod_nonneg_of_pos->jf,le_trans->jU,lt_of_le_of_lt->jZ,toNat_natCast->vt,toNat_of_nonneg->vz,lt_of_lt_of_le->vI,fmod_lt_of_pos->vJ,toNat->QI,ofNat_le->QQ
open List.Perm renaming swap->zA,cons->QJ
open PyProof.Rows renaming subscriptTail->zC,get?_update_seq->jX,seqObj->vo,listItems_at->vR,listUpdate_at->QD
open LawfulMonad renaming bind_assoc->zJ
open PySem.Sre renaming isDigit->zP,Seen->vF,forSearch->QB
open PySem.Around renaming under_plainId->jc
open Option renaming map_eq_some_iff->je,getD_some->jG,map_some->jW,bind_some->QN
open Array renaming getElem?_eq_none->jh,getElem?_eq_getElem->jH,getElem?_setIfInBounds->Qc,getD_eq_getD_getElem?->Qf
open PySem.Obj renaming mapSeq->js
open PySem.Sre.M renaming runFor->jv
open PySem.W renaming looks_findIn->jw,emptyDict->QO
open PySem.Code renaming quiet_builtin->jD,builtin->Qg
open PySem.Builtin.List renaming listItems->jF,listSubscript?->Qh
open ForInStep renaming yield->jV
open PyProof.Rows.F renaming plain_set_update_loop->vm
open PySem.PyData renaming keyHash->vr
open PySem.Manifest renaming signature?->vB
open Option.some renaming inj->vE
open PySem.Calls renaming spliced_cons->vL,Name_function_global->Qn,evalArgs_plain->Qz
open PySem.F renaming slot_dict_items->vY
open Classical renaming byContradiction->Qr
open PySem PySem.W PySem.Calls PyProof.Rows
namespace Mine
noncomputable abbrev pw:Program:=PySem.Challenge.pw_xj0038_01
noncomputable def stm(i:Nat):Stmt:=(pw.main.body[i]?).getD (.Pass zb)
noncomputable def bodyOf:Stmt→List Stmt| .FunctionDef _ _ b .. =>b| .ClassDef _ _ _ b .. =>b|_=> []
noncomputable def argsOf:Stmt→Arguments| .FunctionDef _ a .. =>a|_=>⟨[],[],none,[],[],none,[]⟩
noncomputable def nameOf:Stmt→Str| .FunctionDef n .. =>n|_=>""
noncomputable def scopeOf:Stmt→Scope| .FunctionDef _ _ _ _ _ _ sc .. =>sc|_=>zb
noncomputable def meth(c i:Nat):Stmt:=((bodyOf (stm c))[i]?).getD (.Pass zb)
noncomputable abbrev fdS(st:Stmt)(qual:Str)(cl:List (Str×Addr))(dV kV pm:Value)(cd:Addr)(ct:Value):vS:=
 {name:=nameOf st,qualname:=qual,params:=argsOf st,body:= .stmts (bodyOf st),scope:=scopeOf st,globals:=3,closure:=cl,defaults:=dV,kwdefaults:=kV,doc:= .none,pyModule:=pm,annotations:=none,code:= .ref cd,closureTuple:=ct,builtins:=0}
noncomputable abbrev cook:Value:= .str (qb "cpy313.http.cookiejar") 289
noncomputable abbrev dtst:Value:= .str (qb "cpy313.doctest") 346
noncomputable abbrev mail:Value:= .str (qb "cpy313.email.header") 358
noncomputable abbrev etree:Value:= .str (qb "cpy313.xml.etree.ElementTree") 458
noncomputable abbrev lawm:Value:= .str (qb "law_xj0038_01") 708
noncomputable abbrev fnO(fd:vS):Obj:={cls:= .type "function",data:= .func fd}
noncomputable abbrev fd0(i:Nat)(pm:Value)(cd:Addr):vS:=fdS (stm i) (nameOf (stm i)) [] .none .none pm cd .none
noncomputable abbrev fns:List (Addr×vS):= [
 (50,fd0 4 cook 49),(57,fd0 5 cook 56),(64,fd0 6 cook 63),(71,fd0 8 dtst 70),
 (88,fdS (meth 11 0) "_Accumulator.__init__" [("__class__",75)] (.ref 80) .none mail 87 (.ref 81)),
 (95,fdS (meth 11 1) "_Accumulator.push" [] .none .none mail 94 .none),
 (103,fdS (meth 11 2) "_Accumulator.pop_from" [] (.ref 96) .none mail 102 .none),
 (111,fdS (meth 11 3) "_Accumulator.pop" [("__class__",75)] .none .none mail 110 (.ref 104)),
 (118,fdS (meth 11 4) "_Accumulator.__len__" [] .none .none mail 117 .none),
 (125,fdS (meth 11 5) "_Accumulator.__str__" [] .none .none mail 124 .none),
 (148,fdS (meth 11 8) "_Accumulator.part_count" [("__class__",75)] .none .none mail 147 (.ref 141)),
 (184,fdS (meth 17 0) "C14NWriterTarget.__init__" [] .none (.ref 177) etree 183 .none),
 (192,fdS (meth 17 1) "C14NWriterTarget._iter_namespaces" [] (.ref 185) .none etree 191 .none),
 (207,fdS (meth 17 3) "C14NWriterTarget._qname" [] (.ref 200) .none etree 206 .none),
 (237,fdS (meth 17 7) "C14NWriterTarget.start" [] .none .none etree 236 .none),
 (243,fdS (meth 17 8) "C14NWriterTarget._start" [] (.ref 238) .none etree 242 .none),
 (250,fdS (meth 17 9) "C14NWriterTarget.end" [] .none .none etree 249 .none),
 (285,fd0 19 etree 284),(290,fd0 21 lawm 289),(295,fd0 22 lawm 294),(302,fd0 23 lawm 301),(309,fd0 24 lawm 308),(314,fd0 25 lawm 313),(319,fd0 26 lawm 318),(324,fd0 27 lawm 323)]
noncomputable abbrev glob:List (Str×Value):= [("IPV4_RE",.ref 43),("is_HDN",.ref 50),("domain_match",.ref 57),("reach",.ref 64),("_strip_exception_details",.ref 71),("EMPTYSTRING",.str "" 360),("_Accumulator",.ref 151),
 ("_namespace_map",.ref 161),("C14NWriterTarget",.ref 267),("_escape_attrib_c14n",.ref 285),("_law_ways",.ref 290),("_law_above",.ref 295),("_law_names",.ref 302),("_law_piles",.ref 309),("_law_page",.ref 314),("_law_due",.ref 319)]
noncomputable abbrev bnames:List (Str×Value):= [("range",.type "range"),("len",.builtin "len"),("sum",.builtin "sum"),("sorted",.builtin "sorted"),("str",.type "str"),("set",.type "set"),("list",.type "list"),("super",.type "super")]
noncomputable abbrev tupO(vs:List Value)(n:Nat):Obj:={cls:= .type "tuple",dict:=none,data:= .seq vs.toArray n,slots:=#[]}
noncomputable abbrev accTab:List (Str×Option Value):= [("push",some (.ref 95)),("pop_from",some (.ref 103)),("pop",some (.ref 111)),("part_count",some (.ref 148)),("__len__",some (.ref 118)),("__str__",some (.ref 125)),("__init__",some (.ref 88)),("append",some (.builtin "list.append")),
 ("_initial_size",none),("__iter__",some (.builtin "list.__iter__")),("__getitem__",some (.builtin "list.__getitem__")),("__setitem__",some (.builtin "list.__setitem__")),("__setattr__",some (.builtin "object.__setattr__")),("__bool__",none),("__getattribute__",some (.builtin "list.__getattribute__")),("__getattr__",none)]
noncomputable abbrev canTab:List (Str×Option Value):= [("start",some (.ref 237)),("_start",some (.ref 243)),("end",some (.ref 250)),("_qname",some (.ref 207)),("_iter_namespaces",some (.ref 192)),("__init__",some (.ref 184)),("__setattr__",some (.builtin "object.__setattr__")),("__getattribute__",some (.builtin "object.__getattribute__")),("__getattr__",none),
 ("_write",none),("_data",none),("_with_comments",none),("_strip_text",none),("_exclude_attrs",none),("_exclude_tags",none),("_rewrite_prefixes",none),("_qname_aware_tags",none),("_find_qname_aware_attrs",none),("_declared_ns_stack",none),("_ns_stack",none),("_prefix_map",none),("_preserve_space",none),("_pending_start",none),("_root_seen",none),("_root_done",none),("_ignored_depth",none)]
noncomputable def strKeysB(es:Array jz):Bool:=es.all fun e=>match e.key with| .str _ _=>true|_=>false
noncomputable def liveF(F:Frag):Frag:=F.filter fun p=>p.2.cls != .none
noncomputable def keyOf:Value→Str| .str x _=>x|_=>⟨#[]⟩
noncomputable def ascB:List Nat→Bool
 | []=>true
 | [_]=>true
 |x::y::r=>decide (x<y)&&ascB (y::r)
section
variable{F:Frag}{P:Params}{α:Type}
noncomputable def FH(h:Heap):Frag:=(zo 325).filterMap fun a=>(h.get? a).map fun o=>(a,o)
noncomputable def vsO(d:Data):Array Value:=d.casesOn #[] (fun fz=>#[]) (fun fz fz=>#[]) (fun fz fz=>#[]) (fun fz fz fz=>#[]) (fun fz fz=>#[]) (fun fz=>#[]) (fun fz=>#[]) (fun fz=>#[]) id #[]
noncomputable def esO(d:Data):Array jz:=d.casesOn #[] (fun fz=>#[]) (fun fz fz=>#[]) (fun x fz=>x) (fun fz fz fz=>#[]) (fun fz fz=>#[]) (fun fz=>#[]) (fun fz=>#[]) (fun fz=>#[]) (fun fz=>#[]) #[]
noncomputable def cdO(d:Data):ClassData:=d.casesOn zb (fun fz=>zb) (fun fz fz=>zb) (fun fz fz=>zb) (fun fz fz fz=>zb) (fun fz fz=>zb) (fun fz=>zb) (fun fz=>zb) id (fun fz=>zb) zb
noncomputable def adO(v:Value):Nat:=v.casesOn 0 0 0 (fun fz=>0) (fun fz fz=>0) (fun fz fz=>0) (fun fz fz=>0) (fun fz fz=>0) (fun fz=>0) (fun fz=>0) id
noncomputable def hd(F:Frag)(c:Addr)(f:Array Value→α):=(F.lookup c).map fun o=>(({o with data:= .plain}:Obj),o.data.ctorIdx,f (vsO o.data))
noncomputable def dd(F:Frag)(c:Addr)(f:Array jz→α):=(F.lookup c).map fun o=>(({o with data:= .plain}:Obj),o.data.ctorIdx,f (esO o.data))
noncomputable def cc(F:Frag)(c:Addr)(f:ClassData→α):=(F.lookup c).map fun o=>(o.cls,o.data.ctorIdx,o.slots.toList[4]?,f (cdO o.data))
noncomputable def sA(vs:Array Value)(i:Nat):=vs[i]?.map fun v=>(v.ctorIdx,keyOf v)
noncomputable def cdE:Obj:={cls:= .type "code"}
noncomputable def diE:Obj:={cls:= .type "dict"}
noncomputable def co(x q:Str)(t l a c P u:Nat)(e f g:Value):Obj:={cls:= .type "code",data:= .fields #[.str x t,.str q (t+1),.str pw.main.file (t+2),.int l 0,.int a 0,.int 0 0,.int 0 0,.int 3 0,.ref c,.bool true,.int 276 0,.ref P,.none,e,f,g,.int u 0,.int l 0,.str pw.main.file (u+1)]}
noncomputable def cls1(F:Frag)(C:Addr)(tab:List (Str×Option Value)):=(cc (liveF F) C fun cd=>(cd.mro,cd.hasDict,cd.abstract,cd.hasDel),specialIn (liveF F) (.ref C) "__call__",instIn (liveF F) (.ref C) (.type "type"),tab.map fun p=>findIn (liveF F) (.ref C) p.1)
noncomputable def cls2(C:Addr)(ms:List Value)(v:Option (Option Value))(tab:List (Str×Option Value)):=(some (Value.type "type",8,v,Value.ref C::ms,true,false,false),some (some (Value.builtin "type.__call__")),some true,tab.map fun p=>some p.2)
noncomputable def keys7:List Str:= ["http://www.w3.org/XML/1998/namespace","http://www.w3.org/1999/xhtml","http://www.w3.org/1999/02/22-rdf-syntax-ns#","http://schemas.xmlsoap.org/wsdl/","http://www.w3.org/2001/XMLSchema","http://www.w3.org/2001/XMLSchema-instance","http://purl.org/dc/elements/1.1/"]
noncomputable def de(P:Params)(x:Str)(t:Nat)(v:Value):jz:=⟨vr P x,.str x t,v⟩
noncomputable def smo(P:Params):List (Option Obj):= [
 some {cls:= .type "re.Pattern",data:= .fields #[.str "\\.\\d+$" 292,.int 256 319,.int 0 0,.none,.none,.ref 42,.int 0 0]},
 some {cls:= .type "tuple",dict:=none,data:= .seq ([14,8,1,2,4294967295,1,1,46,0,16,46,24,9,1,4294967295,13,4,8,0,0,1,6,5,1].map fun i=>Value.int i 0).toArray 0,slots:=#[]},
 some (tupO [.int 0 374] 0),some (tupO [.int 0 393] 0),some (tupO [.type "reversed"] 0),some (tupO [.none] 0),some (tupO [.none] 0),
 some {cls:= .type "dict",data:= .dict #[de P "with_comments" 541 (.bool false),de P "strip_text" 542 (.bool false),de P "rewrite_prefixes" 543 (.bool false),de P "qname_aware_tags" 544 .none,de P "qname_aware_attrs" 545 .none,de P "exclude_attrs" 546 .none,de P "exclude_tags" 547 .none] 7},
 some {cls:= .type "cell",data:= .cell (some (.ref 151))},some {cls:= .type "module",dict:=some 0},
 some {cls:= .none,data:= .fields #[]},some {cls:= .none,data:= .fields #[]},some {cls:= .none,data:= .fields #[]},
 some (co "__len__" "_Accumulator.__len__" 411 72 1 112 113 415 (.ref 114) (.ref 115) (.ref 116)),some (co "__str__" "_Accumulator.__str__" 418 75 1 119 120 422 (.ref 121) (.ref 122) (.ref 123)),some (co "_start" "C14NWriterTarget._start" 638 195 5 239 240 641 .none .none (.ref 241))]
noncomputable def ob1(F:Frag):=(ascB (F.map (·.1)),fns.map (fun p=>F.lookup p.1),[43,42,80,96,185,200,238,177,75,4,113,120,240,117,124,242].map (F.lookup ·),fns.map (fun p=>hd F (adO p.2.code) (sA · 1)),[(87:Addr),110,147].map (hd F · (sA · 2)))
noncomputable def gd1(P:Params):=(true,fns.map (fun p=>some (fnO p.2)),smo P,fns.map (fun p=>some (cdE,9,some (6,p.2.qualname))),[(87:Addr),110,147].map (fun fz=>some (cdE,9,some (6,pw.main.file))))
noncomputable def ob2(F:Frag):=(dd F 3 (fun es=>(strKeysB es,glob.map (fun p=>jy es p.1),bnames.map (fun p=>jy es p.1),jy es "__builtins__")),dd F 0 (fun es=>(strKeysB es,bnames.map (fun p=>jy es p.1))),dd F 161 (fun es=>(strKeysB es,es.toList.map (·.hash),es.toList.map fun e=>keyOf e.key)),(dd F ja (fun es=>(strKeysB es,jy es (qb "sys.recursionlimit")))).map (·.2),(F.lookup ja).map fun o=>nsIn [(ja,o)] ja "thirdparty.any")
noncomputable def gd2(P:Params):=(some (diE,3,true,glob.map (fun p=>some p.2),bnames.map (fun fz=>(none:Option Value)),some (Value.ref 4)),some (diE,3,true,bnames.map (fun p=>some p.2)),some (diE,3,true,keys7.map (vr P),keys7),some (3,true,(none:Option Value)),some (some (none:Option Value)))
noncomputable def ob3(F:Frag):=(cls1 F 151 accTab,cls1 F 267 canTab,cc F 151 (·.qualname),makesIn (liveF F) 267,[(118:Addr),125].map (fun f=>isFn (liveF F) (.ref f)),typeIn (liveF F) (.ref 207),specialIn (liveF F) (.ref 207) "__get__",takesIn (liveF F) (.ref 207))
noncomputable def gd3:=(cls2 151 [.type "list",.type "object"] (some (some (.builtin "list.__new__"))) accTab,cls2 267 [.type "object"] (some (some (.builtin "object.__new__"))) canTab,some (Value.type "type",8,some (some (Value.builtin "list.__new__")),qb "_Accumulator"),true,[true,true],some (Value.type "function"),some (some (Value.builtin "function.__get__")),some false)
end
section
open PySem.W.X PySem.W.ZRun
noncomputable abbrev hp:=PySem.Challenge.pw_xj0038_01
noncomputable def hq:Program:=view hp [0,27]
noncomputable def hl:List Str:= ["_wall","IPV4_RE","is_HDN","domain_match","reach","_strip_exception_details","EMPTYSTRING","_Accumulator","_twin_re_1","_namespace_map","_raise_serialization_error","_looks_like_prefix_name","C14NWriterTarget","_escape_cdata_c14n","_escape_attrib_c14n","_law_ways","_law_above","_law_names","_law_piles","_law_page","_law_due"]
noncomputable def hY(s:qe):=(ob1 (FH s.heap),ob2 (FH s.heap),ob3 (FH s.heap),s.heap.objs.size,nsIn (FH s.heap) 3 (qb "law"))
noncomputable def hA(w:World):=(gd1 w.params,gd2 w.params,gd3,325,some (some (Value.ref 324)))
noncomputable def topTw(p:Program)(w:World)(N:Nat)(s₀:qe):Option qe:=
 match s₀.heap.isNs mainGlobals&&s₀.gens.size==0 with
 |true=>(Fast.tw14082659384304107361 Fast.tw14364793385576792824 p w s₀.heap.objs.size (s₀.heap.nsMap mainGlobals "__annotations__") N s₀ (topStub p)).bind fun s₁=>match staticsOk (importedModules p.main.body) s₀.heap s₁.heap&&namesBound p s₁.heap&&gensDone s₁&&laidKept s₀.heap s₁.heap with
   |true=>some s₁
   |false=>none
 |false=>none
theorem topTw_eq(p w N s₀):topFrom treeTable p w N s₀=topTw p w N s₀:=by
 unfold topFrom topTw
 rw [Fast.te14082659384304107361,Fast.te14364793385576792824]
 rfl
theorem hq_get:(defOf hq "law").isSome=true:=by decide+kernel
noncomputable def hdf:DefRec×List (Str×Expr):=(defOf hq "law").get hq_get
theorem hdf_name:hdf.1.name=qb "law":=by kernel_rfl
noncomputable abbrev hX(s:qe):Bool:=xlAt hq [] s&&recOk (RowW.records PySem.Challenge.rw_xj0038_01.row.toRowW) s
theorem said:PySem.Challenge.rw_xj0038_01.wellSaid=true:=by decide+kernel
theorem left_f: ∀w:World,(fencedOpening treeTable hp w 4034).map (fun s₀=>(topTw hp (w.withFollow "special-get-raises" false) 4034 s₀).map (fun s=>(Fast.tw4187177175401517315 hq hl (importedModules hp.main.body) hX true s,hY s)))=some (some (openGood hq hl,hA (w.withFollow "special-get-raises" false))):=by intro w;kernel_rfl
theorem left_t: ∀w:World,(fencedOpening treeTable hp w 4034).map (fun s₀=>(topTw hp (w.withFollow "special-get-raises" true) 4034 s₀).map (fun s=>(Fast.tw4187177175401517315 hq hl (importedModules hp.main.body) hX true s,hY s)))=some (some (openGood hq hl,hA (w.withFollow "special-get-raises" true))):=by intro w;kernel_rfl
theorem left:LeftO hp hq hl hX hY hA 4034:=LeftO.of_split "special-get-raises" fun w=>by
 obtain ⟨s,e,f⟩:=je.mp (left_f w)
 obtain ⟨s',e',t⟩:=je.mp (left_t w)
 cases e.symm.trans e'
 rw [e,Fast.te4187177175401517315]
 rw [←topTw_eq] at f t
 exact congrArg some (Prod.ext f t)
end
namespace Ar
theorem a1{a m n:Nat}(h:a<m)(k:m≤n):a<n:=ql h k
theorem a2{a m n:Nat}(h:a≤m)(k:m<n):a<n:=qF h k
theorem a3{a m n:Nat}(h:a<m)(k:m≤n+1):a≤n:=jt (ql h k)
theorem a4{a m n:Nat}(h:a≤m)(k:m≤n):a≤n:=qg h k
theorem b1{a c m n:Nat}(h:a<m)(k:m+c≤n):a+c<n:=ql (Nat.add_lt_add_right h c) k
theorem b3{a c m n:Nat}(h:a<m)(k:m+c≤n+1):a+c≤n:=jt (b1 h k)
theorem b4{a c m n:Nat}(h:a≤m)(k:m+c≤n):a+c≤n:=qg (qG h c) k
theorem c1{a c m n:Nat}(h:a<m)(k:m+c≤n):c+a<n:=vO a c▸b1 h k
theorem c3{a c m n:Nat}(h:a<m)(k:m+c≤n+1):c+a≤n:=vO a c▸b3 h k
theorem d1{a m n:Nat}(h:a=m)(k:m<n):a<n:=h▸k
theorem d2{a m n:Nat}(h:a=m)(k:m≤n):a≤n:=h▸k
theorem d5{a m n:Nat}(h:a=m)(k:n<m):n<a:=h▸k
theorem d7{a b c:Nat}(h:c=b)(k:a<c):a<b:=h▸k
theorem d9{a b c:Nat}(h:b=c)(k:a<c):a<b:=h▸k
theorem f1{a b c d:Nat}(h:b=c)(k:a<d)(e:d+1≤c):a+1<b:=h▸ql (Nat.succ_lt_succ k) e
theorem f2{a b m n:Nat}(h:a=b)(k:b<m)(e:m≤n):a<n:=h▸ql k e
theorem f3{a b m n:Nat}(h:a=b)(k:b≤m)(e:m≤n):a≤n:=h▸qg k e
theorem f4{a b c:Nat}(h:a<b)(k:b=c+1):a<c+1:=k▸h
theorem e1(i:Nat):1+(i:Int)=((i+1:Nat):Int):=Int.add_comm 1 i
theorem e2(i:Nat):(0:Int)+(i:Int)=(i:Int):=Int.zero_add _
theorem e3(i:Nat):(0:Int)≤(i:Int):=zx i
theorem g1{a b:Nat}(h:b<a):a-(b+1)<a-b:=Nat.sub_lt_sub_left h (Nat.lt_succ_self b)
theorem g2{a b c:Nat}(h:a-b=c+1):a-(b+1)=c:=by rw [Nat.sub_add_eq,h];rfl
theorem g3{a b:Nat}(h:b-a=0)(k:a≤b):a=b:=vC k (Qp h)
theorem g4{a b c:Nat}(h:b-a=c+1):a<b:=Nat.lt_of_sub_eq_succ h
theorem g5{a b:Nat}(h:a-1≤b):a≤b+1:=Nat.le_add_of_sub_le h
theorem g6{a b:Nat}(h:a≤b)(k: ¬a<b):a=b:=vC h (qQ k)
theorem g7{a b:Nat}(h:a≤b):a≤b+1:=Qu h
theorem g8{a m n:Nat}(h:a<m)(k:m≤n):a-1<n:=qF (Nat.sub_le a 1) (ql h k)
theorem m1{a b m n:Nat}(h:b≤m)(k:m≤n):min a b≤n:=qg (vd a b) (qg h k)
theorem m3{a b m n:Nat}(h:b≤m)(k:m<n):min a b<n:=qF (vd a b) (qF h k)
theorem m4{a b m n:Nat}(h:a<m)(k:m≤n+1):min a b≤n:=qg (zU a b) (a3 h k)
theorem h2{a b n:Nat}(h:a+b<n):a<n:=qF (jk a b) h
theorem h3{a b n:Nat}(h:a+b≤n):a≤n:=qg (jk a b) h
theorem t1{a:Int}{b:Nat}(h:0≤a∧a<(b:Int)):a.toNat<b:=(Int.toNat_lt h.1).mpr h.2
theorem t2{a:Int}{b n:Nat}(h:0≤a∧a<(b:Int))(k:b≤n):a.toNat<n:=ql (t1 h) k
theorem t3{a:Int}{b m n:Nat}(h:0≤a∧a<((b+1:Nat):Int))(j:b<m)(k:m≤n):a.toNat<n:=ql (t1 h) (qg j k)
theorem t4{a:Int}(h:0≤a):a=(a.toNat:Int):=(vz h).symm
theorem t5{a:Int}(h:0≤a):(a.toNat:Int)=a:=vz h
theorem t6{a:Int}{b:Nat}(h:0≤a∧a<(b:Int)):a=(a.toNat:Int):=t4 h.1
theorem n1{a:Nat}(h:0<a):1+(a-1)=a:=by rw [vO];exact Nat.sub_add_cancel h
theorem d{m n:Nat}(h:Nat.ble m n=true):m≤n:=Nat.le_of_ble_eq_true h
theorem m7{a b:Nat}(h:a≤b):min (QI (max 0 (a:Int))) b=a:=by rw [Int.max_eq_right (zx a)];exact jR h
theorem s0{a b:Nat}(h: ¬(1:Int)>(a:Int)-((b+1:Nat):Int)):1≤a-(b+1):=Int.toNat_sub a (b+1)▸Int.toNat_le_toNat (Int.not_lt.mp h)
theorem s1{a b:Nat}(k:a<4294967295)(h: ¬(1:Int)>(a:Int)-((b+1:Nat):Int)):min 4294967295 (QI ((a:Int)-((b+1:Nat):Int)))=a-(b+1)-1+1:=by rw [Int.toNat_sub,Nat.min_eq_right (qg (Nat.sub_le _ _) (qv k))];exact (Nat.sub_add_cancel (s0 h)).symm
theorem i1{x:Int}{n:Nat}(h:0≤x)(k:x<(n:Int)):x.natAbs<n:=zT.mp ((Int.natAbs_of_nonneg h).symm▸k)
theorem i2{f m:Int}(h:f<m):1+f≤m:=Int.add_comm 1 f▸h
theorem i3{x:Int}{n:Nat}(h:x<(n:Int))(k:Nat.ble 1 n=true):x.toNat<n:=(Int.toNat_lt' (d k)).mpr h
theorem i4(n:Nat):QI (-1+((n:Int)+1))=n:=congrArg QI ((Int.add_comm _ _).trans (Int.add_neg_cancel_right _ _))
theorem z1{x e s i:Nat}(h:i<6)(k:e+s≤7*i+6)(l:x≤e*7000):x≤336000:=qg l (ve 7000 (qg (jk e s) (qg k (qG (qW 7 (qv h)) 6))))
theorem z2{a e i:Nat}(h:i<6)(k:e+a≤2*i):a≤12:=qg (zy a e) (qg k (qW 2 (qv h)))
theorem s2{a b c:Nat}(h:0<b)(k:a+b≤c-1):1+a+b≤c:=by
 rw [Nat.add_assoc,vO]
 exact qF k (Nat.sub_one_lt_of_lt (ql h (qg (zy b a) (qg k (Nat.sub_le c 1)))))
theorem m9{a b c n m:Nat}(e:c=n)(h:a<c)(k:Nat.ble n m=true):min a b≤m:=qg (zU a b) (qg (qv (e▸h)) (d k))
theorem l1{a b c m n:Nat}(h:b≤m)(k:a≤b*c)(l:Nat.ble (m*c) n=true):a≤n:=qg k (qg (ve c h) (d l))
theorem s3{a b c:Nat}(h:a+20*(b+1)<9000)(k:Nat.ble c 20=true):a+c+20*b<9000:=qF (by rw [Nat.add_assoc,vO c];exact qX (qX (d k) (20*b)) a) h
theorem i5(a b:Nat):max 0 (min (a:Int) (b:Int))=((min a b:Nat):Int):=by
 rcases Nat.le_total a b with h|h
 ·rw [jR h,Int.min_eq_left (QQ.mpr h)];exact Int.max_eq_right (zx a)
 ·rw [Nat.min_eq_right h,Int.min_eq_right (QQ.mpr h)];exact Int.max_eq_right (zx b)
theorem s4: ∀{c:Nat},2≤c→c-1=c-2+1
 |_+2,_=>rfl
theorem s5{a:Nat}(h:a+20*3<9000):a+1+1<9900:=qF (qX (d rfl:2≤20*3) a) (zq h (d rfl))
theorem s6{a b c n:Nat}(h:a+(c+1)≤n)(k:b≤1):a+b+c≤n:=qg (qN (zG a b c)) (qg (qX k (a+c)) h)
theorem z3{a e i:Nat}(h:i<6)(k:e+a≤7*i+6):a≤48:=qg (zy a e) (qg k (qG (qW 7 (qv h)) 6))
theorem z4{a b c:Nat}(h:b+c≤12)(k:a≤3*b):a<900:=qF (qg k (qW 3 (qg (jk b c) h))) (d rfl)
theorem i6{a n:Nat}(h:a<n)(k:Nat.ble n 9223372036854775808=true):(a:Int)<2^ 63:=zT.mpr (ql h (d k))
theorem i7(x:Int)(n:Nat):x+((n+1:Nat):Int)=x+(n:Int)+1:=(Int.add_assoc x n 1).symm
end Ar
open Lean in
def nd (k : String) (as : List Syntax) : Syntax := .node .none k.toName as.toArray
open Lean in
def sq (ts : List Syntax) : Syntax := nd "Lean.Parser.Tactic.tacticSeq" [nd "Lean.Parser.Tactic.tacticSeq1Indented" [nd "null" (ts.intersperse (mkAtom ";"))]]
open Lean in
def tk (k w : String) (as : List Syntax) : Syntax := nd ("Lean.Parser.Tactic." ++ k) (mkAtom w :: as)
open Lean in
def stp (ar : Array Syntax) (st : List Syntax) (s : String) : List Syntax :=
  let N := nd "null" []
  match s, st with
  | "?", _ => nd "Lean.Parser.Term.syntheticHole" [mkAtom "?", mkAtom "_"] :: st
  | "_", _ => nd "Lean.Parser.Term.hole" [mkAtom "_"] :: st
  | "[", _ => .missing :: st
  | "R", t :: st => tk "refine" "refine" [t] :: st
  | "X", t :: st => tk "exact" "exact" [t] :: st
  | "P", t :: st => tk "apply" "apply" [t] :: st
  | "B", t :: st => nd "Lean.Parser.Term.byTactic" [mkAtom "by", sq [t]] :: st
  | "@", t :: st => nd "Lean.Parser.Term.explicit" [mkAtom "@", t] :: st
  | "F", t :: x :: st => nd "Lean.Parser.Term.fun" [mkAtom "fun", nd "Lean.Parser.Term.basicFun" [nd "null" [x], N, mkAtom "=>", t]] :: st
  | "<", b :: a :: st => nd "Lean.Parser.Term.anonymousCtor" [mkAtom "⟨", nd "null" [a, mkAtom ",", b], mkAtom "⟩"] :: st
  | ";", b :: a :: st => tk "paren" "(" [sq [a, b], mkAtom ")"] :: st
  | "r", t :: st => tk "withReducible" "with_reducible" [sq [t]] :: st
  | "!", t :: st => tk "failIfSuccess" "fail_if_success" [sq [t]] :: st
  | "~", _ => mkIdent (addMacroScope `m `t 1) :: st
  | "..", _ => nd "Lean.Parser.Term.ellipsis" [mkAtom ".."] :: st
  | ".", t :: st => nd "Lean.cdot" [nd "Lean.cdotTk" [mkAtom "·"], sq [t]] :: st
  | "i", t :: st => tk "withReducibleAndInstances" "with_reducible_and_instances" [sq [t]] :: st
  | "*", t :: st => tk "tacticRepeat_" "repeat" [sq [t]] :: st
  | "g", x :: t :: st => tk "generalize" "generalize" [nd "null" [nd "Lean.Parser.Tactic.generalizeArg" [N, t, mkAtom "=", x]], N] :: st
  | "w", x :: st => tk "rewriteSeq" "rewrite" [nd "Lean.Parser.Tactic.optConfig" [N], nd "Lean.Parser.Tactic.rwRuleSeq" [mkAtom "[", nd "null" [x], mkAtom "]"], N] :: st
  | "f", _ => nd "tacticFunext___" [mkAtom "funext", .node .none nullKind ar] :: st
  | "O", _ =>
    let l := st.takeWhile (!·.isMissing)
    tk "first" "first" [nd "null" ([tk "case" "case" [nd "null" [nd "Lean.Parser.Tactic.caseArg" [nd "Lean.binderIdent" [mkIdent `o], N]], mkAtom "=>", sq l.reverse], tk "fail" "fail" [N]].map fun t => nd "group" [mkAtom "|", sq [t]])] :: st.drop (l.length + 1)
  | _, _ => match s.splitOn ":" with
    | [k, w] => nd k (mkAtom w :: if w == "clear" || w == "subst" then [nd "null" [mkIdent `zz]] else if w == "cases" then [nd "null" [nd "Lean.Parser.Tactic.elimTarget" [N, mkIdent `zz]], N, N] else if w == "fail" then [N] else if w == "simp" then [nd "Lean.Parser.Tactic.optConfig" [N], N, N, N, N] else if w == "lia" || w == "decide" then [nd "Lean.Parser.Tactic.optConfig" [N]] else []) :: st
    | _ => if s.front == '#' then let n := (s.drop 1).toNat!
             nd "Lean.Parser.Term.app" [(st.drop n).head!, nd "null" (st.take n).reverse] :: st.drop (n + 1)
      else if s.front == '$' then ar[(s.drop 1).toNat!]! :: st
      else mkIdent s.toName :: st
open Lean in
def q (s : String) (ar : Array Syntax := #[]) : TSyntax `tactic := ⟨((s.splitOn " ").foldl (stp ar) []).head!⟩
def al (pre cmd post s : String) : String := " ".intercalate ((s.splitOn " ").map fun x =>
  let p := x.splitOn ":"
  let as := (p.getD 1 "").toList
  pre ++ p.head! ++ String.join (as.map fun c => " " ++ if c == 'h' then "?" else if c == 'k' then "tacticKernel_rfl:kernel_rfl B" else if c == 't' then "PySem.W.tacticTb_rel:tb_rel B" else if c == 'K' then "PyProof.Rows.tacticKernel_rfl!:kernel_rfl! B" else if c == 'a' then "Lean.Parser.Tactic.assumption:assumption B" else if c == 'd' then "Lean.Parser.Tactic.decide:decide B" else if c == 'p' then "tacticKernel_rfl:kernel_rfl B tacticKernel_rfl:kernel_rfl B <" else if c == 's' then "tacticDict_keeps:dict_keeps B" else if c == 'f' then "PyProof.Rows.tacticDict_fit:dict_fit B" else if c == 'S' then "Lean.Parser.Tactic.simp:simp B" else if c == 'r' then "rfl" else "_") ++ (if as.isEmpty then " " else " #" ++ toString as.length ++ " ") ++ cmd ++ post)
local macro_rules
  | `(tactic| case $t:ident => $[$ts:tactic]*) => do
    unless t.getId.eraseMacroScopes == `o && ts.size > 1 do Lean.Macro.throwUnsupported
    let us := ts.extract 1 ts.size
    `(tactic| case $t:ident => $[$us:tactic]*)
local macro_rules
  | `(tactic| case $t:ident => $[$ts:tactic]*) => do
    unless t.getId.eraseMacroScopes == `o do Lean.Macro.throwUnsupported
    return ts[0]!
local macro_rules | `(tactic| omega) => return q ("[ Lean.Parser.Tactic.assumption:assumption Nat.le_refl _ #1 X [ " ++ al "Mine.Ar." "X" "" "a1:ad a2:ad a3:ad a4:ad b1:ad b2:ad b3:ad b4:ad c1:ad c2:ad c3:ad c4:ad d1:ad d2:ad d3:ad d4:ad d5:ad d6:ad d7:aa d8:aa d9:aa f1:aad f2:aad f3:aad f4:aa e1:_ e2:_ e3:_ g1:a g2:a g3:aa g4:a g5:a g6:aa g7:a g8:ad g9:ad m1:ad m2:ad m3:ad m4:ad m5:a m6:a h1:a h2:a h3:a h4:ad h5:ad h6:ad t1:a t2:ad t3:aad t4:a t5:a t6:a t7:a" ++ " O r Lean.Parser.Tactic.lia:lia O")
section
noncomputable abbrev Asn:=Obj→Prop
noncomputable def genCodes:List (Addr×Addr):= [(117,113),(124,120),(242,240)]
noncomputable def Tabs(b h:Heap):Prop:= ∀c P,(c,P)∈genCodes→ ∃ps,h.IsCode c P ps∧h.TableAt c P ps∧c<b.objs.size∧P<b.objs.size∧ ∃ps₀,b.TableAt c P ps₀∧ ∀pos cv,codeAmong pos ps₀.toList=some cv→codeAmong pos ps.toList=some cv
theorem goQ_no{v:Value}{f:Int→Option Value}{cv:Value}(h:(match v with| .int i _=>f i|_=>none)=some cv): ∃i t,v= .int i t:=by
 have h:=congrArg Option.isSome h
 cases v<;>first|exact ⟨_,_,rfl⟩|exact (qx h).elim
theorem goQ_app{pos:Pos}{cv:Value}{m:List Value}: ∀(l:List Value) (n:Nat),HeadEqs.codeGoQ pos l n=some cv→HeadEqs.codeGoQ pos (l++m) n=some cv:=by
 intro l
 induction l with
 |nil=>intro n h;cases h
 |cons v r ih=>
  intro n h
  have key:(∃i t,v= .int i t)→HeadEqs.codeGoQ pos ((v::r)++m) n=some cv:=fun ⟨i,t,e⟩=>by
   subst e
   rcases n with _|_|_|_|n<;>first|exact ih _ h|exact h
  rcases n with _|_|_|_|n
  ·exact key (goQ_no h)
  ·exact key (goQ_no h)
  ·exact key (goQ_no (f:=fun fz=>HeadEqs.codeGoQ pos r 4) h)
  ·exact h
  ·exact ih _ h
theorem codeAmong_app{pos:Pos}{cv:Value}{m:List Value}{l:List Value}(h:codeAmong pos l=some cv):codeAmong pos (l++m)=some cv:=
 (HeadEqs.codeAmongQ_eq pos _).trans (goQ_app l 0 ((HeadEqs.codeAmongQ_eq pos l).symm.trans h))
theorem Tabs.keeps{b h h':Heap}(T:Tabs b h)(k: ∀c o,c<b.objs.size→h.get? c=some o→h'.get? c=some o):Tabs b h':=fun c P hc=>by
 obtain ⟨ps,⟨o,vs,file,tf,flags,tg,inF,text,tt,op,a,r1,r2,r3,r4,r5,r6,e,r⟩,⟨⟨o',vs',a',r'⟩,t'⟩,l1,l2,r0⟩:=T c P hc
 exact ⟨ps,⟨o,vs,file,tf,flags,tg,inF,text,tt,op,k _ _ l1 a,r1,r2,r3,r4,r5,r6,k _ _ l2 e,r⟩,⟨⟨o',vs',k _ _ l1 a',r'⟩,k _ _ l2 t'⟩,l1,l2,r0⟩
noncomputable def lamQual:Str:=qb "C14NWriterTarget._start"++qb ".<locals>."++qb "<lambda>"
noncomputable def lamPos:Pos:=⟨216,71,216,96⟩
noncomputable def LamC(h:Heap)(c:Addr):Prop:= ∃ps,h.TableAt 242 240 ps∧codeAmong lamPos ps.toList=some (.ref c)
noncomputable def Lam(h:Heap)(n:Nat)(L:List (Addr×Asn)):Prop:= ∀ps cv,h.TableAt 242 240 ps→codeAmong lamPos ps.toList=some cv→ ∃c o vs t,cv= .ref c∧h.get? c=some o∧o.data= .fields vs∧vs[1]? =some (.str lamQual t)∧n≤c∧c∉L.map (·.1)
theorem Lam.keeps{b h h':Heap}{L L':List (Addr×Asn)}(T:Tabs b h)(M:Lam h b.objs.size L)(k: ∀c o,(c<b.objs.size∨LamC h c)→h.get? c=some o→h'.get? c=some o)(hL: ∀x∈L'.map (·.1),x∈L.map (·.1)∨h.get? x=none):Lam h' b.objs.size L':=by
 intro ps cv ht hc
 obtain ⟨ps1,_,ht1,l1,l2,_⟩:=T 242 240 (by decide)
 have e:ps=ps1:=by
  have:=(k _ _ (.inl l2) ht1.2).symm.trans ht.2
  cases this;rfl
 subst e
 obtain ⟨c,o,vs,t,rfl,ho,hd,hv,hn,hm⟩:=M ps cv ht1 hc
 refine ⟨c,o,vs,t,rfl,k _ _ (.inr ⟨ps,ht1,hc⟩) ho,hd,hv,hn,fun hx=> ?_⟩
 rcases hL c hx with hx|hx
 ·exact hm hx
 ·rw [ho] at hx;cases hx
theorem LamC.back{b h h':Heap}{c:Addr}(T:Tabs b h)(k: ∀c o,h.get? c=some o→h'.get? c=some o)(x:LamC h' c):LamC h c:=by
 obtain ⟨ps,ht,hc⟩:=x
 obtain ⟨ps1,_,ht1,l1,l2,_⟩:=T 242 240 (by decide)
 have e:ps=ps1:=by
  have:=(k _ _ ht1.2).symm.trans ht.2
  cases this;rfl
 subst e
 exact ⟨ps,ht1,hc⟩
theorem Lam.sub{h:Heap}{n:Nat}{L L':List (Addr×Asn)}(M:Lam h n L)(hL: ∀x∈L'.map (·.1),x∈L.map (·.1)):Lam h n L':=fun ps cv ht hc=>by
 obtain ⟨c,o,vs,t,e,ho,hd,hv,hn,hm⟩:=M ps cv ht hc
 exact ⟨c,o,vs,t,e,ho,hd,hv,hn,fun hx=>hm (hL c hx)⟩
theorem Lam.ne{h:Heap}{n:Nat}{L:List (Addr×Asn)}{c:Addr}(M:Lam h n L)(hc:LamC h c):n≤c∧c∉L.map (·.1)∧ ∃o,h.get? c=some o:=by
 obtain ⟨ps,ht,hc⟩:=hc
 obtain ⟨c',o,vs,t,e,ho,hd,hv,hn,hm⟩:=M ps _ ht hc
 cases e
 exact ⟨hn,hm,o,ho⟩
inductive Owned(h:Heap)(p:Addr×Asn):Prop
 |mk (o:Obj) (e:h.get? p.1=some o) (hp:p.2 o)
theorem Owned.of{h:Heap}{p:Addr×Asn}(e: ∃o,h.get? p.1=some o∧p.2 o):Owned h p:=e.elim fun o h=>⟨o,h.1,h.2⟩
structure St(b s:qe)(L:List (Addr×Asn)):Prop where
 old:OldK b.heap s.heap
 lim:s.heap.NoLimit
 os:s.os=b.os
 gens:AllBare s.gens
 gk: ∀(i:Nat) (x:ju),b.gens[i]? =some x→s.gens[i]? =some x
 top: ∃o,b.heap.get? (b.heap.objs.size-1)=some o∧o.cls≠ .none
 stat:ja<b.heap.objs.size
 st0:s.heap.get? ja=b.heap.get? ja
 tabs:Tabs b.heap s.heap
 lam:Lam s.heap b.heap.objs.size L
 own: ∀p∈L,Owned s.heap p
 nd:(L.map (·.1)).Nodup
 fresh: ∀p∈L,b.heap.objs.size≤p.1
theorem St.size{b s:qe}{L:List (Addr×Asn)}(H:St b s L):b.heap.objs.size≤s.heap.objs.size:=by
 obtain ⟨o,e,hc⟩:=H.top
 have h1:b.heap.objs.size-1<s.heap.objs.size:=zi (H.old.get_of_cls e hc)
 have h2: ∀x y:Nat,x-1<y→x≤y:=fun x y h=>by exact Nat.le_of_pred_lt h
 exact h2 _ _ h1
theorem St.st0k{b s:qe}{L:List (Addr×Asn)}(H:St b s L){h':Heap}(hk: ∀o,s.heap.get? ja=some o→h'.get? ja=some o):h'.get? ja=b.heap.get? ja:=by
 obtain ⟨mc,⟨o,es,ep,ho,_⟩,_⟩:=H.lim
 rw [hk o ho,←H.st0,ho]
inductive Mm{α:Type}:α→List α→Prop
 |head {a:α} {l:List α}:Mm a (a::l)
 |tail {a c:α} {l:List α}:Mm a l→Mm a (c::l)
theorem Mm.a1{α:Type}{a q0:α}{l:List α}:Mm a (q0::a::l):= .tail .head
theorem Mm.a2{α:Type}{a q0 q1:α}{l:List α}:Mm a (q0::q1::a::l):= .tail .a1
theorem Mm.a3{α:Type}{a q0 q1 q2:α}{l:List α}:Mm a (q0::q1::q2::a::l):= .tail .a2
theorem Mm.a4{α:Type}{a q0 q1 q2 q3:α}{l:List α}:Mm a (q0::q1::q2::q3::a::l):= .tail .a3
theorem Mm.a5{α:Type}{a q0 q1 q2 q3 q4:α}{l:List α}:Mm a (q0::q1::q2::q3::q4::a::l):= .tail .a4
theorem Mm.a6{α:Type}{a q0 q1 q2 q3 q4 q5:α}{l:List α}:Mm a (q0::q1::q2::q3::q4::q5::a::l):= .tail .a5
theorem Mm.a7{α:Type}{a q0 q1 q2 q3 q4 q5 q6:α}{l:List α}:Mm a (q0::q1::q2::q3::q4::q5::q6::a::l):= .tail .a6
theorem Mm.a8{α:Type}{a q0 q1 q2 q3 q4 q5 q6 q7:α}{l:List α}:Mm a (q0::q1::q2::q3::q4::q5::q6::q7::a::l):= .tail .a7
theorem Mm.a9{α:Type}{a q0 q1 q2 q3 q4 q5 q6 q7 q8:α}{l:List α}:Mm a (q0::q1::q2::q3::q4::q5::q6::q7::q8::a::l):= .tail .a8
theorem Mm.mem{α:Type}{a:α}{l:List α}(h:Mm a l):a∈l:=by
 induction h with
 |head=>exact .head _
 |tail _ ih=>exact .tail _ ih
inductive Upd:List (Addr×Asn)→Addr→Asn→Asn→List (Addr×Asn)→Prop
 |head {a P P' L}:Upd ((a,P)::L) a P P' ((a,P')::L)
 |tail {q L a P P' L'}:Upd L a P P' L'→Upd (q::L) a P P' (q::L')
theorem Upd.a1{q0:Addr×Asn}{L a P P'}:Upd (q0::(a,P)::L) a P P' (q0::(a,P')::L):= .tail .head
theorem Upd.a2{q0 q1:Addr×Asn}{L a P P'}:Upd (q0::q1::(a,P)::L) a P P' (q0::q1::(a,P')::L):= .tail .a1
theorem Upd.a3{q0 q1 q2:Addr×Asn}{L a P P'}:Upd (q0::q1::q2::(a,P)::L) a P P' (q0::q1::q2::(a,P')::L):= .tail .a2
theorem Upd.a4{q0 q1 q2 q3:Addr×Asn}{L a P P'}:Upd (q0::q1::q2::q3::(a,P)::L) a P P' (q0::q1::q2::q3::(a,P')::L):= .tail .a3
theorem Upd.a5{q0 q1 q2 q3 q4:Addr×Asn}{L a P P'}:Upd (q0::q1::q2::q3::q4::(a,P)::L) a P P' (q0::q1::q2::q3::q4::(a,P')::L):= .tail .a4
theorem Upd.a6{q0 q1 q2 q3 q4 q5:Addr×Asn}{L a P P'}:Upd (q0::q1::q2::q3::q4::q5::(a,P)::L) a P P' (q0::q1::q2::q3::q4::q5::(a,P')::L):= .tail .a5
theorem Upd.a7{q0 q1 q2 q3 q4 q5 q6:Addr×Asn}{L a P P'}:Upd (q0::q1::q2::q3::q4::q5::q6::(a,P)::L) a P P' (q0::q1::q2::q3::q4::q5::q6::(a,P')::L):= .tail .a6
theorem Upd.a8{q0 q1 q2 q3 q4 q5 q6 q7:Addr×Asn}{L a P P'}:Upd (q0::q1::q2::q3::q4::q5::q6::q7::(a,P)::L) a P P' (q0::q1::q2::q3::q4::q5::q6::q7::(a,P')::L):= .tail .a7
theorem Upd.a9{q0 q1 q2 q3 q4 q5 q6 q7 q8:Addr×Asn}{L a P P'}:Upd (q0::q1::q2::q3::q4::q5::q6::q7::q8::(a,P)::L) a P P' (q0::q1::q2::q3::q4::q5::q6::q7::q8::(a,P')::L):= .tail .a8
variable{b s s':qe}{L L':List (Addr×Asn)}{a:Addr}{P P':Asn}
theorem St.tok(H:St b s L)(t:Nat):St b {s with toks:=t} L:=⟨H.old,H.lim,H.os,H.gens,H.gk,H.top,H.stat,H.st0,H.tabs,H.lam,H.own,H.nd,H.fresh⟩
theorem St.base(H:St b s L){a:Addr}{o:Obj}(e:b.heap.get? a=some o)(hc:o.cls≠ .none):s.heap.get? a=some o:=H.old.get_of_cls e hc
theorem St.alloc(H:St b s L)(o:Obj)(hf:o.isFreed=false)(hP:P o):St b {s with heap:=s.heap.push o} ((s.heap.objs.size,P)::L) where
 old:=H.old.step_keeps fun fz fz e=>qD _ e
 lim:=H.lim.push _
 os:=H.os
 gens:=H.gens
 gk:=H.gk
 stat:=H.stat
 st0:=H.st0k fun fz e=>qD _ e
 tabs:=H.tabs.keeps fun fz fz fz e=>qD _ e
 lam:=H.lam.keeps H.tabs (fun fz fz fz e=>qD _ e) fun x hx=>by
  rw [qR] at hx
  rcases qH.mp hx with rfl|hx
  ·exact .inr (Heap.get?_none_of_le (zg _))
  ·exact .inl hx
 top:=H.top
 own:=fun p hp=>by
  rcases qH.mp hp with rfl|hp
  ·exact ⟨o,zK _ hf,hP⟩
  ·obtain ⟨o',e,h⟩:=H.own p hp
   exact ⟨o',qD _ e,h⟩
 nd:=by
  rw [qR]
  refine zu.mpr ⟨fun hm=> ?_,H.nd⟩
  obtain ⟨p,hp,e⟩:=qw.mp hm
  obtain ⟨o',e',_⟩:=H.own p hp
  have:=zi e'
  rw [e] at this
  exact zO _ this
 fresh:=fun p hp=>by
  rcases qH.mp hp with rfl|hp
  ·exact H.size
  ·exact H.fresh p hp
theorem Upd.keys{L:List (Addr×Asn)}{a:Addr}{P P':Asn}{L':List (Addr×Asn)}(u:Upd L a P P' L'):L'.map (·.1)=L.map (·.1):=by
 induction u with
 |head=>rfl
 |tail _ ih=>simp [ih]
theorem Upd.mem{L:List (Addr×Asn)}{a:Addr}{P P':Asn}{L':List (Addr×Asn)}(u:Upd L a P P' L'):(a,P)∈L:=by
 induction u with
 |head=>exact .head _
 |tail _ ih=>exact .tail _ ih
theorem Upd.mem'{L:List (Addr×Asn)}{a:Addr}{P P':Asn}{L':List (Addr×Asn)}(u:Upd L a P P' L'): ∀p∈L',p=(a,P')∨p∈L:=by
 induction u with
 |head=>
  intro p hp
  rcases qH.mp hp with h|h
  ·exact .inl h
  ·exact .inr (.tail _ h)
 |tail _ ih=>
  intro p hp
  rcases qH.mp hp with rfl|h
  ·exact .inr (.head _)
  ·rcases ih p h with h|h
   ·exact .inl h
   ·exact .inr (.tail _ h)
theorem Upd.ne{L:List (Addr×Asn)}{a:Addr}{P P':Asn}{L':List (Addr×Asn)}(u:Upd L a P P' L')(hn:(L.map (·.1)).Nodup): ∀p∈L',p≠(a,P')→p.1≠a∧p∈L:=by
 induction u with
 |head=>
  intro p hp hne
  rcases qH.mp hp with h|h
  ·exact absurd h hne
  ·rw [qR,zu] at hn
   exact ⟨fun e=>hn.1 (by rw [←e];exact qA (f:=(·.1)) h),.tail _ h⟩
 |@tail q L a P P' L' u ih=>
  intro p hp hne
  rw [qR,zu] at hn
  rcases qH.mp hp with rfl|h
  ·exact ⟨fun e=>hn.1 (by rw [e];exact qA (f:=(·.1)) u.mem),.head _⟩
  ·obtain ⟨h1,h2⟩:=ih hn.2 p h hne
   exact ⟨h1,.tail _ h2⟩
theorem St.same(H:St b s L)(u:Upd L a P P' L'){h':Heap}(hs:Qv a s.heap h')(hP: ∃o,h'.get? a=some o∧P' o)(t:Nat):St b {s with heap:=h',toks:=t} L' where
 old:=H.old.step_same (H.fresh _ u.mem) hs
 lim:=H.lim.sameBut hs (by
  exact qS (ql H.stat (H.fresh _ u.mem)))
 os:=H.os
 gens:=H.gens
 gk:=H.gk
 stat:=H.stat
 st0:=(hs.2 _ (qS (ql H.stat (H.fresh _ u.mem)))).trans H.st0
 tabs:=H.tabs.keeps fun c o hc e=>(hs.2 _ (qS (ql hc (H.fresh _ u.mem)))).trans e
 lam:=H.lam.keeps H.tabs (fun c o hc e=>(hs.2 _ (by
  rcases hc with hc|hc
  ·exact qS (ql hc (H.fresh _ u.mem))
  ·intro e
   subst e
   exact (H.lam.ne hc).2.1 (qA (f:=(·.1)) u.mem))).trans e) fun x hx=>by rw [u.keys] at hx;exact .inl hx
 top:=H.top
 own:=fun p hp=>by
  by_cases h:p=(a,P')
  ·subst h;exact .of hP
  ·obtain ⟨h1,h2⟩:=u.ne H.nd p hp h
   obtain ⟨o,e,ho⟩:=H.own p h2
   exact ⟨o,(hs.2 _ h1).trans e,ho⟩
 nd:=by rw [u.keys];exact H.nd
 fresh:=fun p hp=>by
  rcases u.mem' p hp with rfl|h
  ·exact H.fresh (a,P) u.mem
  ·exact H.fresh p h
theorem St.drop{p:Addr×Asn}(H:St b s (p::L)):St b s L:=⟨H.old,H.lim,H.os,H.gens,H.gk,H.top,H.stat,H.st0,H.tabs,H.lam.sub (fun x hx=>List.mem_cons_of_mem _ hx),fun q hq=>H.own q (.tail _ hq),(zu.mp (by simpa using H.nd)).2,fun q hq=>H.fresh q (.tail _ hq)⟩
theorem St.perm(H:St b s L)(h:L.Perm L'):St b s L':=⟨H.old,H.lim,H.os,H.gens,H.gk,H.top,H.stat,H.st0,H.tabs,H.lam.sub (fun x hx=>(h.map _).mem_iff.mpr hx),fun q hq=>H.own q (h.mem_iff.mpr hq),(h.map _).nodup_iff.mp H.nd,fun q hq=>H.fresh q (h.mem_iff.mpr hq)⟩
theorem St.weak(H:St b s L)(u:Upd L a P P' L')(h: ∀o,P o→P' o):St b s L' where
 old:=H.old
 lim:=H.lim
 os:=H.os
 gens:=H.gens
 gk:=H.gk
 stat:=H.stat
 st0:=H.st0
 tabs:=H.tabs
 lam:=H.lam.sub fun x hx=>by rw [u.keys] at hx;exact hx
 top:=H.top
 own:=fun p hp=>by
  by_cases e:p=(a,P')
  ·subst e
   obtain ⟨o,ho,hp⟩:=H.own _ u.mem
   exact ⟨o,ho,h o hp⟩
  ·exact H.own p (u.ne H.nd p hp e).2
 nd:=by rw [u.keys];exact H.nd
 fresh:=fun p hp=>by
  rcases u.mem' p hp with rfl|h
  ·exact H.fresh (a,P) u.mem
  ·exact H.fresh p h
noncomputable abbrev Led:=List (Addr×Asn)
inductive Post{α:Type}(b:qe)(Q:α→Led→Prop)(v:α)(s:qe):Prop
 |mk (L':Led) (H:St b s L') (h:Q v L')
structure W{α:Type}(b:qe)(w:World)(A:qq)(L:Led)(t:Sem α)(Q:α→Led→Prop):Prop where
 run: ∀s,St b s L→wpAny (model pw w) A t (Post b Q) (fun fz fz=>False) s
theorem W.then{α:Type}{b s:qe}{w:World}{A:qq}{L:Led}{t:Sem α}{Q:α→Led→Prop}{P:α→qe→Prop}{E:_}(h:W b w A L t Q)(H:St b s L)(k: ∀v s' L',St b s' L'→Q v L'→P v s'):wpAny (model pw w) A t P E s:=
 qL (h.run s H) (fun v s' h=>h.casesOn fun L' H' h'=>k v s' L' H' h') fun fz fz x=>x.elim
theorem W.runF{α β:Type}{b s:qe}{w:World}{A:qq}{L:Led}{t:Sem α}{f:α→β}{Q:β→Led→Prop}{E:_}(h:W b w A L t fun v=>Q (f v))(H:St b s L):wpAny (model pw w) A t (fun v=>Post b Q (f v)) E s:=
 h.then H fun fz fz L' H' h'=>⟨L',H',h'⟩
section
variable{b:qe}{w:World}{A:qq}{L L':Led}{α β:Type}{env:Env}
theorem W.pure{a:α}{Q:α→Led→Prop}(h:Q a L):W b w A L (pure a) Q:=W.mk fun fz H=>qf ⟨L,H,h⟩
theorem W.bind{m:Sem α}{f:α→Sem β}{Q:β→Led→Prop}(h:W b w A L m fun a L'=>W b w A L' (f a) Q):W b w A L (m>>=f) Q:=
 W.mk fun s H=>qc (h.then H fun a s' fz H' h'=>h'.run s' H')
theorem W.mono{t:Sem α}{Q Q':α→Led→Prop}(h:W b w A L t Q)(k: ∀a L',Q a L'→Q' a L'):W b w A L t Q':=
 W.mk fun s H=>h.then H fun a fz L' H' h'=>⟨L',H',k a L' h'⟩
theorem W.holding{vs:List Value}{m:Sem α}{Q:α→Led→Prop}(h:W b w A L m Q):W b w A L (holding vs m) Q:=W.mk fun s H=>qC (h.run s H)
theorem W.stand{pos:Pos}{Q:Unit→Led→Prop}(h:Q () L):W b w A L (jS pos) Q:=W.mk fun fz H=>vp ⟨L,H,h⟩
theorem W.eq{t t':Sem α}{Q:α→Led→Prop}(e:t=t')(h:W b w A L t' Q):W b w A L t Q:=e▸h
end
end
section
noncomputable def okL(env:Env)(x:Str):Bool:=env.scope.kind== .function&&(env.kindOf x==some .local&& !(x==("__debug__":Str)))
theorem okL.h{env:Env}{x:Str}(h:okL env x=true):env.scope.kind= .function∧env.kindOf x=some .local∧(x==("__debug__":Str))=false:=by
 simpa [okL] using h
noncomputable def okG(env:Env)(x:Str):Bool:=env.scope.kind== .function&&(env.kindOf x==some .globalImplicit&&(!(x==("__debug__":Str))&&env.globals==3))
theorem okG.h{env:Env}{x:Str}(h:okG env x=true):env.scope.kind= .function∧env.kindOf x=some .globalImplicit∧(x==("__debug__":Str))=false∧env.globals=3:=by
 simpa [okG] using h
noncomputable def okB(env:Env)(x:Str):Bool:=okG env x&&env.builtins==0
theorem okB.h{env:Env}{x:Str}(h:okB env x=true):okG env x=true∧env.builtins=0:=by
 simpa [okB] using h
inductive Pick:Led→Addr×Asn→Led→Prop
 |head {p L}:Pick (p::L) p L
 |tail {q L p L'}:Pick L p L'→Pick (q::L) p (q::L')
theorem Pick.a1{q0:Addr×Asn}{p L}:Pick (q0::p::L) p (q0::L):= .tail .head
theorem Pick.a2{q0 q1:Addr×Asn}{p L}:Pick (q0::q1::p::L) p (q0::q1::L):= .tail .a1
theorem Pick.a3{q0 q1 q2:Addr×Asn}{p L}:Pick (q0::q1::q2::p::L) p (q0::q1::q2::L):= .tail .a2
theorem Pick.a4{q0 q1 q2 q3:Addr×Asn}{p L}:Pick (q0::q1::q2::q3::p::L) p (q0::q1::q2::q3::L):= .tail .a3
theorem Pick.a5{q0 q1 q2 q3 q4:Addr×Asn}{p L}:Pick (q0::q1::q2::q3::q4::p::L) p (q0::q1::q2::q3::q4::L):= .tail .a4
theorem Pick.a6{q0 q1 q2 q3 q4 q5:Addr×Asn}{p L}:Pick (q0::q1::q2::q3::q4::q5::p::L) p (q0::q1::q2::q3::q4::q5::L):= .tail .a5
theorem Pick.a7{q0 q1 q2 q3 q4 q5 q6:Addr×Asn}{p L}:Pick (q0::q1::q2::q3::q4::q5::q6::p::L) p (q0::q1::q2::q3::q4::q5::q6::L):= .tail .a6
theorem Pick.a8{q0 q1 q2 q3 q4 q5 q6 q7:Addr×Asn}{p L}:Pick (q0::q1::q2::q3::q4::q5::q6::q7::p::L) p (q0::q1::q2::q3::q4::q5::q6::q7::L):= .tail .a7
theorem Pick.a9{q0 q1 q2 q3 q4 q5 q6 q7 q8:Addr×Asn}{p L}:Pick (q0::q1::q2::q3::q4::q5::q6::q7::q8::p::L) p (q0::q1::q2::q3::q4::q5::q6::q7::q8::L):= .tail .a8
theorem Pick.perm{L:Led}{p:Addr×Asn}{L':Led}(h:Pick L p L'):L.Perm (p::L'):=by
 induction h with
 |head=>exact .refl _
 |tail _ ih=>exact (QJ _ ih).trans (zA _ _ _)
inductive Take:Led→Led→Prop
 |nil {L}:Take L []
 |all {L}:Take L L
 |skip {p L L'}:Take L L'→Take (p::L) L'
 |cons {L p L1 L'}:Pick L p L1→Take L1 L'→Take L (p::L')
 |perm {L L1 L'}:L.Perm L1→Take L1 L'→Take L L'
theorem St.take{b s:qe}{L L':Led}(t:Take L L'): ∀{F:Led},St b s (F++L)→St b s (F++L'):=by
 induction t with
 |nil=>
  intro F H
  rw [za]
  refine ⟨H.old,H.lim,H.os,H.gens,H.gk,H.top,H.stat,H.st0,H.tabs,H.lam.sub (fun x hx=>by rw [qB];exact jB _ hx),fun p hp=>H.own p (jB _ hp),?_,fun p hp=>H.fresh p (jB _ hp)⟩
  have:=H.nd
  rw [qB] at this
  exact (List.nodup_append.mp this).1
 |all=>intro F H;exact H
 |@skip p L L' _ ih=>
  intro F H
  have H1:St b s (p::(F++L)):=H.perm vf
  exact ih H1.drop
 |@cons L p L1 L' hp _ ih=>
  intro F H
  have H1:St b s ((F++ [p])++L1):=by
   rw [qY]
   exact H.perm (List.Perm.append_left F hp.perm)
  have:=ih H1
  rwa [qY] at this
 |perm hp _ ih=>intro F H;exact ih (H.perm (List.Perm.append_left F hp))
theorem St.takes{b s:qe}{L L':Led}(H:St b s L)(t:Take L L'):St b s L':=St.take t (F:= []) H
section
variable{b:qe}{w:World}{A:qq}{L L':Led}{α β:Type}{env:Env}{rest body orelse:List Stmt}{pos:Pos}{Q:Flow→Led→Prop}
theorem W.take{t:Sem α}{Q:α→Led→Prop}(h:W b w A L' t Q)(k:Take L L'):W b w A L t Q:=W.mk fun s H=>h.run s (H.takes k)
noncomputable abbrev SQ(b:qe)(w:World)(A:qq)(env:Env)(rest:List Stmt)(Q:Flow→Led→Prop):Flow→Led→Prop:=fun f L'=>match f with| .next=>W b w A L' (execs rest env) Q|f=>Q f L'
noncomputable abbrev KU{α:Type}(b:qe)(w:World)(A:qq)(env:Env)(rest:List Stmt)(Q:Flow→Led→Prop):α→Led→Prop:=fun fz L2=>W b w A L2 (execs rest env) Q
noncomputable abbrev KAsg(b:qe)(w:World)(A:qq)(env:Env)(x:Str)(rest:List Stmt)(Q:Flow→Led→Prop):Value→Led→Prop:=fun v L1=>W b w A L1 (Qi env x v) (KU b w A env rest Q)
noncomputable abbrev KAug2(b:qe)(w:World)(A:qq)(env:Env)(op:Operator)(x:Str)(rest:List Stmt)(Q:Flow→Led→Prop)(old:Value):Value→Led→Prop:=fun v L2=>W b w A L2 (inplaceOp op old v) (KAsg b w A env x rest Q)
noncomputable abbrev KAug1(b:qe)(w:World)(A:qq)(env:Env)(op:Operator)(x:Str)(value:Expr)(rest:List Stmt)(Q:Flow→Led→Prop):Value→Led→Prop:=fun old L1=>W b w A L1 (eval value env) (KAug2 b w A env op x rest Q old)
noncomputable abbrev KBin2(b:qe)(w:World)(A:qq)(op:Operator)(R:Value→Led→Prop)(x:Value):Value→Led→Prop:=fun y L2=>W b w A L2 (binaryOp op x y) R
noncomputable abbrev KBin1(b:qe)(w:World)(A:qq)(env:Env)(op:Operator)(r:Expr)(R:Value→Led→Prop):Value→Led→Prop:=fun x L1=>W b w A L1 (eval r env) (KBin2 b w A op R x)
noncomputable abbrev KCmp2(b:qe)(w:World)(A:qq)(op:CmpOp)(R:Value→Led→Prop)(x:Value):Value→Led→Prop:=fun y L2=>W b w A L2 (jd op x y) R
noncomputable abbrev KCmp1(b:qe)(w:World)(A:qq)(env:Env)(op:CmpOp)(r:Expr)(R:Value→Led→Prop):Value→Led→Prop:=fun x L1=>W b w A L1 (eval r env) (KCmp2 b w A op R x)
noncomputable abbrev KTr(b:qe)(w:World)(A:qq)(T:Bool→Led→Prop):Value→Led→Prop:=fun c L3=>W b w A L3 (truthy c) T
noncomputable abbrev KT1(b:qe)(w:World)(A:qq)(env:Env)(op:CmpOp)(r:Expr)(T:Bool→Led→Prop):Value→Led→Prop:=KCmp1 b w A env op r (KTr b w A T)
noncomputable abbrev KIf(b:qe)(w:World)(A:qq)(env:Env)(body rest:List Stmt)(Q:Flow→Led→Prop):Bool→Led→Prop:=fun c L1=>(c=true→W b w A L1 (execs body env) (SQ b w A env rest Q))∧(c=false→W b w A L1 (execs rest env) Q)
noncomputable abbrev KNot(T:Bool→Led→Prop):Bool→Led→Prop:=fun c L1=>T (!c) L1
noncomputable abbrev KRet(Q:Flow→Led→Prop):Value→Led→Prop:=fun v L1=>Q (.ret v) L1
noncomputable abbrev KIfx(b:qe)(w:World)(A:qq)(env:Env)(body orelse:Expr)(R:Value→Led→Prop):Bool→Led→Prop:=fun c L1=>(c=true→W b w A L1 (eval body env) R)∧(c=false→W b w A L1 (eval orelse env) R)
noncomputable abbrev KAnd(b:qe)(w:World)(A:qq)(env:Env)(r:List Expr)(pos:Pos)(whole:Sem Value)(T:Bool→Led→Prop):Bool→Led→Prop:=fun c L1=>(c=true→W b w A L1 (isTrue (.BoolOp .And r pos) env whole) T)∧(c=false→T false L1)
noncomputable abbrev KOr(b:qe)(w:World)(A:qq)(env:Env)(r:List Expr)(pos:Pos)(whole:Sem Value)(T:Bool→Led→Prop):Bool→Led→Prop:=fun c L1=>(c=true→T true L1)∧(c=false→W b w A L1 (isTrue (.BoolOp .Or r pos) env whole) T)
theorem W.nil(h:Q .next L):W b w A L (execs [] env) Q:=W.pure h
theorem W.seq{st:Stmt}(h:W b w A L (exec st env) (SQ b w A env rest Q)):W b w A L (execs (st::rest) env) Q:=
 W.bind (h.mono fun f L' h'=>by
  cases f with
  |next=>exact h'
  |brk=>exact W.pure (a:=Flow.brk) h'
  |cont=>exact W.pure (a:=Flow.cont) h'
  |ret v=>exact W.pure (a:=Flow.ret v) h')
theorem W.asg{x:Str}{pos':Pos}{value:Expr}(hs:swapsWith value (some (.Name x pos')) pos.line env=qj false)
  (h:W b w A L (eval value env) (KAsg b w A env x rest Q)):W b w A L (execs (.Assign [.Name x pos'] value pos::rest) env) Q:=
 W.seq<|W.mk fun s H=>wpAny_Assign_Name (h.then H fun v s1 fz H1 h1=>h1.then H1 fun fz s2 L2 H2 h2=>⟨L2,H2,h2⟩) hs
theorem W.aug{x:Str}{pos':Pos}{op:Operator}{value:Expr}
  (h:W b w A L (loadName env x) (KAug1 b w A env op x value rest Q)):
  W b w A L (execs (.AugAssign (.Name x pos') op value pos::rest) env) Q:=
 W.seq<|W.mk fun s H=>wpAny_AugAssign_Name (h.then H fun v s1 fz H1 h1=>h1.then H1 fun fz s2 fz H2 h2=>h2.then H2 fun fz s3 fz H3 h3=>h3.then H3 fun fz s4 L4 H4 h4=>⟨L4,H4,h4⟩)
theorem W.iff{test:Expr}(h:W b w A L (isTrue test env (eval test env)) fun c L1=>if c then W b w A L1 (execs body env) (SQ b w A env rest Q)
   else W b w A L1 (execs orelse env) (SQ b w A env rest Q)):W b w A L (execs (.If test body orelse pos::rest) env) Q:=
 W.seq<|W.mk fun s H=>wpAny_If (h.then H fun c s1 fz H1 h1=>by cases c<;>exact h1.run s1 H1)
theorem W.ifs{test:Expr}(h:W b w A L (isTrue test env (eval test env)) (KIf b w A env body rest Q)):W b w A L (execs (.If test body [] pos::rest) env) Q:=
 W.iff (h.mono fun c L1 h1=>by
  cases c with
  |true=>exact h1.1 rfl
  |false=>exact W.nil (h1.2 rfl))
theorem W.ret{e:Expr}(h:W b w A L (eval e env) (KRet Q)):W b w A L (execs (.Return (some e) pos::rest) env) Q:=
 W.seq<|W.mk fun s H=>wpAny_Return_some (h.then H fun fz fz L1 H1 h1=>⟨L1,H1,h1⟩)
variable{R:Value→Led→Prop}{T:Bool→Led→Prop}
theorem W.cint{i:Int}{k:Nat}(h: ∀t,R (.int i t) L):W b w A L (eval (.Constant (.int i) k pos) env) R:=W.mk fun fz H=>wpAny_Constant_int ⟨L,H.tok _,h _⟩
theorem W.cstr{x:Str}{k:Nat}(h: ∀t,R (.str x t) L):W b w A L (eval (.Constant (.str x) k pos) env) R:=W.mk fun fz H=>Constant_str ⟨L,H.tok _,h _⟩
theorem W.cbool{c:Bool}{k:Nat}(h:R (.bool c) L):W b w A L (eval (.Constant (.bool c) k pos) env) R:=W.mk fun fz H=>Constant_bool ⟨L,H,h⟩
theorem W.cnone{k:Nat}(h:R .none L):W b w A L (eval (.Constant .none k pos) env) R:=W.mk fun fz H=>Constant_none ⟨L,H,h⟩
theorem W.bin{l r:Expr}{op:Operator}(h:W b w A L (eval l env) (KBin1 b w A env op r R)):W b w A L (eval (.BinOp l op r pos) env) R:=
 W.mk fun s H=>wpAny_BinOp (h.then H fun fz s1 fz H1 h1=>h1.then H1 fun fz s2 fz H2 h2=>h2.run s2 H2)
theorem W.cmp{l r:Expr}{op:CmpOp}(hm:behindInMarks op r=false)(h:W b w A L (eval l env) (KCmp1 b w A env op r R)):W b w A L (eval (.Compare l [op] [r] pos) env) R:=
 W.mk fun s H=>wpAny_Compare1 (h.then H fun fz s1 fz H1 h1=>h1.then H1 fun fz s2 fz H2 h2=>h2.run s2 H2) hm
theorem W.ifx{test body orelse:Expr}(h:W b w A L (isTrue test env (eval test env)) (KIfx b w A env body orelse R)):W b w A L (eval (.IfExp test body orelse pos) env) R:=
 W.mk fun s H=>IfExp_ (h.then H fun c s1 fz H1 h1=>by
  cases c with
  |true=>exact (h1.1 rfl).run s1 H1
  |false=>exact (h1.2 rfl).run s1 H1)
theorem W.tcmp{l r:Expr}{op:CmpOp}{whole:Sem Value}(hm:behindInMarks op r=false)
  (h:W b w A L (eval l env) (KT1 b w A env op r T)):W b w A L (isTrue (.Compare l [op] [r] pos) env whole) T:=
 W.mk fun s H=>wpAny_isTrue_Compare1 (h.then H fun fz s1 fz H1 h1=>h1.then H1 fun fz s2 fz H2 h2=>h2.then H2 fun fz s3 fz H3 h3=>h3.run s3 H3) hm
theorem W.tnot{x:Expr}{whole:Sem Value}(h:W b w A L (isTrue x env (eval x env)) (KNot T)):W b w A L (isTrue (.UnaryOp .Not x pos) env whole) T:=
 W.mk fun s H=>isTrue_not (h.then H fun fz fz L1 H1 h1=>⟨L1,H1,h1⟩)
theorem W.tand{x:Expr}{r:List Expr}{whole:Sem Value}(h:W b w A L (isTrue x env (eval x env)) (KAnd b w A env r pos whole T)):
  W b w A L (isTrue (.BoolOp .And (x::r) pos) env whole) T:=
 W.mk fun s H=>isTrue_and (h.then H fun c s1 fz H1 h1=>by
  cases c with
  |true=>exact (h1.1 rfl).run s1 H1
  |false=>exact ⟨_,H1,h1.2 rfl⟩)
theorem W.tand0{whole:Sem Value}(h:T true L):W b w A L (isTrue (.BoolOp .And [] pos) env whole) T:=W.mk fun fz H=>isTrue_and_nil ⟨L,H,h⟩
theorem W.tor{x:Expr}{r:List Expr}{whole:Sem Value}(h:W b w A L (isTrue x env (eval x env)) (KOr b w A env r pos whole T)):
  W b w A L (isTrue (.BoolOp .Or (x::r) pos) env whole) T:=
 W.mk fun s H=>isTrue_or (h.then H fun c s1 fz H1 h1=>by
  cases c with
  |true=>exact ⟨_,H1,h1.1 rfl⟩
  |false=>exact (h1.2 rfl).run s1 H1)
theorem W.tor0{whole:Sem Value}(h:T false L):W b w A L (isTrue (.BoolOp .Or [] pos) env whole) T:=W.mk fun fz H=>isTrue_or_nil ⟨L,H,h⟩
theorem W.tval{e:Expr}{whole:Sem Value}(he:isTrue e env whole=(do let v ←whole;jS e.pos;zv [v] (truthy v)))(h:W b w A L whole (KTr b w A T)):W b w A L (isTrue e env whole) T:=
 W.mk fun s H=>isTrue_plain (h.then H fun fz s1 fz H1 h1=>h1.run s1 H1) he
theorem W.tb{c:Bool}(h:T c L):W b w A L (truthy (.bool c)) T:=W.mk fun fz H=>wpAny_truthy_bool ⟨L,H,h⟩
theorem W.tn(h:T false L):W b w A L (truthy .none) T:=W.mk fun fz H=>truthy_none ⟨L,H,h⟩
theorem W.yes{X Y:Prop}(h:X):((true=true)→X)∧((true=false)→Y):=⟨fun fz=>h,fun e=>(nomatch e)⟩
theorem W.no{X Y:Prop}(h:Y):((false=true)→X)∧((false=false)→Y):=⟨fun e=>(nomatch e),fun fz=>h⟩
noncomputable def loc(kvs:List (Str×Option Value)):Asn:=fun o=>(∃es ep,o.data= .dict es ep∧StrKeys es∧ ∀n,jy es n=(kvs.lookup n).join)∧(kvs.map (·.1)).Nodup
theorem lookup_mem{α:Type}: ∀{kvs:List (Str×α)} {x:Str} {v:α},(kvs.map (·.1)).Nodup→(x,v)∈kvs→kvs.lookup x=some v
 |(y,u)::r,x,v,hn,hm=>by
  rw [qR,zu] at hn
  rw [zD]
  rcases qH.mp hm with h|h
  ·cases h;simp
  ·have:(x==y)=false:=by
    rw [beq_eq_false_iff_ne]
    rintro rfl
    exact hn.1 (qA (f:=(·.1)) h)
   rw [this]
   exact lookup_mem hn.2 h
theorem St.ns{s:qe}{a:Addr}{kvs:List (Str×Option Value)}(H:St b s L)(hm:(a,loc kvs)∈L):s.heap.Ns a (fun n=>(kvs.lookup n).join)∧(kvs.map (·.1)).Nodup:=by
 obtain ⟨o,ho,⟨es,ep,h1,h2,h3⟩,h4⟩:=H.own _ hm
 exact ⟨⟨o,es,ep,ho,h1,h2,h3⟩,h4⟩
theorem W.ldn0{x:Str}{v:Value}{kvs:List (Str×Option Value)}(hk:env.scope.kind= .function)(hl:env.kindOf x=some .local)
  (hm:Mm (env.locals,loc kvs) L) (hv:Mm (x,some v) kvs) (q:R v L):W b w A L (loadName env x) R:=W.mk fun s H=>by
 obtain ⟨hn,hnd⟩:=H.ns hm.mem
 refine vT hk hl hn ?_ ⟨L,H,q⟩
 show (kvs.lookup x).join=some v
 rw [lookup_mem hnd hv.mem];rfl
theorem W.ldn{x:Str}{v:Value}{kvs:List (Str×Option Value)}(hk:okL env x=true)(hm:Mm (env.locals,loc kvs) L)(hv:Mm (x,some v) kvs)(q:R v L):W b w A L (loadName env x) R:=W.ldn0 (okL.h hk).1 (okL.h hk).2.1 hm hv q
theorem W.name{x:Str}(hd:(x==("__debug__":Str))=false)(h:W b w A L (loadName env x) R):W b w A L (eval (.Name x pos) env) R:=W.mk fun s H=>wpAny_Name (h.run s H) hd
theorem W.ld{x:Str}{v:Value}{kvs:List (Str×Option Value)}(hk:okL env x=true)
  (hm:Mm (env.locals,loc kvs) L) (hv:Mm (x,some v) kvs) (q:R v L):W b w A L (eval (.Name x pos) env) R:=W.name (okL.h hk).2.2 (W.ldn hk hm hv q)
inductive Put:List (Str×Option Value)→Str→Value→List (Str×Option Value)→Prop
 |head {x u v r}:Put ((x,u)::r) x v ((x,some v)::r)
 |tail {p r x v r'}:Put r x v r'→Put (p::r) x v (p::r')
theorem Put.a1{q0:Str×Option Value}{x u v r}:Put (q0::(x,u)::r) x v (q0::(x,some v)::r):= .tail .head
theorem Put.a2{q0 q1:Str×Option Value}{x u v r}:Put (q0::q1::(x,u)::r) x v (q0::q1::(x,some v)::r):= .tail .a1
theorem Put.a3{q0 q1 q2:Str×Option Value}{x u v r}:Put (q0::q1::q2::(x,u)::r) x v (q0::q1::q2::(x,some v)::r):= .tail .a2
theorem Put.a4{q0 q1 q2 q3:Str×Option Value}{x u v r}:Put (q0::q1::q2::q3::(x,u)::r) x v (q0::q1::q2::q3::(x,some v)::r):= .tail .a3
theorem Put.a5{q0 q1 q2 q3 q4:Str×Option Value}{x u v r}:Put (q0::q1::q2::q3::q4::(x,u)::r) x v (q0::q1::q2::q3::q4::(x,some v)::r):= .tail .a4
theorem Put.a6{q0 q1 q2 q3 q4 q5:Str×Option Value}{x u v r}:Put (q0::q1::q2::q3::q4::q5::(x,u)::r) x v (q0::q1::q2::q3::q4::q5::(x,some v)::r):= .tail .a5
theorem Put.a7{q0 q1 q2 q3 q4 q5 q6:Str×Option Value}{x u v r}:Put (q0::q1::q2::q3::q4::q5::q6::(x,u)::r) x v (q0::q1::q2::q3::q4::q5::q6::(x,some v)::r):= .tail .a6
theorem Put.a8{q0 q1 q2 q3 q4 q5 q6 q7:Str×Option Value}{x u v r}:Put (q0::q1::q2::q3::q4::q5::q6::q7::(x,u)::r) x v (q0::q1::q2::q3::q4::q5::q6::q7::(x,some v)::r):= .tail .a7
theorem Put.a9{q0 q1 q2 q3 q4 q5 q6 q7 q8:Str×Option Value}{x u v r}:Put (q0::q1::q2::q3::q4::q5::q6::q7::q8::(x,u)::r) x v (q0::q1::q2::q3::q4::q5::q6::q7::q8::(x,some v)::r):= .tail .a8
theorem Put.a10{q0 q1 q2 q3 q4 q5 q6 q7 q8 q9:Str×Option Value}{x u v r}:Put (q0::q1::q2::q3::q4::q5::q6::q7::q8::q9::(x,u)::r) x v (q0::q1::q2::q3::q4::q5::q6::q7::q8::q9::(x,some v)::r):= .tail .a9
theorem Put.a11{q0 q1 q2 q3 q4 q5 q6 q7 q8 q9 q10:Str×Option Value}{x u v r}:Put (q0::q1::q2::q3::q4::q5::q6::q7::q8::q9::q10::(x,u)::r) x v (q0::q1::q2::q3::q4::q5::q6::q7::q8::q9::q10::(x,some v)::r):= .tail .a10
theorem Put.a12{q0 q1 q2 q3 q4 q5 q6 q7 q8 q9 q10 q11:Str×Option Value}{x u v r}:Put (q0::q1::q2::q3::q4::q5::q6::q7::q8::q9::q10::q11::(x,u)::r) x v (q0::q1::q2::q3::q4::q5::q6::q7::q8::q9::q10::q11::(x,some v)::r):= .tail .a11
theorem Put.keys{k k':List (Str×Option Value)}{x:Str}{v:Value}(u:Put k x v k'):k'.map (·.1)=k.map (·.1):=by
 induction u with
 |head=>rfl
 |tail _ ih=>simp [ih]
theorem Put.memk{k k':List (Str×Option Value)}{x:Str}{v:Value}(u:Put k x v k'):x∈k.map (·.1):=by
 induction u with
 |head=>simp
 |tail _ ih=>simp [ih]
theorem Put.look{k k':List (Str×Option Value)}{x:Str}{v:Value}(u:Put k x v k')(hn:(k.map (·.1)).Nodup)(n:Str):(k'.lookup n).join=if n=x then some v else (k.lookup n).join:=by
 induction u with
 |@head x u v r=>
  rw [zD,zD]
  by_cases h:n=x
  ·subst h;simp
  ·have:(n==x)=false:=by simpa using h
   simp [this,h]
 |@tail p r x v r' u ih=>
  rw [qR,zu] at hn
  rw [zD,zD]
  by_cases h:n=p.1
  ·subst h
   have:p.1≠x:=fun e=>hn.1 (e▸u.memk)
   simp [this]
  ·have:(n==p.1)=false:=by simpa using h
   simp-iota only [this]
   exact ih hn.2
theorem W.st{x:Str}{v:Value}{kvs kvs':List (Str×Option Value)}{Q:Unit→Led→Prop}(hk:okL env x=true)
  (hu:Upd L env.locals (loc kvs) (loc kvs') L') (hp:Put kvs x v kvs') (q:Q () L'):W b w A L (Qi env x v) Q:=W.mk fun s H=>by
 obtain ⟨hn,hnd⟩:=H.ns hu.mem
 refine wpAny_storeName_local (okL.h hk).2.1 hn (fun h' hn' hs=>⟨L',H.same hu hs ?_ _,q⟩) (by rw [(okL.h hk).1];rfl)
 obtain ⟨o,es,ep,ho,hd,hks,hf⟩:=hn'
 exact ⟨o,ho,⟨es,ep,hd,hks,fun n=>(hf n).trans (hp.look hnd n).symm⟩,by rw [hp.keys];exact hnd⟩
noncomputable def Kpr(M:Model)(f:Value)(s:qe):Prop:= ∀(A:qq) (Q:PySem.Keeper→qe→Prop) (E:Value→qe→Prop),(∀k,Q k s)→wpAny M A (keeperOf f) Q E s
noncomputable def KprL(b:qe)(w:World)(L:Led)(f:Value):Prop:= ∀s,St b s L→Kpr (model pw w) f s
theorem KprL.plain{f:Value}(h: ∀a,f≠ .ref a):KprL b w L f:=fun s fz A Q E q=>by
 unfold keeperOf
 cases f<;>first|exact qf (q _)|exact absurd rfl (h _)
theorem KprL.bi{i:String}:KprL b w L (.builtin i):=KprL.plain fun fz e=>nomatch e
theorem KprL.ty{i:String}:KprL b w L (.type i):=KprL.plain fun fz e=>nomatch e
theorem KprL.fn{a:Addr}{fd:vS}(ho:b.heap.get? a=some {cls:= .type "function",data:= .func fd}):KprL b w L (.ref a):=fun s H A Q E q=>by
 unfold keeperOf
 refine qc (Qk (H.base ho (by intro h;cases h)) ?_)
 exact qf (q _)
theorem W.callW{f:Value}{first:List Value}{args:List (Bool×Sem Value)}{kws:List (Option Str×Sem Value)}(hp:args.all (fun x=> !x.1)=true)(hk:kws.all (·.1.isSome)=true)
  (h:W b w A L (spliced args) fun vs L1=>W b w A L1 (evalAll (kws.map (·.2))) fun ks L2=>KprL b w L2 f∧W b w A L2 (call f (first++vs) ((kws.filterMap (·.1)).zip ks)) R):
  W b w A L (callWith pos f first args kws) R:=W.mk fun s H=>by
 have hst:args.any (·.1)=false:=by
  rw [Qw]
  intro x hx
  have:=qz.mp hp x hx
  simpa using this
 have hkn:kws.any (·.1.isNone)=false:=by
  rw [Qw]
  intro x hx
  have:=qz.mp hk x hx
  cases h':x.1<;>simp_all
 let Q:Value→qe→Prop:=Post b R
 let E:Value→qe→Prop:=fun fz fz=>False
 have ea:wpAny (model pw w) A (evalArgs f true args kws) (fun a s₂=>Kpr (model pw w) f s₂∧wpAny (model pw w) A (call f (first++a.pos) a.kw) Q E s₂) E s:=by
  match args,hp,h with
  | [],_,h=>
   refine evalArgs_kw_nil hk (fun Γ p hΓ=> ?_)
   obtain ⟨L1,H1,h1⟩:=h.run s H Γ p hΓ
   exact (h1.then H1 fun ks s2 fz H2 h2=>⟨h2.1 s2 H2,h2.2.run s2 H2⟩) Γ p hΓ
  |(true,x)::r,hp,_=>simp at hp
  |(false,x)::r,_,h=>
   exact evalArgs_kw hk (h.then H fun vs s1 fz H1 h1=>h1.then H1 fun ks s2 fz H2 h2=>⟨h2.1 s2 H2,h2.2.run s2 H2⟩)
 unfold callWith
 refine qc (qC (qL ea (fun a s₁ h₁=> ?_) fun fz fz x=>x))
 refine qc (vp ?_)
 rw [hst,hkn]
 refine qc (h₁.1 _ _ _ fun k=> ?_)
 have tail: ∀{t:Sem Value},wpAny (model pw w) A t Q E s₁→wpAny (model pw w) A (t>>=fun r=>zv [r] PySem.point>>=fun fz=>qj r) Q E s₁:=
  fun ht=>qc (qL ht (fun r s₂ hr=>qc (qC (wpAny_point (qf hr)))) fun fz fz x=>x)
 have key: ∀m,wpAny (model pw w) A (callMarked m f (first++a.pos) a.kw) Q E s₁:=fun m=>by unfold callMarked;exact Calls.wpAny_keep h₁.2
 cases k
 ·show wpAny (model pw w) A (if args.length+2*kws.length>30 then _ else _) Q E s₁
  split
  ·exact tail h₁.2
  ·exact tail (key _)
 ·show wpAny (model pw w) A (if args.length+2*kws.length>30 then _ else _) Q E s₁
  split
  ·exact tail h₁.2
  ·exact tail (key _)
 ·exact tail h₁.2
 ·exact tail (fun Γ p hΓ=>by rw [Sem.wp_operate];exact h₁.2 Γ p hΓ)
theorem W.sp0{Q:List Value→Led→Prop}(h:Q [] L):W b w A L (spliced []) Q:=W.pure h
theorem W.sp{x:Sem Value}{r:List (Bool×Sem Value)}{Q:List Value→Led→Prop}(h:W b w A L x fun v L1=>W b w A L1 (spliced r) fun vs L2=>Q (v::vs) L2):W b w A L (spliced ((false,x)::r)) Q:=
 W.mk fun s H=>spliced_cons (h.then H fun fz s1 fz H1 h1=>h1.runF H1)
theorem W.ea0{Q:List Value→Led→Prop}(h:Q [] L):W b w A L (evalAll []) Q:=W.pure h
theorem W.ea{x:Sem Value}{r:List (Sem Value)}{Q:List Value→Led→Prop}(h:W b w A L x fun v L1=>W b w A L1 (evalAll r) fun vs L2=>Q (v::vs) L2):W b w A L (evalAll (x::r)) Q:=
 W.mk fun s H=>wpAny_evalAll_cons (h.then H fun fz s1 fz H1 h1=>h1.runF H1)
theorem W.callF{func:Expr}{args:List Expr}{trees:List (Bool×Sem Value)}(ha:eval (.Call func args [] pos) env=(do callWith pos (←eval func env) [] (backTo pos (zB args env)) []))
  (ht:backTo pos (zB args env)=trees) (hp:trees.all (fun x=> !x.1)=true)
  (h:W b w A L (eval func env) fun f L1=>W b w A L1 (spliced trees) fun vs L2=>KprL b w L2 f∧W b w A L2 (call f vs) R):W b w A L (eval (.Call func args [] pos) env) R:=by
 rw [ha,ht]
 exact W.bind (h.mono fun f L1 h1=>W.callW hp rfl (h1.mono fun vs L2 h2=>W.ea0 h2))
noncomputable abbrev KL0(b:qe)(w:World)(A:qq)(R:Value→Led→Prop):Value→Led→Prop:=fun f L1=>KprL b w L1 f∧W b w A L1 (call f []) R
noncomputable abbrev KL1(b:qe)(w:World)(A:qq)(R:Value→Led→Prop)(f:Value):Value→Led→Prop:=fun v L1=>KprL b w L1 f∧W b w A L1 (call f [v]) R
noncomputable abbrev KL2(b:qe)(w:World)(A:qq)(R:Value→Led→Prop)(f v:Value):Value→Led→Prop:=fun v2 L1=>KprL b w L1 f∧W b w A L1 (call f [v,v2]) R
noncomputable abbrev KL3(b:qe)(w:World)(A:qq)(R:Value→Led→Prop)(f v v2:Value):Value→Led→Prop:=fun v3 L1=>KprL b w L1 f∧W b w A L1 (call f [v,v2,v3]) R
noncomputable abbrev KL4(b:qe)(w:World)(A:qq)(R:Value→Led→Prop)(f v v2 v3:Value):Value→Led→Prop:=fun v4 L1=>KprL b w L1 f∧W b w A L1 (call f [v,v2,v3,v4]) R
noncomputable abbrev KA1(b:qe)(w:World)(A:qq)(env:Env)(e:Expr)(R:Value→Led→Prop):Value→Led→Prop:=fun f L1=>W b w A L1 (eval e env) (KL1 b w A R f)
noncomputable abbrev KB2(b:qe)(w:World)(A:qq)(env:Env)(e:Expr)(R:Value→Led→Prop)(f:Value):Value→Led→Prop:=fun v L1=>W b w A L1 (eval e env) (KL2 b w A R f v)
noncomputable abbrev KA2(b:qe)(w:World)(A:qq)(env:Env)(e e2:Expr)(R:Value→Led→Prop):Value→Led→Prop:=fun f L1=>W b w A L1 (eval e env) (KB2 b w A env e2 R f)
noncomputable abbrev KD3(b:qe)(w:World)(A:qq)(env:Env)(e:Expr)(R:Value→Led→Prop)(f v:Value):Value→Led→Prop:=fun v2 L1=>W b w A L1 (eval e env) (KL3 b w A R f v v2)
noncomputable abbrev KB3(b:qe)(w:World)(A:qq)(env:Env)(e e2:Expr)(R:Value→Led→Prop)(f:Value):Value→Led→Prop:=fun v L1=>W b w A L1 (eval e env) (KD3 b w A env e2 R f v)
noncomputable abbrev KA3(b:qe)(w:World)(A:qq)(env:Env)(e e2 e3:Expr)(R:Value→Led→Prop):Value→Led→Prop:=fun f L1=>W b w A L1 (eval e env) (KB3 b w A env e2 e3 R f)
noncomputable abbrev KE4(b:qe)(w:World)(A:qq)(env:Env)(e:Expr)(R:Value→Led→Prop)(f v v2:Value):Value→Led→Prop:=fun v3 L1=>W b w A L1 (eval e env) (KL4 b w A R f v v2 v3)
noncomputable abbrev KD4(b:qe)(w:World)(A:qq)(env:Env)(e e2:Expr)(R:Value→Led→Prop)(f v:Value):Value→Led→Prop:=fun v2 L1=>W b w A L1 (eval e env) (KE4 b w A env e2 R f v v2)
noncomputable abbrev KB4(b:qe)(w:World)(A:qq)(env:Env)(e e2 e3:Expr)(R:Value→Led→Prop)(f:Value):Value→Led→Prop:=fun v L1=>W b w A L1 (eval e env) (KD4 b w A env e2 e3 R f v)
theorem W.callN0{x:Str}{xp:Pos}(h:W b w A L (eval (.Name x xp) env) (KL0 b w A R)):W b w A L (eval (.Call (.Name x xp) [] [] pos) env) R:=
 W.callF rfl rfl rfl (h.mono fun fz fz h1=>W.sp0 h1)
theorem W.callN1{x:Str}{xp:Pos}{e:Expr}(hs:zB [e] env= [(false,eval e env)])(h:W b w A L (eval (.Name x xp) env) (KA1 b w A env e R)):
  W b w A L (eval (.Call (.Name x xp) [e] [] pos) env) R:=
 W.callF rfl (trees:= [(false,eval e env)]) (by rw [hs];rfl) rfl (h.mono fun fz fz h1=>W.sp (h1.mono fun fz fz h2=>W.sp0 h2))
theorem W.callN2{x:Str}{xp:Pos}{e e2:Expr}(hs:zB [e,e2] env= [(false,eval e env),(false,eval e2 env)])
  (h:W b w A L (eval (.Name x xp) env) (KA2 b w A env e e2 R)):
  W b w A L (eval (.Call (.Name x xp) [e,e2] [] pos) env) R:=
 W.callF rfl (trees:= [(false,eval e env),(false,eval e2 env)]) (by rw [hs];rfl) rfl (h.mono fun fz fz h1=>W.sp (h1.mono fun fz fz h2=>W.sp (h2.mono fun fz fz h3=>W.sp0 h3)))
noncomputable abbrev MF(P:Value→Value→Led→Prop):Value×List Value→Led→Prop:=fun fm L=> ∃f self,fm=(f,[self])∧P f self L
theorem W.callM{o:Expr}{name:Str}{apos:Pos}{args:List Expr}{trees:List (Bool×Sem Value)}(hline:(apos.endLine==pos.line)=true)
  (hf:methodCallForm args.length trees []=true) (ht:backTo pos (zB args env)=trees) (hp:trees.all (fun x=> !x.1)=true)
  (h:W b w A L (jE o name env (eval o env)) fun ov L1=>W b w A L1 (vg ov name (do return (←importBound o env).getD true)) fun fm L2=>
   W b w A L2 (spliced trees) fun vs L3=>KprL b w L3 fm.1∧W b w A L3 (call fm.1 (fm.2++vs)) R):
  W b w A L (eval (.Call (.Attribute o name apos) args [] pos) env) R:=by
 show W b w A L (do
  let ov ←jE o name env (eval o env)
  jS apos.atName
  methodCall o name apos pos env ov (args.length+0) (backTo pos (zB args env)) []) R
 rw [ht]
 refine W.bind (h.mono fun ov L1 h1=>W.bind (W.stand ?_))
 unfold methodCall
 rw [Nat.add_zero,hf]
 refine W.bind (W.holding (h1.mono fun fm L2 h2=> ?_))
 have: ∀few,methodCallPos few o env apos pos=qj pos:=fun few=>by
  unfold methodCallPos
  rw [hline,Bool.or_true];rfl
 rw [this]
 exact W.bind (W.pure (W.callW hp rfl (h2.mono fun fz fz h3=>W.ea0 h3)))
noncomputable abbrev ibd(o:Expr)(env:Env):Sem Bool:=do return (←importBound o env).getD true
noncomputable abbrev KM(b:qe)(w:World)(A:qq)(env:Env)(o:Expr)(name:Str)(P:Value→Value→Led→Prop):Value→Led→Prop:=fun ov L1=>W b w A L1 (vg ov name (ibd o env)) (MF P)
theorem W.callM0{o:Expr}{name:Str}{apos:Pos}(hline:(apos.endLine==pos.line)=true)(hb:jE o name env (eval o env)=eval o env)
  (h:W b w A L (eval o env) (KM b w A env o name (KL1 b w A R))):
  W b w A L (eval (.Call (.Attribute o name apos) [] [] pos) env) R:=
 W.callM (trees:= []) hline rfl rfl rfl (by rw [hb];exact h.mono fun fz fz h1=>h1.mono fun fz fz ⟨_,_,e,h2⟩=>by subst e;exact W.sp0 h2)
theorem W.callM1{o:Expr}{e1:Expr}{name:Str}{apos:Pos}(hline:(apos.endLine==pos.line)=true)(hb:jE o name env (eval o env)=eval o env)(hs:zB [e1] env= [(false,eval e1 env)])
  (h:W b w A L (eval o env) (KM b w A env o name (KB2 b w A env e1 R))):
  W b w A L (eval (.Call (.Attribute o name apos) [e1] [] pos) env) R:=
 W.callM (trees:= [(false,eval e1 env)]) hline rfl (by rw [hs];rfl) rfl (by rw [hb];exact h.mono fun fz fz h1=>h1.mono fun fz fz ⟨_,_,e,h2⟩=>by subst e;exact W.sp (h2.mono fun fz fz h3=>W.sp0 h3))
theorem W.callM2{o:Expr}{e1 e2:Expr}{name:Str}{apos:Pos}(hline:(apos.endLine==pos.line)=true)(hb:jE o name env (eval o env)=eval o env)(hs:zB [e1,e2] env= [(false,eval e1 env),(false,eval e2 env)])
  (h:W b w A L (eval o env) (KM b w A env o name (KB3 b w A env e1 e2 R))):
  W b w A L (eval (.Call (.Attribute o name apos) [e1,e2] [] pos) env) R:=
 W.callM (trees:= [(false,eval e1 env),(false,eval e2 env)]) hline rfl (by rw [hs];rfl) rfl (by rw [hb];exact h.mono fun fz fz h1=>h1.mono fun fz fz ⟨_,_,e,h2⟩=>by subst e;exact W.sp (h2.mono fun fz fz h3=>W.sp (h3.mono fun fz fz h4=>W.sp0 h4)))
theorem W.callM3{o:Expr}{e1 e2 e3:Expr}{name:Str}{apos:Pos}(hline:(apos.endLine==pos.line)=true)(hb:jE o name env (eval o env)=eval o env)(hs:zB [e1,e2,e3] env= [(false,eval e1 env),(false,eval e2 env),(false,eval e3 env)])
  (h:W b w A L (eval o env) (KM b w A env o name (KB4 b w A env e1 e2 e3 R))):
  W b w A L (eval (.Call (.Attribute o name apos) [e1,e2,e3] [] pos) env) R:=
 W.callM (trees:= [(false,eval e1 env),(false,eval e2 env),(false,eval e3 env)]) hline rfl (by rw [hs];rfl) rfl (by rw [hb];exact h.mono fun fz fz h1=>h1.mono fun fz fz ⟨_,_,e,h2⟩=>by subst e;exact W.sp (h2.mono fun fz fz h3=>W.sp (h3.mono fun fz fz h4=>W.sp (h4.mono fun fz fz h5=>W.sp0 h5))))
end
end
section
structure Kn(b:qe):Prop where
 fn: ∀p∈fns,b.heap.get? p.1=some (fnO p.2)
 code: ∀p∈fns,∃c vs t,p.2.code= .ref c∧b.heap.get? c=some {cls:= .type "code",data:= .fields vs}∧vs[1]? =some (.str p.2.qualname t)
 glob: ∃o es ep,b.heap.get? 3=some o∧o.cls≠ .none∧o.data= .dict es ep∧StrKeys es∧(∀p∈glob,jy es p.1=some p.2)∧(∀p∈bnames,jy es p.1=none)
 re43: ∃v0 t0 v3 v4 t2 t6,b.heap.get? 43=some {cls:= .type "re.Pattern",dict:=none,data:= .fields #[v0,.int 256 t0,.int 0 t2,v3,v4,.ref 42,.int 0 t6],slots:=#[]}
 re42: ∃n,b.heap.get? 42=some {cls:= .type "tuple",dict:=none,data:= .seq ([14,8,1,2,4294967295,1,1,46,0,16,46,24,9,1,4294967295,13,4,8,0,0,1,6,5,1].map fun i=>Value.int i 0).toArray n,slots:=#[]}
 bi: ∃o es ep,b.heap.get? 0=some o∧o.cls≠ .none∧o.data= .dict es ep∧StrKeys es∧(∀p∈bnames,jy es p.1=some p.2)
section
variable{b:qe}{w:World}{A:qq}{L L':Led}{env:Env}{pos:Pos}{R:Value→Led→Prop}{Q:Flow→Led→Prop}
theorem W.ldg0{x:Str}(hk:env.scope.kind= .function)(hx:env.kindOf x=some .globalImplicit)(h:W b w A L (loadGlobal env x) R):W b w A L (loadName env x) R:=W.mk fun s H=>by
 unfold loadName
 simp-iota only [Env.blockKind,hk,hx,ScopeKind.isAnnotationScope,Bool.false_and,qT,if_false]
 exact h.run s H
theorem W.ldg{x:Str}{v:Value}(K:Kn b)(hk:okG env x=true)
  (hx:Mm (x,v) Mine.glob) (q:R v L):W b w A L (eval (.Name x pos) env) R:=W.name (okG.h hk).2.2.1 (W.ldg0 (okG.h hk).1 (okG.h hk).2.1<|W.mk fun s H=>by
 obtain ⟨o,es,ep,ho,hc,hd,hs,hg,_⟩:=K.glob
 have hn:s.heap.Ns 3 (jy es):=⟨o,es,ep,H.base ho hc,hd,hs,fun fz=>rfl⟩
 unfold loadGlobal
 rw [(okG.h hk).2.2.2]
 refine qc (wpAny_nsGet hn ?_)
 rw [hg _ hx.mem]
 exact qf ⟨L,H,q⟩)
theorem W.ldb{x:Str}{v:Value}(K:Kn b)(hk:okB env x=true)
  (hx:Mm (x,v) bnames) (q:R v L):W b w A L (eval (.Name x pos) env) R:=have hb:=(okB.h hk).2;have hk:=okG.h (okB.h hk).1;W.name hk.2.2.1 (W.ldg0 hk.1 hk.2.1<|W.mk fun s H=>by
 obtain ⟨o,es,ep,ho,hc,hd,hs,_,hg⟩:=K.glob
 obtain ⟨o',es',ep',ho',hc',hd',hs',hg'⟩:=K.bi
 have hn:s.heap.Ns 3 (jy es):=⟨o,es,ep,H.base ho hc,hd,hs,fun fz=>rfl⟩
 have hn':s.heap.Ns 0 (jy es'):=⟨o',es',ep',H.base ho' hc',hd',hs',fun fz=>rfl⟩
 unfold loadGlobal
 rw [hk.2.2.2,hb]
 refine qc (wpAny_nsGet hn ?_)
 rw [hg _ hx.mem]
 refine qc (wpAny_nsGet hn' ?_)
 rw [hg' _ hx.mem]
 exact qf ⟨L,H,q⟩)
theorem KprL.def{a:Addr}{fd:vS}(K:Kn b)(hf:Mm (a,fd) fns):KprL b w L (.ref a):=KprL.fn (K.fn _ hf.mem)
noncomputable def frame0(binds:List (Str×Value))(rest:List Str):List (Str×Option Value):=binds.map (fun p=>(p.1,some p.2))++rest.map fun x=>(x,none)
theorem frame0_look(binds:List (Str×Value))(rest:List Str)(hn:((frame0 binds rest).map (·.1)).Nodup)(n:Str):((frame0 binds rest).lookup n).join=binds.reverse.lookup n:=by
 induction binds with
 |nil=>
  simp only [frame0,List.map_nil,zV,List.reverse_nil,List.lookup_nil]
  clear hn
  induction rest with
  |nil=>rfl
  |cons x r ih=>
   rw [qR,zD]
   cases n==x<;>simp [ih]
 |cons p r ih=>
  have hn':((frame0 r rest).map (·.1)).Nodup:=by
   have:frame0 (p::r) rest=(p.1,some p.2)::frame0 r rest:=rfl
   rw [this,qR] at hn
   exact (zu.mp hn).2
  have hp:p.1∉(frame0 r rest).map (·.1):=by
   have:frame0 (p::r) rest=(p.1,some p.2)::frame0 r rest:=rfl
   rw [this,qR] at hn
   exact (zu.mp hn).1
  show (((p.1,some p.2)::frame0 r rest).lookup n).join=_
  rw [zD,zX,List.lookup_append]
  by_cases h:n=p.1
  ·subst h
   have:r.reverse.lookup p.1=none:=by
    rw [←ih hn']
    cases hl:(frame0 r rest).lookup p.1 with
    |none=>rfl
    |some v=>exact absurd (qA (f:=(·.1)) (PySem.mem_of_lookup hl)) hp
   simp [this,List.lookup]
  ·have:(n==p.1)=false:=by simpa using h
   simp only [this]
   rw [ih hn']
   cases r.reverse.lookup n<;>simp [List.lookup,this]
theorem St.ext{s:qe}{h':Heap}{a:Addr}{P:Asn}{t:Nat}(H:St b s L)(hk: ∀c o,s.heap.get? c=some o→h'.get? c=some o)(ha:s.heap.objs.size≤a)(hP: ∃o,h'.get? a=some o∧P o):St b {s with heap:=h',toks:=t} ((a,P)::L) where
 old:=H.old.step_keeps hk
 lim:=H.lim.keeps hk
 os:=H.os
 gens:=H.gens
 gk:=H.gk
 stat:=H.stat
 st0:=H.st0k (hk _)
 tabs:=H.tabs.keeps fun c o fz e=>hk c o e
 lam:=H.lam.keeps H.tabs (fun c o fz e=>hk c o e) fun x hx=>by
  rw [qR] at hx
  rcases qH.mp hx with rfl|hx
  ·exact .inr (Heap.get?_none_of_le ha)
  ·exact .inl hx
 top:=H.top
 own:=fun p hp=>by
  rcases qH.mp hp with rfl|hp
  ·exact .of hP
  ·obtain ⟨o,ho,h⟩:=H.own p hp
   exact ⟨o,hk _ _ ho,h⟩
 nd:=by
  rw [qR]
  refine zu.mpr ⟨fun hm=> ?_,H.nd⟩
  obtain ⟨p,hp,e⟩:=qw.mp hm
  obtain ⟨o',e',_⟩:=H.own p hp
  have:=zi e'
  rw [e] at this
  exact zO _ (ql this ha)
 fresh:=fun p hp=>by
  rcases qH.mp hp with rfl|hp
  ·exact qg H.size ha
  ·exact H.fresh p hp
structure Rm(n:Nat)(A:qq):Prop where
 depth:A.depth+n<1000
 units:A.units+20*n<9000
 handled:A.handled=none
 frames:A.frames.isSome=true
theorem Rm.deeper{n:Nat}{env:Env}(h:Rm (n+1) A):Rm n (A.deeper env) where
 depth:=by have:=h.depth;show A.depth+1+n<1000;exact Ar.d1 (zG _ _ _) this
 units:=by have:=h.units;show A.units+3+20*n<9000;exact Ar.s3 this rfl
 handled:=h.handled
 frames:=by
  have:=h.frames
  show (A.frames.map _).isSome=true
  rw [Option.isSome_map];exact this
theorem Rm.le{n m:Nat}(h:Rm n A)(hm:m≤n:=by omega):Rm m A:=⟨by have:=h.depth;exact qF (qX hm _) this,by have:=h.units;exact qF (qX (qW _ hm) _) this,h.handled,h.frames⟩
theorem Rm.in1{n:Nat}(h:Rm (n+1) A):Rm n A.in1:=⟨by have:=h.depth;show A.depth+n<1000;exact Nat.lt_of_succ_lt this,by have:=h.units;show A.units+1+20*n<9000;exact Ar.s3 this rfl,h.handled,h.frames⟩
noncomputable abbrev Fin'(R:Value→Led→Prop)(v:Value)(L':Led):Prop:= ∃L2,Take L' L2∧R v L2
noncomputable abbrev FinQ(R:Value→Led→Prop):Flow→Led→Prop:=fun fl L'=>Fin' R (match fl with| .ret v=>v|_=> .none) L'
noncomputable abbrev envF(fd:vS)(La f:Addr)(cells:List (Str×Addr)):Env:=
 {scope:=fd.scope,locals:=La,globals:=3,cells:=cells,qual:=fd.qualname++".<locals>.",func:=some f,code:=fd.code,frame:=some La,builtins:=0}
noncomputable abbrev bindsOf(n:Nat)(fr:List (Str×Option Value)):List (Str×Value):=(fr.take n).filterMap fun p=>p.2.map (p.1,·)
theorem W.fn{f:Addr}{fd:vS}{body:List Stmt}{args:List Value}{kw:List (Str×Value)}(n:Nat)(fr:List (Str×Option Value)){m:Nat}(K:Kn b)(hf:Mm (f,fd) fns)(hA:Rm (m+1) A)
  (hbody:fd.body= .stmts body) (hbind: ∀s,St b s L→BindsTo s fd ⟨args,kw⟩ (bindsOf n fr)) (hfr:frame0 (bindsOf n fr) ((fr.drop n).map (·.1))=fr)
  (hd:(fd.scope.names.all (fun x=>x.2 != .cell)&&((fr.take n).map (·.1)).all (fun x=>fd.scope.names.lookup x==some .local)&& !fd.scope.isCoroutine&& !fd.scope.isGenerator&&(fd.scope.kind== .function)&&decide (fr.map (·.1)).Nodup
   &&(fd.globals==3)&&(fd.builtins==0))=true)
  (h: ∀La A',Rm m A'→W b w A' ((La,loc fr)::L) (execs body (envF fd La f fd.closure)) (FinQ R)):
  W b w A L (call (.ref f) args kw) R:=W.mk fun s H=>by
 simp only [qt,zY,decide_eq_true_eq,beq_iff_eq] at hd
 obtain ⟨⟨⟨⟨⟨⟨⟨h1,h2⟩,h3⟩,h4⟩,h5⟩,h6⟩,h7⟩,h8⟩:=hd
 obtain ⟨c,vs,t,e1,e2,e3⟩:=K.code _ hf.mem
 have he: ∀La,callEnv fd La f=envF fd La f fd.closure:=fun La=>by
  unfold callEnv newEnv
  rw [h7,h8]
 have hd':A.depth<recursionLimit:=by
  have:=hA.depth
  show A.depth<1000
  omega
 refine zL (codeAny_call_def (fd:=fd) hd' (H.base (K.fn _ hf.mem) (by intro h;cases h)) rfl H.lim ⟨c,_,vs,t,e1,H.base e2 (by intro h;cases h),rfl,e3⟩ hbody (hbind s H) (fun x hx=>by
  have:=qz.mp h1 x hx
  simpa using this) (fun x hx=>by
  have hx':x.1∈(fr.take n).map (·.1):=by
   obtain ⟨p,hp,e⟩:=List.mem_filterMap.mp hx
   cases hq:p.2 with
   |none=>rw [hq] at e;cases e
   |some v=>rw [hq] at e;cases e;exact qA (f:=(·.1)) hp
  have:=qz.mp h2 x.1 hx'
  simpa using this) (fun h₀ hn hk=> ?_) h3 h4 h5)
 have H':St b {s with heap:=h₀,toks:=s.toks+(bindsOf n fr).length} ((s.heap.objs.size,loc fr)::L):=by
  refine H.ext hk (zg _) ?_
  obtain ⟨o,es,ep,ho,hd,hs,hf⟩:=hn
  refine ⟨o,ho,⟨es,ep,hd,hs,fun m=>(hf m).trans ?_⟩,h6⟩
  have:=frame0_look (bindsOf n fr) ((fr.drop n).map (·.1)) (by rw [hfr];exact h6) m
  rw [hfr] at this
  exact this.symm
 rw [he]
 exact (h _ _ hA.deeper).then H' fun fl s' L' H2 ⟨L2,ht,hq⟩=>⟨L2,H2.takes ht,hq⟩
end
end
section
section
variable{b:qe}{w:World}{A:qq}{L L':Led}{env:Env}{pos:Pos}{R:Value→Led→Prop}{Q:Flow→Led→Prop}{T:Bool→Led→Prop}
theorem St.push{s:qe}(H:St b s L)(o:Obj)(k:Nat):St b {s with heap:=s.heap.push o,toks:=k} L where
 old:=H.old.step_keeps fun fz fz e=>qD _ e
 lim:=H.lim.push _
 os:=H.os
 gens:=H.gens
 gk:=H.gk
 stat:=H.stat
 st0:=H.st0k fun fz e=>qD _ e
 tabs:=H.tabs.keeps fun fz fz fz e=>qD _ e
 lam:=H.lam.keeps H.tabs (fun fz fz fz e=>qD _ e) fun x hx=> .inl hx
 top:=H.top
 own:=fun p hp=>by
  obtain ⟨o',e,h⟩:=H.own p hp
  exact ⟨o',qD _ e,h⟩
 nd:=H.nd
 fresh:=H.fresh
theorem W.addI{x y:Int}{t u:Tok}(h: ∀v,R (.int (x+y) v) L):W b w A L (binaryOp .Add (.int x t) (.int y u)) R:=W.mk fun fz H=>by with_reducible exact add_int ⟨L,H.tok _,h _⟩
theorem W.subI{x y:Int}{t u:Tok}(h: ∀v,R (.int (x-y) v) L):W b w A L (binaryOp .Sub (.int x t) (.int y u)) R:=W.mk fun fz H=>by with_reducible exact sub_int ⟨L,H.tok _,h _⟩
theorem W.iaddI{x y:Int}{t u:Tok}(h: ∀v,R (.int (x+y) v) L):W b w A L (inplaceOp .Add (.int x t) (.int y u)) R:=W.mk fun fz H=>by with_reducible exact iadd_int ⟨L,H.tok _,h _⟩
theorem W.isubI{x y:Int}{t u:Tok}(h: ∀v,R (.int (x-y) v) L):W b w A L (inplaceOp .Sub (.int x t) (.int y u)) R:=W.mk fun fz H=>by with_reducible exact isub_int ⟨L,H.tok _,h _⟩
theorem W.modI{x y:Int}{t u:Tok}(hy:y≠0)(h: ∀v,R (.int (x.fmod y) v) L):W b w A L (binaryOp .Mod (.int x t) (.int y u)) R:=W.mk fun fz H=>by with_reducible exact mod_int' hy ⟨L,H.tok _,h _⟩
theorem W.divI{x y:Int}{t u:Tok}(hy:y≠0)(hp:Builtin.divisionGoesByPylong x y=false)(h: ∀v,R (.int (x.fdiv y) v) L):W b w A L (binaryOp .FloorDiv (.int x t) (.int y u)) R:=
 W.mk fun fz H=>by with_reducible exact floordiv_int hy ⟨L,H.tok _,h _⟩ (.inl hp)
theorem W.negI{x:Int}{t:Tok}(h: ∀v,R (.int (-x) v) L):W b w A L (unaryOp .USub (.int x t)) R:=W.mk fun fz H=>by with_reducible exact neg_int ⟨L,H.tok _,h _⟩
theorem W.un{op:UnaryOp}{x:Expr}(h:W b w A L (eval x env) fun v L1=>W b w A L1 (unaryOp op v) R):W b w A L (eval (.UnaryOp op x pos) env) R:=
 W.mk fun s H=>UnaryOp_ (h.then H fun fz s1 fz H1 h1=>h1.run s1 H1)
theorem W.eqI{x y:Int}{t u:Tok}(h:R (.bool (x==y)) L):W b w A L (jd .Eq (.int x t) (.int y u)) R:=W.mk fun fz H=>by with_reducible exact eq_int ⟨L,H,h⟩
theorem W.neI{x y:Int}{t u:Tok}(h:R (.bool (x !=y)) L):W b w A L (jd .NotEq (.int x t) (.int y u)) R:=W.mk fun fz H=>by with_reducible exact ne_int ⟨L,H,h⟩
theorem W.ltI{x y:Int}{t u:Tok}(h:R (.bool (decide (x<y))) L):W b w A L (jd .Lt (.int x t) (.int y u)) R:=W.mk fun fz H=>by with_reducible exact lt_int ⟨L,H,h⟩
theorem W.gtI{x y:Int}{t u:Tok}(h:R (.bool (decide (x>y))) L):W b w A L (jd .Gt (.int x t) (.int y u)) R:=W.mk fun fz H=>by with_reducible exact gt_int ⟨L,H,h⟩
theorem W.geI{x y:Int}{t u:Tok}(h:R (.bool (decide (x≥y))) L):W b w A L (jd .GtE (.int x t) (.int y u)) R:=W.mk fun fz H=>by with_reducible exact ge_int ⟨L,H,h⟩
theorem W.addS{x y:Str}{t u:Tok}(hz:x.length+y.length≤ji)(h: ∀v,R (.str (x++y) v) L):W b w A L (binaryOp .Add (.str x t) (.str y u)) R:=W.mk fun fz H=>by with_reducible exact PyProof.Rows.add_str (fun fz fz=>⟨L,H.tok _,h _⟩) hz
theorem W.eqS{x y:Str}{t u:Tok}(h:R (.bool (x==y)) L):W b w A L (jd .Eq (.str x t) (.str y u)) R:=W.mk fun fz H=>by with_reducible exact PyProof.Rows.eq_str ⟨L,H,h⟩
theorem W.gm{x:Str}{t:Tok}{name:Str}{id:String}{pl:Sem Bool}{P:Value→Value→Led→Prop}(slot:Slot "str" name id)(ty:QK (.builtin id)=qj (.type "method_descriptor"))(h:P (.builtin id) (.str x t) L):
  W b w A L (vg (.str x t) name pl) (MF P):=W.mk fun s H=>by with_reducible exact GM.of (.str x t) (typeIs_str _ _ _) slot ty GM.noRef ⟨L,H,_,_,rfl,h⟩
theorem W.sfind{x y:Str}{t u:Tok}(h: ∀v,R (.int (Txt.find x y) v) L):W b w A L (call (.builtin "str.find") [.str x t,.str y u]) R:=W.mk fun fz H=>by with_reducible exact SC.find ⟨L,H.tok _,h _⟩
theorem W.srfind{x y:Str}{t u:Tok}(h: ∀v,R (.int (Txt.rfind x y) v) L):W b w A L (call (.builtin "str.rfind") [.str x t,.str y u]) R:=W.mk fun fz H=>by with_reducible exact SC.rfind ⟨L,H.tok _,h _⟩
theorem W.slower{x:Str}{t:Tok}(hf:Qd (Txt.lower x).length=false)(h: ∀v,R (.str (Txt.lower x) v) L):W b w A L (call (.builtin "str.lower") [.str x t]) R:=W.mk fun fz H=>by with_reducible exact SC.lower hf ⟨L,H.tok _,h _⟩
theorem W.supper{x:Str}{t:Tok}(hf:Qd (Txt.upper x).length=false)(h: ∀v,R (.str (Txt.upper x) v) L):W b w A L (call (.builtin "str.upper") [.str x t]) R:=W.mk fun fz H=>by with_reducible exact SC.upper hf ⟨L,H.tok _,h _⟩
theorem W.sstarts{x y:Str}{t u:Tok}(h:R (.bool (Txt.startswith x y)) L):W b w A L (call (.builtin "str.startswith") [.str x t,.str y u]) R:=W.mk fun fz H=>by with_reducible exact SC.startswith ⟨L,H,h⟩
theorem W.scount{x y:Str}{t u:Tok}(h: ∀v,R (.int (Txt.count x y) v) L):W b w A L (call (.builtin "str.count") [.str x t,.str y u]) R:=W.mk fun fz H=>by with_reducible exact SC.count ⟨L,H.tok _,h _⟩
theorem W.ltlen{x:Str}{t:Tok}(hz:(x.length:Int)<2^ 63)(h: ∀v,R (.int x.length v) L):W b w A L (call (.builtin "len") [.str x t]) R:=W.mk fun fz H=>by with_reducible exact PyProof.Rows.len_str (by exact Int.not_le.mpr hz) ⟨L,H.tok _,h _⟩
noncomputable abbrev KSub2(b:qe)(w:World)(A:qq)(value slice:Expr)(R:Value→Led→Prop)(o:Value):Value→Led→Prop:=fun i L2=>W b w A L2 (zC value slice o i) R
noncomputable abbrev KSub1(b:qe)(w:World)(A:qq)(env:Env)(value slice:Expr)(R:Value→Led→Prop):Value→Led→Prop:=fun o L1=>W b w A L1 (eval slice env) (KSub2 b w A value slice R o)
theorem W.sub{value slice:Expr}(h:W b w A L (eval value env) (KSub1 b w A env value slice R)):W b w A L (eval (.Subscript value slice pos) env) R:=
 W.mk fun s H=>Subscript_ (h.then H fun fz s1 fz H1 h1=>h1.then H1 fun fz s2 fz H2 h2=>h2.run s2 H2)
theorem W.itemS{value slice:Expr}{x:Str}{t u:Tok}{i:Int}(hr:fitsSsize i=true)(h1: -(x.length:Int)≤i)(h2:i<x.length)
  (hs: ∀u,jq slice false (.str x t) (.int i u)=zZ [.str x t,.int i u] (vn (.str x t) (.int i u))) (ht: ∀r,Ql value (.str x t) r=qj ())
  (h: ∀v,R (.str (Txt.item x i) v) L):W b w A L (zC value slice (.str x t) (.int i u)) R:=W.mk fun fz H=>by with_reducible exact item_str hr h1 h2 (fun fz=>⟨L,H.tok _,h _⟩) (hs _) ht
noncomputable def isSlice(l u st:Value):Asn:=fun o=>o={cls:= .type "slice",data:= .fields #[l,u,st]}
theorem W.newSlice{l u st:Value}(h: ∀a,R (.ref a) ((a,isSlice l u st)::L)):W b w A L (Qs "slice" [l,u,st]) R:=W.mk fun s H=>by
 unfold Qs
 exact qM ⟨_,H.alloc (P:=isSlice l u st) {cls:= .type "slice",data:= .fields #[l,u,st]} rfl rfl,h _⟩ (by show 3≤ji+2;rw [qu];omega)
noncomputable abbrev KSl(R:Value→Led→Prop)(u:Value):Value→Led→Prop:=fun v L1=> ∀a,R (.ref a) ((a,isSlice v u .none)::L1)
noncomputable abbrev KSl1(R:Value→Led→Prop)(v:Value):Value→Led→Prop:=fun v2 L1=> ∀a,R (.ref a) ((a,isSlice v v2 .none)::L1)
noncomputable abbrev KSl2(b:qe)(w:World)(A:qq)(env:Env)(u:Expr)(R:Value→Led→Prop):Value→Led→Prop:=fun v L1=>W b w A L1 (eval u env) (KSl1 R v)
theorem W.sliceN{l:Expr}{st:Option Expr}(hst:st=none)(h:W b w A L (eval l env) (KSl R .none)):W b w A L (eval (.Slice (some l) none st pos) env) R:=by
 subst hst
 show W b w A L (do let l ←vU (some (eval l env));let u ←zv [l] (vU none);let s ←zv [l,u] (vU none);Qs "slice" [l,u,s]) R
 exact W.bind (h.mono fun v L1 h1=>W.bind (W.holding (W.pure (W.bind (W.holding (W.pure (W.newSlice h1)))))))
theorem W.sliceNN{l u:Expr}(h:W b w A L (eval l env) (KSl2 b w A env u R)):W b w A L (eval (.Slice (some l) (some u) none pos) env) R:=by
 show W b w A L (do let l ←vU (some (eval l env));let u ←zv [l] (vU (some (eval u env)));let s ←zv [l,u] (vU none);Qs "slice" [l,u,s]) R
 exact W.bind (h.mono fun v L1 h1=>W.bind (W.holding (h1.mono fun v2 L2 h2=>W.bind (W.holding (W.pure (W.newSlice h2))))))
theorem W.partS{value slice:Expr}{x:Str}{t u:Tok}{i:Int}{a:Addr}(hz:x.length≤ji)(hm:Mm (a,isSlice (.int i u) .none .none) L)
  (hs:jq slice false (.str x t) (.ref a)=zZ [.ref a,.str x t] (vn (.str x t) (.ref a))) (ht: ∀r,Ql value (.str x t) r=qj ())
  (h: ∀v,R (.str (Txt.slice x (some i) none) v) L):W b w A L (zC value slice (.str x t) (.ref a)) R:=W.mk fun s H=>by
 obtain ⟨o,ho,rfl⟩:=H.own _ hm.mem
 exact tail_of_ItemOn ⟨"str",_,F.slot_str_getitem.lookup,typeIs_str _ _ _,wpAny_getItem_str_slice (l:=some (i,u)) (u:=none) (st:=none) ⟨_,ho,rfl,rfl⟩ rfl
  (post_val_or_str ⟨qg (Txt.slice_le x _ _) hz,fun t' k=>⟨L,H.tok _,h _⟩⟩)⟩ hs ht
theorem W.partSS{value slice:Expr}{x:Str}{t u u2:Tok}{i j:Int}{a:Addr}(hz:x.length≤ji)(hm:Mm (a,isSlice (.int i u) (.int j u2) .none) L)
  (hs:jq slice false (.str x t) (.ref a)=zZ [.ref a,.str x t] (vn (.str x t) (.ref a))) (ht: ∀r,Ql value (.str x t) r=qj ())
  (h: ∀v,R (.str (Txt.slice x (some i) (some j)) v) L):W b w A L (zC value slice (.str x t) (.ref a)) R:=W.mk fun s H=>by
 obtain ⟨o,ho,rfl⟩:=H.own _ hm.mem
 exact tail_of_ItemOn ⟨"str",_,F.slot_str_getitem.lookup,typeIs_str _ _ _,wpAny_getItem_str_slice (l:=some (i,u)) (u:=some (j,u2)) (st:=none) ⟨_,ho,rfl,rfl⟩ rfl
  (post_val_or_str ⟨qg (Txt.slice_le x _ _) hz,fun t' k=>⟨L,H.tok _,h _⟩⟩)⟩ hs ht
end
end
section
inductive All2{α β:Type}(T:α→β→Prop):List α→List β→Prop
 |nil:All2 T [] []
 |cons {d v ds vs}:T d v→All2 T ds vs→All2 T (d::ds) (v::vs)
section
variable{α β γ:Type}{T:α→β→Prop}{ds ds':List α}{vs vs':List β}
theorem All2.unc{d:α}(h:All2 T (d::ds) vs): ∃v r,vs=v::r∧T d v∧All2 T ds r:=by cases h with|cons a h=>exact ⟨_,_,rfl,a,h⟩
theorem All2.inv1{d:α}(h:All2 T [d] vs): ∃v,vs= [v]∧T d v:=h.unc.elim fun v h=>h.elim fun r h=>by cases h.2.2;exact ⟨v,h.1,h.2.1⟩
theorem All2.inv2{d d':α}(h:All2 T [d,d'] vs): ∃v v',vs= [v,v']∧T d v∧T d' v':=h.unc.elim fun v h=>h.elim fun r h=>h.2.2.inv1.elim fun v' h'=>⟨v,v',h'.1▸h.1,h.2.1,h'.2⟩
theorem All2.inv3{d d' d2:α}(h:All2 T [d,d',d2] vs): ∃v v' v2,vs= [v,v',v2]∧T d v∧T d' v'∧T d2 v2:=h.unc.elim fun v h=>h.elim fun r h=>h.2.2.inv2.elim fun v' h'=>h'.elim fun v2 h'=>⟨v,v',v2,h'.1▸h.1,h.2.1,h'.2⟩
theorem All2.len(h:All2 T ds vs):vs.length=ds.length:=by
 induction h with
 |nil=>rfl
 |cons _ _ ih=>simp [ih]
theorem All2.get(h:All2 T ds vs): ∀{i:Nat} {d:α},ds[i]? =some d→ ∃v,vs[i]? =some v∧T d v:=by
 induction h with
 |nil=>intro i d e;simp at e
 |cons h1 _ ih=>
  intro i d e
  cases i with
  |zero=>simp at e;subst e;exact ⟨_,rfl,h1⟩
  |succ i=>exact ih (by simpa using e)
theorem All2.get'(h:All2 T ds vs): ∀{i:Nat} {v:β},vs[i]? =some v→ ∃d,ds[i]? =some d∧T d v:=by
 induction h with
 |nil=>intro i d e;simp at e
 |cons h1 _ ih=>
  intro i d e
  cases i with
  |zero=>simp at e;subst e;exact ⟨_,rfl,h1⟩
  |succ i=>exact ih (by simpa using e)
theorem All2.app(h:All2 T ds vs)(h':All2 T ds' vs'):All2 T (ds++ds') (vs++vs'):=by
 induction h with
 |nil=>exact h'
 |cons h1 _ ih=>exact .cons h1 ih
theorem All2.one{d:α}{v:β}(h:T d v):All2 T [d] [v]:= .cons h .nil
theorem All2.take(h:All2 T ds vs): ∀n,All2 T (ds.take n) (vs.take n):=by
 induction h with
 |nil=>intro n;simp;exact .nil
 |cons h1 _ ih=>intro n;cases n with
  |zero=>exact .nil
  |succ n=>exact .cons h1 (ih n)
theorem All2.drop(h:All2 T ds vs): ∀n,All2 T (ds.drop n) (vs.drop n):=by
 induction h with
 |nil=>intro n;simp;exact .nil
 |@cons d v ds vs h1 h2 ih=>intro n;cases n with
  |zero=>exact .cons h1 h2
  |succ n=>exact ih n
theorem All2.rev(h:All2 T ds vs):All2 T ds.reverse vs.reverse:=by
 induction h with
 |nil=>exact .nil
 |cons h1 _ ih=>rw [zX,zX];exact ih.app (.one h1)
theorem All2.mem(h:All2 T ds vs){v:β}(hv:v∈vs): ∃d∈ds,T d v:=by
 obtain ⟨i,hi,rfl⟩:=List.mem_iff_getElem.mp hv
 obtain ⟨d,e,hd⟩:=h.get' (qd hi)
 exact ⟨d,qk e,hd⟩
theorem All2.snoc'{v:β}{vs0:List β}: ∀{ds:List α},All2 T ds (vs0++ [v])→ ∃ds0 d,ds=ds0++ [d]∧All2 T ds0 vs0∧T d v:=by
 induction vs0 with
 |nil=>
  intro ds h
  cases h with
  |cons h1 h2=>cases h2;exact ⟨[],_,rfl,.nil,h1⟩
 |cons x xs ih=>
  intro ds h
  cases h with
  |cons h1 h2=>
   obtain ⟨ds0,d,rfl,h3,h4⟩:=ih h2
   exact ⟨_::ds0,d,rfl,.cons h1 h3,h4⟩
end
noncomputable abbrev VI(n:Int)(v:Value):Prop:= ∃t,v= .int n t
noncomputable abbrev VS(x:Str)(v:Value):Prop:= ∃t,v= .str x t
noncomputable abbrev VR(a:Addr)(v:Value):Prop:=v= .ref a
theorem All2.ints{ns:List Int}{vs:List Value}(h:All2 VI ns vs):IntsAre vs ns:=by
 induction h with
 |nil=>exact .nil
 |cons h1 _ ih=>obtain ⟨t,rfl⟩:=h1;exact .cons _ _ ih
noncomputable abbrev listO(vs:List Value)(n:Nat):Obj:={cls:= .type "list",dict:=none,data:= .seq vs.toArray n,slots:=#[]}
noncomputable def isL{α:Type}(T:α→Value→Prop)(ds:List α):Asn:=fun o=> ∃vs n,All2 T ds vs∧o=listO vs n
noncomputable def isT{α:Type}(T:α→Value→Prop)(ds:List α):Asn:=fun o=> ∃vs n,All2 T ds vs∧o=tupO vs n
noncomputable def isLI(l:Addr)(i:Nat):Asn:=fun o=>o.cls= .type "list_iterator"∧o.data= .fields #[.ref l,.int i 0]
noncomputable def isRI(x left:Int):Asn:=fun o=>o={cls:= .type "range_iterator",dict:=none,data:= .fields #[zw x,zw left,zw 1],slots:=#[]}
section
variable{b:qe}{w:World}{A:qq}{L L':Led}{env:Env}{pos:Pos}{R:Value→Led→Prop}{Q:Flow→Led→Prop}{TT:Bool→Led→Prop}{α:Type}{T:α→Value→Prop}{ds es:List α}{l:Addr}
inductive SeqAt(O:List Value→Nat→Obj)(T:α→Value→Prop)(ds:List α)(l:Addr)(s:qe):Prop
 |mk (vs:List Value) (n:Nat) (ha:All2 T ds vs) (e:s.heap.get? l=some (O vs n))
theorem St.lst{s:qe}(H:St b s L)(hm:Mm (l,isL T ds) L):SeqAt listO T ds l s:=by
 obtain ⟨o,ho,vs,n,h,rfl⟩:=H.own _ hm.mem
 exact ⟨vs,n,h,ho⟩
theorem St.tup{s:qe}(H:St b s L)(hm:Mm (l,isT T ds) L):SeqAt tupO T ds l s:=by
 obtain ⟨o,ho,vs,n,h,rfl⟩:=H.own _ hm.mem
 exact ⟨vs,n,h,ho⟩
theorem listO_is{h:Heap}{vs:List Value}{n:Nat}(e:h.get? l=some (listO vs n)):h.IsList l vs.toArray:=⟨_,e,rfl,n,rfl⟩
theorem tupO_is{h:Heap}{vs:List Value}{n:Nat}(e:h.get? l=some (tupO vs n)):IsTup h l vs.toArray:=⟨_,e,rfl,n,rfl⟩
theorem St.gone{s:qe}{a:Addr}{P:Asn}(H:St b s ((a,P)::L)){h':Heap}(hx:Heap.ExtBut a s.heap h')(t:Nat):St b {s with heap:=h',toks:=t} L where
 old:=by
  have ne: ∀c o,b.heap.get? c=some o→c≠a:=fun c o e=>qS (ql (zi e) (H.fresh (a,P) (.head _)))
  refine ⟨fun c o e=> ?_,fun c o e=>let ⟨o',ho'⟩:=H.old.there c o e;⟨o',hx c o' (ne c o e) ho'⟩⟩
  rcases H.old.old c o e with x|⟨t,hc,vs,more,hv,x⟩|⟨rfl,hc,⟨o',es,n,ho',r⟩,z⟩
  ·exact .inl (hx c o (ne c o e) x)
  ·exact .inr (.inl ⟨t,hc,vs,more,hv,hx c _ (ne c o e) x⟩)
  ·exact .inr (.inr ⟨rfl,hc,⟨o',es,n,hx _ _ (ne _ o e) ho',r⟩,fun key=>by
    rw [OldK.staticOf_congr (show h'.get? ja=s.heap.get? ja from (hx _ _ (ne _ o e) ho').trans ho'.symm) key];exact z key⟩)
 lim:=H.lim.extBut hx (qS (ql H.stat (H.fresh (a,P) (.head _))))
 os:=H.os
 gens:=H.gens
 gk:=H.gk
 top:=H.top
 stat:=H.stat
 st0:=H.st0k fun o e=>hx _ o (qS (ql H.stat (H.fresh (a,P) (.head _)))) e
 tabs:=H.tabs.keeps fun c o hc e=>hx _ o (qS (ql hc (H.fresh (a,P) (.head _)))) e
 lam:=H.lam.keeps H.tabs (fun c o hc e=>hx _ o (by
  rcases hc with hc|hc
  ·exact qS (ql hc (H.fresh (a,P) (.head _)))
  ·intro e
   subst e
   exact (H.lam.ne hc).2.1 (by rw [qR];exact List.mem_cons_self ..)) e) fun x hx=> .inl (List.mem_cons_of_mem _ hx)
 own:=fun p hp=>by
  obtain ⟨o,ho,h⟩:=H.own p (.tail _ hp)
  have:=H.nd
  rw [qR,zu] at this
  exact ⟨o,hx p.1 o (fun e=>this.1 (by show a∈_;rw [←e];exact qA (f:=(·.1)) hp)) ho,h⟩
 nd:=(zu.mp (by simpa using H.nd)).2
 fresh:=fun p hp=>H.fresh p (.tail _ hp)
theorem W.newL{vs:List Value}(ha:All2 T ds vs)(hz:vs.length≤1000000)(h: ∀a,R (.ref a) ((a,isL T ds)::L)):W b w A L (newList vs) R:=W.mk fun s H=>by
 unfold newList
 exact qM ⟨_,H.alloc (P:=isL T ds) (listO vs 0) rfl ⟨vs,0,ha,rfl⟩,h _⟩ (by show vs.toArray.size≤ji;rw [qu,qo];omega)
theorem W.newT{vs:List Value}(ha:All2 T ds vs)(hz:vs.length≤1000000)(h: ∀a,R (.ref a) ((a,isT T ds)::L)):W b w A L (newTuple vs) R:=W.mk fun s H=>by
 unfold newTuple
 exact qM ⟨_,H.alloc (P:=isT T ds) (tupO vs 0) rfl ⟨vs,0,ha,rfl⟩,h _⟩ (by show vs.toArray.size≤ji;rw [qu,qo];omega)
theorem W.dispL{elts:List Expr}{trees:List (Bool×Sem Value)}(ht:backTo pos (zB elts env)=trees)(h:W b w A L (spliced trees) fun vs L1=>W b w A L1 (newList vs) R):W b w A L (eval (.List elts pos) env) R:=by
 rw [arm_eval_List,ht]
 exact W.bind (W.stand (W.bind h))
theorem W.dispT{elts:List Expr}{k:Nat}{trees:List (Bool×Sem Value)}(ht:backTo pos (zB elts env)=trees)(h:W b w A L (spliced trees) fun vs L1=>W b w A L1 (newTuple vs) R):W b w A L (eval (.Tuple elts k pos) env) R:=by
 rw [arm_eval_Tuple,ht]
 exact W.bind (W.stand (W.bind h))
noncomputable abbrev KNL1(b:qe)(w:World)(A:qq)(R:Value→Led→Prop):Value→Led→Prop:=fun v L1=>W b w A L1 (newList [v]) R
noncomputable abbrev KNL2(b:qe)(w:World)(A:qq)(R:Value→Led→Prop)(v:Value):Value→Led→Prop:=fun v2 L1=>W b w A L1 (newList [v,v2]) R
noncomputable abbrev KNL2a(b:qe)(w:World)(A:qq)(env:Env)(e:Expr)(R:Value→Led→Prop):Value→Led→Prop:=fun v L1=>W b w A L1 (eval e env) (KNL2 b w A R v)
noncomputable abbrev KNL3(b:qe)(w:World)(A:qq)(R:Value→Led→Prop)(v v2:Value):Value→Led→Prop:=fun v3 L1=>W b w A L1 (newList [v,v2,v3]) R
noncomputable abbrev KNL3b(b:qe)(w:World)(A:qq)(env:Env)(e:Expr)(R:Value→Led→Prop)(v:Value):Value→Led→Prop:=fun v2 L1=>W b w A L1 (eval e env) (KNL3 b w A R v v2)
noncomputable abbrev KNL3a(b:qe)(w:World)(A:qq)(env:Env)(e e2:Expr)(R:Value→Led→Prop):Value→Led→Prop:=fun v L1=>W b w A L1 (eval e env) (KNL3b b w A env e2 R v)
noncomputable abbrev KNT2(b:qe)(w:World)(A:qq)(R:Value→Led→Prop)(v:Value):Value→Led→Prop:=fun v2 L1=>W b w A L1 (newTuple [v,v2]) R
noncomputable abbrev KNT2a(b:qe)(w:World)(A:qq)(env:Env)(e:Expr)(R:Value→Led→Prop):Value→Led→Prop:=fun v L1=>W b w A L1 (eval e env) (KNT2 b w A R v)
noncomputable abbrev KNT3(b:qe)(w:World)(A:qq)(R:Value→Led→Prop)(v v2:Value):Value→Led→Prop:=fun v3 L1=>W b w A L1 (newTuple [v,v2,v3]) R
noncomputable abbrev KNT3b(b:qe)(w:World)(A:qq)(env:Env)(e:Expr)(R:Value→Led→Prop)(v:Value):Value→Led→Prop:=fun v2 L1=>W b w A L1 (eval e env) (KNT3 b w A R v v2)
noncomputable abbrev KNT3a(b:qe)(w:World)(A:qq)(env:Env)(e e2:Expr)(R:Value→Led→Prop):Value→Led→Prop:=fun v L1=>W b w A L1 (eval e env) (KNT3b b w A env e2 R v)
theorem W.list0(h: ∀a,R (.ref a) ((a,isL T [])::L)):W b w A L (eval (.List [] pos) env) R:=W.dispL (trees:= []) rfl (W.sp0 (W.newL .nil (by simp) h))
theorem W.list1{e:Expr}(hs:zB [e] env= [(false,eval e env)])(h:W b w A L (eval e env) (KNL1 b w A R)):W b w A L (eval (.List [e] pos) env) R:=
 W.dispL (trees:= [(false,eval e env)]) (by rw [hs];rfl) (W.sp (h.mono fun fz fz h1=>W.sp0 h1))
theorem W.list2{e e2:Expr}(hs:zB [e,e2] env= [(false,eval e env),(false,eval e2 env)])(h:W b w A L (eval e env) (KNL2a b w A env e2 R)):W b w A L (eval (.List [e,e2] pos) env) R:=
 W.dispL (trees:= [(false,eval e env),(false,eval e2 env)]) (by rw [hs];rfl) (W.sp (h.mono fun fz fz h1=>W.sp (h1.mono fun fz fz h2=>W.sp0 h2)))
theorem W.list3{e e2 e3:Expr}(hs:zB [e,e2,e3] env= [(false,eval e env),(false,eval e2 env),(false,eval e3 env)])
  (h:W b w A L (eval e env) (KNL3a b w A env e2 e3 R)):W b w A L (eval (.List [e,e2,e3] pos) env) R:=
 W.dispL (trees:= [(false,eval e env),(false,eval e2 env),(false,eval e3 env)]) (by rw [hs];rfl) (W.sp (h.mono fun fz fz h1=>W.sp (h1.mono fun fz fz h2=>W.sp (h2.mono fun fz fz h3=>W.sp0 h3))))
theorem W.tup2{e e2:Expr}{k:Nat}(hs:zB [e,e2] env= [(false,eval e env),(false,eval e2 env)])(h:W b w A L (eval e env) (KNT2a b w A env e2 R)):W b w A L (eval (.Tuple [e,e2] k pos) env) R:=
 W.dispT (trees:= [(false,eval e env),(false,eval e2 env)]) (by rw [hs];rfl) (W.sp (h.mono fun fz fz h1=>W.sp (h1.mono fun fz fz h2=>W.sp0 h2)))
theorem W.tup3{e e2 e3:Expr}{k:Nat}(hs:zB [e,e2,e3] env= [(false,eval e env),(false,eval e2 env),(false,eval e3 env)])
  (h:W b w A L (eval e env) (KNT3a b w A env e2 e3 R)):W b w A L (eval (.Tuple [e,e2,e3] k pos) env) R:=
 W.dispT (trees:= [(false,eval e env),(false,eval e2 env),(false,eval e3 env)]) (by rw [hs];rfl) (W.sp (h.mono fun fz fz h1=>W.sp (h1.mono fun fz fz h2=>W.sp (h2.mono fun fz fz h3=>W.sp0 h3))))
theorem W.tail{value slice:Expr}{o i:Value}{tn id:String}{ops:List Value}(hT: ∀s,St b s L→s.TypeIs o tn)(hl:typeLookup (.type tn) "__getitem__"=qj (some (.builtin id)))
  (hs:jq slice false o i=zZ ops (vn o i)) (h:W b w A L (vn o i) fun v L'=>R v L'):W b w A L (zC value slice o i) R:=W.mk fun s H=>by
 unfold zC
 refine qc ?_
 rw [getitemInPython_of_ne (hT s H).not_modules]
 refine qc (jT (hT s H) hl ?_)
 have fin:wpAny (model pw w) A (jq slice false o i) (fun r s₃=>wpAny (model pw w) A (Ql value o r>>=fun fz=>qj r) (Post b R) (fun fz fz=>False) s₃) (fun fz fz=>False) s:=by
  rw [hs]
  exact wpAny_operating (h.then H fun r s₃ L3 H3 h₃=>qc (wpAny_letTemporaryGo (qf ⟨L3,H3,h₃⟩)))
 exact qf (qc fin)
theorem tyL{s:qe}(H:St b s L)(hm:Mm (l,isL T ds) L):s.TypeIs (.ref l) "list":=by
 obtain ⟨vs,n,_,e⟩:=H.lst hm
 exact ⟨_,e,rfl⟩
theorem tyT{s:qe}(H:St b s L)(hm:Mm (l,isT T ds) L):s.TypeIs (.ref l) "tuple":=by
 obtain ⟨vs,n,_,e⟩:=H.tup hm
 exact ⟨_,e,rfl⟩
theorem W.getL{i:Nat}{d:α}{u:Tok}(hm:Mm (l,isL T ds) L)(hi:i<1000000)(hd:ds[i]? =some d)(h: ∀v,T d v→R v L):W b w A L (vn (.ref l) (.int i u)) R:=W.mk fun s H=>by
 obtain ⟨vs,n,ha,e⟩:=H.lst hm
 obtain ⟨v,hv,hT⟩:=ha.get hd
 exact wpAny_getItem_list (listO_is e) (by omega) (by exact Ar.i6 hi rfl) (x:=v) (by simpa using hv) ⟨L,H,h v hT⟩
theorem W.getLast{d:α}{u:Tok}(hm:Mm (l,isL T (ds++ [d])) L)(hz:ds.length<1000000)(h: ∀v,T d v→R v L):W b w A L (vn (.ref l) (.int (-1) u)) R:=W.mk fun s H=>by
 obtain ⟨vs,n,ha,e⟩:=H.lst hm
 obtain ⟨v,hv,hT⟩:=ha.get (i:=ds.length) (d:=d) (by simp)
 have hlen:vs.length=ds.length+1:=by rw [ha.len];simp
 refine wpAny_getItem_list_neg (listO_is e) (by omega) ?_ (by omega) (x:=v) ?_ ⟨L,H,h v hT⟩
 ·simp;exact QQ.mpr (qg (zy 1 _) (qN hlen.symm))
 ·have:((-1:Int)+(vs.toArray.size:Nat)).toNat=ds.length:=by rw [qo];exact hlen▸Ar.i4 _
  rw [this];simpa using hv
theorem W.getT{i:Nat}{d:α}{u:Tok}(hm:Mm (l,isT T ds) L)(hi:i<1000000)(hd:ds[i]? =some d)(h: ∀v,T d v→R v L):W b w A L (vn (.ref l) (.int i u)) R:=W.mk fun s H=>by
 obtain ⟨vs,n,ha,e⟩:=H.tup hm
 obtain ⟨v,hv,hT⟩:=ha.get hd
 have hlt:i<vs.length:=(qr.mp hv).1
 exact getItem_tuple (items:=vs.toArray) (tupO_is e) (by omega) (by exact Ar.i6 hi rfl) (j:=i) (seqIndex_of (by omega) (by simpa using hlt)) (x:=v) (by simpa using hv) ⟨L,H,h v hT⟩
theorem W.itemL{value slice:Expr}{i:Nat}{d:α}{u:Tok}(hm:Mm (l,isL T ds) L)(hi:i<1000000)(hd:ds[i]? =some d)
  (hs: ∀u,jq slice false (.ref l) (.int i u)=zZ [.ref l,.int i u] (vn (.ref l) (.int i u))) (h: ∀v,T d v→R v L):W b w A L (zC value slice (.ref l) (.int i u)) R:=
 W.tail (fun s H=>tyL H hm) F.slot_list_getitem.lookup (hs u) (W.getL hm hi hd h)
theorem W.itemLast{value slice:Expr}{d:α}{u:Tok}(hm:Mm (l,isL T (ds++ [d])) L)(hz:ds.length<1000000)
  (hs: ∀u,jq slice false (.ref l) (.int (-1) u)=zZ [.ref l,.int (-1) u] (vn (.ref l) (.int (-1) u))) (h: ∀v,T d v→R v L):W b w A L (zC value slice (.ref l) (.int (-1) u)) R:=
 W.tail (fun s H=>tyL H hm) F.slot_list_getitem.lookup (hs u) (W.getLast hm hz h)
theorem W.itemT{value slice:Expr}{i:Nat}{d:α}{u:Tok}(hm:Mm (l,isT T ds) L)(hi:i<1000000)(hd:ds[i]? =some d)
  (hs: ∀u,jq slice false (.ref l) (.int i u)=zZ [.ref l,.int i u] (vn (.ref l) (.int i u))) (h: ∀v,T d v→R v L):W b w A L (zC value slice (.ref l) (.int i u)) R:=
 W.tail (fun s H=>tyT H hm) F.slot_tuple_getitem.lookup (hs u) (W.getT hm hi hd h)
theorem W.partL{value slice:Expr}{sl:Addr}{vl vu vk:Value}{lo hi st:Option Int}{ds':List α}(hm:Mm (l,isL T ds) L)(hsl:Mm (sl,isSlice vl vu vk) L)(pl:IsPart vl lo)(pu:IsPart vu hi)(ps:IsPart vk st)(h0:st≠some 0)(hz:ds.length≤100000)
  (hp: ∀vs,All2 T ds vs→All2 T ds' (slicePick vs.toArray lo hi st).toList)
  (hs: ∃ops,jq slice false (.ref l) (.ref sl)=zZ ops (vn (.ref l) (.ref sl))) (h: ∀a,R (.ref a) ((a,isL T ds')::L)):W b w A L (zC value slice (.ref l) (.ref sl)) R:=by
 obtain ⟨ops,hs⟩:=hs
 refine W.tail (fun s H=>tyL H hm) F.slot_list_getitem.lookup hs (W.mk fun s H=> ?_)
 obtain ⟨vs,n,ha,e⟩:=H.lst hm
 obtain ⟨o,ho,rfl⟩:=H.own _ hsl.mem
 refine wpAny_getItem_list_slice (listO_is e) ⟨_,ho,rfl,rfl⟩ pl pu ps h0 ⟨_,H.alloc (P:=isL T ds') _ rfl ⟨_,0,hp vs ha,?_⟩,h _⟩ (by rw [qo,ha.len,qu];omega)
 simp-iota only [listO,Array.toArray_toList]
theorem pick_from{vs:List Value}(ha:All2 T ds vs)(k:Nat):All2 T (ds.drop k) (slicePick vs.toArray (some (k:Int)) none none).toList:=by
 rw [slicePick_from']
 exact ha.drop k
theorem pick_upto{vs:List Value}(ha:All2 T ds vs)(k:Nat):All2 T (ds.take k) (slicePick vs.toArray none (some (k:Int)) none).toList:=by
 rw [slicePick_upto']
 exact ha.take k
theorem pick_butLast{vs:List Value}(ha:All2 T ds vs):All2 T ds.dropLast (slicePick vs.toArray none (some (-1)) none).toList:=by
 rw [show (-1:Int)= -((1:Nat):Int) from rfl,slicePick_butLast _ 1 (zg _),List.dropLast_eq_take]
 have:=ha.take (ds.length-1)
 rw [qo,ha.len]
 exact this
theorem pick_rev{vs:List Value}(ha:All2 T ds vs):All2 T ds.reverse (slicePick vs.toArray none none (some (-1))).toList:=by
 rw [krv_pick]
 exact ha.rev
theorem W.sliceR{e:Expr}(h:W b w A L (eval e env) fun v L1=> ∀a,R (.ref a) ((a,isSlice .none .none v)::L1)):W b w A L (eval (.Slice none none (some e) pos) env) R:=by
 show W b w A L (do let l ←vU none;let u ←zv [l] (vU none);let s ←zv [l,u] (vU (some (eval e env)));Qs "slice" [l,u,s]) R
 exact W.bind (W.pure (W.bind (W.holding (W.pure (W.bind (W.holding (h.mono fun v L1 h1=>W.newSlice h1)))))))
theorem W.sliceU{e:Expr}(h:W b w A L (eval e env) fun v L1=> ∀a,R (.ref a) ((a,isSlice .none v .none)::L1)):W b w A L (eval (.Slice none (some e) none pos) env) R:=by
 show W b w A L (do let l ←vU none;let u ←zv [l] (vU (some (eval e env)));let s ←zv [l,u] (vU none);Qs "slice" [l,u,s]) R
 exact W.bind (W.pure (W.bind (W.holding (h.mono fun v L1 h1=>W.bind (W.holding (W.pure (W.newSlice h1)))))))
theorem W.gmL{name:Str}{id:String}{pl:Sem Bool}{P:Value→Value→Led→Prop}(slot:Slot "list" name id)(ty:QK (.builtin id)=qj (.type "method_descriptor"))(hm:Mm (l,isL T ds) L)(h:P (.builtin id) (.ref l) L):
  W b w A L (vg (.ref l) name pl) (MF P):=W.mk fun s H=>by
 obtain ⟨vs,n,_,e⟩:=H.lst hm
 exact getMethod_builtin ⟨_,e,rfl⟩ PySem.F.plainAttrs_list slot ty (fun a ea=>by cases ea;exact ⟨_,e,rfl⟩) ⟨L,H,_,_,rfl,h⟩
theorem W.append{d:α}{v:Value}(hm:Upd L l (isL T ds) (isL T (ds++ [d])) L')(hz:ds.length≤100000)(hd:T d v)(h:R .none L'):W b w A L (call (.builtin "list.append") [.ref l,v]) R:=W.mk fun s H=>by
 obtain ⟨o,e,vs,n,ha,rfl⟩:=H.own _ hm.mem
 refine append_at (its:=vs.toArray) (n:=n) e (fun h' hs e'=>⟨L',H.same hm hs ⟨_,e',vs++ [v],n+1,ha.app (.one hd),?_⟩ s.toks,h⟩) (by rw [qo,ha.len,qu];omega)
 simp [listO]
theorem W.pop{d:α}(hm:Upd L l (isL T (ds++ [d])) (isL T ds) L')(hz:ds.length≤100000)(h: ∀v,T d v→R v L'):W b w A L (call (.builtin "list.pop") [.ref l]) R:=W.mk fun s H=>by
 obtain ⟨o,e,vs,n,ha,rfl⟩:=H.own _ hm.mem
 have hlen:=ha.len
 rw [qm] at hlen
 obtain ⟨vs0,v,rfl⟩: ∃vs0 v,vs=vs0++ [v]:=by
  rcases jM vs with rfl|⟨p,y,rfl⟩
  ·simp at hlen
  ·exact ⟨p,y,by simp⟩
 have h2:All2 T ds vs0∧T d v:=by
  obtain ⟨ds0,d',e1,e2,e3⟩:=ha.snoc'
  obtain ⟨rfl,e5⟩:=List.append_inj' e1 rfl
  cases e5
  exact ⟨e2,e3⟩
 have hz':(vs0++ [v]).toArray.size≤ji:=by rw [qo,qm,h2.1.len,qu];simp;omega
 have hk:(vs0++ [v]).toArray.size-1=vs0.length:=by rw [qo,qm];rfl
 have hy:(vs0++ [v]).toArray[(vs0++ [v]).toArray.size-1]? =some v:=by rw [hk];simp
 refine call_meets PySem.F.slot_list_pop ⟨_,e,rfl⟩ PySem.F.entry_list_pop (PySem.F.args_list_pop_1 _) (PySem.MeetsSeq.list_pop_last l _ n v hy hz') ⟨e,?_⟩
 refine ⟨L',H.same hm (qK ..) ⟨_,PySem.IsL.update e _,?_⟩ _,h _ h2.2⟩
 rw [hk,kl_erase,za]
 exact ⟨vs0,_,h2.1,rfl⟩
theorem W.lenL(hm:Mm (l,isL T ds) L)(hz:ds.length≤100000)(h: ∀v,R (.int ds.length v) L):W b w A L (call (.builtin "len") [.ref l]) R:=W.mk fun s H=>by
 obtain ⟨vs,n,ha,e⟩:=H.lst hm
 have:=ha.len
 refine call_len_list (listO_is e) (by rw [qo];exact Ar.i6 (Qx (Ar.d2 this hz)) rfl) ⟨L,H.tok _,?_⟩
 rw [qo,ha.len]
 exact h _
theorem W.truL(hm:Mm (l,isL T ds) L)(hz:ds.length≤100000)(h:TT (!ds.isEmpty) L):W b w A L (truthy (.ref l)) TT:=W.mk fun s H=>by
 obtain ⟨vs,n,ha,e⟩:=H.lst hm
 have:=ha.len
 refine wpAny_truthy_list (listO_is e) (by rw [qo];exact Ar.i6 (Qx (Ar.d2 this hz)) rfl) ⟨L,H.tok _,?_⟩
 have:vs.toArray.isEmpty=ds.isEmpty:=by cases ha<;>simp
 rw [this]
 exact h
theorem W.inI{ns:List Int}{k:Int}{u:Tok}(hm:Mm (l,isL VI ns) L)(h:R (.bool (ns.any (· ==k))) L):W b w A L (jd .In (.int k u) (.ref l)) R:=W.mk fun s H=>by
 obtain ⟨vs,n,ha,e⟩:=H.lst hm
 exact in_list_ints (listO_is e) ha.ints ⟨L,H,h⟩
theorem W.ninI{ns:List Int}{k:Int}{u:Tok}(hm:Mm (l,isL VI ns) L)(h:R (.bool (!ns.any (· ==k))) L):W b w A L (jd .NotIn (.int k u) (.ref l)) R:=W.mk fun s H=>by
 obtain ⟨vs,n,ha,e⟩:=H.lst hm
 exact notin_list_ints (listO_is e) ha.ints ⟨L,H,h⟩
theorem W.forC{target iter:Expr}{rest body:List Stmt}(I:Nat→Value→Led→Prop)
  (hs: ∀x,zE iter env x=qj x)
  (h:W b w A L (eval iter env) fun x L1=>W b w A L1 (pyIter x) fun it L2=>(∃n,I n it L2)∧ ∀n L3,I n it L3→W b w A L3 (jY it) fun r L4=>match r with
   |none=>W b w A L4 (execs rest env) Q
   |some v=>W b w A L4 (zF target it v) fun fz L4'=>W b w A L4' (QS target env v) fun fz L5=>W b w A L5 (execs body env) fun f L6=>match f with| .next| .cont=> ∃m,m<n∧I m it L6| .brk=>W b w A L6 (execs rest env) Q| .ret v=>Q (.ret v) L6):
  W b w A L (execs (.For target iter body [] pos::rest) env) Q:=
 W.seq<|W.mk fun s H=>wpAny_For (h.then H fun x s1 L1 H1 h1=>h1.then H1 fun it s2 L2 H2 ⟨⟨n,hn⟩,h2⟩=>
  codeAny_forLoop_any (fun n=>Post b (I n) it) (fun n s3 ⟨L3,H3,h3⟩=>(h2 n L3 h3).then H3 fun r s4 L4 H4 h4=>by
   cases r with
   |none=>exact wpAny_execs_nil ⟨L4,H4,h4⟩
   |some v=>
    exact h4.then H4 fun fz s4' L4' H4' h4'=>h4'.then H4' fun fz s5 L5 H5 h5=>h5.then H5 fun f s6 L6 H6 h6=>by
     cases f with
     |next=>obtain ⟨m,hm,h7⟩:=h6;exact ⟨m,hm,L6,H6,h7⟩
     |cont=>obtain ⟨m,hm,h7⟩:=h6;exact ⟨m,hm,L6,H6,h7⟩
     |brk=>exact ⟨L6,H6,h6⟩
     |ret v=>exact ⟨L6,H6,h6⟩) n ⟨L2,H2,hn⟩) hs
theorem W.whileC{test:Expr}{rest body:List Stmt}(I:Nat→Led→Prop)(n:Nat)(h0:I n L)
  (h: ∀n L,I n L→W b w A L (isTrue test env (eval test env)) fun c L1=>(c=true→W b w A L1 (execs body env) fun f L2=>match f with| .next| .cont=> ∃m,m<n∧I m L2| .brk=>W b w A L2 (execs rest env) Q| .ret v=>Q (.ret v) L2)
   ∧(c=false→W b w A L1 (execs rest env) Q)):
  W b w A L (execs (.While test body [] pos::rest) env) Q:=
 W.seq<|W.mk fun s H=>wpAny_While (codeAny_whileLoop (fun n=>Post b (fun (_:Unit) L=>I n L) ()) (fun n s3 ⟨L3,H3,h3⟩=>(h n L3 h3).then H3 fun c s4 L4 H4 h4=>by
   cases c with
   |false=>exact wpAny_execs_nil ⟨L4,H4,h4.2 rfl⟩
   |true=>
    exact (h4.1 rfl).then H4 fun f s6 L6 H6 h6=>by
     cases f with
     |next=>obtain ⟨m,hm,h7⟩:=h6;exact ⟨m,hm,L6,H6,h7⟩
     |cont=>obtain ⟨m,hm,h7⟩:=h6;exact ⟨m,hm,L6,H6,h7⟩
     |brk=>exact ⟨L6,H6,h6⟩
     |ret v=>exact ⟨L6,H6,h6⟩) n ⟨L,H,h0⟩)
theorem W.iterL(hm:Mm (l,isL T ds) L)(h: ∀it,R (.ref it) ((it,isLI l 0)::L)):W b w A L (pyIter (.ref l)) R:=W.mk fun s H=>by
 obtain ⟨vs,n,ha,e⟩:=H.lst hm
 exact wpAny_pyIter_list (listO_is e) ⟨_,H.alloc (P:=isLI l 0) _ rfl ⟨rfl,rfl⟩,h _⟩
theorem W.nextL{it:Addr}{i:Nat}{d:α}{P:Option Value→Led→Prop}(hu:Upd L it (isLI l i) (isLI l (i+1)) L')(hm:Mm (l,isL T ds) L)(hd:ds[i]? =some d)(h: ∀v,T d v→P (some v) L'):W b w A L (jY (.ref it)) P:=W.mk fun s H=>by
 obtain ⟨vs,n,ha,e⟩:=H.lst hm
 obtain ⟨o,ho,h1,h2⟩:=H.own _ hu.mem
 obtain ⟨v,hv,hT⟩:=ha.get hd
 exact wpAny_pyNext_list_item ⟨o,ho,h1,h2⟩ (listO_is e) (x:=v) (by simpa using hv) fun h' ⟨o',ho',q⟩ hs=>⟨L',H.same hu hs ⟨o',ho',q⟩ s.toks,h v hT⟩
theorem W.nextL0{it:Addr}{i:Nat}{P:Option Value→Led→Prop}(hh:A.handled=none)(hp:Pick L (it,isLI l i) L')(hm:Mm (l,isL T ds) L)(hd:ds[i]? =none)(h:P none L'):W b w A L (jY (.ref it)) P:=W.mk fun s H=>by
 obtain ⟨vs,n,ha,e⟩:=H.lst hm
 have H1:=H.perm hp.perm
 obtain ⟨o,ho,h1,h2⟩:=H1.own _ (.head _)
 refine wpAny_pyNext_list_end hh ⟨o,ho,h1,h2⟩ (listO_is e) (by simp-iota only [List.getElem?_toArray];rw [List.getElem?_eq_none_iff,ha.len];exact List.getElem?_eq_none_iff.mp hd) fun h' hx=>⟨L',H1.gone hx s.toks,h⟩
theorem W.nextR{it:Addr}{x left:Int}{P:Option Value→Led→Prop}(hu:Upd L it (isRI x left) (isRI (x+1) (left-1)) L')(hl:0<left)(h: ∀t,P (some (.int x t)) L'):W b w A L (jY (.ref it)) P:=W.mk fun s H=>by
 obtain ⟨o,ho,rfl⟩:=H.own _ hu.mem
 exact wpAny_pyNext_range_item ho hl fun h' e hs=>⟨L',H.same hu hs ⟨_,e,rfl⟩ _,h _⟩
theorem W.nextR0{it:Addr}{x left:Int}{P:Option Value→Led→Prop}(hh:A.handled=none)(hp:Pick L (it,isRI x left) L')(hl:left≤0)(h:P none L'):W b w A L (jY (.ref it)) P:=W.mk fun s H=>by
 have H1:=H.perm hp.perm
 obtain ⟨o,ho,rfl⟩:=H1.own _ (.head _)
 exact wpAny_pyNext_range_end hh ho hl fun h' hx=>⟨L',H1.gone hx s.toks,h⟩
end
end
section
structure Iter(b:qe)(w:World)(A:qq)(n:Nat)(V:Nat→Value→Prop)(E:Nat→Asn)(Kp:Led→Prop):Prop where
 next: ∀(i:Nat) (it:Addr) (L:Led) (P:Option Value→Led→Prop),i<n→Kp L→(∀v,V i v→P (some v) ((it,E (i+1))::L))→W b w A ((it,E i)::L) (jY (.ref it)) P
 done: ∀(it:Addr) (L:Led) (P:Option Value→Led→Prop),Kp L→P none L→W b w A ((it,E n)::L) (jY (.ref it)) P
 mono: ∀p L,Kp L→Kp (p::L)
 go: ∀(target:Expr) (v:Value) (i:Nat) (it:Addr) (L:Led) (P:Unit→Led→Prop),P () ((it,E i)::L)→W b w A ((it,E i)::L) (zF target (.ref it) v) P
 self: ∀(i:Nat) (it:Addr) (L:Led) (P:Value→Led→Prop),P (.ref it) ((it,E i)::L)→W b w A ((it,E i)::L) (pyIter (.ref it)) P
noncomputable def Walk(b:qe)(w:World)(A:qq)(x:Value)(n:Nat)(V:Nat→Value→Prop)(Kp:Led→Prop)(L:Led):Prop:=
 ∃E,Iter b w A n V E Kp∧ ∀P:Value→Led→Prop,(∀it,P (.ref it) ((it,E 0)::L))→W b w A L (pyIter x) P
section
variable{b:qe}{w:World}{A:qq}{L L':Led}{env:Env}{pos:Pos}{R:Value→Led→Prop}{Q:Flow→Led→Prop}{α:Type}{T:α→Value→Prop}{ds:List α}{l:Addr}
theorem Walk.list(hh:A.handled=none)(hm:Mm (l,isL T ds) L):Walk b w A (.ref l) ds.length (fun i v=> ∃d,ds[i]? =some d∧T d v) (fun L=>Mm (l,isL T ds) L) L:=by
 refine ⟨fun i=>isLI l i,⟨fun i it L P hi hk h=> ?_,fun it L P hk h=> ?_,fun fz fz h=> .tail h,fun target v i it L P h=> ?_,fun i it L P h=> ?_⟩,fun P h=>W.iterL hm h⟩
 ·exact W.nextL (T:=T) (ds:=ds) .head (.tail hk) (qd hi) fun v hv=>h v ⟨_,qd hi,hv⟩
 ·exact W.nextL0 (T:=T) (ds:=ds) hh .head (.tail hk) (by simp) h
 ·refine W.mk fun s H=> ?_
  obtain ⟨o,ho,h1,h2⟩:=H.own _ (.head _)
  exact letGo_listiter ⟨o,ho,h1,h2⟩ ⟨_,H,h⟩
 ·refine W.mk fun s H=> ?_
  obtain ⟨o,ho,h1,h2⟩:=H.own _ (.head _)
  exact wpAny_pyIter_listiter ⟨o,ho,h1,h2⟩ ⟨_,H,h⟩
noncomputable def isRg(x y:Int):Asn:=fun o=> ∃t u v,o={cls:= .type "range",dict:=none,data:= .fields #[.int x t,.int y u,.int 1 v],slots:=#[]}
theorem W.range1{y:Int}{u:Tok}(h: ∀a,R (.ref a) ((a,isRg 0 y)::L)):W b w A L (call (.type "range") [.int y u]) R:=W.mk fun s H=>
 call_range_1 ⟨_,(H.alloc (P:=isRg 0 y) _ rfl ⟨_,_,_,rfl⟩).tok _,h _⟩
theorem W.range2{x y:Int}{t u:Tok}(h: ∀a,R (.ref a) ((a,isRg x y)::L)):W b w A L (call (.type "range") [.int x t,.int y u]) R:=W.mk fun s H=>
 call_range_2 ⟨_,(H.alloc (P:=isRg x y) _ rfl ⟨_,_,_,rfl⟩).tok _,h _⟩
theorem Walk.range{x y:Int}{n:Nat}(hh:A.handled=none)(hx: -1000000≤x)(hy:y≤1000000)(hn:y=x+n)(hm:Mm (l,isRg x y) L):Walk b w A (.ref l) n (fun i v=> ∃t,v= .int (x+i) t) (fun fz=>True) L:=by
 refine ⟨fun i=>isRI (x+i) (n-i:Int),⟨fun i it L P hi hk h=> ?_,fun it L P hk h=> ?_,fun fz fz h=>h,fun target v i it L P h=> ?_,fun i it L P h=> ?_⟩,fun P h=> ?_⟩
 ·refine W.nextR (x:=x+i) (left:=n-i) (L':=(it,isRI (x+(i+1:Nat)) (n-(i+1:Nat):Int))::L) ?_ (by exact Int.sub_pos_of_lt (zT.mpr hi)) fun t=>h _ ⟨t,rfl⟩
  have e1:(x+(i+1:Nat):Int)=x+i+1:=by exact Ar.i7 _ _
  have e2:(n-(i+1:Nat):Int)=n-i-1:=by omega
  rw [e1,e2]
  exact .head
 ·exact W.nextR0 hh .head (by omega) h
 ·refine W.mk fun s H=> ?_
  obtain ⟨o,ho,rfl⟩:=H.own _ (.head _)
  unfold zF
  cases target<;>first
   |exact qf ⟨_,H,h⟩
   |(cases v<;>first
     |exact qf ⟨_,H,h⟩
     |(refine qc (Qk ho ?_)
       exact qf ⟨_,H,h⟩))
 ·refine W.mk fun s H=> ?_
  obtain ⟨o,ho,rfl⟩:=H.own _ (.head _)
  exact wpAny_pyIter_rangeiter ho ⟨_,H,h⟩
 ·refine W.mk fun s H=> ?_
  obtain ⟨o,ho,t,u,v,rfl⟩:=H.own _ hm.mem
  have hsz:Builtin.Range.rangeSize x y 1=(n:Int):=by rw [rangeSize_one];split<;>(first|exact Int.le_antisymm (zx _) (Int.le_of_add_le_add_left (jU (Int.le_of_eq hn.symm) (jU (Int.not_lt.mp ‹_›) (Int.le_of_eq (Int.add_zero _).symm))))|exact Int.sub_eq_iff_eq_add'.mpr hn)
  refine wpAny_pyIter_range ho (small_one (by exact jU (by decide: -(2^ 62)≤(-1000000:Int)) hx) (by exact jZ (jU (jU (Int.le_add_of_nonneg_right (zx _)) (Int.le_of_eq hn.symm)) hy) (by decide)) (by exact hn▸jU (by decide: -(2^ 62)≤(-1000000:Int)) (jU hx (Int.le_add_of_nonneg_right (zx _)))) (by exact jZ hy (by decide))) ⟨_,H.alloc (P:=isRI (x+(0:Nat)) (n-(0:Nat):Int)) _ rfl ?_,h _⟩
  show _=_
  rw [hsz]
  have e1:(x+(0:Nat):Int)=x:=by omega
  have e2:(n-(0:Nat):Int)=n:=by omega
  rw [e1,e2]
noncomputable abbrev FB(b:qe)(w:World)(A:qq)(env:Env)(rest:List Stmt)(Q:Flow→Led→Prop)(p:Addr×Asn)(J:Led→Prop):Flow→Led→Prop:=fun f L6=>match f with
 | .next| .cont=> ∃L7,Take L6 (p::L7)∧J L7
 | .brk=>W b w A L6 (execs rest env) Q| .ret v=>Q (.ret v) L6
inductive ForG(b:qe)(w:World)(A:qq)(env:Env)(target:Expr)(body rest:List Stmt)(Q:Flow→Led→Prop)(x:Value)(L1:Led):Prop
 |mk (I:Nat→Led→Prop) (n:Nat) (V:Nat→Value→Prop) (Kp:Led→Prop) (h:Walk b w A x n V Kp L1) (h0: ∃L2,Take L1 L2∧I 0 L2) (hk: ∀i L2,I i L2→Kp L2)
   (hb: ∀i v L2 it P,i<n→V i v→I i L2→W b w A ((it,P)::L2) (QS target env v) (KU b w A env body (FB b w A env rest Q (it,P) (I (i+1)))))
   (hd: ∀L2,I n L2→W b w A L2 (execs rest env) Q)
inductive ForI(b:qe)(w:World)(A:qq)(env:Env)(target:Expr)(body rest:List Stmt)(Q:Flow→Led→Prop)(m:Nat)(x:Value)(L3:Led):Prop
 |mk (I:Nat→Led→Prop) (n:Nat) (V:Nat→Value→Prop) (Kp:Led→Prop) (E:Nat→Asn) (it:Addr) (i:Nat) (L2:Led) (hx:x= .ref it) (hm:m=n-i) (hi:i≤n) (tk:Take L3 ((it,E i)::L2)) (hI:I i L2) (hE:Iter b w A n V E Kp) (hk: ∀i L2,I i L2→Kp L2)
   (hb: ∀i v L2 it P,i<n→V i v→I i L2→W b w A ((it,P)::L2) (QS target env v) (KU b w A env body (FB b w A env rest Q (it,P) (I (i+1)))))
   (hd: ∀L2,I n L2→W b w A L2 (execs rest env) Q)
theorem W.forG{target iter:Expr}{rest body:List Stmt}
  (hs: ∀x,zE iter env x=qj x)
  (h:W b w A L (eval iter env) (ForG b w A env target body rest Q)):
  W b w A L (execs (.For target iter body [] pos::rest) env) Q:=by
 refine W.forC (ForI b w A env target body rest Q) hs (h.mono fun x L1 hx=> ?_)
 obtain ⟨I,n,V,Kp,⟨E,hE,hW⟩,⟨L2,tk,h2⟩,h3,h4,h5⟩:=hx
 refine hW _ fun it=>⟨⟨_,I,n,V,Kp,E,it,0,L2,rfl,rfl,vh _,.cons .head tk,h2,hE,h3,h4,h5⟩,?_⟩
 rintro m L3 ⟨I,n,V,Kp,E,it',i,L2,e,rfl,hi,tk,hI,hE,h3,h4,h5⟩
 cases e
 refine W.take ?_ tk
 by_cases hlt:i<n
 ·refine hE.next i it L2 _ hlt (h3 i L2 hI) fun v hv=> ?_
  refine hE.go _ _ _ _ _ _ ?_
  refine (h4 i v L2 it (E (i+1)) hlt hv hI).mono fun fz L5 h6=>h6.mono fun f L6 h7=> ?_
  cases f with
  |next=>obtain ⟨L7,tk',hI'⟩:=h7;exact ⟨_,by omega,I,n,V,Kp,E,it,i+1,L7,rfl,rfl,hlt,tk',hI',hE,h3,h4,h5⟩
  |cont=>obtain ⟨L7,tk',hI'⟩:=h7;exact ⟨_,by omega,I,n,V,Kp,E,it,i+1,L7,rfl,rfl,hlt,tk',hI',hE,h3,h4,h5⟩
  |brk=>exact h7
  |ret v=>exact h7
 ·have e:i=n:=by omega
  subst e
  exact hE.done it L2 _ (h3 _ L2 hI) (h5 L2 hI)
noncomputable abbrev envC(scope:Scope)(cl:List (Str×Addr))(C:Addr)(env:Env):Env:=
 {scope:=relabel scope env,locals:=C,globals:=env.globals,cells:=cl,qual:=env.qual,func:=none,code:=env.code,frame:=env.frame,builtins:=env.builtins}
noncomputable def allNone(names:List Str):List (Str×Option Value):=names.map fun x=>(x,none)
theorem allNone_look(names:List Str)(n:Str):((allNone names).lookup n).join=none:=by
 induction names with
 |nil=>rfl
 |cons x r ih=>
  show (((x,none)::allNone r).lookup n).join=none
  rw [zD]
  cases n==x
  ·exact ih
  ·rfl
theorem St.compEnv{scope:Scope}{cl:List (Str×Addr)}{names:List Str}{s:qe}{Q:Env→qe→Prop}{E:Value→qe→Prop}(H:St b s L)(hcell: ∀x∈scope.names,x.2≠ .cell)(hkind:scope.kind= .function)(hn:names.Nodup)
  (h: ∀C s',St b s' ((C,loc (allNone names))::L)→Q (newEnv scope C env.globals cl env.qual none .none (some env) QR) s'):
  wpAny (model pw w) A (newFunctionEnv scope env.globals cl [] env.qual none .none (some env)) Q E s:=by
 refine wpAny_newFunctionEnv hcell (by intro y hy;simp at hy) (fun h₁ hns hsb=> ?_) hkind
 have H':St b {s with heap:=h₁,toks:=s.toks} ((s.heap.objs.size,loc (allNone names))::L):=by
  refine H.ext (fun c o e=>hsb.extBut c o (qS (zi e)) (qD _ e)) (zg _) ?_
  obtain ⟨o,es,ep,ho,hd,hks,hf⟩:=hns
  refine ⟨o,ho,⟨es,ep,hd,hks,fun m=>(hf m).trans ?_⟩,?_⟩
  ·rw [allNone_look];rfl
  ·simpa [allNone,Function.comp_def] using hn
 exact h _ _ H'
theorem codeAny_compLoop_go{elt target iter:Expr}{ifs:List Expr}{scope:Scope}{pos:Pos}{it acc:Value}{env:Env}{R:Result→qe→Prop}{s:qe}(I:Nat→qe→Prop)
  (turn: ∀n s,I n s→wpAny (model pw w) A (jY it) (fun r s₁=>match r with
   |none=>R (.ok .next) s₁
   |some v=>wpAny (model pw w) A (zF target it v) (fun fz s₁'=>wpAny (model pw w) A (QS target env v) (fun fz s₂=>
     wpAny (model pw w) A (forIn ifs true fun c r=>if r=true then do let ok ←isTrue c env (eval c env);qj (jV ok) else qj (jV r)) (fun ok s₃=>
      if ok=true then wpAny (model pw w) A (eval elt env) (fun x s₄=>
       wpAny (model pw w) A (call (.builtin "list.append") [acc,x]) (fun fz s₅=> ∃m,m<n∧I m s₅) (fun fz fz=>False) s₄) (fun fz fz=>False) s₃
      else ∃m,m<n∧I m s₃) (fun fz fz=>False) s₂) (fun fz fz=>False) s₁') (fun fz fz=>False) s₁) (fun fz fz=>False) s)
  (n:Nat) (h:I n s):Qq (model pw w) A (.compLoop (.ListComp elt [⟨target,iter,ifs,0⟩] scope pos) 0 it acc env) R s:=by
 refine codeAny_loop rfl I (fun n s hI=> ?_) n h
 show wpAny _ A ((compTurn (.ListComp elt [⟨target,iter,ifs,0⟩] scope pos) 0 it acc env).onRaise (fun x=>do noteFrame x env;theTreesLotGoes x)) _ _ s
 refine wpAny_noted ?_
 rw [compTurn_list]
 refine qc (vp (qc (qL (turn n s hI) (fun r s₁ h₁=> ?_) fun fz fz h'=>h'.elim)))
 cases r with
 |none=>exact qf h₁
 |some v=>
  refine qc (qL h₁ (fun fz s₁' h₁'=> ?_) fun fz fz h'=>h'.elim)
  refine qc (qL h₁' (fun fz s₂ h₂=>qc (qL h₂ (fun ok s₃ h₃=> ?_) fun fz fz h'=>h'.elim)) fun fz fz h'=>h'.elim)
  cases ok with
  |false=>exact qf ⟨rfl,h₃⟩
  |true=>
   exact qc (qc (qL h₃ (fun x s₄ h₄=>qc (qL h₄ (fun fz s₅ h₅=>qf (qf ⟨rfl,h₅⟩)) fun fz fz h'=>h'.elim)) fun fz fz h'=>h'.elim))
noncomputable abbrev CB(names:List Str)(C:Addr)(p:Addr×Asn)(J:Led→Prop)(L8:Led):Prop:= ∃fr' L9,fr'.map (·.1)=names∧Take L8 ((C,loc fr')::p::L9)∧J L9
noncomputable abbrev KC3(b:qe)(w:World)(A:qq)(acc:Addr)(J:Led→Prop):Value→Led→Prop:=fun y L7=>W b w A L7 (call (.builtin "list.append") [.ref acc,y]) fun fz L8=>J L8
noncomputable abbrev KC2(b:qe)(w:World)(A:qq)(env:Env)(elt:Expr)(acc:Addr)(J:Led→Prop):Bool→Led→Prop:=fun ok L6=>(ok=true→W b w A L6 (eval elt env) (KC3 b w A acc J))∧(ok=false→J L6)
noncomputable abbrev tstS(ifs:List Expr)(env:Env):Sem Bool:=forIn ifs true fun c r=>if r=true then do let ok ←isTrue c env (eval c env);qj (jV ok) else qj (jV r)
noncomputable abbrev KC1(b:qe)(w:World)(A:qq)(env:Env)(elt:Expr)(ifs:List Expr)(acc:Addr)(J:Led→Prop):Unit→Led→Prop:=fun fz L5=>W b w A L5 (tstS ifs env) (KC2 b w A env elt acc J)
inductive CompH(b:qe)(w:World)(A:qq)(env:Env)(elt target:Expr)(ifs:List Expr)(scope:Scope)(cl:List (Str×Addr))(names:List Str)(x:Value)(L1:Led)(I:Addr→Nat→Led→Prop)(n:Nat):Prop
 |mk (V:Nat→Value→Prop) (Kp:Led→Prop) (h:Walk b w A x n V Kp L1) (h0: ∃(α:Type) (T:α→Value→Prop),∀acc,∃L2,Take L1 L2∧I acc 0 ((acc,isL T [])::L2)) (hk: ∀acc i L2,I acc i L2→Kp L2)
   (hb: ∀acc C it P i v L2 fr,i<n→V i v→fr.map (·.1)=names→I acc i L2→W b w A ((C,loc fr)::(it,P)::L2) (QS target (envC scope cl C env) v) (KC1 b w A (envC scope cl C env) elt ifs acc (CB names C (it,P) (I acc (i+1)))))
inductive ExC(P D:(Addr→Nat→Led→Prop)→Nat→Prop):Prop
 |mk (I:Addr→Nat→Led→Prop) (n:Nat) (h:P I n) (hd:D I n)
inductive CmpI(b:qe)(names:List Str)(C it:Addr)(E:Nat→Asn)(J:Nat→Led→Prop)(n m:Nat)(s:qe):Prop
 |mk (i:Nat) (fr:List (Str×Option Value)) (L3:Led) (hm:m=n-i) (hi:i≤n) (hfr:fr.map (·.1)=names) (H:St b s ((C,loc fr)::(it,E i)::L3)) (hI:J i L3)
inductive CmpE(b:qe)(names:List Str)(C:Addr)(J:Led→Prop)(s:qe):Prop
 |mk (fr:List (Str×Option Value)) (L3:Led) (hfr:fr.map (·.1)=names) (H:St b s ((C,loc fr)::L3)) (hI:J L3)
theorem W.compU{use:Option (Value→Sem Unit)}{elt target iter:Expr}{ifs:List Expr}{scope:Scope}(cl:List (Str×Addr))(names:List Str)
  (hs: ∀x,zE iter env x=qj x) (hclos:QA scope env=qj cl)
  (hd:(scope.kind== .function&&scope.names.all (fun x=>x.2 != .cell)&&scope.names.all (fun x=>x.2 != .local||scope.names.lookup x.1==some .local)&&decide names.Nodup)=true)
  (h:W b w A L (eval iter env) fun x L1=>ExC (CompH b w A env elt target ifs scope cl names x L1) fun I n=>
   (match use with
    |none=> ∀acc L2,I acc n L2→R (.ref acc) L2
    |some u=> ∀acc C fr L2,fr.map (·.1)=names→I acc n L2→W b w A ((C,loc fr)::L2) (u (.ref acc)) fun fz L3=> ∃fr' L4,Take L3 ((C,loc fr')::L4)∧R .none L4)):
  W b w A L (comprehension (.ListComp elt [⟨target,iter,ifs,0⟩] scope pos) scope env (firstIterPos [⟨target,iter,ifs,0⟩] pos) (newList []) false (eval iter env) use) R:=by
 simp-iota only [qt,beq_iff_eq,decide_eq_true_eq] at hd
 obtain ⟨⟨⟨h1,h2⟩,h3⟩,h4⟩:=hd
 have hcell: ∀x∈scope.names,x.2≠ .cell:=fun x hx=>by simpa using qz.mp h2 x hx
 have hnames: ∀x∈scope.names,x.2= .local→scope.names.lookup x.1=some .local:=fun x hx hl=>by
  have:=qz.mp h3 x hx
  simpa [hl] using this
 refine W.mk fun s H=> ?_
 refine wpAny_comprehension_free (e:= .ListComp elt [⟨target,iter,ifs,0⟩] scope pos) (cl:=cl) (g:=⟨target,iter,ifs,0⟩) (gs:= []) rfl hs hclos h1 hnames (h.then H fun x s1 L1 H1 hx=> ?_)
 obtain ⟨I,n,⟨V,Kp,⟨E,hE,hW⟩,⟨β,TT,hI⟩,hK,hT⟩,hD⟩:=hx
 refine (hW (fun itv L2=> ∃it,itv= .ref it∧L2=(it,E 0)::L1) (fun it=>⟨it,rfl,rfl⟩)).then H1 fun itv s2 L2 H2 ⟨it,e1,e2⟩=> ?_
 subst e1;subst e2
 unfold newList
 refine qM ?_ (by show ([]:List Value).toArray.size≤ji;simp)
 have H3:=H2.alloc (P:=isL TT []) (listO [] 0) rfl ⟨[],0,.nil,rfl⟩
 refine St.compEnv (names:=names) H3 hcell h1 h4 fun C s4 H4=> ?_
 obtain ⟨L2,tk,hI0⟩:=hI s2.heap.objs.size
 have H5:St b s4 ((C,loc (allNone names))::(it,E 0)::(s2.heap.objs.size,isL TT [])::L2):=
  H4.takes (.cons .head (.cons (.tail .head) (.cons .head tk)))
 have loop: ∀s4,St b s4 ((C,loc (allNone names))::(it,E 0)::(s2.heap.objs.size,isL TT [])::L2)→Qq (model pw w) A (.compLoop (.ListComp elt [⟨target,iter,ifs,0⟩] scope pos) 0 (.ref it) (.ref s2.heap.objs.size) (envC scope cl C env))
   (fun r s'=>match r with| .ok _=>CmpE b names C (I s2.heap.objs.size n) s'| .error _=>False) s4:=by
  intro s4 H5
  refine codeAny_compLoop_go (CmpI b names C it E (I s2.heap.objs.size) n) ?_ n ⟨0,allNone names,_,by omega,by omega,by simp [allNone,Function.comp_def],H5,hI0⟩
  rintro m s' ⟨i,fr,L3,rfl,hi,hfr,H',hI'⟩
  have H'':St b s' ((it,E i)::(C,loc fr)::L3):=H'.perm (zA _ _ _)
  by_cases hlt:i<n
  ·refine (hE.next i it ((C,loc fr)::L3) (fun r L4=> ∃v,r=some v∧V i v∧L4=(it,E (i+1))::(C,loc fr)::L3) hlt (hE.mono _ _ (hK _ i L3 hI')) (fun v hv=>⟨v,rfl,hv,rfl⟩)).then H'' fun r s6 L4 H6 ⟨v,e1,hv,e2⟩=> ?_
   subst e1;subst e2
   refine (hE.go target v (i+1) it ((C,loc fr)::L3) (fun fz L4=>L4=(it,E (i+1))::(C,loc fr)::L3) rfl).then H6 fun fz s6 L4 H6 e3=> ?_
   subst e3
   refine (hT _ C it (E (i+1)) i v L3 fr hlt hv hfr hI').then (H6.perm (zA _ _ _)) fun fz s7 L7 H7 h7=>h7.then H7 fun ok s8 L8 H8 h8=> ?_
   cases ok with
   |true=>
    rw [if_pos rfl]
    refine (h8.1 rfl).then H8 fun y s9 L9 H9 h9=>h9.then H9 fun fz s10 L10 H10 ⟨fr',L11,hf,tk',hI''⟩=> ?_
    exact ⟨n-(i+1),by omega,i+1,fr',L11,rfl,hlt,hf,H10.takes tk',hI''⟩
   |false=>
    rw [if_neg qx]
    obtain ⟨fr',L11,hf,tk',hI''⟩:=h8.2 rfl
    exact ⟨n-(i+1),by omega,i+1,fr',L11,rfl,hlt,hf,H8.takes tk',hI''⟩
  ·have e:i=n:=by omega
   subst e
   refine (hE.done it ((C,loc fr)::L3) (fun r L4=>r=none∧L4=(C,loc fr)::L3) (hE.mono _ _ (hK _ _ L3 hI')) ⟨rfl,rfl⟩).then H'' fun r s6 L4 H6 ⟨e1,e2⟩=> ?_
   subst e1;subst e2
   exact ⟨fr,L3,hfr,H6,hI'⟩
 have hsc:({newEnv scope C env.globals cl env.qual none .none (some env) QR with scope:=relabel scope env}:Env)=envC scope cl C env:=rfl
 rw [hsc]
 refine vP (codeAny_compStart_list (loop s4 H5) ?_) fun r s' hr=> ?_
 ·refine (hE.self 0 it ((C,loc (allNone names))::(s2.heap.objs.size,isL TT [])::L2) (fun v L4=>v= .ref it∧L4=(it,E 0)::(C,loc (allNone names))::(s2.heap.objs.size,isL TT [])::L2) ⟨rfl,rfl⟩).then (H5.perm (zA _ _ _)) fun v s5 L5 H6 ⟨e1,e2⟩=> ?_
  subst e1;subst e2
  exact loop s5 (H6.perm (zA _ _ _))
 ·cases r with
  |error e=>exact hr.elim
  |ok f=>
   obtain ⟨fr,L3,hfr,H',hI'⟩:=hr
   cases use with
   |none=>
    have hns:=H'.ns (.head _)
    exact ⟨_,hns.1,fun h' hs'=>⟨L3,H'.gone hs'.extBut s'.toks,hD _ L3 hI'⟩⟩
   |some u=>
    refine (hD _ C fr L3 hfr hI').then H' fun fz s'' L4 H'' ⟨fr',L5,tk',hR⟩=> ?_
    have H3:=H''.takes tk'
    have hns:=H3.ns (.head _)
    exact ⟨_,hns.1,fun h' hs'=>⟨L5,H3.gone hs'.extBut s''.toks,hR⟩⟩
theorem W.compL{elt target iter:Expr}{ifs:List Expr}{scope:Scope}(cl:List (Str×Addr))(names:List Str)
  (hs: ∀x,zE iter env x=qj x) (hclos:QA scope env=qj cl)
  (hd:(scope.kind== .function&&scope.names.all (fun x=>x.2 != .cell)&&scope.names.all (fun x=>x.2 != .local||scope.names.lookup x.1==some .local)&&decide names.Nodup)=true)
  (h:W b w A L (eval iter env) fun x L1=>ExC (CompH b w A env elt target ifs scope cl names x L1) fun I n=> ∀acc L2,I acc n L2→R (.ref acc) L2):
  W b w A L (eval (.ListComp elt [⟨target,iter,ifs,0⟩] scope pos) env) R:=by
 rw [eval_ListComp]
 exact W.compU (use:=none) cl names hs hclos hd h
theorem W.asgC{x:Str}{pos' spos:Pos}{rest:List Stmt}{elt target iter:Expr}{ifs:List Expr}{scope:Scope}(cl:List (Str×Addr))(names:List Str)
  (hsw:swapsWith (.ListComp elt [⟨target,iter,ifs,0⟩] scope pos) (some (.Name x pos')) spos.line env=qj true)
  (hs: ∀x,zE iter env x=qj x) (hclos:QA scope env=qj cl)
  (hd:(scope.kind== .function&&scope.names.all (fun x=>x.2 != .cell)&&scope.names.all (fun x=>x.2 != .local||scope.names.lookup x.1==some .local)&&decide names.Nodup)=true)
  (h:W b w A L (eval iter env) fun xv L1=>ExC (CompH b w A env elt target ifs scope cl names xv L1) fun I n=>
   ∀acc C fr L2,fr.map (·.1)=names→I acc n L2→W b w A ((C,loc fr)::L2) (Qi env x (.ref acc)) fun fz L3=> ∃fr' L4,Take L3 ((C,loc fr')::L4)∧W b w A L4 (execs rest env) Q):
  W b w A L (execs (.Assign [.Name x pos'] (.ListComp elt [⟨target,iter,ifs,0⟩] scope pos) spos::rest) env) Q:=by
 refine W.seq ?_
 rw [arm_exec_Assign]
 refine W.bind (W.stand (W.bind (W.eq hsw (W.pure ?_))))
 rw [if_pos rfl]
 refine W.bind ?_
 have e:evalThenUse (.ListComp elt [⟨target,iter,ifs,0⟩] scope pos) env (fun v=>assignAll v ((assignEach [.Name x pos'] env).map (·.2)))=(do
  let _ ←comprehension (.ListComp elt [⟨target,iter,ifs,0⟩] scope pos) scope env (firstIterPos [⟨target,iter,ifs,0⟩] pos) (newList []) false (eval iter env) (some fun v=>assignAll v ((assignEach [.Name x pos'] env).map (·.2)))):=rfl
 rw [e]
 refine W.bind (W.compU (R:=fun fz L4=>W b w A L4 (execs rest env) Q) (use:=some _) cl names hs hclos hd (h.mono fun x L1 hx=>hx.casesOn fun I n hc h5=>⟨I,n,hc,fun acc C fr L2 hfr hI=> ?_⟩)|>.mono fun fz L4 h4=>W.pure (W.pure h4))
 exact W.mk fun s H=>jK ((h5 acc C fr L2 hfr hI).run s H)
end
end
section
noncomputable def isCell(v:Option Value):Asn:=fun o=>o.data= .cell v
inductive Lk{α:Type}:List (Str×α)→Str→α→Prop
 |head {x c r}:Lk ((x,c)::r) x c
 |tail {x y c d r}:(x==y)=false→Lk r x c→Lk ((y,d)::r) x c
theorem Lk.eq{α:Type}{l:List (Str×α)}{x:Str}{c:α}(h:Lk l x c):l.lookup x=some c:=by
 induction h with
 |head=>simp
 |tail h1 _ ih=>rw [zD,h1];exact ih
section
variable{b:qe}{w:World}{A:qq}{L L':Led}{env:Env}{pos:Pos}{R:Value→Led→Prop}{Q:Flow→Led→Prop}
theorem W.ldcn{x:Str}{c:Addr}{v:Value}(hk:(env.scope.kind== .function&&(env.kindOf x==some .cell||env.kindOf x==some .free)&& !(x==("__classdict__":Str)))=true)(hc:Lk env.cells x c)(hm:Mm (c,isCell (some v)) L)(q:R v L):W b w A L (loadName env x) R:=W.mk fun s H=>by
 simp-iota only [qt,beq_iff_eq,Bool.or_eq_true,zY] at hk
 obtain ⟨⟨h1,h2⟩,h3⟩:=hk
 obtain ⟨o,ho,hd⟩:=H.own _ hm.mem
 rcases h2 with h2|h2
 ·exact wpAny_loadName_cell h1 h2 hc.eq ⟨o,ho,hd⟩ ⟨L,H,q⟩
 ·exact wpAny_loadName_free h1 h2 hc.eq ⟨o,ho,hd⟩ ⟨L,H,q⟩ h3
theorem W.ldc{x:Str}{c:Addr}{v:Value}(hk:(env.scope.kind== .function&&(env.kindOf x==some .cell||env.kindOf x==some .free)&& !(x==("__classdict__":Str)))=true)(hd:(x==("__debug__":Str))=false)(hc:Lk env.cells x c)(hm:Mm (c,isCell (some v)) L)(q:R v L):W b w A L (eval (.Name x pos) env) R:=
 W.name hd (W.ldcn hk hc hm q)
theorem W.stc{x:Str}{c:Addr}{v:Value}{v0:Option Value}{Q:Unit→Led→Prop}(hk:(env.scope.kind== .function&&env.kindOf x==some .cell)=true)(hc:Lk env.cells x c)(hu:Upd L c (isCell v0) (isCell (some v)) L')(q:Q () L'):W b w A L (Qi env x v) Q:=W.mk fun s H=>by
 simp-iota only [qt,beq_iff_eq] at hk
 obtain ⟨o,ho,hd⟩:=H.own _ hu.mem
 exact wpAny_storeName_cell hk.1 hk.2 hc.eq ⟨o,ho,hd⟩ fun h' ⟨o',ho',hd'⟩ hs=>⟨L',H.same hu hs ⟨o',ho',hd'⟩ s.toks,q⟩
theorem St.exts{s:qe}{h':Heap}{t:Nat}(H:St b s L)(hk: ∀c o,s.heap.get? c=some o→h'.get? c=some o): ∀(cs:Led),(∀p∈cs,s.heap.objs.size≤p.1)→(∀p∈cs,∃o,h'.get? p.1=some o∧p.2 o)→(cs.map (·.1)).Nodup→St b {s with heap:=h',toks:=t} (cs++L):=by
 intro cs h1 h2 h3
 refine ⟨H.old.step_keeps hk,H.lim.keeps hk,H.os,H.gens,H.gk,H.top,H.stat,H.st0k (hk _),H.tabs.keeps (fun c o fz e=>hk c o e),H.lam.keeps H.tabs (fun c o fz e=>hk c o e) (fun x hx=> ?_),fun p hp=> ?_,?_,fun p hp=> ?_⟩
 ·rw [qB] at hx
  rcases qO.mp hx with hx|hx
  ·obtain ⟨p,hp,rfl⟩:=qw.mp hx
   exact .inr (Heap.get?_none_of_le (h1 p hp))
  ·exact .inl hx
 ·rcases qO.mp hp with hp|hp
  ·exact .of (h2 p hp)
  ·obtain ⟨o,ho,h⟩:=H.own p hp
   exact ⟨o,hk _ _ ho,h⟩
 ·rw [qB,List.nodup_append]
  refine ⟨h3,H.nd,fun a ha c hc e=> ?_⟩
  subst e
  obtain ⟨p,hp,rfl⟩:=qw.mp ha
  obtain ⟨q,hq,e⟩:=qw.mp hc
  obtain ⟨o,ho,_⟩:=H.own q hq
  have:=zi ho
  rw [e] at this
  exact zO _ (ql this (h1 p hp))
 ·rcases qO.mp hp with hp|hp
  ·exact qg H.size (h1 p hp)
  ·exact H.fresh p hp
theorem bindL_look{k:Str→Option NameKind}: ∀(binds:List (Str×Value)) (m:Str→Option Value) (n:Str),bindL k binds m n=((binds.filter fun x=>k x.1==some .local).reverse.lookup n).or (m n)
 | [],m,n=>by simp [bindL]
 |(x,v)::r,m,n=>by
  unfold bindL
  rw [bindL_look r]
  by_cases h:k x=some .local
  ·simp-iota only [h,if_true,jl,beq_self_eq_true,zX,List.lookup_append]
   by_cases e:n=x
   ·subst e;simp [List.lookup]
   ·have:(n==x)=false:=by simpa using e
    simp [List.lookup,e,this]
  ·have h':(k x==some .local)=false:=by simpa using h
   simp-iota only [h,if_false,jl,h',qT]
theorem bindC_look{k:Str→Option NameKind}: ∀(binds:List (Str×Value)) (m:Str→Option Value) (n:Str),bindC k binds m n=((binds.filter fun x=> !(k x.1==some .local)).reverse.lookup n).or (m n)
 | [],m,n=>by simp [bindC]
 |(x,v)::r,m,n=>by
  unfold bindC
  rw [bindC_look r]
  by_cases h:k x=some .local
  ·simp [h,jl]
  ·have h':(k x==some .local)=false:=by simpa using h
   simp-iota only [h,if_false,jl,h',Bool.not_false,if_true,zX,List.lookup_append]
   by_cases e:n=x
   ·subst e;simp [List.lookup]
   ·have:(n==x)=false:=by simpa using e
    simp [List.lookup,e,this]
theorem W.fnC{f:Addr}{fd:vS}{body:List Stmt}{args:List Value}{kw:List (Str×Value)}{m:Nat}(binds lb cb:List (Str×Value))(rest:List Str)(fr:List (Str×Option Value))(cf:Nat→List (Str×Addr))(cl:Nat→Led→Led)(K:Kn b)(hf:Mm (f,fd) fns)(hA:Rm (m+1) A)
  (hbody:fd.body= .stmts body) (hbind: ∀s,St b s L→BindsTo s fd ⟨args,kw⟩ binds)
  (hlb:binds.filter (fun x=>fd.scope.names.lookup x.1==some .local)=lb) (hcb:binds.filter (fun x=> !(fd.scope.names.lookup x.1==some .local))=cb) (hfr:frame0 lb rest=fr)
  (hcs: ∀k,cellsFrom (k+1) fd.scope.names []=cf k) (hcl: ∀k M,(cf k).map (fun p=>(p.2,isCell (cb.reverse.lookup p.1)))++M=cl k M)
  (hck: ∀k,cb.all (fun x=>fd.scope.names.lookup x.1==some .cell&&((cf k).lookup x.1).isSome)=true) (hcn: ∀k,(cf k).all (fun p=>(cf k).lookup p.1==some p.2)=true)
  (hd:(!fd.scope.isCoroutine&& !fd.scope.isGenerator&&(fd.scope.kind== .function)&&decide (fr.map (·.1)).Nodup&&(fd.globals==3)&&(fd.builtins==0)&&fd.closure.isEmpty)=true)
  (h: ∀La A',Rm m A'→W b w A' ((La,loc fr)::cl La L) (execs body (envF fd La f (cf La))) (FinQ R)):
  W b w A L (call (.ref f) args kw) R:=W.mk fun s H=>by
 simp-iota only [qt,zY,decide_eq_true_eq,beq_iff_eq,List.isEmpty_iff] at hd
 obtain ⟨⟨⟨⟨⟨⟨h3,h4⟩,h5⟩,h6⟩,h7⟩,h8⟩,h9⟩:=hd
 obtain ⟨c,vs,t,e1,e2,e3⟩:=K.code _ hf.mem
 have hd':A.depth<recursionLimit:=by
  have:=hA.depth
  show A.depth<1000
  omega
 refine zL (codeAny_call_function hd' (H.base (K.fn _ hf.mem) (by intro h;cases h)) rfl h3 h4 hbody ⟨c,_,vs,t,e1,H.base e2 (by intro h;cases h),rfl,e3⟩ (hbind s H _ _ _ _ ?_))
 rw [h9]
 refine wpAny_newFunctionEnv_cells h5 (fun x hx=> ?_) fun env he s' x=> ?_
 ·by_cases hl:fd.scope.names.lookup x.1=some .local
  ·exact .inl hl
  ·have hx':x∈cb:=by
    rw [←hcb]
    exact Qt.mpr ⟨hx,by simpa using hl⟩
   have:=qz.mp (hck s.heap.objs.size) x hx'
   simp-iota only [qt,beq_iff_eq] at this
   refine .inr ⟨this.1,?_⟩
   rw [hcs];exact this.2
 ·have he':env=envF fd s.heap.objs.size f (cf s.heap.objs.size):=by
   rw [he,hcs]
   unfold newEnv
   rw [h7,h8]
  subst he'
  obtain ⟨h₁,tk,es⟩:=x.toInCall.same
  subst es
  have hn:=x.toInCall.ns
  have hk:=x.toInCall.keep
  have hcell:=x.cell
  have hap:=x.apart
  have hab:=x.above
  have H':St b {s with heap:=h₁,toks:=tk} ((s.heap.objs.size,loc fr)::cl s.heap.objs.size L):=by
   rw [←hcl]
   show St b {s with heap:=h₁,toks:=tk} (((s.heap.objs.size,loc fr)::(cf s.heap.objs.size).map (fun p=>(p.2,isCell (cb.reverse.lookup p.1))))++L)
   refine H.exts hk _ (fun p hp=> ?_) (fun p hp=> ?_) ?_
   ·rcases qH.mp hp with rfl|hp
    ·exact zg _
    ·obtain ⟨q,hq,rfl⟩:=qw.mp hp
     exact qv (hab q.1 q.2 hq)
   ·rcases qH.mp hp with rfl|hp
    ·obtain ⟨o,es,ep,ho,hd,hks,hf⟩:=hn
     refine ⟨o,ho,⟨es,ep,hd,hks,fun m=>(hf m).trans ?_⟩,h6⟩
     have:=frame0_look lb rest (by rw [hfr];exact h6) m
     rw [hfr] at this
     rw [this,bindL_look]
     have e:(binds.filter fun x=>(envF fd s.heap.objs.size f (cf s.heap.objs.size)).kindOf x.1==some .local)=lb:=hlb
     rw [e,Option.or_none]
    ·obtain ⟨q,hq,rfl⟩:=qw.mp hp
     have hl:=qz.mp (hcn s.heap.objs.size) q hq
     simp-iota only [beq_iff_eq] at hl
     obtain ⟨o,ho,hd⟩:=hcell q.1 q.2 hl
     refine ⟨o,ho,?_⟩
     show o.data=_
     rw [hd,bindC_look]
     have e:(binds.filter fun x=> !((envF fd s.heap.objs.size f (cf s.heap.objs.size)).kindOf x.1==some .local))=cb:=hcb
     rw [e,Option.or_none]
   ·rw [qR,zu]
    constructor
    ·intro hm
     obtain ⟨p,hp,e⟩:=qw.mp hm
     obtain ⟨q,hq,rfl⟩:=qw.mp hp
     exact absurd e (Nat.ne_of_gt (hab q.1 q.2 hq))
    ·rw [zf]
     exact List.pairwise_map.mpr (hap.imp fun h=>h)
  refine ⟨H.lim.keeps hk,codeAny_func ?_⟩
  exact (h _ _ hA.deeper).then H' fun fl s' L' H2 ⟨L2,ht,hq⟩=>⟨L2,H2.takes ht,hq⟩
end
end
section
section
variable{b:qe}{w:World}{A:qq}{L L':Led}{env:Env}{pos:Pos}{R:Value→Led→Prop}{Q:Flow→Led→Prop}{α:Type}{T:α→Value→Prop}{ds:List α}{l:Addr}
theorem W.exprS{e:Expr}{rest:List Stmt}(hi:interactive env=false∧swapsWith e none pos.line env=qj false)(h:W b w A L (eval e env) (KU b w A env rest Q)):W b w A L (execs (.Expr e pos::rest) env) Q:=
 W.seq<|W.mk fun s H=>wpAny_Expr_any (h.then H fun fz fz L1 H1 h1=>⟨L1,H1,h1⟩) hi.1 hi.2
theorem W.toTgt{x:Str}{v:Value}{Q:Unit→Led→Prop}(h:W b w A L (Qi env x v) Q):W b w A L (QS (.Name x pos) env v) Q:=W.mk fun s H=>jK (h.run s H)
theorem W.callN3{x:Str}{xp:Pos}{e e2 e3:Expr}(hs:zB [e,e2,e3] env= [(false,eval e env),(false,eval e2 env),(false,eval e3 env)])
  (h:W b w A L (eval (.Name x xp) env) (KA3 b w A env e e2 e3 R)):
  W b w A L (eval (.Call (.Name x xp) [e,e2,e3] [] pos) env) R:=
 W.callF rfl (trees:= [(false,eval e env),(false,eval e2 env),(false,eval e3 env)]) (by rw [hs];rfl) rfl (h.mono fun fz fz h1=>W.sp (h1.mono fun fz fz h2=>W.sp (h2.mono fun fz fz h3=>W.sp (h3.mono fun fz fz h4=>W.sp0 h4))))
theorem W.callN5{x:Str}{xp:Pos}{e e2 e3 e4 e5:Expr}(hs:zB [e,e2,e3,e4,e5] env= [(false,eval e env),(false,eval e2 env),(false,eval e3 env),(false,eval e4 env),(false,eval e5 env)])
  (h:W b w A L (eval (.Name x xp) env) fun f L1=>W b w A L1 (eval e env) fun v L2=>W b w A L2 (eval e2 env) fun v2 L3=>W b w A L3 (eval e3 env) fun v3 L4=>W b w A L4 (eval e4 env) fun v4 L5=>W b w A L5 (eval e5 env) fun v5 L6=>KprL b w L6 f∧W b w A L6 (call f [v,v2,v3,v4,v5]) R):
  W b w A L (eval (.Call (.Name x xp) [e,e2,e3,e4,e5] [] pos) env) R:=
 W.callF rfl (trees:= [(false,eval e env),(false,eval e2 env),(false,eval e3 env),(false,eval e4 env),(false,eval e5 env)]) (by rw [hs];rfl) rfl (h.mono fun fz fz h1=>W.sp (h1.mono fun fz fz h2=>W.sp (h2.mono fun fz fz h3=>W.sp (h3.mono fun fz fz h4=>W.sp (h4.mono fun fz fz h5=>W.sp (h5.mono fun fz fz h6=>W.sp0 h6))))))
noncomputable abbrev WB(b:qe)(w:World)(A:qq)(env:Env)(rest:List Stmt)(Q:Flow→Led→Prop)(I:Nat→Led→Prop)(n:Nat):Flow→Led→Prop:=fun f L2=>match f with
 | .next| .cont=> ∃m L3,m<n∧Take L2 L3∧I m L3
 | .brk=>W b w A L2 (execs rest env) Q| .ret v=>Q (.ret v) L2
theorem W.whileG{test:Expr}{rest body:List Stmt}(I:Nat→Led→Prop)(n:Nat)(h0: ∃L1,Take L L1∧I n L1)
  (h: ∀n L,I n L→W b w A L (isTrue test env (eval test env)) fun c L1=>(c=true→W b w A L1 (execs body env) (WB b w A env rest Q I n))∧(c=false→W b w A L1 (execs rest env) Q)):
  W b w A L (execs (.While test body [] pos::rest) env) Q:=by
 refine W.whileC (fun m L2=> ∃L3,Take L2 L3∧I m L3) n h0 fun m L2 ⟨L3,tk,hI⟩=> ?_
 refine W.take ((h m L3 hI).mono fun c L4 h4=>⟨fun hc=>(h4.1 hc).mono fun f L5 h5=> ?_,h4.2⟩) tk
 cases f with
 |next=>obtain ⟨m,L6,h6,h7,h8⟩:=h5;exact ⟨m,h6,L6,h7,h8⟩
 |cont=>obtain ⟨m,L6,h6,h7,h8⟩:=h5;exact ⟨m,h6,L6,h7,h8⟩
 |brk=>exact h5
 |ret v=>exact h5
theorem tooBig_small{a i:Int}{n:Nat}(ha:2≤a)(ha':a≤7)(hb:i=n)(hn:n≤8): ¬Builtin.Int.intTooBig (((Builtin.Int.intBits a:Nat):Int)*i)=true:=by
 subst hb
 have h1: ∀m:Nat,m<6→ ∀k:Nat,k<9→Builtin.Int.intTooBig (((Builtin.Int.intBits ((m+2:Nat):Int):Nat):Int)*(k:Nat))=false:=by decide+kernel
 have:=h1 (a-2).toNat (by exact Ar.i3 (jZ (Int.sub_le_sub_right ha' 2) (by decide)) rfl) n (by omega)
 have e:(((a-2).toNat+2:Nat):Int)=a:=by exact (congrArg (· +2) (vz (Int.sub_nonneg_of_le ha))).trans (Int.sub_add_cancel _ _)
 rw [e] at this
 rw [this];exact qx
theorem W.powI{x:Int}{n:Nat}{i:Int}{t u:Tok}(hx:2≤x∧x≤7)(hi:i=n)(hn:n≤8)(h: ∀v,R (.int (x^ n) v) L):W b w A L (binaryOp .Pow (.int x t) (.int i u)) R:=W.mk fun s H=>by
 subst hi
 by_cases h0:n=0
 ·subst h0
  exact AutoIntOps.pow_0 (by omega) rfl ⟨L,H.tok _,by simpa using h s.toks⟩
 ·refine AutoIntOps.pow_4 (by omega) ?_ ?_ ?_ (tooBig_small hx.1 hx.2 rfl hn) ⟨L,H.tok _,h _⟩
  ·simp;omega
  ·simp;exact ⟨fun e=>absurd (e▸hx.1) (by decide),fun e=>absurd (e▸hx.1) (by decide)⟩
  ·simp;exact fun e=>absurd (e▸hx.1) (by decide)
theorem W.ifs0{cenv:Env}{P:Bool→Led→Prop}(h:P true L):W b w A L (tstS [] cenv) P:=
 W.mk fun fz H=>wpAny_tests_nil ⟨L,H,h⟩
theorem W.ifs1{cenv:Env}{c:Expr}{P:Bool→Led→Prop}(h:W b w A L (isTrue c cenv (eval c cenv)) P):W b w A L (tstS [c] cenv) P:=
 W.mk fun s H=>wpAny_tests_one (h.run s H)
end
theorem names1{fr:List (Str×Option Value)}{x:Str}(h:fr.map (·.1)= [x]): ∃u,fr= [(x,u)]:=by
 obtain ⟨⟨a,u⟩,r,rfl,rfl,h2⟩:=List.map_eq_cons_iff.mp h
 exact ⟨u,by rw [List.map_eq_nil_iff.mp h2]⟩
theorem names2{fr:List (Str×Option Value)}{x y:Str}(h:fr.map (·.1)= [x,y]): ∃u v,fr= [(x,u),(y,v)]:=by
 obtain ⟨⟨a,u⟩,r,rfl,rfl,h2⟩:=List.map_eq_cons_iff.mp h
 exact ⟨u,(names1 h2).elim fun v e=>⟨v,by rw [e]⟩⟩
theorem names3{fr:List (Str×Option Value)}{x y z:Str}(h:fr.map (·.1)= [x,y,z]): ∃u v t,fr= [(x,u),(y,v),(z,t)]:=by
 obtain ⟨⟨a,u⟩,r,rfl,rfl,h2⟩:=List.map_eq_cons_iff.mp h
 exact ⟨u,(names2 h2).elim fun v h=>h.elim fun t e=>⟨v,t,by rw [e]⟩⟩
noncomputable def rowsL(as:List Addr)(rs:List (List Int)):Led:=List.zipWith (fun a r=>(a,isL VI r)) as rs
theorem rowsL_mem: ∀{as:List Addr} {rs:List (List Int)} {i:Nat} {a:Addr} {r:List Int},as[i]? =some a→rs[i]? =some r→Mm (a,isL VI r) (rowsL as rs)
 | [],_,i,_,_,h,_=>by simp at h
 |_::_,[],i,_,_,_,h=>by simp at h
 |a::as,r::rs,0,_,_,h1,h2=>by simp at h1 h2;subst h1;subst h2;exact .head
 |a::as,r::rs,i+1,_,_,h1,h2=> .tail (rowsL_mem (by simpa using h1) (by simpa using h2))
theorem Mm.inl{α:Type}{a:α}{l m:List α}(h:Mm a l):Mm a (l++m):=by
 induction h with
 |head=>exact .head
 |tail _ ih=>exact .tail ih
theorem Mm.inr{α:Type}{a:α}{l m:List α}(h:Mm a m):Mm a (l++m):=by
 induction l with
 |nil=>exact h
 |cons _ _ ih=>exact .tail ih
theorem Upd.inl{L M:Led}{a:Addr}{P P':Asn}{L':Led}(h:Upd L a P P' L'):Upd (L++M) a P P' (L'++M):=by
 induction h with
 |head=>exact .head
 |tail _ ih=>exact .tail ih
theorem Upd.inr{L M:Led}{a:Addr}{P P':Asn}{M':Led}(h:Upd M a P P' M'):Upd (L++M) a P P' (L++M'):=by
 induction L with
 |nil=>exact h
 |cons _ _ ih=>exact .tail ih
theorem rowsL_set: ∀{as:List Addr} {rs:List (List Int)} {i:Nat} {a:Addr} {r r':List Int},as[i]? =some a→rs[i]? =some r→Upd (rowsL as rs) a (isL VI r) (isL VI r') (rowsL as (rs.set i r'))
 | [],_,i,_,_,_,h,_=>by simp at h
 |_::_,[],i,_,_,_,_,h=>by simp at h
 |a::as,r::rs,0,_,_,_,h1,h2=>by simp at h1 h2;subst h1;subst h2;exact .head
 |a::as,r::rs,i+1,_,_,_,h1,h2=> .tail (rowsL_set (by simpa using h1) (by simpa using h2))
theorem Pick.inr{L M:Led}{p:Addr×Asn}{M':Led}(h:Pick M p M'):Pick (L++M) p (L++M'):=by
 induction L with
 |nil=>exact h
 |cons _ _ ih=>exact .tail ih
theorem rowsL_snoc: ∀{as:List Addr} {rs:List (List Int)} {a:Addr} {r:List Int},as.length=rs.length→rowsL (as++ [a]) (rs++ [r])=rowsL as rs++ [(a,isL VI r)]:=fun h=>List.zipWith_append h
end
noncomputable def wit{α:Type u}(i:Nonempty α)(P:α→Prop):α:=@Classical.epsilon α i fun x=> ¬P x
theorem hk{α:Type u}{i:Nonempty α}{P:α→Prop}(h:P (wit i P)): ∀x,P x:=fun x=>Qr fun hx=>Classical.epsilon_spec (p:=fun x=> ¬P x) ⟨x,hx⟩ h
theorem hkX{p G:Prop}(h:p)(k:p→G):G:=k h
theorem hkEx{α:Sort u}{p:α→Prop}{G:Prop}(h: ∀a,p a→G):(∃a,p a)→G:=fun ⟨a,ha⟩=>h a ha
theorem hkAnd{p q:Prop}{G:Prop}(h:p→q→G):p∧q→G:=fun ⟨a,b⟩=>h a b
theorem neS:Nonempty qe:=⟨{}⟩
theorem neA:Nonempty qq:=⟨{}⟩
theorem neW:Nonempty World:=⟨⟨fun fz fz=>0,⟨fun fz=>0,fun fz=>0,id,fun fz=>0,fun fz fz=>0,fun fz=>false,fun fz=>0,.refcount,.text,fun fz=>0,fun fz=>none,fun fz=>false,fun fz fz fz=>true,fun fz fz fz=>false,true,fun fz=>false,fun fz=>none,fun fz=>none,fun fz fz fz=>0,fun fz fz=>none,fun fz=>none,fun fz=>(0,false,qb ""),fun fz=>none,id,fun fz=>false⟩⟩⟩
theorem hk0{α:Type u}{G:Prop}(h:G):α→G:=fun fz=>h
theorem hkN{α:Type u}{G:Prop}(h:α→G):α→G:=h
theorem nilc{α:Type u}: ∀l:List α,l= []∨ ∃a r,l=a::r
 | []=> .inl rfl
 |a::r=> .inr ⟨a,r,rfl⟩
theorem nePr{α β:Type}(a:Nonempty α)(b:Nonempty β):Nonempty (α×β):=a.elim fun a=>b.elim fun b=>⟨(a,b)⟩
noncomputable def w2{α β:Type}(i:Nonempty (α×β))(P:α→β→Prop):α×β:=wit i fun p=>P p.1 p.2
theorem hk2{α β:Type}{i:Nonempty (α×β)}{P:α→β→Prop}(h:P (w2 i P).1 (w2 i P).2): ∀a b,P a b:=fun a b=>hk (i:=i) (P:=fun p=>P p.1 p.2) h (a,b)
noncomputable def w4{α β γ δ:Type}(i:Nonempty (α×β×γ×δ))(P:α→β→γ→δ→Prop):α×β×γ×δ:=wit i fun p=>P p.1 p.2.1 p.2.2.1 p.2.2.2
theorem hk4{α β γ δ:Type}{i:Nonempty (α×β×γ×δ)}{P:α→β→γ→δ→Prop}(h:P (w4 i P).1 (w4 i P).2.1 (w4 i P).2.2.1 (w4 i P).2.2.2): ∀a b c d,P a b c d:=fun a b c d=>hk (i:=i) (P:=fun p=>P p.1 p.2.1 p.2.2.1 p.2.2.2) h (a,b,c,d)
noncomputable def w8{α β γ δ α' β' γ' δ':Type}(i:Nonempty (α×β×γ×δ×α'×β'×γ'×δ'))(P:α→β→γ→δ→α'→β'→γ'→δ'→Prop):α×β×γ×δ×α'×β'×γ'×δ':=wit i fun p=>P p.1 p.2.1 p.2.2.1 p.2.2.2.1 p.2.2.2.2.1 p.2.2.2.2.2.1 p.2.2.2.2.2.2.1 p.2.2.2.2.2.2.2
theorem hk8{α β γ δ α' β' γ' δ':Type}{i:Nonempty (α×β×γ×δ×α'×β'×γ'×δ')}{P:α→β→γ→δ→α'→β'→γ'→δ'→Prop}(h:P (w8 i P).1 (w8 i P).2.1 (w8 i P).2.2.1 (w8 i P).2.2.2.1 (w8 i P).2.2.2.2.1 (w8 i P).2.2.2.2.2.1 (w8 i P).2.2.2.2.2.2.1 (w8 i P).2.2.2.2.2.2.2): ∀a b c d e f g h,P a b c d e f g h:=fun a b c d e f g h'=>hk (i:=i) (P:=fun p=>P p.1 p.2.1 p.2.2.1 p.2.2.2.1 p.2.2.2.2.1 p.2.2.2.2.2.1 p.2.2.2.2.2.2.1 p.2.2.2.2.2.2.2) h (a,b,c,d,e,f,g,h')
@[elab_as_elim] theorem rwL {α:Sort u} {motive:α→Prop} {a b:α} (h:a=b) (k:motive b):motive a:=h▸k
@[elab_as_elim] theorem rwR {α:Sort u} {motive:α→Prop} {a b:α} (h:a=b) (k:motive a):motive b:=h▸k
def neT : String := "[ Mine.neS X Mine.neW X Mine.neA X inferInstance X Mine.nePr ? ? #2 R Nonempty.intro Lean.Parser.Tactic.constructor:constructor default X * ; B #1 X O * . ;"
open Lean in
def fx (xs : Array Syntax) : TSyntax `tactic :=
  let x := xs[0]!
  let r := xs.extract 1 xs.size
  let fxs (a : Array Syntax) : Syntax := if a.isEmpty then (q "Lean.Parser.Tactic.skip:skip").raw else (q "f" a).raw
  let isV (x : Syntax) : Bool := x.isIdent && x.getId != `rfl
  let ids := (xs.toList.takeWhile isV).length
  if x.isOfKind ``Parser.Term.anonymousCtor then
    let ps := x[1].getSepArgs
    let p := ps[0]!
    let t := ps.extract 1 ps.size
    let tup (a : Array Syntax) : Syntax := .node .none ``Parser.Term.anonymousCtor #[mkAtom "⟨", .node .none nullKind (mkSepArray a (mkAtom ",")), mkAtom "⟩"]
    let two := if t.size ≤ 1 then #[p] ++ t else #[p, tup t]
    let c := "zz zz.casesOn ? #1 F R Lean.Parser.Tactic.clear:clear ; "
    if t.isEmpty then q (c ++ "$0 ; $1 ;") #[fxs #[p], fxs r]
    else q ("[ Mine.hkEx ? #1 R $0 ; Mine.hkAnd ? #1 R $0 ; " ++ c ++ "$1 ; " ++ c ++ "$0 ; " ++ c ++ "$2 ; O $3 ;") #[fxs two, fxs (#[p] ++ t), fxs (#[p, t[0]!] ++ if t.size > 1 then #[tup (t.extract 1 t.size)] else #[]), fxs r]
  else if isV x then
    let one := q ("[ Mine.hkN @ _ _ $0 ? F #3 R r Mine.hk @ _ ? _ ? #4 R " ++ neT ++ " Mine.wit _ _ #2 $0 g ; r $0 ? F @ R O $1 ;") #[x, fxs r]
    let k := if ids ≥ 8 then 8 else if ids ≥ 4 then 4 else 2
    if ids < 2 then one else
    let u := (List.range k).foldl (fun u _ => "[ Mine.hkN @ _ _ ? #3 R _ ? F @ R " ++ u ++ " ; O") "Lean.Parser.Tactic.fail:fail"
    let g := (List.range k).foldl (fun (g, p) j => (g ++ (if j + 1 < k then "Prod.fst " ++ p ++ " #1 " else p ++ " ") ++ "$" ++ toString j ++ " g ; ", "Prod.snd " ++ p ++ " #1")) ("", "Mine.w" ++ toString k ++ " _ _ #2")
    q ("[ " ++ u ++ " ! r Mine.hk" ++ toString k ++ " @ " ++ String.join ((List.range k).map fun _ => "_ ") ++ "? _ ? #" ++ toString (k + 3) ++ " R " ++ neT ++ " " ++ g.1 ++ "r ; $" ++ toString k ++ " ; $" ++ toString (k + 1) ++ " O") (xs.extract 0 k ++ #[fxs (xs.extract k xs.size), (q "$0 $1 ;" #[fxs (xs.extract 0 (k / 2)), fxs (xs.extract (k / 2) xs.size)]).raw])
  else if x.isIdent then q ("zz ? F R [ Lean.Parser.Tactic.subst:subst Lean.Parser.Tactic.cases:cases O ; $0 ;") #[fxs r]
  else q ("[ Mine.hk0 @ _ _ ? #3 R r Mine.hk @ _ ? _ ? #4 R " ++ neT ++ " Mine.wit _ _ #2 ~ g ; r fz ? F @ R O $0 ;") #[fxs r]
local macro_rules | `(tactic| funext $xs:term*) => return fx (xs.map (·.raw))
local macro_rules | `(tactic| tb_rel) => return q ("[ Lean.Parser.Tactic.assumption:assumption " ++ al "Mine." "P" "" "Mm.head Upd.head Put.head Pick.head Lk.head Mm.a1 Mm.a2 Mm.a3 Mm.a4 Mm.a5 Mm.a6 Mm.a7 Mm.a8 Mm.a9 Upd.a1 Upd.a2 Upd.a3 Upd.a4 Upd.a5 Upd.a6 Upd.a7 Upd.a8 Upd.a9 Put.a1 Put.a2 Put.a3 Put.a4 Put.a5 Put.a6 Put.a7 Put.a8 Put.a9 Put.a10 Put.a11 Put.a12 Pick.a1 Pick.a2 Pick.a3 Pick.a4 Pick.a5 Pick.a6 Pick.a7 Pick.a8 Pick.a9" ++ " " ++ al "Mine." "P" " PySem.W.tacticTb_rel:tb_rel ;" "Mm.tail Upd.tail Put.tail Pick.tail Lk.tail:k Mm.inr Upd.inr Pick.inr Mm.inl Upd.inl Pick.inl" ++ " O r")
local macro_rules
  | `(tactic| k_memK) =>
    let R := al "Mine.W." "R" ""
    let I := al "Mine.W." "R" " $0 ;"
    let G := fun (e s : String) => " ".intercalate ((s.splitOn " ").map fun (x : String) => let p := x.splitOn ":"; "Mine.W." ++ p.head! ++ " PySem.F.slot_" ++ p.getD 1 "" ++ " PySem.F.type_" ++ p.getD 1 "" ++ e)
    return q (" ".intercalate ["[", R "ld:ktth ldc:kktth", I "cint:h cstr:h", R "cbool:h cnone:h", al "Mine.W." "P" " tacticKernel_rfl:kernel_rfl ; PySem.W.tacticTb_rel:tb_rel ; PySem.W.tacticTb_rel:tb_rel ;" "st stc", R "asg:Kh exprS:ph aug:h ldn:ktth toTgt:h ret:h callM0:kkh callM1:kkkh callM2:kkkh callM3:kkkh callN0:h callN1:kh callN2:kh callN3:kh callN4:kh callN5:kh tcmp:kh cmp:kh tand:h tor:h tor0:h tand0:h tnot:h tb:h tn:h yes:h no:h bin:h un:h ifx:h sub:h sliceN:kh sliceNN:h sliceR:h sliceU:h list1:kh list2:kh list3:kh tup2:kh tup3:kh ifs0:h ifs1:h tval:kh ldg:akth ldb:akth", G " ? #3 R" "gm:str_find gm:str_rfind gm:str_lower gm:str_upper gm:str_startswith gm:str_count gm:str_index gm:str_join", G " PySem.W.tacticTb_rel:tb_rel B ? #4 R" "gmL:list_append gmL:list_pop", "Mine.KprL.bi ? < R Mine.KprL.ty ? < R Mine.KprL.def Lean.Parser.Tactic.assumption:assumption B PySem.W.tacticTb_rel:tb_rel B #2 ? < R", I "sfind:h srfind:h", R "sstarts:h", I "scount:h range1:h range2:h addI:h subI:h iaddI:h isubI:h negI:h modI:dh divI:dkh", R "geI:h gtI:h ltI:h eqI:h neI:h eqS:h inI:th ninI:th", "O r"]) #[(fx #[q "_"]).raw]
local macro_rules | `(tactic| tb_start) => return q "[ PySem.W.tacticK_memK:k_memK Mine.W.ifs ? #1 R r O"
local macro_rules | `(tactic| dl_step) => return q ("[ " ++ al "Mine.Blk." "P" "" "head all" ++ " " ++ al "Mine.Blk." "P" " PyProof.Rows.tacticDl_step:dl_step ;" "tail skip left" ++ " O r")
local macro_rules | `(tactic| dl_keep) => return q "[ Mine.Take.all X Mine.Take.cons PySem.W.tacticTb_rel:tb_rel B ? #2 R PyProof.Rows.tacticDl_keep:dl_keep ; Mine.Take.blk PyProof.Rows.tacticDl_step:dl_step B ? #2 R PyProof.Rows.tacticDl_keep:dl_keep ; Mine.Take.last PyProof.Rows.tacticDl_step:dl_step B #1 X O r"
local macro_rules
  | `(tactic| rw $rs:rwRuleSeq) =>
    let ts := rs.raw[1].getSepArgs.toList.map fun r =>
      let w := if r[0].getNumArgs == 0 then "Mine.rwL" else "Mine.rwR"
      (q (if (r[1].find? (·.isOfKind ``Lean.Parser.Term.syntheticHole)).isSome then "$1 w" else "[ [ " ++ w ++ " $0 ? #2 R " ++ w ++ " $0 .. #1 ? #2 R O $1 w O") #[r[1], r]).raw
    return ts.foldr (fun a b => (q "$0 $1 ;" #[a, b]).raw) (q "[ Lean.Parser.Tactic.tacticRfl:rfl r Lean.Parser.Tactic.skip:skip O").raw
section
section
variable{b:qe}{w:World}{A:qq}{L L':Led}{R:Value→Led→Prop}
noncomputable def RowOk(v:Nat)(r:List Int):Prop:=r≠ []∧r.Pairwise (· < ·)∧ ∀p∈r,0≤p∧p<v
structure Ways(rows:List (List Int)):Prop where
 len:rows.length=6
 zero:rows[0]? =some []
 row: ∀v r,0<v→rows[v]? =some r→RowOk v r
noncomputable def bits(c:Int)(k:Nat):List Int:=((zo k).filter fun (p:Nat)=>decide ((c.fdiv (2^ p)).fmod 2=1)).map fun (p:Nat)=>(p:Int)
theorem bits_succ(c:Int)(k:Nat):bits c (k+1)=bits c k++if (c.fdiv (2^ k)).fmod 2=1 then [(k:Int)] else []:=by
 unfold bits
 rw [List.range_succ,vH,qB]
 by_cases h:(c.fdiv (2^ k)).fmod 2=1<;>simp [h]
theorem bits_ne: ∀i,i<4→ ∀c:Nat,c<32→1≤c→(c:Int)<2^ (2+i)→bits (c:Nat) (2+i)≠ []:=by decide+kernel
theorem bits_len(c:Int)(k:Nat):(bits c k).length≤k:=by
 unfold bits
 rw [qh]
 exact qg (jN _ _) (by simp)
theorem bits_ok{c:Int}{i:Nat}(hi:i<4)(h1:1≤c)(h2:c<2^ (2+i))(h3:c≤31):RowOk (2+i) (bits c (2+i)):=by
 refine ⟨?_,?_,?_⟩
 ·have:=bits_ne i hi c.toNat (by exact Ar.i3 (jZ h3 (by decide)) rfl) (by exact Int.toNat_le_toNat h1) (by rw [vz (by omega)];exact h2)
  rwa [vz (by omega)] at this
 ·unfold bits
  rw [List.pairwise_map]
  exact (List.Pairwise.filter _ List.pairwise_lt_range).imp (fun h=>by exact zT.mpr h)
 ·intro p hp
  unfold bits at hp
  obtain ⟨k,hk,rfl⟩:=qw.mp hp
  have:=zW.mp (Qt.mp hk).1
  exact ⟨zx _,zT.mpr this⟩
theorem Take.mid{p:Addr×Asn}{X L:Led}:Take (p::(X++L)) ((X++ [p])++L):=by
 rw [qY]
 exact .perm vf.symm .all
noncomputable abbrev lcW(aw:Addr)(n:Int)(t:Tok)(v:Option Value):List (Str×Option Value):= [("number",some (.int n t)),("ways",some (.ref aw)),("v",v)]
inductive WyA(aw La C:Addr)(L:Led)(i:Nat):Led→Prop
 |mk (ra:List Addr) (rows:List (List Int)) (num:Int) (tn:Tok) (v c:Option Value) (h1:ra.length=i+2) (h2:rows.length=i+2) (h3:0≤num) (h4:rows[0]? =some []) (h5: ∀v r,0<v→rows[v]? =some r→RowOk v r):
  WyA aw La C L i ((aw,isL VR ra)::(La,loc (lcW aw num tn v))::(C,isCell c)::(rowsL ra rows++L))
theorem WyA.of{aw La C:Addr}{L L2:Led}{i:Nat}(ra:List Addr)(rows:List (List Int))(num:Int)(tn:Tok)(v c:Option Value)(e:L2=(aw,isL VR ra)::(La,loc (lcW aw num tn v))::(C,isCell c)::(rowsL ra rows++L))(h1:ra.length=i+2)(h2:rows.length=i+2)(h3:0≤num)(h4:rows[0]? =some [])(h5: ∀v r,0<v→rows[v]? =some r→RowOk v r):WyA aw La C L i L2:=e▸ .mk ra rows num tn v c h1 h2 h3 h4 h5
inductive WyB(cd:Int)(C:Addr)(q1 q2:Addr×Asn)(M:Led)(acc:Addr)(k:Nat):Led→Prop
 |mk (tc:Tok):WyB cd C q1 q2 M acc k ((acc,isL VI (bits cd k))::q1::q2::(C,isCell (some (.int cd tc)))::M)
theorem WyB.of{cd:Int}{C:Addr}{q1 q2:Addr×Asn}{M:Led}{acc:Addr}{k:Nat}{ds:List Int}(e:bits cd k=ds)(tc:Tok):WyB cd C q1 q2 M acc k ((acc,isL VI ds)::q1::q2::(C,isCell (some (.int cd tc)))::M):=e▸ .mk tc
theorem law_ways_ok{n:Int}{t:Tok}(K:Kn b)(hA:Rm 3 A)(q: ∀a as rows,Ways rows→as.length=6→R (.ref a) ((a,isL VR as)::(rowsL as rows++L))):W b w A L (call (.ref 290) [.int n t]) R:=by
 revert b w A L R n t K hA q
 funext b w A L R n t K hA q
 refine W.fnC (fd:=fd0 21 lawm 289) [(qb "number",.int n t)] [(qb "number",.int n t)] [] [qb "ways",qb "v"] [(qb "number",some (.int n t)),(qb "ways",none),(qb "v",none)]
  (fun k=> [(qb "chosen",k+1)]) (fun k M=>(k+1,isCell none)::M) K (by tb_rel) hA rfl (fun fz fz=>zc (by kernel_rfl)) (by kernel_rfl) (by kernel_rfl) (by kernel_rfl) (fun fz=>by rfl) (fun fz fz=>by rfl) (fun fz=>by rfl) (fun fz=>by simp) (by kernel_rfl) ?_
 funext La A' hA
 refine W.asg (by kernel_rfl) ?_
 repeat tb_start
 refine W.list0 (T:=VI) ?_
 funext a0
 repeat tb_start
 refine W.newL (T:=VI) (ds:= [0]) (.one ⟨_,rfl⟩) (by simp) ?_
 funext a1
 refine W.newL (T:=VR) (ds:= [a0,a1]) (.cons rfl (.one rfl)) (by simp) ?_
 funext aw
 repeat tb_start
 generalize hC:La+1=C
 refine W.forG (fun fz=>by kernel_rfl) ?_
 repeat tb_start
 refine ⟨WyA aw La C L,4,_,_,Walk.range hA.handled (by decide) (by decide) (by decide) .head,⟨_,.skip (.cons .head (.cons (.tail (.tail .head)) (.cons (.tail (.tail .head)) (.cons (.tail .head) (.cons .head .all))))),.mk [a0,a1] [[],[0]] _ _ none none rfl rfl ?_ rfl ?_⟩,fun fz fz fz=>trivial,?_,?_⟩
 ·exact jf _ (by decide)
 ·funext v r hv hr
  match v,hv with
  |1,_=>
   cases hr
   exact ⟨by simp,by simp,by simp⟩
  |v+2,_=>simp at hr
 ·funext i v L2 it P hi ⟨t1,rfl⟩ ⟨ra,rows,num,tn,ov,oc,h1,h2,h3,h4,h5⟩
  have hm:3≤(2:Int)^ (2+i)-1∧(2:Int)^ (2+i)-1≤31:=by
   match i,hi with
   |0,_|1,_|2,_|3,_=>decide
  repeat tb_start
  refine W.powI (n:=2+i) ⟨by decide,by decide⟩ (by omega) (by omega) ?_
  funext _
  repeat tb_start
  refine W.modI (by omega) ?_
  funext _
  repeat tb_start
  refine W.powI (n:=2+i) ⟨by decide,by decide⟩ (by omega) (by omega) ?_
  funext _
  repeat tb_start
  refine W.divI (by omega) (PyProof.noPylong_small (by exact Ar.i1 (jU (by decide) hm.1) (jZ hm.2 (by decide)))) ?_
  funext tn'
  repeat tb_start
  have hc1:0≤num.fmod ((2:Int)^ (2+i)-1):=jf _ (by exact vI (by decide) hm.1)
  have hc2:num.fmod ((2:Int)^ (2+i)-1)<(2:Int)^ (2+i)-1:=vJ _ (by exact vI (by decide) hm.1)
  have hn:0≤num.fdiv ((2:Int)^ (2+i)-1):=Int.fdiv_nonneg h3 (by exact jU (by decide) hm.1)
  generalize hcd:1+num.fmod ((2:Int)^ (2+i)-1)=cd
  generalize num.fdiv ((2:Int)^ (2+i)-1)=num' at hn ⊢
  refine W.compL [(qb "chosen",C)] [qb ".0",qb "p"]
   (fun fz=>by kernel_rfl) (by kernel_rfl) (by kernel_rfl) ?_
  repeat tb_start
  refine ⟨WyB cd C _ _ ((it,P)::(rowsL ra rows++L)),2+i,⟨_,_,Walk.range hA.handled (by decide) (by exact jU (Int.add_le_add_left (QQ.mpr (qv hi)) 2) (by decide)) (by omega) .head,⟨_,VI,fun acc=>⟨_,.skip (.cons (.tail .head) (.cons (.tail .head) (.cons (.tail .head) (.cons .head .all)))),.mk _⟩⟩,fun fz fz fz fz=>trivial,?_⟩,?_⟩
  ·funext acc D it' P' k v L2 fr hk ⟨t2,rfl⟩ hfr ⟨tc⟩
   refine hkX (names2 hfr) ?_
   funext ⟨u1,u2,rfl⟩
   repeat tb_start
   refine W.powI (n:=k) ⟨by decide,by decide⟩ (by omega) (by exact qg (qv (zq hk (QE hi 2))) (Ar.d rfl)) ?_
   funext _
   have hp:1≤(2:Int)^ k∧(2:Int)^ k≤32:=by
    have h1: ∀k:Nat,k<6→1≤(2:Int)^ k∧(2:Int)^ k≤32:=by decide
    exact h1 k (by exact zq hk (QE hi 2))
   refine W.divI (by exact fun e=>absurd (e▸hp.1) (by decide)) (PyProof.noPylong_small (by exact Ar.i1 (jU (by decide) hp.1) (jZ hp.2 (by decide)))) ?_
   funext _
   repeat tb_start
   have hb:=bits_succ cd k
   refine ⟨fun h=> ?_,fun h=> ?_⟩
   ·rw [if_pos (by simpa using h)] at hb
    repeat tb_start
    refine W.append (T:=VI) (d:=(k:Int)) (by tb_rel) (qg (bits_len _ _) (by exact qg (qv (zq hk (QE hi 2))) (Ar.d rfl))) ⟨t2,by rw [show (0+(k:Int))=k by omega]⟩ ?_
    exact ⟨[(qb ".0",u1),(qb "p",some (.int (0+k) t2))],_,rfl,.all,.of hb tc⟩
   ·rw [if_neg (by simpa using h),za] at hb
    exact ⟨[(qb ".0",u1),(qb "p",some (.int (0+k) t2))],_,rfl,.all,.of hb tc⟩
  ·funext acc L2 ⟨tc⟩
   repeat tb_start
   refine W.append (T:=VR) (d:=acc) (by tb_rel) (by exact Ar.d2 h1 (qg (qG (qv hi) 2) (Ar.d rfl))) rfl ?_
   refine W.nil ⟨_,.cons (.tail (.tail (.tail (.tail .head)))) (.cons (.tail .head) (.cons (.tail .head) (.cons (.tail .head) Take.mid))),.of (ra++ [acc]) (rows++ [bits cd (2+i)]) num' tn' (some (.int (2+i) t1)) (some (.int cd tc)) ?_ ?_ ?_ hn ?_ ?_⟩
   ·rw [rowsL_snoc (by omega)]
   ·simp;omega
   ·simp;omega
   ·rw [qE (by exact qU (Nat.succ_pos _) h2.symm)];exact h4
   ·funext v r hv hr
    by_cases hlt:v<rows.length
    ·rw [qE hlt] at hr;exact h5 v r hv hr
    ·rw [zd (by exact qQ hlt)] at hr
     have hv':v=2+i:=by
      have:=(qr.mp hr).1
      simp at this;exact (vC (Qp this) (qQ hlt)).trans (h2.trans (vO _ _))
     subst hv'
     rw [show 2+i-rows.length=0 by exact Nat.sub_eq_zero_of_le (qN ((vO _ _).trans h2.symm))] at hr
     cases hr
     exact bits_ok hi (by exact hcd▸Int.le_add_of_nonneg_right hc1) (by exact hcd▸Int.add_lt_of_lt_sub_left hc2) (by exact hcd▸jU (Ar.i2 hc2) hm.2)
 ·funext L2 ⟨ra,rows,num,tn,ov,oc,h1,h2,h3,h4,h5⟩
  repeat tb_start
  refine ⟨_,?_,q aw ra rows ⟨h2,h4,h5⟩ h1⟩
  exact .cons .head (.skip (.skip .all))
end
end
section
section
variable{b:qe}{w:World}{A:qq}{L L':Led}{R:Value→Led→Prop}
noncomputable def Edge(rows:List (List Int))(u v:Int):Prop:= ∃r,rows[v.toNat]? =some r∧u∈r
structure Found(rows:List (List Int))(barred:Int)(f:List Int):Prop where
 start:barred≠0→0∈f
 step: ∀u v,u∈f→0≤v→v<6→v≠barred→Edge rows u v→v∈f
 least: ∀S:Int→Prop,(barred≠0→S 0)→(∀u v,S u→0≤v→v<6→v≠barred→Edge rows u v→S v)→ ∀v∈f,S v
noncomputable def Barring(rows:List (List Int))(i:Nat)(v:Nat)(r:List Int):Prop:= ∃fd:Nat→List Int,(∀j,j<i→Found rows j (fd j))∧r=((zo i).filter fun j=> !(fd j).any (· ==(v:Int))).map fun (j:Nat)=>(j:Int)
structure Srch(rows:List (List Int))(barred:Int)(k:Nat)(f:List Int):Prop where
 start:barred≠0→0∈f
 nd:f.Nodup
 rng: ∀v∈f,0≤v∧v<6
 kle:k≤f.length
 step: ∀j u v,j<k→f[j]? =some u→0≤v→v<6→v≠barred→Edge rows u v→v∈f
 least: ∀S:Int→Prop,(barred≠0→S 0)→(∀u v,S u→0≤v→v<6→v≠barred→Edge rows u v→S v)→ ∀v∈f,S v
structure Srch2(rows:List (List Int))(barred:Int)(f:List Int)(u:Int)(m:Nat)(g:List Int):Prop where
 pre:f<+:g
 nd:g.Nodup
 rng: ∀v∈g,0≤v∧v<6
 step: ∀v:Int,0≤v→v<m→v≠barred→Edge rows u v→v∈g
 least: ∀S:Int→Prop,(barred≠0→S 0)→(∀u v,S u→0≤v→v<6→v≠barred→Edge rows u v→S v)→ ∀v∈g,S v
theorem len_le: ∀(n:Nat) (f:List Int),f.Nodup→(∀v∈f,0≤v∧v<n)→f.length≤n
 |0,f,_,hr=>by
  cases f with
  |nil=>simp
  |cons x r=>have:=hr x (.head _);exact absurd (jZ this.1 this.2) (Int.lt_irrefl _)
 |n+1,f,h,hr=>by
  by_cases hm:(n:Int)∈f
  ·have h1:=len_le n (f.erase (n:Int)) (h.erase _) fun v hv=>by
    have h2:=hr v (List.mem_of_mem_erase hv)
    have h3:v≠n:=((List.Nodup.mem_erase_iff h).mp hv).1
    exact ⟨h2.1,Int.lt_iff_le_and_ne.mpr ⟨Int.le_of_lt_add_one h2.2,h3⟩⟩
   rw [List.length_erase_of_mem hm] at h1
   omega
  ·have:=len_le n f h fun v hv=>by
    have h2:=hr v hv
    have h3:v≠n:=fun e=>hm (e▸hv)
    exact ⟨h2.1,Int.lt_iff_le_and_ne.mpr ⟨Int.le_of_lt_add_one h2.2,h3⟩⟩
   omega
theorem len_le_six{f:List Int}(h:f.Nodup)(hr: ∀v∈f,0≤v∧v<6):f.length≤6:=len_le 6 f h hr
theorem Srch2.skip{rows:List (List Int)}{barred:Int}{f g:List Int}{u:Int}{m:Nat}(h:Srch2 rows barred f u m g)(hc:(m:Int)≠barred→Edge rows u m→(m:Int)∈g):Srch2 rows barred f u (m+1) g:=
 ⟨h.pre,h.nd,h.rng,fun v h0 h1 h2 h3=>by
  by_cases e:v=m
  ·subst e;exact hc h2 h3
  ·exact h.step v h0 (by exact Int.lt_iff_le_and_ne.mpr ⟨Int.le_of_lt_add_one h1,e⟩) h2 h3,h.least⟩
theorem Srch2.add{rows:List (List Int)}{barred:Int}{f g:List Int}{u:Int}{m:Nat}(h:Srch2 rows barred f u m g)(hm:m<6)(hn:(m:Int)∉g)(hb:(m:Int)≠barred)(he:Edge rows u m)(hu:u∈g):Srch2 rows barred f u (m+1) (g++ [(m:Int)]) where
 pre:=h.pre.trans (List.prefix_append _ _)
 nd:=by
  rw [List.nodup_append]
  refine ⟨h.nd,by simp,?_⟩
  intro a ha c hc e
  simp at hc
  subst hc;subst e;exact hn ha
 rng:=fun v hv=>by
  rcases qO.mp hv with hv|hv
  ·exact h.rng v hv
  ·simp at hv;subst hv;exact ⟨zx _,zT.mpr hm⟩
 step:=fun v h0 h1 h2 h3=>by
  by_cases e:v=m
  ·subst e;simp
  ·exact jB _ (h.step v h0 (by exact Int.lt_iff_le_and_ne.mpr ⟨Int.le_of_lt_add_one h1,e⟩) h2 h3)
 least:=fun S s0 ss v hv=>by
  rcases qO.mp hv with hv|hv
  ·exact h.least S s0 ss v hv
  ·simp at hv;subst hv
   exact ss u m (h.least S s0 ss u hu) (by omega) (by omega) hb he
theorem Srch.done2{rows:List (List Int)}{barred:Int}{k:Nat}{f g:List Int}{u:Int}(hs:Srch rows barred k f)(h:Srch2 rows barred f u 6 g)(hu:f[k]? =some u):Srch rows barred (k+1) g where
 start:=fun hb=>h.pre.subset (hs.start hb)
 nd:=h.nd
 rng:=h.rng
 kle:=by
  have h1:=(qr.mp hu).1
  have h2:=h.pre.length_le
  exact ql h1 h2
 step:=fun j x v hj hx h0 h1 h2 h3=>by
  by_cases e:j=k
  ·subst e
   have:g[j]? =some u:=by
    obtain ⟨t,rfl⟩:=h.pre
    rw [qE (qr.mp hu).1];exact hu
   rw [this] at hx
   cases hx
   exact h.step v h0 (by omega) h2 h3
  ·have hj':j<k:=by exact Nat.lt_of_le_of_ne (jt hj) e
   have hlt:j<f.length:=ql hj' hs.kle
   have:f[j]? =some x:=by
    obtain ⟨t,rfl⟩:=h.pre
    rw [qE hlt] at hx;exact hx
   exact h.pre.subset (hs.step j x v hj' this h0 h1 h2 h3)
 least:=h.least
theorem Srch.done{rows:List (List Int)}{barred:Int}{k:Nat}{f:List Int}(hs:Srch rows barred k f)(hk:f.length≤k):Found rows barred f where
 start:=hs.start
 step:=fun u v hu h0 h1 h2 h3=>by
  obtain ⟨j,hj,rfl⟩:=List.mem_iff_getElem.mp hu
  exact hs.step j _ v (by exact ql hj hk) (qd hj) h0 h1 h2 h3
 least:=hs.least
theorem Barring.len{rows:List (List Int)}{i v:Nat}{r:List Int}(h:Barring rows i v r):r.length≤i:=by
 obtain ⟨fd,_,rfl⟩:=h
 rw [qh]
 exact qg (jN _ _) (by simp)
theorem Barring.next{rows:List (List Int)}{i v:Nat}{r f:List Int}(h:Barring rows i v r)(hF:Found rows i f):Barring rows (i+1) v (r++if (!f.any (· ==(v:Int)))=true then [(i:Int)] else []):=by
 revert rows i v r f h hF
 funext rows i v r f h hF
 refine hkX (h) ?_
 funext ⟨fd,h1,rfl⟩
 refine ⟨fun j=>if j=i then f else fd j,fun j hj=> ?_,?_⟩
 ·by_cases e:j=i
  ·subst e;simpa using hF
  ·simp-iota only [if_neg e];exact h1 j (by exact Nat.lt_of_le_of_ne (jt hj) e)
 ·rw [List.range_succ,vH,qB]
  congr 1
  ·congr 1
   refine List.filter_congr ?_
   funext j hj
   have:j≠i:=by have:=zW.mp hj;exact qS this
   simp [this]
  ·by_cases e:(!f.any (· ==(v:Int)))=true
   ·have e2:(!(if i=i then f else fd i).any fun x=>x==(v:Int))=true:=by rw [if_pos rfl];exact e
    rw [if_pos e,jl,if_pos e2];rfl
   ·simp at e;simp [e]
theorem barring_set{rows ab:List (List Int)}{i m v:Nat}{r r1 r':List Int}(hm:ab[m]? =some r)(h: ∀(v:Nat) r,ab[v]? =some r→Barring rows (if v<m then i+1 else i) v r∧r.length≤6)(h1:Barring rows (i+1) m r1)(hi:i<6)(hv:(ab.set m r1)[v]? =some r'):
  Barring rows (if v<m+1 then i+1 else i) v r'∧r'.length≤6:=by
 rw [List.getElem?_set] at hv
 by_cases e:m=v
 ·subst e
  have:=(qr.mp hm).1
  simp [this] at hv
  subst hv
  rw [if_pos (by omega)]
  exact ⟨h1,qg h1.len (by omega)⟩
 ·rw [if_neg e] at hv
  have h2:=h v r' hv
  by_cases e2:v<m
  ·rw [if_pos e2] at h2;rw [if_pos (by exact Nat.lt_succ_of_lt e2)];exact h2
  ·rw [if_neg e2] at h2;rw [if_neg (by exact fun h=>e2 (Nat.lt_of_le_of_ne (jt h) (Ne.symm e)))];exact h2
theorem nany{l:List Int}{x:Int}(h:(!l.any (· ==x))=true):x∉l:=by
 intro hm
 have:l.any (· ==x)=true:=List.any_eq_true.mpr ⟨x,hm,by simp⟩
 rw [this] at h;cases h
theorem set_self{α:Type}{l:List α}{m:Nat}{r:α}(h:l[m]? =some r):l.set m r=l:=by
 apply List.ext_getElem?
 intro i
 rw [List.getElem?_set]
 by_cases e:m=i
 ·subst e;rw [if_pos rfl,if_pos (qr.mp h).1,h]
 ·simp [e]
noncomputable abbrev lcA(aw:Addr)(a f k v:Option Value):List (Str×Option Value):= [("ways",some (.ref aw)),("above",a),("found",f),("k",k),("v",v)]
inductive AbA(aw La C:Addr)(L:Led)(acc:Addr)(k:Nat):Led→Prop
 |mk (as:List Addr) (h:as.length=k):AbA aw La C L acc k ((acc,isL VR as)::(La,loc (lcA aw none none none none))::(C,isCell none)::(rowsL as (zk k [])++L))
theorem AbA.of{aw La C:Addr}{L L2:Led}{acc:Addr}{k:Nat}(as:List Addr)(h:as.length=k)(e:L2=(acc,isL VR as)::(La,loc (lcA aw none none none none))::(C,isCell none)::(rowsL as (zk k [])++L)):AbA aw La C L acc k L2:=e▸ .mk as h
inductive AbB(rows:List (List Int))(aw La C:Addr)(L:Led)(acc:Addr)(as:List Addr)(i:Nat):Led→Prop
 |mk (ab:List (List Int)) (f k v c:Option Value) (h:ab.length=6) (hb: ∀(v:Nat) r,ab[v]? =some r→Barring rows i v r):AbB rows aw La C L acc as i ((acc,isL VR as)::(La,loc (lcA aw (some (.ref acc)) f k v))::(C,isCell c)::(rowsL as ab++L))
inductive AbC(L:Led)(i:Nat)(z f0:Addr)(k:Nat):Led→Prop
 |mk (ds:List Int) (h0:k=0→ds= []) (h1:k=1→ds=if i=0 then [] else [0]):AbC L i z f0 k ((f0,isL VI ds)::(z,isL VI [0])::L)
inductive AbD(rows:List (List Int))(i:Nat)(aw La acc f0:Addr)(p:Addr×Asn)(as:List Addr)(L:Led)(n:Nat):Led→Prop
 |mk (f:List Int) (k:Nat) (tk:Tok) (v:Option Value) (hn:n=7-k) (hs:Srch rows i k f):AbD rows i aw La acc f0 p as L n ((f0,isL VI f)::p::(acc,isL VR as)::(La,loc (lcA aw (some (.ref acc)) (some (.ref f0)) (some (.int (k:Nat) tk)) v))::L)
inductive AbE(rows:List (List Int))(i:Nat)(f:List Int)(u:Int)(aw La acc f0:Addr)(p:Addr×Asn)(as:List Addr)(k:Value)(L:Led)(m:Nat):Led→Prop
 |mk (g:List Int) (v:Option Value) (h:Srch2 rows i f u m g):AbE rows i f u aw La acc f0 p as k L m ((f0,isL VI g)::p::(acc,isL VR as)::(La,loc (lcA aw (some (.ref acc)) (some (.ref f0)) (some k) v))::L)
inductive AbF(rows:List (List Int))(i:Nat)(aw La acc:Addr)(p q r:Addr×Asn)(as:List Addr)(f k:Value)(L:Led)(m:Nat):Led→Prop
 |mk (ab:List (List Int)) (v:Option Value) (h:ab.length=6) (hb: ∀(v:Nat) r,ab[v]? =some r→Barring rows (if v<m then i+1 else i) v r∧r.length≤6):
  AbF rows i aw La acc p q r as f k L m (p::q::(acc,isL VR as)::(La,loc (lcA aw (some (.ref acc)) (some f) (some k) v))::r::(rowsL as ab++L))
set_option tactic.hygienic true in
theorem law_above_ok{aw:Addr}{ra:List Addr}{rows:List (List Int)}(K:Kn b)(hA:Rm 3 A)(hL:Mm (aw,isL VR ra) L)(hr: ∀(v:Nat) a r,ra[v]? =some a→rows[v]? =some r→Mm (a,isL VI r) L)(h1:ra.length=6)(h2:rows.length=6)
  (q: ∀a as ab,as.length=6→ab.length=6→(∀(v:Nat) r,ab[v]? =some r→Barring rows 6 v r)→R (.ref a) ((a,isL VR as)::(rowsL as ab++L))):W b w A L (call (.ref 295) [.ref aw]) R:=by
 revert b w A L R aw ra rows K hA hL hr h1 h2 q
 funext b w A L R aw ra rows K hA hL hr h1 h2 q
 refine W.fnC (fd:=fd0 22 lawm 294) [(qb "ways",.ref aw)] [(qb "ways",.ref aw)] [] [qb "above",qb "found",qb "k",qb "v"]
  [(qb "ways",some (.ref aw)),(qb "above",none),(qb "found",none),(qb "k",none),(qb "v",none)]
  (fun k=> [(qb "barred",k+1)]) (fun k M=>(k+1,isCell none)::M) K (by tb_rel) hA rfl (fun fz fz=>zc (by kernel_rfl)) (by kernel_rfl) (by kernel_rfl) (by kernel_rfl) (fun fz=>by rfl) (fun fz fz=>by rfl) (fun fz=>by rfl) (fun fz=>by simp) (by kernel_rfl) ?_
 funext La A' hA
 generalize hC:La+1=C
 refine W.asgC [] [qb ".0",qb "v"] (by kernel_rfl) (fun fz=>by kernel_rfl) (by kernel_rfl) (by kernel_rfl) ?_
 repeat tb_start
 refine ⟨AbA aw La C L,6,⟨_,_,Walk.range hA.handled (by decide) (by decide) (by decide) .head,⟨_,VR,fun acc=>⟨_,.skip .all,.mk [] rfl⟩⟩,fun fz fz fz fz=>trivial,?_⟩,?_⟩
 ·funext acc D it P i v L2 fr hi ⟨t,rfl⟩ hfr ⟨as,h3⟩
  refine hkX (names2 hfr) ?_
  funext ⟨u1,u2,rfl⟩
  repeat tb_start
  refine W.list0 (T:=VI) ?_
  funext a0
  refine W.append (T:=VR) (d:=a0) (by tb_rel) (by exact Ar.d2 h3 (qg (qv hi) (Ar.d rfl))) rfl ?_
  refine ⟨[(qb ".0",u1),(qb "v",some (.int (0+i) t))],_,rfl,.cons (.tail .head) (.cons (.tail .head) (.cons (.tail .head) (.cons (.tail .head) (.cons (.tail .head) Take.mid)))),.of (as++ [a0]) (by simp;omega) ?_⟩
  rw [vV,rowsL_snoc (by simp;omega)]
 ·funext acc D fr L2 hfr ⟨as,h3⟩
  repeat tb_start
  refine ⟨fr,_,.cons .head .all,?_⟩
  refine W.forG (fun fz=>by kernel_rfl) ?_
  repeat tb_start
  refine ⟨AbB rows aw La C L acc as,6,_,_,Walk.range hA.handled (by decide) (by decide) (by decide) .head,⟨_,.skip .all,.mk _ _ _ _ _ (by simp) ?_⟩,fun fz fz fz=>trivial,?_,?_⟩
  ·funext v r hv
   refine ⟨fun fz=> [],fun j hj=>absurd hj (Nat.not_lt_zero _),?_⟩
   have:=qk hv
   simpa using this
  ·funext i v L2 it P hi ⟨t,rfl⟩ ⟨ab,of,ok,ov,oc,h4,h5⟩
   rw [show (0+(i:Int))=i by omega]
   repeat tb_start
   refine W.asgC [(qb "barred",C)] [qb ".0",qb "v"] (by kernel_rfl) (fun fz=>by kernel_rfl) (by kernel_rfl) (by kernel_rfl) ?_
   repeat tb_start
   refine W.newL (T:=VI) (ds:= [0]) (.one ⟨_,rfl⟩) (by simp) ?_
   funext z
   refine ⟨AbC _ i z,1,⟨_,_,Walk.list (T:=VI) (ds:= [0]) hA.handled .head,⟨_,VI,fun acc=>⟨_,.all,.mk [] (fun fz=>rfl) (fun e=>(nomatch e))⟩⟩,?_,?_⟩,?_⟩
   ·funext f0 k L2 ⟨ds0,_,_⟩
    exact .tail .head
   ·funext f0 D2 it2 P2 k v L2 fr hk ⟨d,hd,t2,rfl⟩ hfr ⟨ds0,e0,_⟩
    refine hkX (names2 hfr) ?_
    funext ⟨u1,u2,rfl⟩
    have hk0:k=0:=by omega
    subst hk0
    cases hd
    cases e0 rfl
    repeat tb_start
    refine ⟨fun h=> ?_,fun h=> ?_⟩
    ·have hi0:i≠0:=by rintro rfl;revert h;decide
     repeat tb_start
     refine W.append (T:=VI) (d:=0) (by tb_rel) (by simp) ⟨t2,rfl⟩ ?_
     exact ⟨[(qb ".0",u1),(qb "v",some (.int 0 t2))],_,rfl,.all,.mk [0] (fun e=>(nomatch e)) (fun fz=>by rw [if_neg hi0])⟩
    ·have hi0:i=0:=by
      by_cases e:i=0
      ·exact e
      ·have:((0:Int) !=(i:Int))=true:=by simp;exact fun k=>e (Int.ofNat.inj k.symm)
       rw [this] at h;cases h
     exact ⟨[(qb ".0",u1),(qb "v",some (.int 0 t2))],_,rfl,.all,.mk [] (fun e=>(nomatch e)) (fun fz=>by rw [if_pos hi0])⟩
   ·funext f0 D2 fr L2 hfr ⟨ds0,_,e0⟩
    have e0:=e0 rfl
    repeat tb_start
    refine ⟨fr,_,.cons .head .all,?_⟩
    repeat tb_start
    rename_i tk0
    refine W.whileG (AbD rows i aw La acc f0 (it,P) as _) 7 ⟨_,.cons .head (.skip .all),.mk ds0 0 tk0 ov rfl ?_⟩ ?_
    ·subst e0
     by_cases hi0:i=0
     ·subst hi0
      exact ⟨fun h=>absurd rfl h,by simp,by simp,by simp,by simp,by simp⟩
     ·rw [if_neg hi0]
      exact ⟨fun fz=>by simp,by simp,by simp,by simp,by intro j u v hj;omega,fun S s0 fz v hv=>by simp at hv;subst hv;exact s0 (by exact fun e=>hi0 (Int.ofNat.inj e))⟩
    ·funext n L2 ⟨f,k,tk,ov,rfl,hs⟩
     have hf6:=len_le_six hs.nd hs.rng
     repeat tb_start
     refine W.lenL (by tb_rel) (by omega) ?_
     funext _
     repeat tb_start
     refine ⟨fun h=> ?_,fun h=> ?_⟩
     ·have hk:k<f.length:=by simpa using h
      refine W.forG (fun fz=>by kernel_rfl) ?_
      repeat tb_start
      have hZ: ∃u,f[k]? =some u:=⟨_,qd hk⟩
      revert hZ;funext ⟨u,hu⟩
      refine ⟨AbE rows i f u aw La acc f0 (it,P) as _ _,6,_,_,Walk.range hA.handled (by decide) (by decide) (by decide) .head,⟨_,.skip .all,.mk f ov ⟨QL _,hs.nd,hs.rng,fun v h0 h1=>by omega,hs.least⟩⟩,fun fz fz fz=>trivial,?_,?_⟩
      ·funext m v L2 it2 P2 hm ⟨t2,rfl⟩ ⟨g,ov,hg⟩
       rw [show (0+(m:Int))=m by omega]
       have hg6:=len_le_six hg.nd hg.rng
       have hug:g[k]? =some u:=by
        refine hkX (hg.pre) ?_
        funext ⟨t,rfl⟩
        rw [qE hk];exact hu
       repeat tb_start
       refine ⟨fun c1=> ?_,fun c1=> ?_⟩
       ·have c1':(m:Int)≠i:=by simpa using c1
        repeat tb_start
        refine ⟨fun c2=> ?_,fun c2=> ?_⟩
        ·have c2':(m:Int)∉g:=nany c2
         repeat tb_start
         refine W.itemL (T:=VI) (ds:=g) (d:=u) (by tb_rel) (by exact ql (zT.mp (of_decide_eq_true h)) (qg hf6 (Ar.d rfl))) hug (fun fz=>by kernel_rfl) ?_
         funext v ⟨t3,rfl⟩
         repeat tb_start
         have hZ: ∃r,rows[m]? =some r:=⟨_,qd (by omega)⟩
         revert hZ;funext ⟨r,hrm⟩
         have hZ: ∃a,ra[m]? =some a:=⟨_,qd (by omega)⟩
         revert hZ;funext ⟨ar,ham⟩
         refine W.itemL (T:=VR) (ds:=ra) (d:=ar) (by tb_rel) (by omega) ham (fun fz=>by kernel_rfl) ?_
         funext v rfl
         have hrl:=hr m ar r ham hrm
         repeat tb_start
         have hE:Edge rows u m↔u∈r:=by
          unfold Edge
          rw [vt,hrm]
          simp
         refine ⟨fun c3=> ?_,fun c3=> ?_⟩
         ·have c3':u∈r:=by simpa using c3
          repeat tb_start
          refine W.append (T:=VI) (d:=(m:Int)) (by tb_rel) (by omega) ⟨t2,rfl⟩ ?_
          refine W.nil (W.nil ⟨_,.all,.mk _ _ (hg.add hm c2' c1' (hE.mpr c3') (qk hug))⟩)
         ·repeat tb_start
          refine W.nil ⟨_,.all,.mk _ _ (hg.skip ?_)⟩
          funext _ he
          have c3': ¬u∈r:=nany (by rw [c3];rfl)
          exact absurd (hE.mp he) c3'
        ·repeat tb_start
         refine W.nil ⟨_,.all,.mk _ _ (hg.skip fun fz fz=>by simpa using c2)⟩
       ·repeat tb_start
        refine W.nil ⟨_,.all,.mk _ _ (hg.skip fun c=>absurd (by simpa using c1) c)⟩
      ·funext L2 ⟨g,ov,hg⟩
       repeat tb_start
       refine W.nil ⟨7-(k+1),_,by exact Ar.g1 (ql (zT.mp (of_decide_eq_true h)) (Qu hf6)),.all,.mk g (k+1) _ _ rfl (hs.done2 hg hu)⟩
     ·have hk:f.length≤k:=by simpa using h
      have hF:=hs.done hk
      refine W.forG (fun fz=>by kernel_rfl) ?_
      repeat tb_start
      refine ⟨AbF rows i aw La acc (f0,isL VI f) (it,P) _ as _ _ L,6,_,_,Walk.range hA.handled (by decide) (by decide) (by decide) .head,⟨_,.skip .all,.mk ab ov h4 ?_⟩,fun fz fz fz=>trivial,?_,?_⟩
      ·funext v r hv
       rw [if_neg (Nat.not_lt_zero _)]
       exact ⟨h5 v r hv,qg (h5 v r hv).len (by omega)⟩
      ·funext m v L2 it2 P2 hm ⟨t2,rfl⟩ ⟨ab',ov,h6,h7⟩
       rw [show (0+(m:Int))=m by omega]
       repeat tb_start
       have hZ: ∃r,ab'[m]? =some r:=⟨_,qd (by omega)⟩
       revert hZ;funext ⟨r,hrm⟩
       have hZ: ∃a,as[m]? =some a:=⟨_,qd (by omega)⟩
       revert hZ;funext ⟨ar,ham⟩
       have hB:=h7 m r hrm
       rw [if_neg (zO _)] at hB
       refine ⟨fun c1=> ?_,fun c1=> ?_⟩
       ·repeat tb_start
        refine W.itemL (T:=VR) (ds:=as) (d:=ar) (by tb_rel) (by omega) ham (fun fz=>by kernel_rfl) ?_
        funext v rfl
        refine W.gmL (T:=VI) (ds:=r) F.slot_list_append F.type_list_append (.tail (.tail (.tail (.tail (.tail (.tail (.inl (rowsL_mem ham hrm)))))))) ?_
        repeat tb_start
        refine W.append (T:=VI) (d:=(i:Int)) (.tail (.tail (.tail (.tail (.tail (.tail (.inl (rowsL_set ham hrm)))))))) (by omega) ⟨t,rfl⟩ ?_
        refine W.nil (W.nil ⟨_,.all,.mk _ _ (by simp;exact h6) ?_⟩)
        funext v r' hv
        have:=hB.1.next hF
        rw [c1,if_pos rfl] at this
        exact barring_set hrm h7 this hi hv
       ·repeat tb_start
        refine W.nil ⟨_,.all,.mk _ _ h6 ?_⟩
        funext v r' hv
        have:=hB.1.next hF
        rw [c1,if_neg qx,za] at this
        refine barring_set hrm h7 this hi ?_
        rw [set_self hrm];exact hv
      ·funext L2 ⟨ab',ov,h6,h7⟩
       repeat tb_start
       refine W.nil ⟨_,.skip (.cons .head .all),.mk ab' _ _ _ _ h6 ?_⟩
       funext v r hv
       have:=(h7 v r hv).1
       rwa [if_pos (by have:=(qr.mp hv).1;omega)] at this
  ·funext L2 ⟨ab,of,ok,ov,oc,h4,h5⟩
   repeat tb_start
   exact ⟨_,.cons .head (.skip (.skip .all)),q acc as ab h3 h4 h5⟩
end
end
section
noncomputable abbrev rxC:Array Nat:=#[14,8,1,2,4294967295,1,1,46,0,16,46,24,9,1,4294967295,13,4,8,0,0,1,6,5,1]
noncomputable def rxS(t:Array Nat)(s:Nat)(sn:vF)(f:Bool)(hd:Nat):Sre.M:=
 {code:=rxC,text:=t,lim:=t.size,start:=s,lastStart:=t.size,pc:=9,pos:=s,handed:=hd,outermost:=f,marks:=#[],frames:= [{wait:= .nextStart,pc:=9,pos:=s,outermost:=f}],weight:=1,seen:=sn}
theorem rx_lit(t:Array Nat)(s:Nat)(sn:vF)(f:Bool)(hd:Nat):(rxS t s sn f hd).step=if s≥t.size then {rxS t s (sn.add 16) f hd with answer:=some false} else
  if t.getD s 0==46 then {rxS t s (sn.add 16) f hd with pc:=11,pos:=s+1} else {rxS t s (sn.add 16) f hd with answer:=some false}:=by
 show (if s≥t.size then _ else match (Except.ok (t.getD s 0==46,sn.add 16):Except String (Bool×vF)) with| .error why=>_| .ok (false,seen)=>_| .ok (true,seen)=>_)=_
 split
 ·rfl
 ·cases t.getD s 0==46<;>rfl
theorem rx_no(t:Array Nat)(s:Nat)(sn:vF)(f:Bool)(hd pc pos:Nat):({rxS t s sn f hd with answer:=some false,pc:=pc,pos:=pos}:Sre.M).step=if s<t.size then rxS t (s+1) sn false (s+1) else {rxS t s sn f hd with answer:=some false,frames:= [],weight:=0}:=by
 show (if s<t.size then _ else _)=_
 split
 ·rfl
 ·rfl
noncomputable abbrev rxG(t:Array Nat)(s:Nat)(sn:vF)(f:Bool)(p n:Nat):Sre.M:=
 {rxS t s sn f p with frames:= [{wait:= .giveBack,pc:=11,pos:=p,outermost:=f,count:=n,kept:={lastmark:= -1,lastindex:= -1,whole:=false,marks:=#[]}},{wait:= .nextStart,pc:=9,pos:=s,outermost:=f}],weight:=2,pc:=21,pos:=p}
theorem rx_rep(t:Array Nat)(s:Nat)(sn:vF)(f:Bool)(hd p:Nat):({rxS t s sn f hd with pc:=11,pos:=p}:Sre.M).step=
  if ((1:Nat):Int)>(t.size:Int)-(p:Nat) then {rxS t s (sn.add 24) f hd with answer:=some false,pc:=11,pos:=p} else
  match Sre.run rxC t 15 (min 4294967295 ((t.size:Int)-(p:Nat)).toNat) p 0 ((sn.add 24).add 13) with
  | .error why=>{rxS t s (sn.add 24) f hd with pc:=11,pos:=p,outcome:=some (.stuck why)}
  | .ok (n,sn')=>if n<1 then {rxS t s sn' f hd with answer:=some false,pc:=11,pos:=p} else rxG t s sn' f (p+n) n:=rfl
theorem rx_at(t:Array Nat)(s:Nat)(sn:vF)(f:Bool)(p n:Nat):(rxG t s sn f p n).step=if (p==t.size||(p+1==t.size&&t.getD p 0==10)) then {rxG t s ((sn.add 6).add 48) f p n with pc:=23} else {rxG t s ((sn.add 6).add 48) f p n with answer:=some false}:=by
 show (if (p==t.size||(p+1==t.size&&t.getD p 0==10)) then _ else _)=_
 split<;>rfl
theorem rx_back1(t:Array Nat)(s:Nat)(sn:vF)(f:Bool)(p:Nat):({rxG t s sn f p 1 with answer:=some false}:Sre.M).step={rxS t s sn f p with answer:=some false,pc:=11,pos:=p}:=rfl
theorem rx_suc(t:Array Nat)(s:Nat)(sn:vF)(f:Bool)(p n:Nat):({rxG t s sn f p n with pc:=23}:Sre.M).step={rxG t s (sn.add 1) f p n with pc:=23,answer:=some true}:=by
 cases f<;>rfl
theorem rx_yes1(t:Array Nat)(s:Nat)(sn:vF)(f:Bool)(p n:Nat):({rxG t s sn f p n with pc:=23,answer:=some true}:Sre.M).step={rxS t s sn f p with answer:=some true,pc:=11,pos:=p}:=rfl
theorem rx_yes2(t:Array Nat)(s:Nat)(sn:vF)(f:Bool)(hd p:Nat):({rxS t s sn f hd with answer:=some true,pc:=11,pos:=p}:Sre.M).step={rxS t s sn f hd with answer:=some true,frames:= [],weight:=0,pc:=9,pos:=s}:=rfl
theorem rx_acc(c:Nat)(sn:vF): ∃sn',Sre.accepts rxC 15 c sn= .ok (zP c,sn'):=by
 refine ⟨if zP c then (sn.add 8).add 55 else ((sn.add 8).add 55).add 0,?_⟩
 show (do if ←((Except.ok (zP c):Except String Bool).map (· !=false)) then (qj (true,(sn.add 8).add 55):Except String (Bool×vF)) else _)=_
 cases zP c<;>rfl
theorem rx_run0{t:Array Nat}{n p k:Nat}{sn:vF}(h:zP (t.getD p 0)=false): ∃sn',Sre.run rxC t 15 (n+1) p k sn= .ok (k,sn'):=by
 obtain ⟨sn',e⟩:=rx_acc (t.getD p 0) sn
 refine ⟨sn',?_⟩
 show (do let x ←Sre.accepts rxC 15 (t.getD p 0) sn;if x.1 then Sre.run rxC t 15 n (p+1) (k+1) x.2 else (qj (k,x.2):Except String (Nat×vF)))=_
 rw [e,h];rfl
theorem rx_run1{t:Array Nat}{n p k:Nat}{sn:vF}(h:zP (t.getD p 0)=true): ∃sn',Sre.run rxC t 15 (n+1) p k sn=Sre.run rxC t 15 n (p+1) (k+1) sn':=by
 obtain ⟨sn',e⟩:=rx_acc (t.getD p 0) sn
 refine ⟨sn',?_⟩
 show (do let x ←Sre.accepts rxC 15 (t.getD p 0) sn;if x.1 then Sre.run rxC t 15 n (p+1) (k+1) x.2 else (qj (k,x.2):Except String (Nat×vF)))=_
 rw [e,h];rfl
theorem runFor_add: ∀(a c:Nat) (m:Sre.M),jv (a+c) m=jv c (jv a m)
 |0,c,m=>by rw [Nat.zero_add];rfl
 |a+1,c,m=>by
  rw [show a+1+c=(a+c)+1 by omega]
  show (if m.outcome.isSome then m else jv (a+c) m.step)=jv c (if m.outcome.isSome then m else jv a m.step)
  by_cases h:m.outcome.isSome=true
  ·rw [if_pos h,if_pos h]
   cases c with
   |zero=>rfl
   |succ c=>show _=(if m.outcome.isSome then m else _);rw [if_pos h]
  ·rw [if_neg h,if_neg h];exact runFor_add a c _
theorem runFor_one(m:Sre.M)(h:m.outcome=none):jv 1 m=m.step:=by
 show (if m.outcome.isSome then m else m.step)=_
 rw [h];rfl
theorem runFor_done(m:Sre.M)(h:m.outcome.isSome=true): ∀n,jv n m=m
 |0=>rfl
 |n+1=>by show (if m.outcome.isSome then m else _)=m;rw [if_pos h]
noncomputable def RxEnds(m:Sre.M)(n:Nat)(o:Sre.Outcome):Prop:= ∃k,k≤n∧(jv k m).outcome=some o
theorem RxEnds.step{m:Sre.M}{n:Nat}{o:Sre.Outcome}(h:RxEnds m.step n o)(hm:m.outcome=none):RxEnds m (n+1) o:=by
 obtain ⟨k,hk,e⟩:=h
 refine ⟨1+k,by omega,?_⟩
 rw [runFor_add,runFor_one m hm];exact e
theorem RxEnds.le{m:Sre.M}{n n':Nat}{o:Sre.Outcome}(h:RxEnds m n o)(hn:n≤n'):RxEnds m n' o:=by
 obtain ⟨k,hk,e⟩:=h
 exact ⟨k,by exact qg hk hn,e⟩
noncomputable def RxBad(t:Array Nat)(s:Nat):Prop:=t.getD s 0≠46∨s+1≥t.size∨zP (t.getD (s+1) 0)=false∨(s+2<t.size∧zP (t.getD (s+2) 0)=false∧t.getD (s+2) 0≠10)
theorem rx_try{t:Array Nat}{s:Nat}{o:Sre.Outcome}{n:Nat}(hb:RxBad t s)(hs:s<t.size)(hz:t.size<4294967295)(sn:vF)(f:Bool)(hd:Nat)(h: ∀sn,RxEnds (rxS t (s+1) sn false (s+1)) n o):RxEnds (rxS t s sn f hd) (n+8) o:=by
 revert t s o n hb hs hz sn f hd h
 funext t s o n hb hs hz sn f hd h
 have no: ∀sn hd pc pos,RxEnds ({rxS t s sn f hd with answer:=some false,pc:=pc,pos:=pos}:Sre.M) (n+1) o:=fun sn hd pc pos=>by
  refine RxEnds.step ?_ rfl
  rw [rx_no,if_pos hs]
  exact h sn
 have goal:RxEnds (rxS t s sn f hd) (n+1+1+1+1+1) o:=by
  refine RxEnds.step ?_ rfl
  rw [rx_lit,if_neg (by omega)]
  by_cases h1:t.getD s 0=46
  ·rw [if_pos (by simpa using h1)]
   refine RxEnds.step ?_ rfl
   rw [rx_rep]
   by_cases h2:((1:Nat):Int)>(t.size:Int)-((s+1:Nat):Nat)
   ·rw [if_pos h2]
    exact (no _ _ _ _).le (by omega)
   ·rw [if_neg h2]
    have hmin:min 4294967295 ((t.size:Int)-((s+1:Nat):Nat)).toNat=(t.size-(s+1)-1)+1:=by exact Ar.s1 hz h2
    rw [hmin]
    by_cases h3:zP (t.getD (s+1) 0)=false
    ·refine hkX (rx_run0 (t:=t) (n:=t.size-(s+1)-1) (p:=s+1) (k:=0) (sn:=((sn.add 16).add 24).add 13) h3) ?_
     funext ⟨sn',e⟩
     rw [e]
     exact (no _ _ _ _).le (by omega)
    ·have h3':zP (t.getD (s+1) 0)=true:=by simpa using h3
     have hZ:s+2<t.size∧zP (t.getD (s+2) 0)=false∧t.getD (s+2) 0≠10:=by
      rcases hb with hb|hb|hb|hb
      ·exact absurd h1 hb
      ·omega
      ·exact absurd hb h3
      ·exact hb
     revert hZ;funext ⟨h4,h5,h6⟩
     refine hkX (rx_run1 (t:=t) (n:=t.size-(s+1)-1) (p:=s+1) (k:=0) (sn:=((sn.add 16).add 24).add 13) h3') ?_
     funext ⟨sn',e⟩
     refine hkX (rx_run0 (t:=t) (n:=t.size-(s+1)-2) (p:=s+1+1) (k:=0+1) (sn:=sn') h5) ?_
     funext ⟨sn'',e'⟩
     rw [e,show t.size-(s+1)-1=(t.size-(s+1)-2)+1 by exact Ar.s4 (Nat.le_sub_of_add_le' h4),e']
     show RxEnds (rxG t s sn'' f (s+1+(0+1)) (0+1)) _ o
     refine RxEnds.step ?_ rfl
     rw [rx_at]
     have hc:(s+1+(0+1)==t.size||(s+1+(0+1)+1==t.size&&t.getD (s+1+(0+1)) 0==10))=false:=by
      have e1:(s+1+(0+1)==t.size)=false:=by simp;exact qS h4
      have e2:(t.getD (s+1+(0+1)) 0==10)=false:=by simpa using h6
      rw [e1,e2];simp
     rw [hc,if_neg qx]
     refine RxEnds.step ?_ rfl
     rw [rx_back1]
     exact no _ _ _ _
  ·rw [if_neg (by simpa using h1)]
   exact (no _ _ _ _).le (by omega)
 exact goal.le (by exact qX (Ar.d rfl:5≤8) _)
theorem rx_fail{t:Array Nat}(hz:t.size<4294967295): ∀(d s:Nat),s+d=t.size→(∀i,s≤i→i<t.size→RxBad t i)→ ∀sn f hd,RxEnds (rxS t s sn f hd) (8*d+8) .failed
 |0,s,e,_=>fun sn f hd=>by
  refine RxEnds.le (n:=3) ?_ (by omega)
  refine RxEnds.step ?_ rfl
  rw [rx_lit,if_pos (by omega)]
  refine RxEnds.step ?_ rfl
  have:=rx_no t s (sn.add 16) f hd 9 s
  rw [if_neg (by exact Nat.not_lt.mpr (qN e.symm))] at this
  rw [show ({rxS t s (sn.add 16) f hd with answer:=some false}:Sre.M)={rxS t s (sn.add 16) f hd with answer:=some false,pc:=9,pos:=s} from rfl,this]
  exact ⟨1,by omega,by rw [runFor_one _ rfl];rfl⟩
 |d+1,s,e,hb=>fun sn f hd=>
  (rx_try (n:=8*d+8) (hb s (zg _) (by exact qU (Nat.lt_add_of_pos_right (Nat.succ_pos _)) e)) (by exact qU (Nat.lt_add_of_pos_right (Nat.succ_pos _)) e) hz sn f hd fun sn=>rx_fail hz d (s+1) (by exact (zG _ _ _).trans e) (fun i h1 h2=>hb i (by omega) h2) sn false (s+1)).le (by omega)
theorem rx_match{t:Array Nat}(hz:t.size<4294967295){s0:Nat}(h0:s0+3=t.size)(h1:t.getD s0 0=46)(h2:zP (t.getD (s0+1) 0)=true)(h3:zP (t.getD (s0+2) 0)=true):
  ∀(d s:Nat),s+d=s0→(∀i,s≤i→i<s0→RxBad t i)→ ∀sn f hd,RxEnds (rxS t s sn f hd) (8*d+8) .matched
 |0,s,e,_=>fun sn f hd=>by
  have e:s=s0:=by omega
  subst e
  refine RxEnds.le (n:=8) ?_ (by omega)
  refine RxEnds.step ?_ rfl
  rw [rx_lit,if_neg (by omega),if_pos (by simpa using h1)]
  refine RxEnds.step ?_ rfl
  rw [rx_rep,if_neg (by exact Int.not_lt.mpr (Int.le_sub_left_of_add_le (QQ.mpr (qg (Nat.le_succ _) (qN h0)))))]
  have hmin:min 4294967295 ((t.size:Int)-((s+1:Nat):Nat)).toNat=2:=by exact congrArg (min 4294967295) ((Int.toNat_sub _ _).trans (h0▸Nat.add_sub_add_left _ 3 1))
  obtain ⟨sn1,e1⟩:=rx_run1 (t:=t) (n:=1) (p:=s+1) (k:=0) (sn:=((sn.add 16).add 24).add 13) h2
  obtain ⟨sn2,e2⟩:=rx_run1 (t:=t) (n:=0) (p:=s+1+1) (k:=0+1) (sn:=sn1) h3
  rw [hmin,e1,e2]
  show RxEnds (rxG t s sn2 f (s+1+(0+1+1)) (0+1+1)) _ _
  refine RxEnds.step ?_ rfl
  rw [rx_at]
  have hc:(s+1+(0+1+1)==t.size||(s+1+(0+1+1)+1==t.size&&t.getD (s+1+(0+1+1)) 0==10))=true:=by
   have e1:(s+1+(0+1+1)==t.size)=true:=by simp;omega
   rw [e1];rfl
  rw [hc,if_pos rfl]
  refine RxEnds.step ?_ rfl
  rw [rx_suc]
  refine RxEnds.step ?_ rfl
  rw [rx_yes1]
  refine RxEnds.step ?_ rfl
  rw [rx_yes2]
  exact ⟨1,by omega,by rw [runFor_one _ rfl];rfl⟩
 |d+1,s,e,hb=>fun sn f hd=>
  (rx_try (n:=8*d+8) (hb s (zg _) (by exact qU (Nat.lt_add_of_pos_right (Nat.succ_pos _)) e)) (by exact ql (qU (Nat.lt_add_of_pos_right (Nat.succ_pos _)) e) (qg (jk _ 3) (qN h0))) hz sn f hd fun sn=>rx_match hz h0 h1 h2 h3 d (s+1) (by exact (zG _ _ _).trans e) (fun i h1 h2=>hb i (by omega) h2) sn false (s+1)).le (by omega)
theorem rx_search(t:Array Nat)(h:2≤t.size):QB rxC t 0 0 t.size false=rxS t 0 (({}:vF).add 14) true 0:=by
 show (if (0>t.size||t.size-0<2)=true then _ else _)=_
 rw [if_neg (by simp;omega)]
 rfl
theorem rx_short(t:Array Nat)(h:t.size<2):RxEnds (QB rxC t 0 0 t.size false) 1 .failed:=by
 show RxEnds (if (0>t.size||t.size-0<2)=true then _ else _) _ _
 rw [if_pos (by simp;omega)]
 exact ⟨1,zg _,by rw [runFor_one _ rfl];rfl⟩
end
section
section
theorem slot_re:Slot "re.Pattern" "search" "re.Pattern.search":=
 .of (owner:="re.Pattern") (n:="search") (by rw [vD,zQ];kernel_rfl) (by decide+kernel) (by decide+kernel) (by decide+kernel)
  (by first|exact .inl (by decide+kernel)|exact .inr (by decide+kernel)) (by rw [jP];kernel_rfl)
theorem type_re:QK (.builtin "re.Pattern.search")=qj (.type "method_descriptor"):=by show builtinType _=_;rw [builtinType_eq_fast];kernel_rfl
theorem entry_re:entryFor table "re.Pattern.search"=some Builtin.«re.Pattern.search»:=entryFor_of_tree (by kernel_rfl)
theorem attrs_re:PlainAttrs "re.Pattern":=
 ⟨⟨"object.__getattribute__",by rw [vD,zQ];kernel_rfl,by decide+kernel⟩,by rw [vD,zQ];kernel_rfl⟩
theorem args_re(a c:Value):argsOk "re.Pattern.search" ⟨[a,c],[]⟩:=by
 unfold argsOk;kernel_rfl
variable{b:qe}{w:World}{A:qq}{L L':Led}{R:Value→Led→Prop}{E:Value→qe→Prop}{s:qe}
theorem reDrive_ok{o:Sre.Outcome}{Q:Sre.M→qe→Prop}: ∀(turns:Nat) (m:Sre.M) (n:Nat),RxEnds m n o→n≤4*turns→0<turns→(∀m',m'.outcome=some o→Q m' s)→wpAny (model pw w) A (Builtin.Re.reDrive turns m) Q E s
 |0,_,_,_,_,h,_=>absurd h (zO _)
 |turns+1,m,n,h,hn,_,q=>by
  obtain ⟨k,hk,e⟩:=h
  have done:k≤4∨(jv 4 m).outcome.isSome=true→(jv 4 m).outcome=some o:=by
   rintro (h4|h4)
   ·rw [show 4=k+(4-k) by exact (vA h4).symm,runFor_add,runFor_done _ (by rw [e];rfl)];exact e
   ·by_cases hk4:k≤4
    ·rw [show 4=k+(4-k) by exact (vA hk4).symm,runFor_add,runFor_done _ (by rw [e];rfl)];exact e
    ·rw [show k=4+(k-4) by exact (vA (Nat.le_of_not_le hk4)).symm,runFor_add,runFor_done _ h4] at e;exact e
  show wpAny _ _ (if (jv 4 m).outcome.isSome then qj (jv 4 m) else do rule "sre.turn";Builtin.Re.reDrive turns (jv 4 m)) _ _ _
  by_cases h4:(jv 4 m).outcome.isSome=true
  ·rw [if_pos h4];exact qf (q _ (done (.inr h4)))
  ·rw [if_neg h4]
   have hk4: ¬k≤4:=fun hk4=>h4 (by rw [done (.inl hk4)];rfl)
   refine qc (jI (reDrive_ok turns _ (n-4) ⟨k-4,by exact Nat.sub_le_sub_right hk 4,?_⟩ (by exact Nat.sub_le_of_le_add hn) (by exact jg fun e=>hk4 (qg hk (qg hn (qN (congrArg (fun y=>4*(y+1)) e))))) q))
   rw [←runFor_add,show 4+(k-4)=k by exact vA (Nat.le_of_not_le hk4)];exact e
theorem reRun_ok{o:Sre.Outcome}{m:Sre.M}{n:Nat}{Q:Option Sre.M→qe→Prop}(h:RxEnds m n o)(hn:n≤2^ 60)(h1:o= .matched→ ∀m',Q (some m') s)(h2:o= .failed→Q none s)(h3: ∀why,o≠ .stuck why):wpAny (model pw w) A (Builtin.Re.reRunToEnd m) Q E s:=by
 unfold Builtin.Re.reRunToEnd
 refine qc (reDrive_ok _ m n h (by omega) (by decide) fun m' hm'=> ?_)
 refine qc (wpAny_forIn_list (I:=fun fz fz s'=>s'=s) (Q:=fun fz s'=>wpAny (model pw w) A (match m'.outcome with
  |some .matched=>qj (some m')|some .failed=>qj none|some (.stuck why)=>unsupported s!"_sre:{why}"|none=>unsupported "internal:sre:no-outcome") Q E s') _ (fun x rest u s' e=> ?_) (fun u s' e=> ?_) _ _ rfl)
 ·subst e
  by_cases hx:m'.seen.has x=true
  ·simp-iota only [hx,if_true]
   exact qc (jI (qf rfl))
  ·rw [if_neg hx]
   exact qf rfl
 ·subst e
  rw [hm']
  cases o with
  |matched=>exact qf (h1 rfl m')
  |failed=>exact qf (h2 rfl)
  |stuck why=>exact absurd rfl (h3 why)
theorem W.gmRe{pl:Sem Bool}{P:Value→Value→Led→Prop}(K:Kn b)(h:P (.builtin "re.Pattern.search") (.ref 43) L):W b w A L (vg (.ref 43) (qb "search") pl) (MF P):=W.mk fun s H=>by
 obtain ⟨v0,t0,v3,v4,t2,t6,e⟩:=K.re43
 have e':=H.base e (by intro h;cases h)
 exact getMethod_builtin ⟨_,e',rfl⟩ attrs_re slot_re type_re (fun a ea=>by cases ea;exact ⟨_,e',rfl⟩) ⟨L,H,_,_,rfl,h⟩
noncomputable def isMt:Asn:=fun o=>o.cls= .type "re.Match"
theorem W.search{x:Str}{t:Tok}{o:Sre.Outcome}{n:Nat}(K:Kn b)(h:RxEnds (QB rxC x.cps 0 0 x.cps.size false) n o)(hn:n≤2^ 60)(hz:x.cps.size<1000000)(h3: ∀why,o≠ .stuck why)(h2:o= .failed→R .none L)(h1:o= .matched→ ∀a,R (.ref a) ((a,isMt)::L)):
  W b w A L (call (.builtin "re.Pattern.search") [.ref 43,.str x t]) R:=W.mk fun s H=>by
 obtain ⟨v0,t0,v3,v4,t2,t6,e⟩:=K.re43
 obtain ⟨n',ec⟩:=K.re42
 have e':=H.base e (by intro h;cases h)
 have ec':=H.base ec (by intro h;cases h)
 refine zr slot_re ⟨_,e',rfl⟩ entry_re ?_ (args_re _ _)
 unfold Builtin.«re.Pattern.search»
 refine qc ?_
 unfold Builtin.Re.reTarget
 have e1:Builtin.Re.reNamed "re.Pattern.search" "search" ["string","pos","endpos"] 1 [.str x t] []=qj [some (.str x t),none,none]:=by kernel_rfl
 refine qc (ze e1 ?_)
 refine qc (qf (qc (qf (qc (wpAny_fieldsOf e' rfl ?_)))))
 refine qc (m:=Builtin.Re.reTextOf (.str x t)) (ze (a:=(x.cps,0)) (by rfl) ?_)
 refine qc (m:=Builtin.Re.reNoCollectionInside (.str x t) 0) (ze (a:=()) (by rfl) ?_)
 refine qc (m:=Builtin.Re.reRawItems (.ref 42)) ?_
 unfold Builtin.Re.reRawItems
 refine qc (vy ec' rfl (qf (qf ?_)))
 have e2:(Array.map Builtin.Re.reRawOf ((some (List.map (fun i=>Value.int i 0) [14,8,1,2,4294967295,1,1,46,0,16,46,24,9,1,4294967295,13,4,8,0,0,1,6,5,1]).toArray).getD #[])).map (·.toNat)=rxC:=by kernel_rfl
 show wpAny _ _ (Builtin.Re.reAnswer _ (QB ((Array.map Builtin.Re.reRawOf ((some (List.map (fun i=>Value.int i 0) [14,8,1,2,4294967295,1,1,46,0,16,46,24,9,1,4294967295,13,4,8,0,0,1,6,5,1]).toArray).getD #[])).map (·.toNat)) x.cps 0 (min ((0:Int).toNat) x.cps.size) (min ((2^ 63-1:Int).toNat) x.cps.size) false)) _ _ s
 have e3:min ((0:Int).toNat) x.cps.size=0:=by omega
 have e4:min ((2^ 63-1:Int).toNat) x.cps.size=x.cps.size:=by omega
 rw [e2,e3,e4]
 unfold Builtin.Re.reAnswer
 refine qc (reRun_ok h hn (fun ho m'=> ?_) (fun ho=> ?_) h3)
 ·refine qc (m:=Builtin.Re.reNewMatch _ _ 0 _ _ m') ?_
  unfold Builtin.Re.reNewMatch newTuple Qs
  show wpAny _ _ (newObj (.type "tuple") (.seq ([zw m'.start,zw m'.handed]).toArray)>>=fun tup=>newObj (.type "re.Match") (.fields #[_,_,_,_,_,tup])) _ _ s
  refine qc (qM ?_ (by show 2≤ji;rw [qu];omega))
  have H1:=H.push {cls:= .type "tuple",data:= .seq (vQ (zw m'.start::zw m'.handed:: []))} s.toks
  refine qM (qf ⟨_,rfl,_,H1.alloc (P:=isMt) _ rfl rfl,h1 ho _⟩) (by show 6≤ji+2;rw [qu];omega)
 ·exact qf ⟨_,rfl,L,H,h2 ho⟩
end
end
section
section
variable{b:qe}{w:World}{A:qq}{L L':Led}{R:Value→Led→Prop}
theorem noBool_mt:typeLookup (.type "re.Match") "__bool__"=qj none:=by rw [vD,zQ];kernel_rfl
theorem noLen_mt:typeLookup (.type "re.Match") "__len__"=qj none:=by rw [vD,zQ];kernel_rfl
theorem W.truMt{a:Addr}{T:Bool→Led→Prop}(hm:Mm (a,isMt) L)(h:T true L):W b w A L (truthy (.ref a)) T:=W.mk fun s H=>by
 obtain ⟨o,ho,hc⟩:=H.own _ hm.mem
 have hT:s.TypeIs (.ref a) "re.Match":=⟨o,ho,hc⟩
 unfold truthy
 refine qc (wpAny_callSpecial?_none (name:=qb "__bool__") hT noBool_mt ?_)
 refine qc (jT (name:=qb "__len__") hT noLen_mt ?_)
 exact qf ⟨L,H,h⟩
theorem is_HDN_no{x:Str}{t:Tok}{n:Nat}(K:Kn b)(hA:Rm 1 A)(h:RxEnds (QB rxC x.cps 0 0 x.cps.size false) n .matched)(hn:n≤2^ 60)(hz:x.cps.size<1000000)(q:R (.bool false) L):W b w A L (call (.ref 50) [.str x t]) R:=by
 refine W.fn (fd:=fd0 4 cook 49) 1 [(qb "text",some (.str x t))] K (by tb_rel) hA rfl (fun fz fz=>zc (by kernel_rfl)) (by kernel_rfl) (by kernel_rfl) ?_
 intro La A' hA
 refine W.ifs ?_
 repeat tb_start
 refine W.gmRe K ?_
 repeat tb_start
 refine W.search K h hn hz (fun fz e=>nomatch e) (fun e=>nomatch e) fun fz a=> ?_
 refine W.truMt .head ?_
 repeat tb_start
 exact ⟨_,.skip (.skip .all),q⟩
theorem is_HDN_ok{x:Str}{t:Tok}{n:Nat}(K:Kn b)(hA:Rm 1 A)(h:RxEnds (QB rxC x.cps 0 0 x.cps.size false) n .failed)(hn:n≤2^ 60)(hz:x.cps.size<1000000)(h0:0<x.length)(q:R (.bool (!(Txt.item x 0==qb "."||Txt.item x (-1)==qb "."))) L):W b w A L (call (.ref 50) [.str x t]) R:=by
 revert b w A L R x t n K hA h hn hz h0 q
 funext b w A L R x t n K hA h hn hz h0 q
 refine W.fn (fd:=fd0 4 cook 49) 1 [(qb "text",some (.str x t))] K (by tb_rel) hA rfl (fun fz fz=>zc (by kernel_rfl)) (by kernel_rfl) (by kernel_rfl) ?_
 funext La A' hA
 refine W.ifs ?_
 repeat tb_start
 refine W.gmRe K ?_
 repeat tb_start
 refine W.search K h hn hz (fun fz e=>nomatch e) (?_) fun e=>nomatch e
 funext _
 repeat tb_start
 have hx:(x==qb "")=false:=by
  rw [beq_eq_false_iff_ne]
  funext rfl
  exact absurd h0 (by decide)
 rw [hx]
 repeat tb_start
 refine W.itemS (i:=0) (by decide) (by omega) (by exact zT.mpr h0) (fun fz=>by kernel_rfl) (fun fz=>by kernel_rfl) ?_
 funext _
 repeat tb_start
 refine ⟨fun h1=> ?_,fun h1=> ?_⟩
 ·repeat tb_start
  rw [h1] at q
  exact ⟨_,.skip .all,q⟩
 ·repeat tb_start
  refine W.itemS (i:= -1) (by decide) (by omega) (by exact vI (by decide) (zx _)) (fun fz=>by kernel_rfl) (fun fz=>by kernel_rfl) ?_
  funext _
  repeat tb_start
  rw [h1] at q
  refine ⟨fun h2=> ?_,fun h2=> ?_⟩
  ·repeat tb_start
   rw [h2] at q
   exact ⟨_,.skip .all,q⟩
  ·repeat tb_start
   rw [h2] at q
   exact ⟨_,.skip .all,q⟩
end
end
section
noncomputable def sOf(l:List Nat):Str:=⟨l.toArray⟩
theorem sOf_cps(l:List Nat):(sOf l).cps.toList=l:=rfl
theorem sOf_len(l:List Nat):(sOf l).length=l.length:=by show l.toArray.size=_;simp
theorem sOf_inj{l m:List Nat}(h:sOf l=sOf m):l=m:=by
 have:=congrArg (fun s:Str=>s.cps.toList) h
 exact this
theorem sOf_app(l m:List Nat):sOf l++sOf m=sOf (l++m):=by
 apply Str.ext'
 rw [Str.cps_append]
 show l.toArray++m.toArray=(l++m).toArray
 simp
theorem sOf_eq(l m:List Nat):(sOf l==sOf m)=(l==m):=by
 by_cases h:l=m
 ·subst h;simp
 ·rw [beq_eq_false_iff_ne.mpr h,beq_eq_false_iff_ne.mpr fun e=>h (sOf_inj e)]
theorem sOf_lower{l:List Nat}(h: ∀c∈l,c<128):Txt.lower (sOf l)=sOf (l.map lo1):=by
 rw [lower_ascii (by simpa [sOf] using h)]
 show (⟨l.toArray.map lo1⟩:Str)=⟨(l.map lo1).toArray⟩
 simp
theorem sOf_upper{l:List Nat}(h: ∀c∈l,c<128):Txt.upper (sOf l)=sOf (l.map up1):=by
 rw [upper_ascii (by simpa [sOf] using h)]
 show (⟨l.toArray.map up1⟩:Str)=⟨(l.map up1).toArray⟩
 simp
theorem sOf_from(l:List Nat){k:Nat}(hk:k≤l.length):Txt.slice (sOf l) (some (k:Int)) none=sOf (l.drop k):=by
 have:=StrLaws.sliceText_from (x:=sOf l) (i:=(k:Int)) ⟨by omega,by rw [sOf_cps];omega⟩
 rw [show Txt.slice (sOf l) (some (k:Int)) none=StrLaws.sliceText (sOf l) (some (k:Int)) none from rfl,this,sOf_cps]
 show sOf _=sOf _
 congr 1
 rewrite [vt,Qe (by rw [zt];exact qN (Int.toNat_sub _ _).symm)];rfl
theorem sOf_run(l:List Nat){a c:Nat}(ha:a≤c)(hc:c≤l.length):Txt.slice (sOf l) (some (a:Int)) (some (c:Int))=sOf ((l.drop a).take (c-a)):=by
 have:=StrLaws.sliceText_nat (sOf l) ha (by rw [sOf_len];exact hc)
 rw [show Txt.slice (sOf l) (some (a:Int)) (some (c:Int))=StrLaws.sliceText (sOf l) (some (a:Int)) (some (c:Int)) from rfl,this,sOf_cps]
 rfl
theorem sOf_item(l:List Nat){k c:Nat}(h:l[k]? =some c):Txt.item (sOf l) (k:Int)=sOf [c]:=by
 have h1:(seqIndex? (k:Int) (sOf l).length).bind ((sOf l).cps[·]?)=some c:=StrLaws.at_nonneg (by omega) (by rw [vt];simpa [sOf] using h)
 show (⟨#[((seqIndex? (k:Int) (sOf l).length).bind ((sOf l).cps[·]?)).getD 0]⟩:Str)=_
 rw [h1];rfl
theorem sOf_last(l:List Nat)(c:Nat):Txt.item (sOf (l++ [c])) (-1)=sOf [c]:=by
 have h1:(seqIndex? (-1:Int) (sOf (l++ [c])).length).bind ((sOf (l++ [c])).cps[·]?)=some c:=StrLaws.at_neg (by omega) (by rw [sOf_len];simp;exact Int.le_add_of_nonneg_left (zx _)) (by
  have e:((-1:Int)+((sOf (l++ [c])).length:Nat)).toNat=l.length:=by rw [sOf_len];simp;exact Ar.i4 _
  rw [e];simp [sOf])
 show (⟨#[((seqIndex? (-1:Int) (sOf (l++ [c])).length).bind ((sOf (l++ [c])).cps[·]?)).getD 0]⟩:Str)=_
 rw [h1];rfl
theorem sOf_sub(l m:List Nat)(i:Nat):StrLaws.At (sOf l) (sOf m) (sOf l).length i↔i+m.length≤l.length∧m<+:l.drop i:=by
 unfold StrLaws.At
 rw [StrLaws.subAt_eq,sOf_cps,sOf_cps,sOf_len,sOf_len,beq_iff_eq]
 constructor
 ·rintro ⟨h1,h2⟩
  refine ⟨h1,?_⟩
  rw [←h2]
  exact List.take_prefix _ _
 ·rintro ⟨h1,h2⟩
  refine ⟨h1,?_⟩
  exact (List.prefix_iff_eq_take.mp h2).symm
theorem sOf_at1(l:List Nat)(c i:Nat):StrLaws.At (sOf l) (sOf [c]) (sOf l).length i↔l[i]? =some c:=by
 have:=StrLaws.subAt_one (sOf l) c i
 exact this
theorem sOf_find_none{l:List Nat}{c:Nat}(h:c∉l):Txt.find (sOf l) (sOf [c])= -1:=by
 unfold Txt.find
 rcases StrLaws.occ_head (sOf l) (sOf [c]) 1 (zg _) with ⟨e,_⟩|⟨i,r,e,hA,_⟩
 ·rw [e]
 ·exact absurd (qk ((sOf_at1 l c i).mp hA)) h
theorem sOf_find{p r:List Nat}{c:Nat}(h:c∉p):Txt.find (sOf (p++c::r)) (sOf [c])=(p.length:Nat):=by
 revert p r c h
 funext p r c h
 unfold Txt.find
 refine Or.elim (StrLaws.occ_head (sOf (p++c::r)) (sOf [c]) 1 (zg _)) ?_ ?_
 ·funext ⟨_,hn⟩
  exact absurd ((sOf_at1 _ c p.length).mpr (by simp)) (hn _)
 ·funext ⟨i,r',e,hA,hn⟩
  rw [e]
  have h1:=(sOf_at1 _ c i).mp hA
  have h2: ¬i<p.length:=fun hlt=>by
   rw [qE hlt] at h1
   exact h (qk h1)
  have h3: ¬p.length<i:=fun hlt=>hn p.length hlt ((sOf_at1 _ c p.length).mpr (by simp))
  show ((i:Nat):Int)=_
  exact congrArg Int.ofNat (vC (qQ h3) (qQ h2))
noncomputable def infB(y:List Nat):List Nat→Bool
 | []=>y.isEmpty
 |c::r=>y.isPrefixOf (c::r)||infB y r
theorem infB_iff(y:List Nat): ∀x,infB y x=true↔ ∃i,i+y.length≤x.length∧y<+:x.drop i
 | []=>by
  show y.isEmpty=true↔_
  constructor
  ·intro h
   have:y= []:=by simpa using h
   subst this
   exact ⟨0,by simp,by simp⟩
  ·rintro ⟨i,h1,h2⟩
   have:y.length=0:=by have:([]:List Nat).length=0:=rfl;exact Nat.eq_zero_of_le_zero (qg (zy _ _) (qg h1 (qN this)))
   have:y= []:=List.length_eq_zero_iff.mp this
   subst this;rfl
 |c::r=>by
  show (y.isPrefixOf (c::r)||infB y r)=true↔_
  rw [Bool.or_eq_true,infB_iff y r,zH]
  constructor
  ·rintro (h|⟨i,h1,h2⟩)
   ·exact ⟨0,by simpa using h.length_le,by simpa using h⟩
   ·exact ⟨i+1,by simp;exact qg (qN (zG _ _ _)) (jm h1),by simpa using h2⟩
  ·rintro ⟨i,h1,h2⟩
   cases i with
   |zero=>exact .inl (by simpa using h2)
   |succ i=>exact .inr ⟨i,by simp at h1;omega,by simpa using h2⟩
theorem sOf_rfind{a y:List Nat}(hy:y≠ []):(Txt.rfind (sOf a) (sOf y)== -1||Txt.rfind (sOf a) (sOf y)==0)= !infB y (a.drop 1):=by
 revert a y hy
 funext a y hy
 have hlen:0<y.length:=List.length_pos_iff.mpr hy
 unfold Txt.rfind
 refine Or.elim (StrLaws.last_spec (sOf a) (sOf y)) ?_ ?_
 ·funext ⟨e,hn⟩
  rw [e]
  have:infB y (a.drop 1)=false:=by
   rw [Bool.eq_false_iff]
   funext h
   refine hkX ((infB_iff _ _).mp h) ?_
   funext ⟨i,h1,h2⟩
   rw [List.drop_drop,zt] at*
   exact hn (1+i) ((sOf_sub a y (1+i)).mpr ⟨by exact Ar.s2 hlen h1,h2⟩)
  rw [this];rfl
 ·funext ⟨i,e,hA,hn⟩
  rw [e]
  show (((i:Nat):Int)== -1||((i:Nat):Int)==0)=_
  have e1:(((i:Nat):Int)== -1)=false:=by rw [beq_eq_false_iff_ne];omega
  rw [e1,Bool.false_or]
  refine hkX ((sOf_sub a y i).mp hA) ?_
  funext ⟨h1,h2⟩
  by_cases hi:i=0
  ·subst hi
   have:infB y (a.drop 1)=false:=by
    rw [Bool.eq_false_iff]
    funext h
    refine hkX ((infB_iff _ _).mp h) ?_
    funext ⟨j,h3,h4⟩
    rw [List.drop_drop,zt] at*
    exact hn (1+j) (by omega) ((sOf_sub a y (1+j)).mpr ⟨by exact Ar.s2 hlen h3,h4⟩)
   rw [this];rfl
  ·have:infB y (a.drop 1)=true:=(infB_iff _ _).mpr ⟨i-1,by rw [zt];exact Nat.sub_add_comm (jg hi)▸Nat.sub_le_sub_right h1 1,by rw [List.drop_drop,show 1+(i-1)=i by exact Ar.n1 (jg hi)];exact h2⟩
   rw [this,Bool.not_true,beq_eq_false_iff_ne];exact fun e=>hi (Int.ofNat.inj e)
theorem sOf_starts(x y:List Nat):Txt.startswith (sOf x) (sOf y)=y.isPrefixOf x:=by
 rw [vZ,zH]
 have:=sOf_sub x y 0
 rw [List.drop_zero] at this
 unfold Txt.startswith
 rw [qt,decide_eq_true_eq]
 constructor
 ·intro h;exact (this.mp h).2
 ·intro h;exact this.mpr ⟨by have:=h.length_le;exact qg (qN (Nat.zero_add _)) this,h⟩
theorem chain_count{l:List Nat}{c:Nat}: ∀(cuts:List Nat) (a f:Nat),StrLaws.ChainG (sOf l) (sOf [c]) (sOf l).length a cuts f→(∀k,f≤k→ ¬StrLaws.At (sOf l) (sOf [c]) (sOf l).length k)→cuts.length=(l.drop a).count c
 | [],a,f,h,hn=>by
  have e:f=a:=h
  subst e
  have:c∉l.drop f:=fun hm=>by
   obtain ⟨j,hj⟩:=vG.mp hm
   rw [vK] at hj
   exact hn (f+j) (by omega) ((sOf_at1 l c (f+j)).mpr hj)
  rw [List.count_eq_zero.mpr this];rfl
 |d::r,a,f,h,hn=>by
  obtain ⟨h1,h2,h3,h4⟩:=h
  have ih:=chain_count r (d+1) f h4 hn
  have hd:=(sOf_at1 l c d).mp h2
  have hlt:=(qr.mp hd).1
  have e:l.drop a=(l.drop a).take (d-a)++c::l.drop (d+1):=by
   conv=>lhs;rw [←List.take_append_drop (d-a) (l.drop a)]
   rw [List.drop_drop,show a+(d-a)=d by exact vA h1]
   congr 1
   rw [zM hlt]
   congr 1
   rw [qd hlt] at hd
   exact vE hd
  have hz:((l.drop a).take (d-a)).count c=0:=List.count_eq_zero.mpr fun hm=>by
   obtain ⟨j,hj⟩:=vG.mp hm
   have hjl:j<d-a:=by
    have:=(qr.mp hj).1
    rw [qI] at this;exact ql this (zU _ _)
   rw [List.getElem?_take,if_pos hjl,vK] at hj
   exact h3 (a+j) (by omega) (by exact Nat.add_lt_of_lt_sub' hjl) ((sOf_at1 l c (a+j)).mpr hj)
  rw [e,List.count_append,hz,List.count_cons_self,←ih];simp
theorem sOf_count(l:List Nat)(c:Nat):Txt.count (sOf l) (sOf [c])=(l.count c:Nat):=by
 obtain ⟨f,h1,h2⟩:=StrLaws.occ_tight (sOf l) (sOf [c]) (zg _)
 unfold Txt.count
 rw [chain_count _ 0 f h1 h2,List.drop_zero]
end
section
section
variable{b:qe}{w:World}{A:qq}{L L':Led}{R:Value→Led→Prop}
theorem is_HDN_nil{t:Tok}{n:Nat}(K:Kn b)(hA:Rm 1 A)(q:R (.bool false) L):W b w A L (call (.ref 50) [.str (sOf []) t]) R:=by
 refine W.fn (fd:=fd0 4 cook 49) 1 [(qb "text",some (.str (sOf []) t))] K (by tb_rel) hA rfl (fun fz fz=>zc (by kernel_rfl)) (by kernel_rfl) (by kernel_rfl) ?_
 intro La A' hA
 refine W.ifs ?_
 repeat tb_start
 refine W.gmRe K ?_
 repeat tb_start
 refine W.search K (rx_short (sOf []).cps (by decide)) (by decide) (by decide) (fun fz e=>nomatch e) (fun fz=> ?_) fun e=>nomatch e
 repeat tb_start
 have hx:(sOf []==qb "")=true:=by decide+kernel
 rw [hx]
 repeat tb_start
 exact ⟨_,.skip .all,q⟩
noncomputable def badL:List Nat→Bool
 |x::y::z::_=>x !=46|| !Sre.isDigit y||(!Sre.isDigit z&&z !=10)
 |x::y:: []=>x !=46|| !Sre.isDigit y
 |_=>true
theorem badL_ok{l:List Nat}{s:Nat}(h:badL (l.drop s)=true):RxBad l.toArray s:=by
 revert l s h
 funext l s h
 have g: ∀k,l.toArray.getD (s+k) 0=(l.drop s).getD k 0:=fun k=>by
  simp [Qf,qi,vK]
 have hl:l.toArray.size=l.length:=by simp
 have hd:(l.drop s).length=l.length-s:=zt
 have g0:=g 0
 have g1:=g 1
 have g2:=g 2
 rw [Nat.add_zero] at g0
 unfold RxBad
 rw [g0,g1,g2,hl]
 match hx:l.drop s,h with
 | [],_=>exact .inr (.inl (by rw [hx] at hd;simp at hd;exact Qu (Qp hd.symm)))
 | [x],_=>exact .inr (.inl (by rw [hx] at hd;simp at hd;exact Nat.sub_le_iff_le_add'.mp (qN hd.symm)))
 | [x,y],h=>
  change (x !=46|| !Sre.isDigit y)=true at h
  simp at h
  rcases h with h|h
  ·exact .inl (by simpa using h)
  ·exact .inr (.inr (.inl (by simpa using h)))
 |x::y::z::r,h=>
  change (x !=46|| !Sre.isDigit y||(!Sre.isDigit z&&z !=10))=true at h
  simp at h
  rcases h with (h|h)|h
  ·exact .inl (by simpa using h)
  ·exact .inr (.inr (.inl (by simpa using h)))
  ·exact .inr (.inr (.inr ⟨by rw [hx] at hd;simp at hd;exact Nat.add_lt_of_lt_sub' (qU (zy 3 _) hd),by simpa using h.1,by simpa using h.2⟩))
noncomputable def rxNo:List Nat→Bool
 | []=>true
 |x::r=>badL (x::r)&&rxNo r
theorem rxNo_ok: ∀{l:List Nat},rxNo l=true→ ∀i,i<l.length→badL (l.drop i)=true
 |x::r,h,i,hi=>by
  have h:=QT.mp (show (badL (x::r)&&rxNo r)=true from h)
  cases i with
  |zero=>exact h.1
  |succ i=>exact rxNo_ok h.2 i (by simpa using hi)
noncomputable def rxYes:List Nat→Bool
 | []=>false
 |x::r=>if r.length==2 then x==46&&r.all zP else badL (x::r)&&rxYes r
theorem rxYes_ok: ∀{l:List Nat},rxYes l=true→ ∃p x y z,l=p++ [x,y,z]∧x=46∧zP y=true∧zP z=true∧ ∀i,i<p.length→badL (l.drop i)=true
 |x::r,h=>by
  change (if r.length==2 then x==46&&r.all zP else badL (x::r)&&rxYes r)=true at h
  by_cases h2:r.length=2
  ·rw [if_pos (by simpa using h2)] at h
   match r,h2 with
   | [y,z],_=>
    simp at h
    exact ⟨[],x,y,z,rfl,h.1,h.2.1,h.2.2,fun i hi=>absurd hi (Nat.not_lt_zero _)⟩
  ·rw [if_neg (by simpa using h2),qt] at h
   obtain ⟨p,a,y,z,rfl,e,h3,h4,h5⟩:=rxYes_ok h.2
   refine ⟨x::p,a,y,z,rfl,e,h3,h4,fun i hi=> ?_⟩
   cases i with
   |zero=>exact h.1
   |succ i=>exact h5 i (by simpa using hi)
noncomputable def hdL(l:List Nat):Option Bool:=
 if l.isEmpty then some false else if rxNo l then some (!(l.head? ==some 46||l.getLast? ==some 46)) else if rxYes l then some false else none
theorem hd_call{l:List Nat}{t:Tok}{c:Bool}(K:Kn b)(hA:Rm 1 A)(h:hdL l=some c)(hz:l.length<100000)(q:R (.bool c) L):W b w A L (call (.ref 50) [.str (sOf l) t]) R:=by
 revert b w A L R l t c K hA h hz q
 funext b w A L R l t c K hA h hz q
 have hs:(sOf l).cps.size=l.length:=sOf_len l
 have hs':l.toArray.size=l.length:=sOf_len l
 unfold hdL at h
 by_cases h0:l= []
 ·subst h0
  cases h
  exact is_HDN_nil (n:=0) K hA q
 ·have hne:l.isEmpty=false:=by simpa using h0
  rw [hne,if_neg qx] at h
  have hpos:0<l.length:=List.length_pos_iff.mpr h0
  by_cases h1:rxNo l=true
  ·rw [if_pos h1] at h
   cases h
   have hE:RxEnds (QB rxC (sOf l).cps 0 0 (sOf l).cps.size false) (8*l.length+8) .failed:=by
    by_cases h2:2≤(sOf l).cps.size
    ·rw [rx_search _ h2]
     exact rx_fail (by omega) l.length 0 (by omega) (fun i fz hi=>badL_ok (rxNo_ok h1 i (by omega))) _ _ _
    ·exact (rx_short _ (by exact Nat.lt_of_not_le h2)).le (by omega)
   refine is_HDN_ok K hA hE (by exact qg (qG (qW 8 (qv hz)) 8) (Ar.d rfl)) (by omega) (by rw [sOf_len];exact hpos) ?_
   have e1:(Txt.item (sOf l) 0==qb ".")=(l.head? ==some 46):=by
    match l,h0 with
    |x::r,_=>
     have:=sOf_item (x::r) (k:=0) (c:=x) rfl
     rw [show ((0:Nat):Int)=0 from rfl] at this
     rw [this,show qb "."=sOf [46] by decide+kernel,sOf_eq]
     show ([x]== [46])=(some x==some 46)
     simp
   have e2:(Txt.item (sOf l) (-1)==qb ".")=(l.getLast? ==some 46):=by
    refine Or.elim (jM l) ?_ ?_
    ·funext rfl
     exact absurd rfl h0
    ·funext ⟨p,x,rfl⟩
     rw [List.concat_eq_append,sOf_last,show qb "."=sOf [46] by decide+kernel,sOf_eq,List.getLast?_append]
     simp
   rw [e1,e2];exact q
  ·rw [if_neg h1] at h
   by_cases h2:rxYes l=true
   ·rw [if_pos h2] at h
    cases h
    refine hkX (rxYes_ok h2) ?_
    funext ⟨p,x,y,z,e,e46,h3,h4,h5⟩
    have hlen:l.length=p.length+3:=by rw [e];simp
    have hE:RxEnds (QB rxC (sOf l).cps 0 0 (sOf l).cps.size false) (8*p.length+8) .matched:=by
     rw [rx_search _ (by exact qg (zy 2 _) (qN (hs.trans hlen).symm))]
     refine rx_match (by omega) (s0:=p.length) (by omega) ?_ ?_ ?_ p.length 0 (by omega) (fun i fz hi=>badL_ok (h5 i hi)) _ _ _
     ·show l.toArray.getD p.length 0=46
      rw [e];simp [Qf,e46]
     ·show zP (l.toArray.getD (p.length+1) 0)=true
      rw [e];simpa [Qf] using h3
     ·show zP (l.toArray.getD (p.length+2) 0)=true
      rw [e];simpa [Qf] using h4
    exact is_HDN_no K hA hE (by exact qg (qG (qW 8 (qg (jk _ 3) (qg (qN hlen.symm) (qv hz)))) 8) (Ar.d rfl)) (by omega) q
   ·rw [if_neg h2] at h;cases h
end
end
section
section
variable{b:qe}{w:World}{A:qq}{L L':Led}{R:Value→Led→Prop}
noncomputable def dmL(x y:List Nat):Option Bool:=
 if x==y then some true else (hdL x).bind fun c=>if !c then some false else if !infB y (x.drop 1) then some false else if !([46].isPrefixOf y) then some false else hdL (y.drop 1)
theorem lit_dot:qb "."=sOf [46]:=by decide+kernel
theorem dm_ok{x y:List Nat}{t u:Tok}{c:Bool}(K:Kn b)(hA:Rm 2 A)(hx: ∀k∈x,k<128)(hy: ∀k∈y,k<128)(hzx:x.length<10000)(hzy:y.length<10000)(hy0:y≠ [])(h:dmL (x.map lo1) (y.map lo1)=some c)(q:R (.bool c) L):
  W b w A L (call (.ref 57) [.str (sOf x) t,.str (sOf y) u]) R:=by
 revert b w A L R x y t u c K hA hx hy hzx hzy hy0 h q
 funext b w A L R x y t u c K hA hx hy hzx hzy hy0 h q
 refine W.fn (fd:=fd0 5 cook 56) 2 [(qb "A",some (.str (sOf x) t)),(qb "B",some (.str (sOf y) u)),(qb "i",none)] K (by tb_rel) hA rfl (fun fz fz=>zc (by kernel_rfl)) (by kernel_rfl) (by kernel_rfl) ?_
 funext La A' hA
 refine W.asg (by kernel_rfl!) ?_
 repeat tb_start
 have tl: ∀z:List Nat,z.length<10000→Qd (sOf z).length=false:=fun z hz=>by
  unfold Qd;rw [sOf_len,qu];simp;omega
 refine W.slower (by rw [sOf_lower hx];exact tl _ (by simpa using hzx)) ?_
 funext _
 rw [sOf_lower hx]
 repeat tb_start
 refine W.slower (by rw [sOf_lower hy];exact tl _ (by simpa using hzy)) ?_
 funext _
 rw [sOf_lower hy]
 generalize hX:x.map lo1=X at h
 generalize hY:y.map lo1=Y at h
 have hlX:X.length<10000:=by rw [←hX];simpa using hzx
 have hlY:Y.length<10000:=by rw [←hY];simpa using hzy
 have hY0:Y≠ []:=by rw [←hY];simpa using hy0
 repeat tb_start
 rw [sOf_eq]
 unfold dmL at h
 refine ⟨fun h1=> ?_,fun h1=> ?_⟩
 ·repeat tb_start
  rw [if_pos h1] at h
  cases h
  exact ⟨_,.skip .all,q⟩
 ·rw [if_neg (by rw [h1];exact qx)] at h
  cases hd:hdL X with
  |none=>rw [hd] at h;cases h
  |some d=>
   revert d;funext d hd
   rw [hd] at h
   repeat tb_start
   refine hd_call K hA hd (by omega) ?_
   repeat tb_start
   cases d with
   |false=>
    cases h
    repeat tb_start
    refine ⟨?_,fun e=>nomatch e⟩
    funext _
    repeat tb_start
    exact ⟨_,.skip .all,q⟩
   |true=>
    refine ⟨fun e=>(nomatch e),?_⟩
    funext _
    replace h:(if !infB Y (X.drop 1) then some false else if !([46].isPrefixOf Y) then some false else hdL (Y.drop 1))=some c:=h
    have hr:=sOf_rfind (a:=X) hY0
    repeat tb_start
    have stop:infB Y (X.drop 1)=false→c=false:=fun e=>by rw [e] at h;cases h;rfl
    have go:infB Y (X.drop 1)=true→(if !([46].isPrefixOf Y) then some false else hdL (Y.drop 1))=some c:=fun e=>by rw [e] at h;exact h
    refine ⟨fun h2=> ?_,fun h2=> ?_⟩
    ·repeat tb_start
     rw [h2,Bool.true_or] at hr
     have:=stop (by simpa using hr.symm)
     subst this
     exact ⟨_,.skip .all,q⟩
    ·repeat tb_start
     rw [h2,Bool.false_or] at hr
     refine ⟨fun h3=> ?_,fun h3=> ?_⟩
     ·repeat tb_start
      rw [h3] at hr
      have:=stop (by simpa using hr.symm)
      subst this
      exact ⟨_,.skip .all,q⟩
     ·rw [h3] at hr
      have h:=go (by simpa using hr.symm)
      repeat tb_start
      rw [lit_dot,sOf_starts]
      by_cases h4: [46].isPrefixOf Y=true
      ·rw [h4] at h ⊢
       replace h:hdL (Y.drop 1)=some c:=h
       repeat tb_start
       refine ⟨fun e=>(nomatch e),?_⟩
       funext _
       repeat tb_start
       funext _
       refine W.partS (i:=1) (by rw [sOf_len,qu];omega) (by tb_rel) (by kernel_rfl) (fun fz=>by kernel_rfl) ?_
       funext _
       have hsl:=sOf_from Y (k:=1) (List.length_pos_iff.mpr hY0)
       rw [show ((1:Nat):Int)=1 from rfl] at hsl
       rw [hsl]
       repeat tb_start
       refine hd_call K hA h (by rw [zt];omega) ?_
       repeat tb_start
       cases c with
       |false=>
        refine ⟨?_,fun e=>nomatch e⟩
        funext _
        repeat tb_start
        exact ⟨_,.skip (.skip .all),q⟩
       |true=>
        refine ⟨fun e=>(nomatch e),?_⟩
        funext _
        repeat tb_start
        exact ⟨_,.skip (.skip .all),q⟩
      ·have h4': [46].isPrefixOf Y=false:=Bool.eq_false_iff.mpr h4
       rw [h4'] at h ⊢
       cases h
       repeat tb_start
       refine ⟨?_,fun e=>nomatch e⟩
       funext _
       repeat tb_start
       exact ⟨_,.skip .all,q⟩
end
end
section
section
variable{b:qe}{w:World}{A:qq}{L L':Led}{R:Value→Led→Prop}
noncomputable def cutL(c:Nat):List Nat→Option (List Nat)
 | []=>none
 |x::r=>if x==c then some r else cutL c r
theorem cutL_none{c:Nat}: ∀{l:List Nat},cutL c l=none→c∉l
 | [],_=>by simp
 |x::r,h=>by
  change (if x==c then some r else cutL c r)=_ at h
  by_cases e:x=c
  ·rw [if_pos (by simpa using e)] at h;cases h
  ·rw [if_neg (by simpa using e)] at h
   have:=cutL_none h
   simp;exact ⟨fun e'=>e e'.symm,this⟩
theorem cutL_some{c:Nat}: ∀{l r:List Nat},cutL c l=some r→ ∃p,l=p++c::r∧c∉p
 |x::l,r,h=>by
  change (if x==c then some l else cutL c l)=_ at h
  by_cases e:x=c
  ·rw [if_pos (by simpa using e)] at h
   cases h
   exact ⟨[],by rw [e];rfl,by simp⟩
  ·rw [if_neg (by simpa using e)] at h
   obtain ⟨p,rfl,hp⟩:=cutL_some h
   exact ⟨x::p,rfl,by simp;exact ⟨fun e'=>e e'.symm,hp⟩⟩
noncomputable def loc5:List Nat:= [108,111,99,97,108]
theorem lit_local:qb "local"=sOf loc5:=by decide+kernel
noncomputable def reachL(l:List Nat):Option (List Nat):=
 match cutL 46 l with
 |none=>some l
 |some r=>(hdL l).bind fun c=>some (if c&&(r.contains 46||r==loc5) then 46::r else l)
theorem find_ge{l:List Nat}:decide (Txt.find (sOf l) (sOf [46])≥0)=l.contains 46:=by
 cases h:cutL 46 l with
 |none=>
  have:=cutL_none h
  rw [sOf_find_none this]
  simp [this]
 |some r=>
  obtain ⟨p,rfl,hp⟩:=cutL_some h
  rw [sOf_find hp]
  simp
theorem reach_ok{l r:List Nat}{t:Tok}(K:Kn b)(hA:Rm 2 A)(hz:l.length<10000)(h:reachL l=some r)(q: ∀t,R (.str (sOf r) t) L):W b w A L (call (.ref 64) [.str (sOf l) t]) R:=by
 revert b w A L R l r t K hA hz h q
 funext b w A L R l r t K hA hz h q
 refine W.fn (fd:=fd0 6 cook 63) 1 [(qb "h",some (.str (sOf l) t)),(qb "i",none),(qb "b",none)] K (by tb_rel) hA rfl (fun fz fz=>zc (by kernel_rfl)) (by kernel_rfl) (by kernel_rfl) ?_
 funext La A' hA
 refine W.asg (by kernel_rfl!) ?_
 repeat tb_start
 rw [lit_dot,find_ge]
 unfold reachL at h
 cases hc:cutL 46 l with
 |none=>
  rw [hc] at h
  cases h
  have hn:=cutL_none hc
  have:l.contains 46=false:=by simpa using hn
  rw [this]
  repeat tb_start
  exact ⟨_,.skip .all,q _⟩
 |some d=>
  revert d;funext d hc
  rw [hc] at h
  refine hkX (cutL_some hc) ?_
  funext ⟨p,e,hp⟩
  have hct:l.contains 46=true:=by rw [e];simp
  rw [hct]
  repeat tb_start
  funext _
  have hf:Txt.find (sOf l) (sOf [46])=(p.length:Nat):=by rw [e];exact sOf_find hp
  rw [hf,show ((p.length:Nat):Int)+1=((p.length+1:Nat):Int) from rfl]
  refine W.partS (by rw [sOf_len,qu];omega) (by tb_rel) (by kernel_rfl) (fun fz=>by kernel_rfl) ?_
  funext _
  have hd:l.drop (p.length+1)=d:=by rw [e];simp
  have hle:p.length+1≤l.length:=by rw [e];simp
  rw [sOf_from l hle,hd]
  cases hh:hdL l with
  |none=>rw [hh] at h;cases h
  |some c=>
   revert c;funext c hh
   rw [hh] at h
   replace h:some (if c&&(d.contains 46||d==loc5) then 46::d else l)=some r:=h
   have h:=vE h
   subst h
   repeat tb_start
   refine hd_call K hA hh (by omega) ?_
   repeat tb_start
   cases c with
   |false=>
    repeat tb_start
    refine W.nil ?_
    repeat tb_start
    exact ⟨_,.skip (.skip .all),q _⟩
   |true=>
    repeat tb_start
    rw [find_ge]
    refine ⟨fun h1=> ?_,fun h1=> ?_⟩
    ·repeat tb_start
     refine W.addS (by rw [sOf_len,sOf_len,qu];have:d.length≤l.length:=(by rw [e];simp;omega);simp;exact qg (qX (qg this (qv hz)) 1) (Ar.d rfl)) fun fz=> ?_
     rw [sOf_app]
     refine ⟨_,.skip (.skip .all),?_⟩
     rw [h1] at q
     exact q _
    ·repeat tb_start
     rw [lit_local,sOf_eq]
     refine ⟨fun h2=> ?_,fun h2=> ?_⟩
     ·repeat tb_start
      refine W.addS (by rw [sOf_len,sOf_len,qu];have:d.length≤l.length:=(by rw [e];simp;omega);simp;exact qg (qX (qg this (qv hz)) 1) (Ar.d rfl)) fun fz=> ?_
      rw [sOf_app]
      refine ⟨_,.skip (.skip .all),?_⟩
      rw [h1,h2] at q
      exact q _
     ·repeat tb_start
      refine W.nil ?_
      repeat tb_start
      rw [h1,h2] at q
      exact ⟨_,.skip (.skip .all),q _⟩
end
end
section
noncomputable abbrev VV(u v:Value):Prop:=v=u
theorem All2.vv: ∀(vs:List Value),All2 VV vs vs
 | []=> .nil
 |v::r=> .cons rfl (All2.vv r)
section
variable{b:qe}{w:World}{A:qq}{L L':Led}{R:Value→Led→Prop}{env:Env}{pos:Pos}{Q:Flow→Led→Prop}
theorem St.grow{s:qe}{h':Heap}{t:Nat}(H:St b s L)(hk: ∀c o,s.heap.get? c=some o→h'.get? c=some o):St b {s with heap:=h',toks:=t} L:=H.exts hk [] (fun fz h=>(nomatch h)) (fun fz h=>(nomatch h)) .nil
theorem Heap.extFresh{h h':Heap}(hx:Heap.ExtBut h.objs.size h h'): ∀c o,h.get? c=some o→h'.get? c=some o:=fun c o e=>hx c o (qS (zi e)) e
theorem W.unpackItems{a:Addr}{α:Type}{T:α→Value→Prop}{ds:List α}{n:Nat}{P:List Value→Led→Prop}(hh:A.handled=none)(hm:Mm (a,isT T ds) L)(hn:ds.length=n)(h: ∀vs,All2 T ds vs→P vs L):W b w A L (unpackItems (.ref a) n none) P:=W.mk fun s H=>by
 obtain ⟨vs,k,ha,e⟩:=H.tup hm
 have:=ha.len
 have hsz:vs.toArray.size=n:=by rw [qo];exact this.trans hn
 have:=unpackItems_tuple (prog:=pw) (w:=w) (E:=fun fz fz=>False) (Q:=Post b P) hh (tupO_is e) (fun h' hx=>⟨L,H.grow (t:=s.toks) (Heap.extFresh hx),h vs ha⟩)
 rw [hsz] at this
 exact this
theorem W.asgT2{x y:Str}{p1 p2 tp:Pos}{k:Nat}{value:Expr}{rest:List Stmt}{spos:Pos}(hh:A.handled=none)(hs:swapsWithSole [.Tuple [.Name x p1,.Name y p2] k tp] value spos.line env=qj false)(hw:swappedStores [.Tuple [.Name x p1,.Name y p2] k tp] value env=qj (some [x,y]))
  (h:W b w A L (eval value env) fun v L1=> ∃t v1 v2,v= .ref t∧Mm (t,isT VV [v1,v2]) L1∧W b w A L1 (Qi env y v2) fun fz L2=>W b w A L2 (Qi env x v1) fun fz L3=>W b w A L3 (execs rest env) Q):
  W b w A L (execs (.Assign [.Tuple [.Name x p1,.Name y p2] k tp] value spos::rest) env) Q:=
 W.seq<|W.mk fun s H=>Assign_Tuple_swapped (names:= [x,y]) (h.then H fun v s1 L1 H1 ⟨t,v1,v2,e,hm,h1⟩=>by
  subst e
  refine (W.unpackItems (w:=w) (A:=A) (P:=fun vs L2=>vs= [v1,v2]∧L2=L1) hh hm rfl fun vs hv=>⟨by cases hv with
   |cons e1 h2=>cases h2 with
    |cons e2 h3=>cases h3;rw [e1,e2],rfl⟩).then H1 fun vs s2 L2 H2 ⟨e1,e2⟩=> ?_
  subst e1;subst e2
  show wpAny _ _ (assignInOrder [fun v=>bindName env y v,fun v=>bindName env x v] [v2,v1]) _ _ s2
  refine qc (qC (wpAny_bindName (h1.then H2 fun fz s3 L3 H3 h3=> ?_)))
  refine qc (qC (wpAny_bindName (h3.then H3 fun fz s4 L4 H4 h4=> ?_)))
  exact qf ⟨L4,H4,h4⟩) hs hw
end
end
section
theorem at_to(l:List Nat)(c hi i:Nat):StrLaws.At (sOf l) (sOf [c]) hi i↔(l.take hi)[i]? =some c:=by
 revert l c hi i
 funext l c hi i
 have h1:StrLaws.At (sOf l) (sOf [c]) hi i↔i+1≤hi∧StrLaws.At (sOf l) (sOf [c]) (sOf l).length i:=by
  constructor
  ·funext ⟨h,h2⟩
   refine ⟨h,?_,h2⟩
   have h3:Builtin.Str.subAt (sOf l) (sOf [c]) i=true:=h2
   rw [StrLaws.subAt_eq,sOf_cps,sOf_cps,beq_iff_eq] at h3
   have:=congrArg Qy h3
   simp [sOf_len] at this
   rw [sOf_len,sOf_len]
   show i+1≤l.length
   exact Nat.lt_of_sub_pos (qg (qN this.symm) (vd _ _))
  ·rintro ⟨h,_,h2⟩;exact ⟨h,h2⟩
 rw [h1,sOf_at1,List.getElem?_take]
 constructor
 ·rintro ⟨h2,h3⟩;rw [if_pos (by omega)];exact h3
 ·funext h2
  by_cases h3:i<hi
  ·rw [if_pos h3] at h2;exact ⟨h3,h2⟩
  ·rw [if_neg h3] at h2;cases h2
theorem occ_to(l:List Nat)(c hi:Nat):(match zp (sOf l) (sOf [c]) 0 hi 1 with|i::_=>(i:Int)| []=> -1)=Txt.find (sOf (l.take hi)) (sOf [c]):=by
 revert l c hi
 funext l c hi
 rw [StrLaws.occ_eq]
 refine Or.elim (StrLaws.occ_first (sOf l) (sOf [c]) hi 1 (zg _) (List.range' 0 (hi+1-0)) 0 (fun fz fz=>vh _)) ?_ ?_
 ·funext ⟨h0,hn⟩
  rw [h0]
  have:c∉l.take hi:=fun hm=>by
   refine hkX (vG.mp hm) ?_
   funext ⟨i,hi'⟩
   have hlt:i<hi:=by have:=(qr.mp hi').1;rw [qI] at this;exact ql this (zU _ _)
   exact hn i (by simp [List.mem_range'];exact Nat.lt_succ_of_lt hlt) ((at_to l c hi i).mpr hi')
  rw [sOf_find_none this]
 ·funext ⟨pre,a,post,e,h0,ha,hn⟩
  generalize (forIn (List.range' 0 (hi+1-0)) ((#[]:Array Nat),0) (StrLaws.occBody (sOf l) (sOf [c]) hi 1)).run.fst=arr at h0
  have h1:arr.toList[0]? =some a:=by simpa using h0
  have ha':=(at_to l c hi a).mp ha
  cases hL:arr.toList with
  |nil=>rw [hL] at h1;cases h1
  |cons x t=>
   revert x t;funext x t hL
   rw [hL] at h1;simp at h1;subst h1
   have hlt:=(qr.mp ha').1
   have hx:l.take hi=(l.take hi).take x++c::(l.take hi).drop (x+1):=by
    conv=>lhs;rw [←List.take_append_drop x (l.take hi),zM hlt]
    rw [qd hlt] at ha'
    rw [vE ha']
   have hp:c∉(l.take hi).take x:=fun hm=>by
    refine hkX (vG.mp hm) ?_
    funext ⟨i,hi'⟩
    have hix:i<x:=by have:=(qr.mp hi').1;rw [qI] at this;exact ql this (zU _ _)
    rw [List.getElem?_take,if_pos hix] at hi'
    exact hn i (StrLaws.range'_split e i hix) ((at_to l c hi i).mpr hi')
   rw [hx,sOf_find hp,qI]
   show ((x:Nat):Int)=_
   exact congrArg Int.ofNat (jR (qv hlt)).symm
noncomputable def behindL(c:Nat)(l:List Nat):List Nat:=(l.reverse.takeWhile (· !=c)).reverse
theorem behind_at{p r:List Nat}{c:Nat}(h:c∉r):behindL c (p++c::r)=r:=by
 unfold behindL
 rw [List.reverse_append,zX,qY,Qa]
 ·simp
 ·intro x hx;simp at hx ⊢;rintro rfl;exact h hx
theorem behind_no{r:List Nat}{c:Nat}(h:c∉r):behindL c r=r:=by
 unfold behindL
 have:r.reverse.takeWhile (· !=c)=r.reverse:=by
  have:=Qa (p:=(· !=c)) (l₁:=r.reverse) (l₂:= []) (by intro x hx;simp at hx ⊢;rintro rfl;exact h hx)
  simpa using this
 rw [this,List.reverse_reverse]
theorem last_to(l:List Nat)(c hi:Nat): ∃i:Int,(match Builtin.Str.lastOccurrence (sOf l) (sOf [c]) 0 hi with|some i=>(i:Int)|none=> -1)=i∧((i= -1∧behindL c (l.take hi)=l.take hi)∨ ∃k:Nat,i=k∧k<(l.take hi).length∧behindL c (l.take hi)=(l.take hi).drop (k+1)):=by
 revert l c hi
 funext l c hi
 rw [StrLaws.last_eq]
 have key:=StrLaws.last_run (sOf l) (sOf [c]) hi (List.range' 0 (hi+1-0)) [] none (fun fz h=>nomatch h) (fun fz h=>nomatch h) (by simpa using List.pairwise_lt_range' (s:=0) (n:=hi+1-0))
 have mem: ∀i,StrLaws.At (sOf l) (sOf [c]) hi i→i∈ []++List.range' 0 (hi+1-0):=fun i hi'=>by
  have:=hi'.1
  simp [List.mem_range'];omega
 cases hr:(forIn (List.range' 0 (hi+1-0)) none (StrLaws.lastBody (sOf l) (sOf [c]) hi)).run with
 |none=>
  rw [hr] at key
  refine ⟨-1,rfl,.inl ⟨rfl,behind_no ?_⟩⟩
  funext hm
  refine hkX (vG.mp hm) ?_
  funext ⟨i,hi'⟩
  have hA:=(at_to l c hi i).mpr hi'
  exact key i (mem i hA) hA
 |some a=>
  revert a;funext a hr
  rw [hr] at key
  refine hkX (key) ?_
  funext ⟨hA,hn⟩
  have ha':=(at_to l c hi a).mp hA
  have hlt:=(qr.mp ha').1
  refine ⟨a,rfl,.inr ⟨a,rfl,hlt,?_⟩⟩
  have hx:l.take hi=(l.take hi).take a++c::(l.take hi).drop (a+1):=by
   conv=>lhs;rw [←List.take_append_drop a (l.take hi),zM hlt]
   rw [qd hlt] at ha'
   rw [vE ha']
  have hp:c∉(l.take hi).drop (a+1):=fun hm=>by
   refine hkX (vG.mp hm) ?_
   funext ⟨i,hi'⟩
   rw [vK] at hi'
   have hA':=(at_to l c hi (a+1+i)).mpr hi'
   exact hn (a+1+i) (mem _ hA') (by omega) hA'
  conv=>lhs;rw [hx]
  exact behind_at hp
section
variable{b:qe}{w:World}{A:qq}{L L':Led}{R:Value→Led→Prop}
theorem W.sfind4{l:List Nat}{c hi:Nat}{t u v v2:Tok}(hh:hi≤l.length)(h: ∀v,R (.int (Txt.find (sOf (l.take hi)) (sOf [c])) v) L):W b w A L (call (.builtin "str.find") [.str (sOf l) t,.str (sOf [c]) u,.int 0 v,.int hi v2]) R:=W.mk fun s H=>by
 refine call_gives PySem.F.slot_str_find (typeIs_str _ _ _) PySem.F.entry_str_find (PySem.F.args_str_find_4 _ _ _ _) (m:= .int (Txt.find (sOf (l.take hi)) (sOf [c]))) ?_ ⟨L,H.tok _,h _⟩
 rw [←occ_to]
 have e1:(max 0 (0:Int)).toNat=0:=rfl
 have e2:min (max 0 (if (hi:Int)<0 then (hi:Int)+(sOf l).length else (hi:Int))).toNat (sOf l).length=hi:=by
  rw [if_neg (by omega),sOf_len];exact Ar.m7 hh
 show Gives (match zp (sOf l) (sOf [c]) (max 0 (if (0:Int)<0 then (0:Int)+(sOf l).length else 0)).toNat (min (max 0 (if (hi:Int)<0 then (hi:Int)+(sOf l).length else (hi:Int))).toNat (sOf l).length) 1 with
  |i::_=>retInt i| []=>(do PySem.rule "str.find.not-found";retInt (-1))) _
 rw [e2,if_neg (by omega),e1]
 cases zp (sOf l) (sOf [c]) 0 hi 1 with
 |nil=>exact .rule (.of_eq rfl)
 |cons k _=>exact .of_eq rfl
theorem W.srfind4{l:List Nat}{c hi:Nat}{t u v v2:Tok}(hh:hi≤l.length)(h: ∀(i:Int) v,((i= -1∧behindL c (l.take hi)=l.take hi)∨ ∃k:Nat,i=k∧k<(l.take hi).length∧behindL c (l.take hi)=(l.take hi).drop (k+1))→R (.int i v) L):W b w A L (call (.builtin "str.rfind") [.str (sOf l) t,.str (sOf [c]) u,.int 0 v,.int hi v2]) R:=W.mk fun s H=>by
 obtain ⟨i,e,hi'⟩:=last_to l c hi
 refine call_gives PySem.F.slot_str_rfind (typeIs_str _ _ _) PySem.F.entry_str_rfind (PySem.F.args_str_rfind_4 _ _ _ _) (m:= .int i) ?_ ⟨L,H.tok _,h _ _ hi'⟩
 rw [←e]
 have e1:(max 0 (0:Int)).toNat=0:=rfl
 have e2:min (max 0 (if (hi:Int)<0 then (hi:Int)+(sOf l).length else (hi:Int))).toNat (sOf l).length=hi:=by
  rw [if_neg (by omega),sOf_len];exact Ar.m7 hh
 show Gives (match Builtin.Str.lastOccurrence (sOf l) (sOf [c]) (max 0 (if (0:Int)<0 then (0:Int)+(sOf l).length else 0)).toNat (min (max 0 (if (hi:Int)<0 then (hi:Int)+(sOf l).length else (hi:Int))).toNat (sOf l).length) with
  |some i=>retInt i|none=>(do PySem.rule "str.rfind.not-found";retInt (-1))) _
 rw [e2,if_neg (by omega),e1]
 cases Builtin.Str.lastOccurrence (sOf l) (sOf [c]) 0 hi with
 |none=>exact .rule (.of_eq rfl)
 |some k=>exact .of_eq rfl
end
end
section
section
variable{b:qe}{w:World}{A:qq}{L L':Led}{R:Value→Led→Prop}{env:Env}{pos:Pos}{Q:Flow→Led→Prop}
theorem W.ifJ{test:Expr}{body rest:List Stmt}(J:Led→Prop)(h:W b w A L (isTrue test env (eval test env)) fun c L1=>(c=true→W b w A L1 (execs body env) (fun f L2=>match f with| .next=> ∃L3,Take L2 L3∧J L3|f=>Q f L2))∧(c=false→ ∃L3,Take L1 L3∧J L3))
  (k: ∀L2,J L2→W b w A L2 (execs rest env) Q):W b w A L (execs (.If test body [] pos::rest) env) Q:=
 W.ifs (h.mono fun c L1 h1=>⟨fun hc=>(h1.1 hc).mono fun f L2 h2=>by
  cases f with
  |next=>obtain ⟨L3,tk,h3⟩:=h2;exact W.take (k L3 h3) tk
  |brk=>exact h2
  |cont=>exact h2
  |ret v=>exact h2,fun hc=>by obtain ⟨L3,tk,h3⟩:=h1.2 hc;exact W.take (k L3 h3) tk⟩)
noncomputable def stripL(l:List Nat):List Nat:=behindL 46 ((l.takeWhile (· !=10)).takeWhile (· !=58))
theorem find_cut(l:List Nat)(c:Nat):(Txt.find (sOf l) (sOf [c])= -1∧l.takeWhile (· !=c)=l)∨ ∃k:Nat,Txt.find (sOf l) (sOf [c])=k∧k<l.length∧l.takeWhile (· !=c)=l.take k:=by
 revert l c
 funext l c
 cases h:cutL c l with
 |none=>
  have hn:=cutL_none h
  refine .inl ⟨sOf_find_none hn,?_⟩
  have:=Qa (p:=(· !=c)) (l₁:=l) (l₂:= []) (by intro x hx;simp;rintro rfl;exact hn hx)
  simpa using this
 |some r=>
  revert r;funext r h
  refine hkX (cutL_some h) ?_
  funext ⟨p,rfl,hp⟩
  refine .inr ⟨p.length,sOf_find hp,by simp,?_⟩
  rw [Qa (by intro x hx;simp;rintro rfl;exact hp hx)]
  simp
theorem lit_nl:qb "\n"=sOf [10]:=by decide+kernel
theorem lit_col:qb ":"=sOf [58]:=by decide+kernel
set_option tactic.hygienic true in
theorem strip_ok{l:List Nat}{t:Tok}(K:Kn b)(hA:Rm 1 A)(hz:l.length<10000)(q: ∀t,R (.str (sOf (stripL l)) t) L):W b w A L (call (.ref 71) [.str (sOf l) t]) R:=by
 revert b w A L R l t K hA hz q
 funext b w A L R l t K hA hz q
 refine W.fn (fd:=fd0 8 dtst 70) 1 [(qb "msg",some (.str (sOf l) t)),(qb "start",none),(qb "end",none),(qb "i",none)] K (by tb_rel) hA rfl (fun fz fz=>zc (by kernel_rfl)) (by kernel_rfl) (by kernel_rfl) ?_
 funext La A' hA
 refine W.asgT2 hA.handled (by kernel_rfl) (by kernel_rfl) ?_
 repeat tb_start
 refine W.ltlen (by rw [sOf_len];exact Ar.i6 hz rfl) ?_
 funext tl
 rename_i t0
 refine W.newT (T:=VV) (ds:= [.int 0 t0,.int (sOf l).length tl]) (All2.vv _) (by simp) ?_
 funext a
 refine ⟨a,_,_,rfl,.head,?_⟩
 repeat k_memK
 rw [lit_nl]
 refine W.ifJ (fun L2=> ∃e:Nat,∃ti te,e≤l.length∧l.take e=l.takeWhile (· !=10)∧L2=(La,loc [(qb "msg",some (.str (sOf l) t)),(qb "start",some (.int 0 t0)),(qb "end",some (.int e te)),(qb "i",some ti)])::L) ?_ ?_
 ·repeat tb_start
  refine Or.elim (find_cut l 10) ?_ ?_
  ·funext ⟨e1,e2⟩
   rw [e1]
   refine ⟨fun e=>absurd e (by decide),fun fz=>⟨_,.skip .all,l.length,_,tl,zg _,by rw [e2];simp,by rw [sOf_len]⟩⟩
  ·funext ⟨k,e1,e2,e3⟩
   rw [e1]
   refine ⟨?_,fun e=>absurd e (by simp)⟩
   funext _
   repeat tb_start
   refine W.nil ⟨_,.skip .all,k,_,_,by exact qv e2,e3.symm,rfl⟩
 funext L2 ⟨e,ti,te,he,ht,rfl⟩
 refine W.asg (by kernel_rfl!) ?_
 repeat tb_start
 rw [lit_col]
 refine W.sfind4 he ?_
 funext _
 rw [ht]
 repeat k_memK
 refine W.ifJ (fun L2=> ∃e:Nat,∃ti te,e≤l.length∧l.take e=(l.takeWhile (· !=10)).takeWhile (· !=58)∧L2=(La,loc [(qb "msg",some (.str (sOf l) t)),(qb "start",some (.int 0 t0)),(qb "end",some (.int e te)),(qb "i",some ti)])::L) ?_ ?_
 ·repeat tb_start
  refine Or.elim (find_cut (l.takeWhile (· !=10)) 58) ?_ ?_
  ·funext ⟨e1,e2⟩
   rw [e1]
   refine ⟨fun e=>absurd e (by decide),fun fz=>⟨_,.all,e,_,te,he,by rw [e2];exact ht,rfl⟩⟩
  ·funext ⟨k,e1,e2,e3⟩
   rw [e1]
   refine ⟨?_,fun e=>absurd e (by simp)⟩
   funext _
   repeat tb_start
   rw [←ht,qI] at e2
   refine W.nil ⟨_,.all,k,_,_,by exact qv (ql e2 (vd _ _)),?_,rfl⟩
   rw [e3,←ht,List.take_take,jR (by exact qv (ql e2 (zU _ _)))]
 funext L2 ⟨e,ti,te,he,ht,rfl⟩
 refine W.asg (by kernel_rfl!) ?_
 repeat tb_start
 rw [lit_dot]
 refine W.srfind4 he ?_
 funext i ti hi
 rw [ht] at hi
 repeat k_memK
 refine W.ifJ (fun L2=> ∃s:Nat,∃ti ts te,s≤e∧(l.take e).drop s=stripL l∧L2=(La,loc [(qb "msg",some (.str (sOf l) t)),(qb "start",some (.int s ts)),(qb "end",some (.int e te)),(qb "i",some ti)])::L) ?_ ?_
 ·repeat tb_start
  rcases hi with ⟨e1,e2⟩|⟨k,e1,e2,e3⟩
  ·rw [e1]
   refine ⟨fun e=>absurd e (by decide),fun fz=>⟨_,.all,0,_,_,_,by omega,by rw [ht];exact e2.symm,rfl⟩⟩
  ·rw [e1]
   refine ⟨?_,fun e=>absurd e (by simp)⟩
   funext _
   repeat tb_start
   rw [←ht,qI] at e2
   refine W.nil ⟨_,.all,k+1,_,_,_,by exact ql e2 (zU _ _),?_,rfl⟩
   rw [ht];exact e3.symm
 funext L2 ⟨s,ti,ts,te,hse,hs,rfl⟩
 refine W.ret ?_
 repeat tb_start
 funext _
 refine W.partSS (by rw [sOf_len,qu];omega) .head (by kernel_rfl) (fun fz=>by kernel_rfl) ?_
 funext _
 rw [sOf_run l hse he]
 have e1:(l.drop s).take (e-s)=stripL l:=by rw [←hs,List.drop_take]
 rw [e1]
 exact ⟨_,.skip (.skip .all),q _⟩
end
end
section
theorem hereT{α:Type}{M:Model}{A:qq}{t:Sem α}{r:α}{Q:α→qe→Prop}{E:Value→qe→Prop}{s:qe}{k:Nat}(x:Looks M s.heap t r)(q:Q r {s with toks:=k}):wpAny M A t Q E {s with toks:=k}:=x A Q E _ (fun fz fz e=>e) q
theorem mem_mm{α:Type}{a:α}: ∀{l:List α},a∈l→Mm a l
 |x::r,h=>by
  by_cases e:a=x
  ·subst e;exact .head
  ·exact .tail (mem_mm (by rcases qH.mp h with h|h<;>first|exact absurd h e|exact h))
section
variable{b:qe}{w:World}{A:qq}{L L':Led}{R:Value→Led→Prop}{F:Frag}
structure Cls(F:Frag)(C:Addr)(ms:List Value)(tab:List (Str×Option Value)):Prop where
 cd: ∃cd od sl,F.lookup C=some ⟨.type "type",od,.cls cd,sl⟩∧cd.mro= .ref C::ms∧cd.hasDict=true∧cd.abstract=false∧cd.hasDel=false
 call:specialIn F (.ref C) "__call__"=some (some (.builtin "type.__call__"))
 typ:instIn F (.ref C) (.type "type")=some true
 find: ∀p∈tab,findIn F (.ref C) p.1=some p.2
structure Kc(F:Frag)(b:qe):Prop where
 X:F.In b.heap
 nn: ∀a o,F.lookup a=some o→o.cls≠ .none
 acc:Cls F 151 [.type "list",.type "object"] accTab
 can:Cls F 267 [.type "object"] canTab
 accNew: ∀oc od cd sl,F.lookup 151=some ⟨oc,od,.cls cd,sl⟩→(sl.toList[4]?).join=some (.builtin "list.__new__")
 canNew:makesIn F 267=true
 accQ: ∀oc od cd sl,F.lookup 151=some ⟨oc,od,.cls cd,sl⟩→cd.qualname="_Accumulator"
 d80: ∃t n,b.heap.get? 80=some (tupO [.int 0 t] n)
 d96: ∃t n,b.heap.get? 96=some (tupO [.int 0 t] n)
 d185: ∃n,b.heap.get? 185=some (tupO [.type "reversed"] n)
 d200: ∃n,b.heap.get? 200=some (tupO [.none] n)
 d238: ∃n,b.heap.get? 238=some (tupO [.none] n)
 cel75: ∃o,b.heap.get? 75=some o∧o.cls≠ .none∧o.data= .cell (some (.ref 151))
 cdf: ∀p∈ [(87:Addr),110,147],∃vs t,b.heap.get? p=some {cls:= .type "code",data:= .fields vs}∧vs[2]? =some (.str pw.main.file t)
 stt: ∃o,b.heap.get? ja=some o∧nsIn [(ja,o)] ja "thirdparty.any"=some none
theorem Kc.at(KC:Kc F b){s:qe}(H:St b s L):F.In s.heap:=fun a o e=>H.base (KC.X a o e) (KC.nn a o e)
noncomputable def AE(p:Str×Value)(e:jz):Prop:=(∃t,e.key= .str p.1 t)∧e.val=p.2
noncomputable def isAt(kvs:List (Str×Value)):Asn:=fun o=> ∃es n,All2 AE kvs es∧o=dictOf es n
inductive PutA:List (Str×Value)→Str→Value→List (Str×Value)→Prop
 |nil {x v}:PutA [] x v [(x,v)]
 |head {x u v r}:PutA ((x,u)::r) x v ((x,v)::r)
 |tail {x y u v r r'}:(x==y)=false→PutA r x v r'→PutA ((y,u)::r) x v ((y,u)::r')
theorem ae_str{p:Str×Value}{e:jz}(h:AE p e)(n:Str):e.key.isStr n=(n==p.1):=by
 obtain ⟨⟨t,h⟩,_⟩:=h
 rw [h]
 show (p.1==n)=(n==p.1)
 exact vZ.mpr ⟨fun e=>by simp at e;simp [e],fun e=>by simp at e;simp [e]⟩
theorem ae_look{kvs:List (Str×Value)}{es:List jz}(h:All2 AE kvs es)(n:Str):getL n es=some (kvs.lookup n):=by
 revert kvs es h n
 funext kvs es h n
 have hr:es.any (·.refKey)=false:=by
  rw [Qw]
  funext e he
  refine hkX (h.mem he) ?_
  funext ⟨p,_,⟨t,h3⟩,_⟩
  simp [jz.refKey,h3]
 unfold getL
 rw [hr]
 clear hr
 induction h with
 |nil=>rfl
 |@cons p e kvs es h1 h2 ih=>
  rw [List.find?_cons,ae_str h1,zD]
  cases hx:n==p.1 with
  |true=>show some (some e.val)=some (some p.2);rw [h1.2]
  |false=>exact ih
theorem ae_put{kvs kvs':List (Str×Value)}{x:Str}{v:Value}(hp:PutA kvs x v kvs')(h:Int)(t:Tok): ∀{es:List jz},All2 AE kvs es→All2 AE kvs' (putL x h (.str x t) v es):=by
 induction hp with
 |nil=>intro es h;cases h;exact .one ⟨⟨t,rfl⟩,rfl⟩
 |@head x u v r=>
  intro es h
  cases h with
  |@cons _ e _ es h1 h2=>
   unfold putL
   rw [ae_str h1,if_pos (by simp)]
   exact .cons ⟨h1.1,rfl⟩ h2
 |@tail x y u v r r' hne _ ih=>
  intro es h
  cases h with
  |@cons _ e _ es h1 h2=>
   unfold putL
   rw [ae_str h1,hne,if_neg qx]
   exact .cons h1 (ih h2)
theorem PutA.len{kvs kvs':List (Str×Value)}{x:Str}{v:Value}(hp:PutA kvs x v kvs'):kvs'.length≤kvs.length+1:=by
 induction hp with
 |nil=>simp
 |head=>simp
 |tail _ _ ih=>simpa using ih
noncomputable def isI(C:Addr)(dx:Addr)(P:Data→Prop):Asn:=fun o=> ∃d,P d∧(∀c,d≠ .cls c)∧o={cls:= .ref C,dict:=some dx,data:=d,slots:=#[]}
theorem St.inst{s:qe}{C x dx:Addr}{P:Data→Prop}{kvs:List (Str×Value)}(H:St b s L)(hx:Mm (x,isI C dx P) L)(hd:Mm (dx,isAt kvs) L): ∃ox es n,InstAt s.heap x ox C (some (dictOf es n))∧ox.dict=some dx∧All2 AE kvs es∧P ox.data:=by
 revert b L s C x dx P kvs H hx hd
 funext b L s C x dx P kvs H hx hd
 refine hkX (H.own _ hx.mem) ?_
 funext ⟨ox,hox,d,hP,hn,rfl⟩
 refine hkX (H.own _ hd.mem) ?_
 funext ⟨od,hod,es,n,hl,rfl⟩
 refine ⟨_,es,n,⟨hox,rfl,?_,hod⟩,rfl,hl,hP⟩
 unfold notCls
 cases d<;>first|rfl|exact absurd rfl (hn _)
theorem Cls.isSub{M:Model}{h:Heap}{C:Addr}{ms:List Value}{tab:List (Str×Option Value)}(K:Cls F C ms tab)(X:F.In h):Looks M h (mroOf (.ref C)) (.ref C::ms):=by
 obtain ⟨cd,od,sl,h1,h2,_⟩:=K.cd
 rw [←h2]
 exact (looks_clsIn X (by unfold clsIn;rw [h1])).andThen .now
theorem W.gmI{C x dx:Addr}{P:Data→Prop}{kvs:List (Str×Value)}{ms:List Value}{tab:List (Str×Option Value)}{name:Str}{f tf:Value}{pl:Sem Bool}{ga:String}{PP:Value→Value→Led→Prop}(KC:Kc F b)(K:Cls F C ms tab)(hx:Mm (x,isI C dx P) L)(hd:Mm (dx,isAt kvs) L)
  (hga:Mm (qb "__getattribute__",some (.builtin ga)) tab) (hcan:(Manifest.canonical ga !="object.__getattribute__")=false) (hgh:Mm (qb "__getattr__",none) tab) (hf:Mm (name,some f) tab)
  (ht: ∀s,St b s L→Looks (model pw w) s.heap (QK f) tf) (htf:(tf != .type "function"&&tf != .type "method_descriptor"&&tf != .type "wrapper_descriptor")=false) (hs:kvs.lookup name=none) (h:PP f (.ref x) L):W b w A L (vg (.ref x) name pl) (MF PP):=W.mk fun s H=>by
 have X:=KC.at H
 obtain ⟨ox,es,n,I,hdx,hl,_⟩:=H.inst hx hd
 unfold vg specialOf
 refine qc (qc (I.type.here ((jw X (K.find _ hga.mem)).here ?_)))
 dsimp only
 rw [hcan,if_neg qx]
 refine qc (qc (I.type.here ((jw X (K.find _ hgh.mem)).here ?_)))
 refine qc (qc (I.type.here ((jw X (K.find _ hf.mem)).here (qc ((ht s H).here ?_)))))
 rw [htf,if_neg qx]
 refine qc (jC I.at_ ?_)
 rw [hdx]
 have hd':=I.dict
 rw [hdx] at hd'
 refine qc (qc (jC hd' ?_))
 rw [nsLook_of (show lookIn name (dictOf es n)=some none from (lookIn_dict name es n).trans ((ae_look hl name).trans (by rw [hs])))]
 exact qf (qc (jI (qf ⟨L,H,_,_,rfl,h⟩)))
theorem W.setA{C x dx:Addr}{P:Data→Prop}{kvs kvs':List (Str×Value)}{ms:List Value}{tab:List (Str×Option Value)}{name:Str}{v:Value}{Q:Unit→Led→Prop}(KC:Kc F b)(K:Cls F C ms tab)(hm: ∀self,QM self "__setattr__" (.ref C::ms)=qj ())(hob:ms.contains (.type "object")=true)
  (hsa:Mm (qb "__setattr__",some (.builtin "object.__setattr__")) tab) (hn:Mm (name,none) tab) (hx:Mm (x,isI C dx P) L) (hu:Upd L dx (isAt kvs) (isAt kvs') L') (hp:PutA kvs name v kvs') (hz:kvs.length≤1000) (q:Q () L'):W b w A L (setAttr (.ref x) name v) Q:=W.mk fun s H=>by
 have X:=KC.at H
 obtain ⟨ox,es,n,I,hdx,hl,_⟩:=H.inst hx (mem_mm hu.mem)
 obtain ⟨cd,cod,sl,h1,h2,h3,h4,h5⟩:=K.cd
 have hc:clsIn F C=some cd:=by unfold clsIn;rw [h1]
 refine set_plain X I (K.find _ hsa.mem) ?_
 have SF:=PySem.F.store_object
 have sub:Looks (model pw w) s.heap (QC (.ref x) (.type "object")) true:=I.type.andThen (looks_mroIn X (by unfold mroIn;rw [hc,QN,if_neg (by rw [h2];exact qx),h2,List.contains_cons,hob,Bool.or_true]))
 refine jb SF.slot.plain SF.entry (@check_slot (model pw w) _ _ _ "object.__setattr__" "object" "__setattr__" (.ref x) [.str name s.toks,v] [] _ SF.kind SF.split sub (SF.args (.ref x) (.str name s.toks) v) ?_)
 have L3:Looks (model pw w) s.heap (Builtin.ObjectAttr.storeTaker? none) none:= .now
 rw [osa_eq,refuse_eq]
 refine qc (qc (hereT I.type (qc (hereT (K.isSub X) ?_))))
 rw [hm]
 refine qf (qc (hereT I.type (qc (hereT (jw X (K.find _ hn.mem)) (qc (hereT L3 ?_))))))
 have D:=I.dict
 rw [hdx] at D
 obtain ⟨hx',hcl,hno,-⟩:=I
 obtain ⟨oc,odi,oda,osl⟩:=ox
 dsimp only at hcl hdx
 subst hcl hdx
 refine qc (qf (qc (qc (jC hx' (qc (hereT (looks_clsIn X hc) ?_))))))
 rw [h3]
 refine qf (a:=some dx) (qc (qf (qc ?_)))
 unfold nsSet
 refine qc (qc (jn (qf (qc (wpAny_mkText (qc (jC D ?_)))))))
 have hr:es.any (·.refKey)=false:=by
  rw [Qw]
  intro e he
  obtain ⟨p,_,⟨t,h3⟩,_⟩:=hl.mem he
  simp [jz.refKey,h3]
 have c:(!es.toArray.any (·.key.isStr name)&&es.toArray.any (·.refKey))=false:=by
  rw [List.any_toArray,List.any_toArray,hr,Bool.and_false]
 dsimp only
 rw [aRefKeyMayBeTheName_at,c]
 refine wpAny_updatePart D ?_
 have e1:=putName_dict name (vr w.params name) (.str name (s.toks+1)) v es n
 have hs:Qv dx s.heap (s.heap.update dx (Obj.putName name (vr w.params name) (.str name (s.toks+1)) v)):=qK ..
 have D':(s.heap.update dx (Obj.putName name (vr w.params name) (.str name (s.toks+1)) v)).get? dx=some (dictOf (putL name (vr w.params name) (.str name (s.toks+1)) v es) (putN name es n)):=by
  rw [←e1]
  exact zR _ D (by rw [e1];rfl)
 have hA:=ae_put hp (vr w.params name) (s.toks+1) hl
 refine qc (wpAny_lookBehind D' (pastItsLine_dict (by rw [qo,hA.len,qu];have:=hp.len;exact qg this (jm (qg hz (Ar.d rfl))))) ?_)
 refine qf ?_
 show Post b Q () _
 exact ⟨L',H.same hu hs ⟨_,D',_,_,hA,rfl⟩ _,q⟩
theorem refuse_can(self:Value):QM self "__setattr__" [.ref 267,.type "object"]=qj ():=refuse_only self (by rfl)
theorem refuse_acc(self:Value):QM self "__setattr__" [.ref 151,.type "list",.type "object"]=qj ():=by
 revert self
 funext self
 rw [PySem.refuseLoop_ref]
 have:QM self "__setattr__" [.type "list",.type "object"]=QM self "__setattr__" [.type "object"]:=by
  unfold QM
  rewrite [Qb]
  have e:classOwn (.type "list") (qb "__setattr__")=qj none:=by show qj (builtinOwn "list" _)=_;rw [builtinOwn_eq_fast];kernel_rfl
  simp-iota only [e]
  rfl
 rw [this]
 exact PySem.F.store_object.passes self
end
end
section
section
variable{b:qe}{w:World}{A:qq}{L L':Led}{R:Value→Led→Prop}{F:Frag}{env:Env}{pos:Pos}{Q:Flow→Led→Prop}
theorem W.getI{C x dx:Addr}{P:Data→Prop}{kvs:List (Str×Value)}{ms:List Value}{tab:List (Str×Option Value)}{name:Str}{v:Value}{ex:Bool}(KC:Kc F b)(K:Cls F C ms tab)(hx:Mm (x,isI C dx P) L)(hd:Mm (dx,isAt kvs) L)
  (hga:Mm (qb "__getattribute__",some (.builtin "object.__getattribute__")) tab) (hn:Mm (name,none) tab) (hl:Lk kvs name v) (hv:handedIn v=true) (h:R v L):W b w A L (getAttr (.ref x) name ex) R:=W.mk fun s H=>by
 have X:=KC.at H
 obtain ⟨ox,es,n,I,hdx,hA,_⟩:=H.inst hx hd
 obtain ⟨cd,cod,sl,h1,h2,h3,h4,h5⟩:=K.cd
 refine get_value X I (K.find _ hga.mem) (findObj_own (attr:=none) ?_ (K.find _ hn.mem) rfl ?_) hv ⟨L,H.tok _,h⟩
 ·unfold hasDictIn clsIn;rw [h1];exact h3
 ·rw [lookIn_dict,ae_look hA,hl.eq]
end
end
section
section
variable{b:qe}{w:World}{A:qq}{L L':Led}{R:Value→Led→Prop}{F:Frag}{env:Env}{pos:Pos}{Q:Flow→Led→Prop}
noncomputable abbrev KAttr(b:qe)(w:World)(A:qq)(name:Str)(R:Value→Led→Prop):Value→Led→Prop:=fun o L1=>W b w A L1 (getAttr o name true) R
noncomputable abbrev KAA2(b:qe)(w:World)(A:qq)(env:Env)(attr:Str)(rest:List Stmt)(Q:Flow→Led→Prop)(v:Value):Value→Led→Prop:=fun ov L2=>W b w A L2 (setAttr ov attr v) (KU b w A env rest Q)
noncomputable abbrev KAA1(b:qe)(w:World)(A:qq)(env:Env)(o:Expr)(attr:Str)(rest:List Stmt)(Q:Flow→Led→Prop):Value→Led→Prop:=fun v L1=>W b w A L1 (eval o env) (KAA2 b w A env attr rest Q v)
theorem W.attr{value:Expr}{name:Str}(hb:jE value name env (eval value env)=eval value env)(h:W b w A L (eval value env) (KAttr b w A name R)):W b w A L (eval (.Attribute value name pos) env) R:=W.mk fun s H=>by
 rw [arm_eval_Attribute,hb]
 exact qc (h.then H fun o s1 L1 H1 h1=>qc (vp (qc (qC (qL (h1.run s1 H1) (fun r s2 h2=>qc (wpAny_letTemporaryGo (qf h2))) fun fz fz x=>x)))))
theorem W.asgA{o value:Expr}{attr:Str}{p:Pos}{rest:List Stmt}(hs:swapsWith value (some (.Attribute o attr p)) pos.line env=qj false)
  (h:W b w A L (eval value env) (KAA1 b w A env o attr rest Q)):W b w A L (execs (.Assign [.Attribute o attr p] value pos::rest) env) Q:=
 W.seq<|W.mk fun s H=>plainObj_wpAny_Assign_Attribute (h.then H fun v s1 L1 H1 h1=>h1.then H1 fun ov s2 L2 H2 h2=>h2.then H2 fun fz s3 L3 H3 h3=>⟨L3,H3,h3⟩) hs
theorem W.augA{o value:Expr}{attr:Str}{p:Pos}{op:Operator}{rest:List Stmt}
  (h:W b w A L (eval o env) fun ov L1=>W b w A L1 (getAttr ov attr true) fun old L2=>W b w A L2 (eval value env) fun v L3=>W b w A L3 (inplaceOp op old v) fun r L4=>W b w A L4 (setAttr ov attr r) fun fz L5=>W b w A L5 (execs rest env) Q):
  W b w A L (execs (.AugAssign (.Attribute o attr p) op value pos::rest) env) Q:=
 W.seq<|W.mk fun s H=>wpAny_AugAssign_AttributeAny (h.then H fun ov s1 L1 H1 h1=>h1.then H1 fun old s2 L2 H2 h2=>h2.then H2 fun v s3 L3 H3 h3=>h3.then H3 fun r s4 L4 H4 h4=>h4.then H4 fun fz s5 L5 H5 h5=>⟨L5,H5,h5⟩)
end
section
variable{w:World}{A:qq}{R:Result→qe→Prop}{F:Frag}{h:Heap}{g:Array ju}{d:Drawn}{t:Nat}{os:OsState}
noncomputable abbrev accE(dx:Addr):Obj:={cls:= .ref 151,dict:=some dx,data:= .seq #[] 0,slots:=#[]}
theorem new_acc{rest:List Value}(X:F.In h)(K:Cls F 151 [.type "list",.type "object"] accTab)(hnw: ∀oc od cd sl,F.lookup 151=some ⟨oc,od,.cls cd,sl⟩→(sl.toList[4]?).join=some (.builtin "list.__new__"))
  (hq:R (.ok (.ret (.ref (h.objs.size+1)))) ⟨(h.push QO).push (accE h.objs.size),g,d,t,os⟩):
  Qq (model pw w) A (.call (.builtin "list.__new__") ⟨.ref 151::rest,[]⟩) R ⟨h,g,d,t,os⟩:=by
 revert w A R F h g d t os rest X K hnw hq
 funext w A R F h g d t os rest X K hnw hq
 refine hkX (K.cd) ?_
 funext ⟨cd,cod,sl,h1,h2,h3,h4,h5⟩
 have hnw':=hnw _ _ _ _ h1
 have hC:=X _ _ h1
 have hc:clsIn F 151=some cd:=by unfold clsIn;rw [h1]
 have hm:Looks (model pw w) h (mroOf (.ref 151)) (.ref 151:: [.type "list",.type "object"]):=K.isSub X
 have made:Looks (model pw w) h (Bind.madeBy (.ref 151)) (some "list.__new__"):=by
  funext A Q E s k q
  unfold Bind.madeBy
  refine qc (hm A _ E s k ?_)
  rw [Qb]
  refine qc (qc (qc (qc (jC (k _ _ (X _ _ h1)) (qf ?_)))))
  dsimp-iota only
  rw [←Array.getElem?_toList,hnw']
  exact qf (qf (qf q))
 have base:Looks (model pw w) h (Bind.staticBase (.ref 151)) (.ref 151):=by
  funext A Q E s k q
  unfold Bind.staticBase
  refine qc (hm A _ E s k ?_)
  rw [Qb]
  exact qc (qc (qc (made A _ E s k (qf (qf (qf q))))))
 have sub:Looks (model pw w) h (isSubtype (.ref 151) (.type "list")) true:=looks_mroIn X (by unfold mroIn;rw [hc,QN,if_neg (by rw [h2];exact qx),h2];rfl)
 refine codeAny_call_builtin_code (jD _ (by decide+kernel)) ?_
 have kind:builtinKind "list.__new__"=some .builtinFn:=by decide+kernel
 have split:splitId "list.__new__"=some ("list","__new__"):=by decide+kernel
 have row:vB "list.__new__"=vB "list.__new__":=rfl
 simp only [checkBuiltinCall,kind,split]
 have here:Looks (model pw w) h (Bind.madeHere "list.__new__" (.ref 151)) ():=base.andThen (made.andThen (Looks.of_pure (by simp-iota only [jW,bne_self_eq_false,qT,if_false])))
 repeat (first|simp-iota only [bne_self_eq_false,qT,if_false]|lk)
 refine codeAny_builtin_stack PySem.F.entry_list_new rfl ?_
 funext p st
 rw [jc PySem.F.plain_list_new _]
 simp only [PySem.owner_list_new]
 have ty:Looks (model pw w) h (isType (.ref 151)) true:=by
  funext A Q E s k q
  unfold isType loadHead
  refine qc (jC (k _ _ hC) ?_)
  exact qf q
 repeat (first|simp-iota only [bne_self_eq_false,qT,Bool.not_true,if_false]|lk)
 refine nd_load (qD _ (qD _ hC)) (qf (qf ?_))
 rw [h5]
 refine qf (qf ?_)
 show R _ _
 rw [Heap.size_push]
 exact hq
theorem make_acc{rest:List Value}(X:F.In h)(K:Cls F 151 [.type "list",.type "object"] accTab)(hnw: ∀oc od cd sl,F.lookup 151=some ⟨oc,od,.cls cd,sl⟩→(sl.toList[4]?).join=some (.builtin "list.__new__"))
  (hfn: ∀self,Looks (model pw w) h (bindSpecial (.ref 88) self) (.ref 88,[self]))
  (hq:Qq (model pw w) (A.under (.builtin "type.__call__" ⟨.ref 151::rest,[]⟩)) (.call (.ref 88) ⟨.ref (h.objs.size+1)::rest,[]⟩) (InitBack (h.objs.size+1) R) ⟨(h.push QO).push (accE h.objs.size),g,d,t,os⟩):
  Qq (model pw w) A (.call (.ref 151) ⟨rest,[]⟩) R ⟨h,g,d,t,os⟩:=by
 revert w A R F h g d t os rest X K hnw hfn hq
 funext w A R F h g d t os rest X K hnw hfn hq
 refine hkX (K.cd) ?_
 funext ⟨cd,cod,sl,h1,h2,h3,h4,h5⟩
 have hnw':=hnw _ _ _ _ h1
 have hC:=X _ _ h1
 have hc:clsIn F 151=some cd:=by unfold clsIn;rw [h1]
 have hm:Looks (model pw w) h (mroOf (.ref 151)) (.ref 151:: [.type "list",.type "object"]):=K.isSub X
 have made:Looks (model pw w) h (Bind.madeBy (.ref 151)) (some "list.__new__"):=by
  funext A Q E s k q
  unfold Bind.madeBy
  refine qc (hm A _ E s k ?_)
  rw [Qb]
  refine qc (qc (qc (qc (jC (k _ _ (X _ _ h1)) (qf ?_)))))
  dsimp only
  rw [←Array.getElem?_toList,hnw']
  exact qf (qf (qf q))
 have call:Looks (model pw w) h (specialOf (.ref 151) "__call__") (some (.builtin "type.__call__")):=looks_specialIn X K.call
 have typ:Looks (model pw w) h (QC (.ref 151) (.type "type")) true:=looks_instIn X K.typ
 have self:Looks (model pw w) h (isSubtype (.ref 151) (.ref 151)) true:=looks_mroIn X (by unfold mroIn;rw [hc,QN,if_neg (by rw [h2];exact qx),h2];rfl)
 have hi:Looks (model pw w) h (typeLookup (.ref 151) "__init__") (some (.ref 88)):=jw X (K.find (qb "__init__",some (.ref 88)) (by decide+kernel))
 refine codeAny_of_tree ?_
 show wpAny _ _ (callAny (.ref 151) _) _ _ _
 refine nd_load hC ?_
 show wpAny _ _ (callAny.viaDunder (.ref 151) _) _ _ _
 unfold callAny.viaDunder
 refine qc (call.at ?_)
 dsimp only
 rw [tc_bind]
 refine qc (qf (qc (qf ?_)))
 refine qf (a:=Fin.again (.call (.builtin "type.__call__") ⟨.ref 151::rest,[]⟩)) (And.intro rfl ?_)
 refine codeAny_call_builtin_at (jD _ (by decide+kernel)) entry_typeCall (check_slot tc_kind tc_split typ (tc_args _ _ _) ?_)
 unfold Builtin.«type.__call__»
 have e4:((.ref 151:: [.type "list",.type "object"]:List Value)).isEmpty=false:=rfl
 repeat (first|simp only [e4,qT,if_false]|with_reducible refine zL ?_|lk)
 refine new_acc X K hnw ?_
 have k: ∀b o,h.get? b=some o→((h.push QO).push (accE h.objs.size)).get? b=some o:=fun b o e=>qD _ (qD _ e)
 have hx:((h.push QO).push (accE h.objs.size)).get? (h.objs.size+1)=some (accE h.objs.size):=Heap.get?_push_at (by rw [Heap.size_push]) rfl
 have t1:Looks (model pw w) ((h.push QO).push (accE h.objs.size)) (QK (.ref (h.objs.size+1))) (.ref 151):=(Looks.ld hx).andThen .now
 have s1:=self.keeps k
 have i1:=hi.keeps k
 have b1:=(hfn (.ref (h.objs.size+1))).keeps k
 unfold QC callSpecial? specialOf
 repeat (first|with_reducible refine zL ?_|lk)
 refine vP hq ?_
 funext r s' z
 rcases r with e|(v|_|_|_)<;>first|exact z|exact z.elim|skip
 refine hkX (z) ?_
 funext ⟨rfl,z⟩
 exact qf (qf z)
end
section
variable{b:qe}{w:World}{A:qq}{L L':Led}{R:Value→Led→Prop}{F:Frag}
theorem bindFn{s:qe}{f:Addr}{fd:vS}(K:Kn b)(hf:Mm (f,fd) fns)(H:St b s L)(self:Value):Looks (model pw w) s.heap (bindSpecial (.ref f) self) (.ref f,[self]):=by
 unfold bindSpecial
 have e:=H.base (K.fn _ hf.mem) (by intro h;cases h)
 have t1:Looks (model pw w) s.heap (QK (.ref f)) (.type "function"):=(Looks.ld e).andThen .now
 exact t1.andThen (Looks.of_pure (by kernel_rfl))
end
end
section
theorem sf0:Str.length ""≤ji:=vh _
local macro_rules | `(tactic| size_fits) => return q "Mine.sf0 X r"
section
theorem slot_wd_get:Slot "wrapper_descriptor" "__get__" "wrapper_descriptor.__get__":= .of (owner:="wrapper_descriptor") (n:="__get__") (by rw [vD,zQ];kernel_rfl) (by decide+kernel) (by decide+kernel) (by decide+kernel)
 (by first|exact .inl (by decide+kernel)|exact .inr (by decide+kernel)) (by rw [jP];kernel_rfl)
theorem slot_md_get:Slot "method_descriptor" "__get__" "method_descriptor.__get__":= .of (owner:="method_descriptor") (n:="__get__") (by rw [vD,zQ];kernel_rfl) (by decide+kernel) (by decide+kernel) (by decide+kernel)
 (by first|exact .inl (by decide+kernel)|exact .inr (by decide+kernel)) (by rw [jP];kernel_rfl)
theorem entry_wd_get:entryFor table "wrapper_descriptor.__get__"=some Builtin.«wrapper_descriptor.__get__»:=entryFor_of_tree (by kernel_rfl)
theorem entry_md_get:entryFor table "method_descriptor.__get__"=some Builtin.«method_descriptor.__get__»:=entryFor_of_tree (by kernel_rfl)
theorem args_wd_get(a b c:Value):argsOk "wrapper_descriptor.__get__" ⟨[a,b,c],[]⟩:=by unfold argsOk;kernel_rfl
theorem args_md_get(a b c:Value):argsOk "method_descriptor.__get__" ⟨[a,b,c],[]⟩:=by unfold argsOk;kernel_rfl
variable{w:World}{M:Model}{A:qq}{E:Value→qe→Prop}{h:Heap}{g:Array ju}{d:Drawn}{t:Nat}{os:OsState}
noncomputable abbrev supO(x C:Addr):Obj:={cls:= .type "super",dict:=none,data:= .fields #[.ref C,.ref x,.ref C],slots:=#[]}
noncomputable abbrev bndO(bt id:String)(x:Addr):Obj:={cls:= .type bt,data:= .fields #[.builtin id,.ref x]}
theorem md_bind{id:String}{x C D:Addr}{ox:Obj}{Q:Fin→qe→Prop}(hown:".".intercalate (id.cutAt '.').dropLast="list")(ht: ¬Manifest.toldItsClass.contains id=true)(hx:h.get? x=some ox)(hc:ox.cls= .ref D)
  (hs:Looks (model pw w) h (isSubtype (.ref D) (.type "list")) true) (hq:Q (.done (.ret (.ref h.objs.size))) ⟨h.push (bndO "builtin_function_or_method" id x),g,d,t,os⟩):
  wpAny (model pw w) A (Builtin.«method_descriptor.__get__» ⟨[.builtin id,.ref x,.ref C],[]⟩) Q E ⟨h,g,d,t,os⟩:=by
 unfold Builtin.«method_descriptor.__get__»
 repeat (first|(with_reducible refine jC hx ?_;rewrite [hc])|(rewrite [hown];with_reducible refine Looks.at hs ?_)|rewrite [if_neg ht]|(unfold Qs;with_reducible refine qM ?_ (by size_fits))|wp_step|dsimp only)
 all_goals exact hq
theorem wd_bind{id:String}{x C D:Addr}{ox:Obj}{Q:Fin→qe→Prop}(hown:".".intercalate (id.cutAt '.').dropLast="list")(hx:h.get? x=some ox)(hc:ox.cls= .ref D)
  (hs:Looks (model pw w) h (isSubtype (.ref D) (.type "list")) true) (hq:Q (.done (.ret (.ref h.objs.size))) ⟨h.push (bndO "method-wrapper" id x),g,d,t,os⟩):
  wpAny (model pw w) A (Builtin.«wrapper_descriptor.__get__» ⟨[.builtin id,.ref x,.ref C],[]⟩) Q E ⟨h,g,d,t,os⟩:=by
 revert w A E h g d t os id x C D ox Q hown hx hc hs hq
 funext w A E h g d t os id x C D ox Q hown hx hc hs hq
 unfold Builtin.«wrapper_descriptor.__get__»
 repeat (first|(with_reducible refine jC hx ?_;rewrite [hc])|(rewrite [hown];with_reducible refine Looks.at hs ?_)|(unfold Qs;with_reducible refine qM ?_ (by size_fits))|wp_step|dsimp only)
 all_goals exact hq
theorem sup_ga{so x C:Addr}{l:List Value}{F:Frag}{name:Str}{tk:Tok}{dk gid id:String}{B:Builtin}{o':Obj}{Q:Fin→qe→Prop}(sl:Slot dk "__get__" gid)(hT:QK (.builtin id)=qj (.type dk))(en:entryFor table gid=some B)(ha: ∀a b c,argsOk gid ⟨[a,b,c],[]⟩)
  (hB: ∀(A:qq) (E:Value→qe→Prop) (Q:Fin→qe→Prop) (t:Nat),Q (.done (.ret (.ref h.objs.size))) ⟨h.push o',g,d,t,os⟩→wpAny (model pw w) A (B ⟨[.builtin id,.ref x,.ref C],[]⟩) Q E ⟨h,g,d,t,os⟩)
  (hso:h.get? so=some (supO x C)) (hno:Looks (model pw w) h (opaqueClassAbove (.ref C)) none) (hC:Looks (model pw w) h (mroOf (.ref C)) (.ref C::l)) (X:F.In h)
  (hf:alongIn F name l=some (some (.builtin id))) (hxC:x≠C) (hn:(name==("__class__":Str))=false)
  (hq:Q (.done (.ret (.ref h.objs.size))) ⟨h.push o',g,d,t,os⟩):
  wpAny (model pw w) A (Builtin.«super.__getattribute__» ⟨[.ref so,.str name tk],[]⟩) Q E ⟨h,g,d,t,os⟩:=by
 revert w A E h g d t os so x C l F name tk dk gid id B o' Q sl hT en ha hB hso hno hC X hf hxC hn hq
 funext w A E h g d t os so x C l F name tk dk gid id B o' Q sl hT en ha hB hso hno hC X hf hxC hn hq
 have hlk:=sl.lookup
 have hne:(Value.ref x==Value.ref C)=false:=by simp [hxC]
 have hl:((Value.ref C::l).dropWhile (· != .ref C)).drop 1=l:=by simp
 have hTf:(⟨h,g,d,t,os⟩:qe).TypeIs (.builtin id) dk:=hT
 have hdt:(supO x C).data= .fields #[.ref C,.ref x,.ref C]:=rfl
 have f0:(#[.ref C,.ref x,.ref C]:Array Value)[0]? =some (.ref C):=rfl
 have f1:(#[.ref C,.ref x,.ref C]:Array Value)[1]? =some (.ref x):=rfl
 have f2:(#[.ref C,.ref x,.ref C]:Array Value)[2]? =some (.ref C):=rfl
 unfold Builtin.«super.__getattribute__»
 repeat (first
  |(with_reducible refine jL hso hdt f0 ?_)|(with_reducible refine jL hso hdt f1 ?_)|(with_reducible refine jL hso hdt f2 ?_)
  |(with_reducible refine ks_wpAny_notOpaque hno ?_)
  |(with_reducible refine Looks.at hC ?_;rw [hl])
  |(refine ks_forIn_along X (fun fz fz=>rfl) rfl ?_ hf)
  |(with_reducible refine jx hTf ?_)
  |(with_reducible refine zr sl hTf en (hB _ _ _ _ ?_) (ha _ _ _))
  |(with_reducible refine ⟨_,rfl,?_⟩)
  |(simp-iota only [hn,hne,Bool.or_false,qT,if_false])
  |wp_step
  |dsimp only)
 all_goals exact hq
theorem sup_gm{so x C:Addr}{l:List Value}{F:Frag}{name:Str}{pl:Sem Bool}{dk gid id:String}{B:Builtin}{o':Obj}{Q:Value×List Value→qe→Prop}(sl:Slot dk "__get__" gid)(hT':QK (.builtin id)=qj (.type dk))(en:entryFor table gid=some B)(ha: ∀a b c,argsOk gid ⟨[a,b,c],[]⟩)
  (hB: ∀(A:qq) (E:Value→qe→Prop) (Q:Fin→qe→Prop) (t:Nat),Q (.done (.ret (.ref h.objs.size))) ⟨h.push o',g,d,t,os⟩→wpAny (model pw w) A (B ⟨[.builtin id,.ref x,.ref C],[]⟩) Q E ⟨h,g,d,t,os⟩)
  (hso:h.get? so=some (supO x C)) (hno:Looks (model pw w) h (opaqueClassAbove (.ref C)) none) (hC:Looks (model pw w) h (mroOf (.ref C)) (.ref C::l)) (X:F.In h)
  (hf:alongIn F name l=some (some (.builtin id))) (hxC:x≠C) (hn:(name==("__class__":Str))=false)
  (hq:Q (.ref h.objs.size,[]) ⟨h.push o',g,d,t+1,os⟩):
  wpAny (model pw w) A (vg (.ref so) name pl) Q E ⟨h,g,d,t,os⟩:=by
 revert w A E h g d t os so x C l F name pl dk gid id B o' Q sl hT' en ha hB hso hno hC X hf hxC hn hq
 funext w A E h g d t os so x C l F name pl dk gid id B o' Q sl hT' en ha hB hso hno hC X hf hxC hn hq
 have hlk:=PySem.F.ks_slot_super_ga.lookup
 have hcan:=PySem.F.ks_canon_super_ga
 have hT: ∀t',(⟨h,g,d,t',os⟩:qe).TypeIs (.ref so) "super":=fun fz=>⟨_,hso,rfl⟩
 unfold vg
 refine qc (jT (hT _) hlk ?_)
 show wpAny _ _ (if (Manifest.canonical "super.__getattribute__" !="object.__getattribute__")=true then _ else _) _ _ _
 rw [if_pos hcan]
 unfold getAttr getAttrBy
 refine qc (qc (wpAny_mkText (qC (qc (jx (hT _) (qc (ze hlk ?_)))))))
 show wpAny _ _ (getAttrByItsOwn (.ref so) (.str name t) (.type "super") (.builtin "super.__getattribute__") true false) _ _ _
 unfold getAttrByItsOwn hookBefore callGetattribute boundAndCalled
 refine qc (ze (show (if onTheHeap (.type "super") then typeLookup (.type "super") "__getattr__" else qj none)=qj none from rfl) ?_)
 refine qc (vq (qC ?_))
 show wpAny _ _ (bindSpecial (.builtin "super.__getattribute__") (.ref so)>>=_) _ _ _
 refine qc (ze (PySem.F.ks_slot_super_ga.bind _) ?_)
 refine qL (Q:=fun v s'=>v= .ref h.objs.size∧s'=⟨h.push o',g,d,t+1,os⟩) (E:=fun fz fz=>False)
  (zr PySem.F.ks_slot_super_ga (hT _) PySem.F.ks_entry_super_ga (sup_ga sl hT' en ha hB hso hno hC X hf hxC hn ⟨_,rfl,rfl,rfl⟩) (PySem.F.ks_gaArgs_super _ _)) (fun v s' hv=> ?_) fun fz fz z=>z.elim
 refine hkX (hv) ?_
 funext ⟨rfl,rfl⟩
 exact qf (qf hq)
theorem bnd_call{bo x:Addr}{bt id:String}{args:List Value}{R:Result→qe→Prop}(hb:h.get? bo=some (bndO bt id x))(hbt:(Value.type bt== .type "method"||Value.type bt== .type "builtin_function_or_method"||Value.type bt== .type "method-wrapper")=true)(hbm:(Value.type bt != .type "method")=true)
  (hck: ∀A':qq,wpAny (model pw w) A' (vW id ⟨.ref x::args,[]⟩) (fun fz s'=>Qq (model pw w) A (.builtin id ⟨.ref x::args,[]⟩) R s') (fun fz fz=>False) ⟨h,g,d,t,os⟩) (hqt:(Qg id ⟨.ref x::args,[]⟩).quiet=true):Qq (model pw w) A (.call (.ref bo) ⟨args,[]⟩) R ⟨h,g,d,t,os⟩:=by
 refine codeAny_of_tree ?_
 show wpAny _ A.in1 (callAny (.ref bo) _) _ _ _
 unfold callAny
 refine qc (Qk hb ?_)
 dsimp only
 rw [if_pos hbt]
 show wpAny _ _ (if (Value.type bt !=Value.type "method")=true then _ else _) _ _ _
 rw [if_pos hbm]
 refine qc (qL (hck _) (fun fz s' hs=> ?_) fun fz fz z=>z.elim)
 exact qf ⟨hqt,hs⟩
end
end
section
local macro_rules | `(tactic| size_fits) => return q "Mine.sf0 X r"
section
variable{b:qe}{w:World}{A:qq}{L L':Led}{R:Value→Led→Prop}{F:Frag}{α:Type}{T:α→Value→Prop}{ds:List α}
noncomputable def isQ{α:Type}(T:α→Value→Prop)(ds:List α):Data→Prop:=fun d=> ∃vs n,All2 T ds vs∧d= .seq vs.toArray n
theorem bi_code{id:String}{args:Args}{B:Builtin}{R:Result→qe→Prop}{s:qe}(en:entryFor table id=some B)(pl:plainId id=true)
  (h:wpAny (model pw w) A.in1 (B args) (fun fin s'=> ∃v,fin= .done (.ret v)∧R (.ok (.ret v)) s') (fun fz fz=>False) s):Qq (model pw w) A (.builtin id args) R s:=by
 refine jj en ?_
 rw [jc pl]
 refine qL h (fun fin s' h'=> ?_) fun fz fz z=>z.elim
 obtain ⟨v,rfl,hv⟩:=h'
 exact hv
theorem seqI_len{x:Addr}{ox:Obj}{vs:List Value}{n:Nat}{E:Value→qe→Prop}{Q:Fin→qe→Prop}{h:Heap}{g:Array ju}{d:Drawn}{t:Nat}{os:OsState}(hx:h.get? x=some ox)(hd:ox.data= .seq vs.toArray n)
  (hq:Q (.done (.ret (.int vs.length t))) ⟨h,g,d,t+1,os⟩):wpAny (model pw w) A (Builtin.«list.__len__» ⟨[.ref x],[]⟩) Q E ⟨h,g,d,t,os⟩:=by
 obtain ⟨c1,c2,c3,c4⟩:=ox
 dsimp only at hd
 subst hd
 wp_walk using wpAny_loadPart' hx
 simpa using hq
theorem seqI_pop{x:Addr}{ox:Obj}{vs:List Value}{y:Value}{n:Nat}{E:Value→qe→Prop}{Q:Fin→qe→Prop}{h:Heap}{g:Array ju}{d:Drawn}{t:Nat}{os:OsState}(hx:h.get? x=some ox)(hd:ox.data= .seq (vs++ [y]).toArray n)(hz:vs.length≤100000)
  (hq: ∀h' n',Qv x h h'→h'.get? x=some {ox with data:= .seq vs.toArray n'}→Q (.done (.ret y)) ⟨h',g,d,t,os⟩):wpAny (model pw w) A (Builtin.«list.pop» ⟨[.ref x],[]⟩) Q E ⟨h,g,d,t,os⟩:=by
 obtain ⟨c1,c2,c3,c4⟩:=ox
 dsimp only at hd
 subst hd
 have hk:(vs++ [y]).toArray.size-1=vs.length:=by rw [qo,qm];rfl
 have hsz:(vs++ [y]).toArray.size≤ji:=by rw [qo,qm,qu];simp;omega
 have hy:(vs++ [y]).toArray[vs.length]? =some y:=by simp
 have hne: ¬(vs++ [y]).toArray.isEmpty=true:=by simp
 have hk':seqIndex? (-1) (vs++ [y]).toArray.size=some vs.length:=by
  rw [←hk,seqIndex_neg (by omega) (by rw [qo,qm];simp;exact Int.le_add_of_nonneg_left (zx _))]
  congr 1
  rw [qo,qm];simp;exact Ar.i4 _
 wp_walk using wpAny_loadPart' hx
 simp-iota only [hk',hy,QN,jW]
 have hz':((vs++ [y]).toArray.eraseIdxIfInBounds vs.length).size≤ji+1:=qg (PySem.MeetsSeq.size_erased _ _) (Qu hsz)
 wp_walk using (wpAny_updateSeq hx rfl (hz:=hsz) (_hz':=hz')),wpAny_loadPart' hx
 have e:(vs++ [y]).toArray.eraseIdxIfInBounds vs.length=vs.toArray:=by rw [kl_erase,za]
 have U:=zR (js fun x=>x.eraseIdxIfInBounds vs.length) hx rfl
 have e2:js (fun x=>x.eraseIdxIfInBounds vs.length) {cls:=c1,dict:=c2,data:=Data.seq (vs++ [y]).toArray n,slots:=c4}={cls:=c1,dict:=c2,data:=Data.seq ((vs++ [y]).toArray.eraseIdxIfInBounds vs.length) (if ((vs++ [y]).toArray.eraseIdxIfInBounds vs.length).size==(vs++ [y]).toArray.size then n else n+1),slots:=c4}:=rfl
 rw [e2,e] at U
 exact hq _ _ (qK ..) U
theorem seqI_init{x:Addr}{ox:Obj}{n:Nat}{E:Value→qe→Prop}{Q:Fin→qe→Prop}{h:Heap}{g:Array ju}{d:Drawn}{t:Nat}{os:OsState}(hx:h.get? x=some ox)(hd:ox.data= .seq #[] n)
  (hq: ∀h' n',Qv x h h'→h'.get? x=some {ox with data:= .seq #[] n'}→Q (.done (.ret .none)) ⟨h',g,d,t,os⟩):wpAny (model pw w) A (Builtin.«list.__init__» ⟨[.ref x],[]⟩) Q E ⟨h,g,d,t,os⟩:=by
 obtain ⟨c1,c2,c3,c4⟩:=ox
 dsimp only at hd
 subst hd
 have hsz:(#[]:Array Value).size≤ji:=by rw [qu];simp
 have hz':((fun _:Array Value=>(#[]:Array Value)) #[]).size≤ji+1:=by simp
 wp_walk using (wpAny_updateSeq hx rfl (hz:=hsz) (_hz':=hz')),wpAny_loadPart' hx
 exact hq _ _ (qK ..) (zR _ hx rfl)
theorem bc_len(x:Value):vW "list.__len__" ⟨[x],[]⟩=qj ():=by unfold vW;kernel_rfl
theorem bc_init(x:Value):vW "list.__init__" ⟨[x],[]⟩=qj ():=by unfold vW;kernel_rfl
theorem bp_sig: ∃sig,vB "list.pop"=some sig∧ ∀x:Value,Bind.checkArgs "list.pop" {sig with full:=toString ((("_Accumulator":Str)).toString)++toString "."++toString (Bind.lastOf "list.pop")} ⟨[x],[]⟩=qj ():=
 ⟨(vB "list.pop").get (by decide+kernel),(Option.some_get _).symm,fun x=>by kernel_rfl⟩
theorem bp_kind:builtinKind "list.pop"=some .method:=by decide+kernel
theorem bc_pop{h:Heap}{x:Addr}{ox:Obj}{cd:ClassData}{od:Option Addr}{sl:Array (Option Value)}(hC:h.get? 151=some ⟨.type "type",od,.cls cd,sl⟩)(hq:cd.qualname="_Accumulator")(hx:h.get? x=some ox)(hc:ox.cls= .ref 151)(hnc: ∀c,ox.data≠ .cls c)
  (hm:Looks (model pw w) h (isSubtype (.ref 151) (.type "module")) false):Looks (model pw w) h (vW "list.pop" ⟨[.ref x],[]⟩) ():=by
 obtain ⟨sig,h1,h2⟩:=bp_sig
 have hv:Manifest.varargsMethods.contains "list.pop"=false:=by decide+kernel
 have t1:Looks (model pw w) h (QK (.ref x)) (.ref 151):=hc▸(Looks.ld hx).andThen .now
 have t2:Looks (model pw w) h (QK (.ref 151)) (.type "type"):=(Looks.ld hC).andThen .now
 intro A Q E s k q
 have hC':=k _ _ hC
 have hx':=k _ _ hx
 unfold vW
 rw [h1,bp_kind]
 dsimp only
 rw [if_neg (by decide)]
 refine qc ?_
 unfold QC
 refine qc (t1 A _ E _ k ?_)
 refine hm A _ E s k ?_
 rw [hv,if_neg (by decide)]
 obtain ⟨hp,g,d,t,os⟩:=s
 refine qc (ks_wpAny_isType_inst hx' hnc ?_)
 rw [if_neg (by decide)]
 refine qc (t1 A _ E _ k ?_)
 dsimp only
 unfold classData
 refine qc (qc (Qk hC' (qf ?_)))
 refine qc (t2 A _ E _ k ?_)
 rw [if_pos (by rfl),hq,h2]
 exact qf q
end
end
section
structure Wt{α:Type}(b:qe)(w:World)(A:qq)(c:Code)(L:Led)(t:Sem α)(Q:α→Led→Prop):Prop where
 run: ∀s,St b s L→PySem.wpAt (model pw w) A c t (Post b Q) (fun fz fz=>False) s
noncomputable abbrev SQt(b:qe)(w:World)(A:qq)(c:Code)(env:Env)(rest:List Stmt)(Q:Flow→Led→Prop):Flow→Led→Prop:=fun f L'=>match f with| .next=>Wt b w A c L' (execs rest env) Q|f=>Q f L'
section
variable{b:qe}{w:World}{A:qq}{L L':Led}{α β:Type}{env:Env}{rest body orelse:List Stmt}{pos:Pos}{Q:Flow→Led→Prop}{c:Code}{R:Value→Led→Prop}{F:Frag}
theorem Wt.of{t:Sem α}{Q:α→Led→Prop}(h:W b w A L t Q):Wt b w A c L t Q:=⟨fun s H=>QF (h.run s H)⟩
theorem Wt.seq{st:Stmt}(h:Wt b w A c L (exec st env) (SQt b w A c env rest Q)):Wt b w A c L (execs (st::rest) env) Q:=
 ⟨fun s H=>ks_wpAt_execs_cons (ks_wpAt_mono (h.run s H) (fun f s' ⟨L',H',h'⟩=>by
  cases f with
  |next=>exact h'.run s' H'
  |brk=>exact ⟨L',H',h'⟩
  |cont=>exact ⟨L',H',h'⟩
  |ret v=>exact ⟨L',H',h'⟩) fun fz fz x=>x)⟩
theorem Wt.ret{e:Expr}(h:Wt b w A c L (eval e env) fun v L1=>Q (.ret v) L1):Wt b w A c L (execs (.Return (some e) pos::rest) env) Q:=Wt.seq ⟨fun s H=>ks_wpAt_Return_some (ks_wpAt_mono (h.run s H) (fun fz fz ⟨L',H',h'⟩=>⟨L',H',h'⟩) fun fz fz x=>x)⟩
theorem Wt.exprS{e:Expr}(hi:interactive env=false∧swapsWith e none pos.line env=qj false)(h:Wt b w A c L (eval e env) fun fz L1=>Wt b w A c L1 (execs rest env) Q):Wt b w A c L (execs (.Expr e pos::rest) env) Q:=
 Wt.seq ⟨fun s H=>ks_wpAt_Expr_any (ks_wpAt_mono (h.run s H) (fun fz s' ⟨L',H',h'⟩=>⟨L',H',h'⟩) fun fz fz x=>x) hi.1 hi.2⟩
theorem Wt.ifs{test:Expr}(h:W b w A L (isTrue test env (eval test env)) fun cc L1=>(cc=true→W b w A L1 (execs body env) (SQt b w A c env rest Q))
   ∧(cc=false→Wt b w A c L1 (execs rest env) Q)):Wt b w A c L (execs (.If test body [] pos::rest) env) Q:=
 Wt.seq ⟨fun s H=>ks_wpAt_If (QF (h.then H fun cc s1 L1 H1 h1=>by
  cases cc with
  |true=>exact QF ((h1.1 rfl).then H1 fun f s' L' H' h'=>⟨L',H',h'⟩)
  |false=>exact QF (qf ⟨L1,H1,h1.2 rfl⟩)))⟩
theorem Wt.nil(h:Q .next L):Wt b w A c L (execs [] env) Q:=Wt.of (W.nil h)
theorem Wt.asgA{o value:Expr}{attr:Str}{p:Pos}{rest:List Stmt}(hs:swapsWith value (some (.Attribute o attr p)) pos.line env=qj false)
  (h:W b w A L (eval value env) fun v L1=>W b w A L1 (eval o env) fun ov L2=>W b w A L2 (setAttr ov attr v) fun fz L3=>Wt b w A c L3 (execs rest env) Q):Wt b w A c L (execs (.Assign [.Attribute o attr p] value pos::rest) env) Q:=
 Wt.seq<|Wt.of<|W.mk fun s H=>plainObj_wpAny_Assign_Attribute (h.then H fun v s1 L1 H1 h1=>h1.then H1 fun ov s2 L2 H2 h2=>h2.then H2 fun fz s3 L3 H3 h3=>⟨L3,H3,h3⟩) hs
structure WD(b:qe)(w:World)(A:qq)(L:Led)(c:Code)(R:Value→Led→Prop):Prop where
 run: ∀s,St b s L→Qq (model pw w) A c (fun r s'=>match r with| .ok (.ret v)=>Post b R v s'| .ok _=>False| .error _=>False) s
theorem WD.toW{f:Value}{args:List Value}{kw:List (Str×Value)}(h:WD b w A L (.call f ⟨args,kw⟩) R):W b w A L (call f args kw) R:=W.mk fun s H=>zL (h.run s H)
theorem WD.fnAt{f:Addr}{fd:vS}{body:List Stmt}{args:List Value}{kw:List (Str×Value)}(n:Nat)(fr:List (Str×Option Value)){m:Nat}(K:Kn b)(hf:Mm (f,fd) fns)(hA:Rm (m+1) A)
  (hbody:fd.body= .stmts body) (hbind: ∀s,St b s L→BindsTo s fd ⟨args,kw⟩ (bindsOf n fr)) (hfr:frame0 (bindsOf n fr) ((fr.drop n).map (·.1))=fr)
  (hd:(fd.scope.names.all (fun x=>x.2 != .cell)&&((fr.take n).map (·.1)).all (fun x=>fd.scope.names.lookup x==some .local)&& !fd.scope.isCoroutine&& !fd.scope.isGenerator&&(fd.scope.kind== .function)&&decide (fr.map (·.1)).Nodup
   &&(fd.globals==3)&&(fd.builtins==0))=true)
  (h: ∀La,Rm m (A.deeper (envF fd La f fd.closure))→Wt b w (A.deeper (envF fd La f fd.closure)) (.func body (envF fd La f fd.closure)) ((La,loc fr)::L) (execs body (envF fd La f fd.closure)) (FinQ R)):
  WD b w A L (.call (.ref f) ⟨args,kw⟩) R:=WD.mk fun s H=>by
 simp-iota only [qt,zY,decide_eq_true_eq,beq_iff_eq] at hd
 obtain ⟨⟨⟨⟨⟨⟨⟨h1,h2⟩,h3⟩,h4⟩,h5⟩,h6⟩,h7⟩,h8⟩:=hd
 obtain ⟨c,vs,t,e1,e2,e3⟩:=K.code _ hf.mem
 have he: ∀La,callEnv fd La f=envF fd La f fd.closure:=fun La=>by
  unfold callEnv newEnv
  rw [h7,h8]
 have hd':A.depth<recursionLimit:=by
  have:=hA.depth
  show A.depth<1000
  omega
 refine (ks_codeAny_call_defAt (fd:=fd) hd' (H.base (K.fn _ hf.mem) (by intro h;cases h)) rfl H.lim ⟨c,_,vs,t,e1,H.base e2 (by intro h;cases h),rfl,e3⟩ hbody (hbind s H) (fun x hx=>by
  have:=qz.mp h1 x hx
  simpa using this) (fun x hx=>by
  have hx':x.1∈(fr.take n).map (·.1):=by
   obtain ⟨p,hp,e⟩:=List.mem_filterMap.mp hx
   cases hq:p.2 with
   |none=>rw [hq] at e;cases e
   |some v=>rw [hq] at e;cases e;exact qA (f:=(·.1)) hp
  have:=qz.mp h2 x.1 hx'
  simpa using this) (fun h₀ hn hk=> ?_) h3 h4 h5)
 have H':St b {s with heap:=h₀,toks:=s.toks+(bindsOf n fr).length} ((s.heap.objs.size,loc fr)::L):=by
  refine H.ext hk (zg _) ?_
  obtain ⟨o,es,ep,ho,hd,hs,hf⟩:=hn
  refine ⟨o,ho,⟨es,ep,hd,hs,fun m=>(hf m).trans ?_⟩,h6⟩
  have:=frame0_look (bindsOf n fr) ((fr.drop n).map (·.1)) (by rw [hfr];exact h6) m
  rw [hfr] at this
  exact this.symm
 rw [he]
 exact ks_wpAt_mono ((h _ hA.deeper).run _ H') (fun fl s' ⟨L',H2,L2,ht,hq⟩=>⟨L2,H2.takes ht,hq⟩) fun fz fz x=>x.elim
theorem W.fnAt{f:Addr}{fd:vS}{body:List Stmt}{args:List Value}{kw:List (Str×Value)}(n:Nat)(fr:List (Str×Option Value)){m:Nat}(K:Kn b)(hf:Mm (f,fd) fns)(hA:Rm (m+1) A)
  (hbody:fd.body= .stmts body) (hbind: ∀s,St b s L→BindsTo s fd ⟨args,kw⟩ (bindsOf n fr)) (hfr:frame0 (bindsOf n fr) ((fr.drop n).map (·.1))=fr)
  (hd:(fd.scope.names.all (fun x=>x.2 != .cell)&&((fr.take n).map (·.1)).all (fun x=>fd.scope.names.lookup x==some .local)&& !fd.scope.isCoroutine&& !fd.scope.isGenerator&&(fd.scope.kind== .function)&&decide (fr.map (·.1)).Nodup
   &&(fd.globals==3)&&(fd.builtins==0))=true)
  (h: ∀La,Rm m (A.deeper (envF fd La f fd.closure))→Wt b w (A.deeper (envF fd La f fd.closure)) (.func body (envF fd La f fd.closure)) ((La,loc fr)::L) (execs body (envF fd La f fd.closure)) (FinQ R)):
  W b w A L (call (.ref f) args kw) R:=(WD.fnAt n fr K hf hA hbody hbind hfr hd h).toW
theorem KprL.bnd{bo x:Addr}{bt id:String}(hbt:(Value.type bt != .type "method")=true)(hm:Mm (bo,(· =bndO bt id x)) L):KprL b w L (.ref bo):=fun s H A Q E q=>by
 obtain ⟨o,ho,rfl⟩:=H.own _ hm.mem
 unfold keeperOf
 refine qc (Qk ho ?_)
 dsimp only
 rw [hbt,if_pos rfl]
 exact qf (q _)
theorem W.ldbn{x:Str}{v:Value}(K:Kn b)(hk:env.scope.kind= .function)(hk2:env.kindOf x=some .globalImplicit)(hk3:env.globals=3)(hk4:env.builtins=0)
  (hx:Mm (x,v) bnames) (q:R v L):W b w A L (loadName env x) R:=W.ldg0 hk hk2<|W.mk fun s H=>by
 obtain ⟨o,es,ep,ho,hc,hd,hs,_,hg⟩:=K.glob
 obtain ⟨o',es',ep',ho',hc',hd',hs',hg'⟩:=K.bi
 have hn:s.heap.Ns 3 (jy es):=⟨o,es,ep,H.base ho hc,hd,hs,fun fz=>rfl⟩
 have hn':s.heap.Ns 0 (jy es'):=⟨o',es',ep',H.base ho' hc',hd',hs',fun fz=>rfl⟩
 unfold loadGlobal
 rw [hk3,hk4]
 refine qc (wpAny_nsGet hn ?_)
 rw [hg _ hx.mem]
 refine qc (wpAny_nsGet hn' ?_)
 rw [hg' _ hx.mem]
 exact qf ⟨L,H,q⟩
theorem St.isI{s:qe}{C x dx:Addr}{P:Data→Prop}(H:St b s L)(hx:Mm (x,isI C dx P) L): ∃ox,s.heap.get? x=some ox∧ox.cls= .ref C∧P ox.data∧(∀c,ox.data≠ .cls c)∧ox={cls:= .ref C,dict:=some dx,data:=ox.data,slots:=#[]}:=by
 obtain ⟨o,ho,d,hd,hn,rfl⟩:=H.own _ hx.mem
 exact ⟨_,ho,rfl,hd,hn,rfl⟩
theorem Kc.sub{s:qe}(KC:Kc F b)(H:St b s L){T:Value}{r:Bool}(h:([.ref 151,.type "list",.type "object"]:List Value).contains T=r):Looks (model pw w) s.heap (isSubtype (.ref 151) T) r:=by
 obtain ⟨cd,od,sl,h1,h2,_⟩:=KC.acc.cd
 have hc:clsIn F 151=some cd:=by unfold clsIn;rw [h1]
 exact looks_mroIn (KC.at H) (by unfold mroIn;rw [hc,QN,if_neg (by rw [h2];exact qx),h2,h])
set_option tactic.hygienic true in
theorem Kc.opq{s:qe}(KC:Kc F b)(H:St b s L){C:Addr}:Looks (model pw w) s.heap (opaqueClassAbove (.ref C)) none:=by
 obtain ⟨o,e,h⟩:=KC.stt
 exact looks_opaque (K:= [(ja,o)]) (fun a o' e'=>by
  rw [zD] at e'
  split at e'
  ·rename_i q
   cases e'
   rw [show a=ja by simpa using q,H.st0,e]
  ·cases e') h
theorem Wt.sup{f cd x dx:Addr}{fd:vS}{name:Str}{p0 p1 apos:Pos}{P:Data→Prop}{fr:List (Str×Option Value)}{dk gid id bt:String}{B:Builtin}{body:List Stmt}(K:Kn b)(KC:Kc F b)
  (hke:(env.kindOf "super"==some .globalImplicit&&env.kindOf "__class__"==some .free&&env.scope.kind== .function&&(env.func==some f)&&(env.code== .ref cd)&&(env.globals==3)&&(env.builtins==0)&&env.kindOf "self"==some .local&&((fd.params.posonlyargs++fd.params.args).head?).map (·.arg)==some ("self":Str)
   && !(name==("__class__":Str)))=true)
  (hf:Mm (f,fd) fns) (hcd:Mm cd [(87:Addr),110,147]) (hcl:Lk env.cells "__class__" 75) (hline:(apos.endLine==pos.line)=true) (hl:Mm (env.locals,loc fr) L) (hv:Mm (qb "self",some (.ref x)) fr) (hx:Mm (x,isI 151 dx P) L)
  (sl:Slot dk "__get__" gid) (hT:QK (.builtin id)=qj (.type dk)) (en:entryFor table gid=some B) (ha: ∀a b c,argsOk gid ⟨[a,b,c],[]⟩) (hbt:(Value.type bt != .type "method")=true)
  (hB: ∀{h:Heap} {g:Array ju} {d:Drawn} {t:Nat} {os:OsState} {A:qq} {E:Value→qe→Prop} {Q:vi→qe→Prop} {ox:Obj},h.get? x=some ox→ox.cls= .ref 151→Looks (model pw w) h (isSubtype (.ref 151) (.type "list")) true→
   Q (.done (.ret (.ref h.objs.size))) ⟨h.push (bndO bt id x),g,d,t,os⟩→wpAny (model pw w) A (B ⟨[.builtin id,.ref x,.ref 151],[]⟩) Q E ⟨h,g,d,t,os⟩)
  (hfd:alongIn F name [.type "list",.type "object"]=some (some (.builtin id)))
  (h: ∀so bo,W b w A ((bo,(· =bndO bt id x))::(so,(· =supO x 151))::L) (call (.ref bo) []) R):
  Wt b w A (.func body env) L (eval (.Call (.Attribute (.Call (.Name "super" p0) [] [] p1) name apos) [] [] pos) env) R:=by
 simp-iota only [qt,beq_iff_eq,zY] at hke
 obtain ⟨⟨⟨⟨⟨⟨⟨⟨⟨k1,k2⟩,k3⟩,k4⟩,k5⟩,k6⟩,k7⟩,k9⟩,k11⟩,k10⟩:=hke
 obtain ⟨ar,k8,k12⟩: ∃ar,(fd.params.posonlyargs++fd.params.args).head? =some ar∧ar.arg=("self":Str):=by
  cases e:(fd.params.posonlyargs++fd.params.args).head? with
  |none=>rw [e] at k11;cases k11
  |some ar=>rw [e] at k11;exact ⟨ar,rfl,vE k11⟩
 obtain ⟨cvs,ct,c1,c2⟩:=KC.cdf _ hcd.mem
 obtain ⟨oc,e75,n75,d75⟩:=KC.cel75
 have rest: ∀so,W b w A ((so,(· =supO x 151))::L) (do
   jS apos.atName
   methodCall (.Call (.Name "super" p0) [] [] p1) name apos pos env (.ref so) (([]:List Expr).length+0) (backTo pos (zB [] env)) []) R:=fun so=>by
  refine W.bind (W.stand ?_)
  unfold methodCall
  refine W.bind (W.holding (W.mk fun s H=> ?_))
  obtain ⟨ho,g,d,t,os⟩:=s
  obtain ⟨oso,hso,rfl⟩:=H.own _ (.head _)
  obtain ⟨ox,hox,hcl',hP,hnc,-⟩:=St.isI H (.tail hx)
  have hsz:(⟨ho,g,d,t,os⟩:qe).heap.objs.size=ho.objs.size:=rfl
  refine sup_gm sl hT en ha (fun A E Q t hq=>hB hox hcl' (KC.sub H rfl) hq) hso (KC.opq H) (KC.acc.isSub (KC.at H)) (KC.at H) hfd (fun e=> ?_) (by simpa using k10) ?_
  ·subst e
   obtain ⟨ccd,od,sl',q1,_⟩:=KC.acc.cd
   have:=KC.at H _ _ q1
   rw [hox] at this
   cases this
   cases hcl'
  ·refine ⟨(ho.objs.size,(· =bndO bt id x))::(so,(· =supO x 151))::L,?_,?_⟩
   ·exact (H.tok (t+1)).alloc (P:=(· =bndO bt id x)) (bndO bt id x) rfl rfl
   ·refine W.bind ?_
    unfold methodCallPos
    rw [hline,Bool.or_true]
    exact W.pure (W.callW rfl rfl (W.sp0 (W.ea0 ⟨KprL.bnd hbt .head,h _ _⟩)))
 refine ⟨fun s H=> ?_⟩
 show PySem.wpAt _ _ _ (do
  let ov ←jE (.Call (.Name "super" p0) [] [] p1) name env (eval (.Call (.Name "super" p0) [] [] p1) env)
  jS apos.atName
  methodCall (.Call (.Name "super" p0) [] [] p1) name apos pos env ov (([]:List Expr).length+0) (backTo pos (zB [] env)) []) _ _ _
 refine PySem.wpAt_bind (ks_wpAt_super_base k1 k2 k10 k4 (H.base (K.fn _ hf.mem) (by intro h;cases h)) rfl k8 k5 (H.base c1 (by intro h;cases h)) rfl c2 (beq_self_eq_true _) (by kernel_rfl) ?_)
 refine (W.ldbn (R:=fun v L1=>v= .type "super"∧L=L1) K k3 k1 k6 k7 (by tb_rel) ⟨rfl,rfl⟩).then H fun v s1 L1 H1 ⟨e1,e2⟩=> ?_
 subst e1 e2
 refine ⟨rfl,wpAny_loadName_free k3 k2 hcl.eq ⟨oc,H1.base e75 n75,d75⟩ ?_⟩
 have hself:=(W.ldn0 (w:=w) (A:=A) (R:=fun v L1=>v= .ref x∧L=L1) k3 k9 hl hv ⟨rfl,rfl⟩).run s1 H1
 rw [←k12] at hself
 refine qL hself (fun v s2 ⟨L2,H2,e1,e2⟩=> ?_) fun fz fz x=>x.elim
 subst e1 e2
 obtain ⟨hp,g,d,t,os⟩:=s2
 obtain ⟨ccd,od,sl',q1,q2,_⟩:=KC.acc.cd
 obtain ⟨ox,hox,hcl',hP,hnc,-⟩:=St.isI H2 hx
 have hC:=KC.at H2 _ _ q1
 refine ks_wpAny_isType_cls hC rfl ⟨rfl,?_⟩
 refine ks_wpAny_call_super hC rfl hox hcl' hnc (KC.sub H2 rfl) fun h' hso hk=> ?_
 exact QF ((rest _).run _ (H2.ext (t:=t) hk (zg _) ⟨_,hso,rfl⟩))
end
end
section
section
variable{b:qe}{w:World}{A:qq}{L L':Led}{R:Value→Led→Prop}{F:Frag}{α:Type}{T:α→Value→Prop}{ds:List α}{x dx bo:Addr}
noncomputable abbrev isA(dx:Addr){α:Type}(T:α→Value→Prop)(ds:List α):Asn:=isI 151 dx (isQ T ds)
noncomputable abbrev fd88:=fdS (meth 11 0) "_Accumulator.__init__" [("__class__",75)] (.ref 80) .none mail 87 (.ref 81)
noncomputable abbrev fd95:=fdS (meth 11 1) "_Accumulator.push" [] .none .none mail 94 .none
noncomputable abbrev fd103:=fdS (meth 11 2) "_Accumulator.pop_from" [] (.ref 96) .none mail 102 .none
noncomputable abbrev fd111:=fdS (meth 11 3) "_Accumulator.pop" [("__class__",75)] .none .none mail 110 (.ref 104)
noncomputable abbrev fd118:=fdS (meth 11 4) "_Accumulator.__len__" [] .none .none mail 117 .none
noncomputable abbrev fd125:=fdS (meth 11 5) "_Accumulator.__str__" [] .none .none mail 124 .none
noncomputable abbrev fd148:=fdS (meth 11 8) "_Accumulator.part_count" [("__class__",75)] .none .none mail 147 (.ref 141)
noncomputable abbrev szAt(v:Value):List (Str×Value):= [("_initial_size",v)]
theorem isA_of{dx:Addr}{vs:List Value}{n:Nat}(h:All2 T ds vs):isA dx T ds {cls:= .ref 151,dict:=some dx,data:= .seq vs.toArray n,slots:=#[]}:=⟨_,⟨vs,n,h,rfl⟩,fun fz e=>(nomatch e),rfl⟩
theorem W.bndInit(hb:Mm (bo,(· =bndO "method-wrapper" "list.__init__" x)) L)(hu:Upd L x (isA dx T []) (isA dx T []) L')(q:R .none L'):W b w A L (call (.ref bo) []) R:=W.mk fun s H=>by
 obtain ⟨_,ho,rfl⟩:=H.own _ hb.mem
 obtain ⟨ox,hox,hc,⟨vs,n,ha,hd⟩,hnc,he⟩:=St.isI H (mem_mm hu.mem)
 cases ha
 obtain ⟨hp,g,d,t,os⟩:=s
 refine zL (bnd_call ho (by decide) (by decide) (fun A'=>ze (bc_init _) (bi_code PySem.F.entry_list_init (by decide+kernel) (seqI_init hox hd fun h' n' hs hx'=>⟨_,rfl,L',?_,q⟩))) (jD _ (by decide+kernel)))
 exact H.same hu hs ⟨_,hx',by rw [he];exact isA_of (vs:= []) .nil⟩ t
theorem W.bndLen(hb:Mm (bo,(· =bndO "method-wrapper" "list.__len__" x)) L)(hx:Mm (x,isA dx T ds) L)(q: ∀t,R (.int ds.length t) L):W b w A L (call (.ref bo) []) R:=W.mk fun s H=>by
 obtain ⟨_,ho,rfl⟩:=H.own _ hb.mem
 obtain ⟨ox,hox,hc,⟨vs,n,ha,hd⟩,hnc,he⟩:=St.isI H hx
 obtain ⟨hp,g,d,t,os⟩:=s
 refine zL (bnd_call ho (by decide) (by decide) (fun A'=>ze (bc_len _) (bi_code PySem.F.entry_list_len (by decide+kernel) (seqI_len hox hd ⟨_,rfl,L,H.tok _,?_⟩))) (jD _ (by decide+kernel)))
 rw [ha.len]
 exact q _
theorem W.bndPop{e:α}(KC:Kc F b)(hz:ds.length≤100000)(hb:Mm (bo,(· =bndO "builtin_function_or_method" "list.pop" x)) L)(hu:Upd L x (isA dx T (ds++ [e])) (isA dx T ds) L')(q: ∀v,T e v→R v L'):W b w A L (call (.ref bo) []) R:=W.mk fun s H=>by
 obtain ⟨_,ho,rfl⟩:=H.own _ hb.mem
 obtain ⟨ox,hox,hc,⟨vs,n,ha,hd⟩,hnc,he⟩:=St.isI H (mem_mm hu.mem)
 obtain ⟨ds0,d',e1,e2,e3⟩: ∃ws v,vs=ws++ [v]∧All2 T ds ws∧T e v:=by
  have hlen:=ha.len
  rw [qm] at hlen
  obtain ⟨vs0,v,rfl⟩: ∃vs0 v,vs=vs0++ [v]:=by
   rcases jM vs with rfl|⟨p,y,rfl⟩
   ·simp at hlen
   ·exact ⟨p,y,by simp⟩
  obtain ⟨ds0,d',e1,e2,e3⟩:=ha.snoc'
  obtain ⟨rfl,e5⟩:=List.append_inj' e1 rfl
  cases e5
  exact ⟨vs0,v,rfl,e2,e3⟩
 subst e1
 obtain ⟨hp,g,d,t,os⟩:=s
 obtain ⟨cd,od,sl,q1,_⟩:=KC.acc.cd
 refine zL (bnd_call ho (by decide) (by decide) (fun A'=>(bc_pop (KC.at H _ _ q1) (KC.accQ _ _ _ _ q1) hox hc hnc (KC.sub H rfl)).here (bi_code PySem.F.entry_list_pop (by decide+kernel) (seqI_pop hox hd (by rw [e2.len];exact hz) fun h' n' hs hx'=>⟨_,rfl,L',?_,q _ e3⟩))) (jD _ (by decide+kernel)))
 exact H.same hu hs ⟨_,hx',by rw [he];exact isA_of e2⟩ t
set_option tactic.hygienic true in
theorem frag1{s:qe}{a:Addr}{o:Obj}(H:St b s L)(e:b.heap.get? a=some o)(hc:o.cls≠ .none):Frag.In [(a,o)] s.heap:=fun a' o' e'=>by
 rw [zD] at e'
 split at e'
 ·rename_i q
  cases e'
  rw [show a'=a by simpa using q]
  exact H.base e hc
 ·cases e'
theorem acc_init_ok{v:Value}(K:Kn b)(KC:Kc F b)(hA:Rm 1 A)(hu:Upd L dx (isAt []) (isAt (szAt v)) L')(hx:Mm (x,isA dx T []) L)(hu2:Upd L' x (isA dx T []) (isA dx T []) L')(q:R .none L'):WD b w A L (.call (.ref 88) ⟨[.ref x,v],[]⟩) R:=by
 refine WD.fnAt (fd:=fd88) 2 [(qb "self",some (.ref x)),(qb "initial_size",some v)] K (by tb_rel) hA rfl (fun fz H=>by obtain ⟨t,n,e⟩:=KC.d80;exact kp_binds (frag1 H e (by intro h;cases h)) fun S=>by kernel_rfl) (by kernel_rfl) (by kernel_rfl) ?_
 intro La hA
 refine Wt.asgA (by kernel_rfl!) ?_
 repeat tb_start
 refine W.setA KC KC.acc refuse_acc (by decide+kernel) (by tb_rel) (by tb_rel) (.tail hx) (.tail hu) .nil (by decide) ?_
 refine Wt.exprS ⟨by kernel_rfl,by kernel_rfl⟩ ?_
 refine Wt.sup (id:="list.__init__") (fd:=fd88) (f:=88) (cd:=87) K KC (by kernel_rfl!) (by tb_rel) .head .head (by kernel_rfl) .head .head (.tail (mem_mm hu2.mem)) slot_wd_get (by kernel_rfl) entry_wd_get args_wd_get (by decide) (fun hx hc hs hq=>wd_bind (by decide+kernel) hx hc hs hq) (by kernel_rfl!) ?_
 intro so bo
 refine W.bndInit .head (.tail (.tail (.tail hu2))) ?_
 exact Wt.nil ⟨_,.skip (.skip (.skip .all)),q⟩
theorem part_count_ok(K:Kn b)(KC:Kc F b)(hA:Rm 1 A)(hx:Mm (x,isA dx T ds) L)(q: ∀t,R (.int ds.length t) L):W b w A L (call (.ref 148) [.ref x]) R:=by
 refine W.fnAt (fd:=fd148) 1 [(qb "self",some (.ref x))] K (by tb_rel) hA rfl (fun fz fz=>zc (by kernel_rfl)) (by kernel_rfl) (by kernel_rfl) ?_
 intro La hA
 refine Wt.ret ?_
 refine Wt.sup (id:="list.__len__") (fd:=fd148) (f:=148) (cd:=147) K KC (by kernel_rfl!) (by tb_rel) (by tb_rel) .head (by kernel_rfl) .head .head (.tail hx) slot_wd_get (by kernel_rfl) entry_wd_get args_wd_get (by decide) (fun hx hc hs hq=>wd_bind (by decide+kernel) hx hc hs hq) (by kernel_rfl!) ?_
 intro so bo
 refine W.bndLen .head (.tail (.tail (.tail hx))) ?_
 exact fun t=>⟨_,.skip (.skip (.skip .all)),q t⟩
theorem acc_init0_ok(K:Kn b)(KC:Kc F b)(hA:Rm 1 A)(hu: ∀t,∃L',Upd L dx (isAt []) (isAt (szAt (.int 0 t))) L'∧Upd L' x (isA dx T []) (isA dx T []) L'∧R .none L')(hx:Mm (x,isA dx T []) L):WD b w A L (.call (.ref 88) ⟨[.ref x],[]⟩) R:=by
 obtain ⟨t,n,e⟩:=KC.d80
 obtain ⟨L',hu,hu2,q⟩:=hu t
 refine WD.fnAt (fd:=fd88) 2 [(qb "self",some (.ref x)),(qb "initial_size",some (.int 0 t))] K (by tb_rel) hA rfl (fun fz H=>by exact kp_binds (frag1 H e (by intro h;cases h)) fun S=>by kernel_rfl) (by kernel_rfl) (by kernel_rfl) ?_
 intro La hA
 refine Wt.asgA (by kernel_rfl!) ?_
 repeat tb_start
 refine W.setA KC KC.acc refuse_acc (by decide+kernel) (by tb_rel) (by tb_rel) (.tail hx) (.tail hu) .nil (by decide) ?_
 refine Wt.exprS ⟨by kernel_rfl,by kernel_rfl⟩ ?_
 refine Wt.sup (id:="list.__init__") (fd:=fd88) (f:=88) (cd:=87) K KC (by kernel_rfl!) (by tb_rel) (by tb_rel) .head (by kernel_rfl) .head .head (.tail (mem_mm hu2.mem)) slot_wd_get (by kernel_rfl) entry_wd_get args_wd_get (by decide) (fun hx hc hs hq=>wd_bind (by decide+kernel) hx hc hs hq) (by kernel_rfl!) ?_
 intro so bo
 refine W.bndInit .head (.tail (.tail (.tail hu2))) ?_
 exact Wt.nil ⟨_,.skip (.skip (.skip .all)),q⟩
theorem W.newAcc{args:List Value}(K:Kn b)(KC:Kc F b)(h: ∀dx x,WD b w ((A.under (.builtin "type.__call__" ⟨.ref 151::args,[]⟩))) ((x,isA dx T [])::(dx,isAt [])::L) (.call (.ref 88) ⟨.ref x::args,[]⟩) fun v L'=>v= .none∧R (.ref x) L'):
  W b w A L (call (.ref 151) args) R:=W.mk fun s H=>by
 obtain ⟨hp,g,d,t,os⟩:=s
 refine zL (make_acc (KC.at H) KC.acc KC.accNew (fun self=>bindFn K (by tb_rel) H self) ?_)
 have H1:St b ⟨hp.push QO,g,d,t,os⟩ ((hp.objs.size,isAt [])::L):=H.alloc (P:=isAt []) QO rfl ⟨[],0,.nil,rfl⟩
 have H2:=H1.alloc (P:=isA hp.objs.size T []) (accE hp.objs.size) rfl (isA_of (vs:= []) .nil)
 rw [Heap.size_push] at H2
 refine vP ((h _ _).run _ H2) fun r s' z=> ?_
 match r,z with
 | .error _,z=>exact z
 | .ok .next,z=>exact z
 | .ok .brk,z=>exact z
 | .ok .cont,z=>exact z
 | .ok (.ret v),⟨L',H',e,z⟩=>exact ⟨e,L',H',z⟩
theorem Rm.tc{n:Nat}{C:Addr}{args:List Value}(h:Rm (n+1) A):Rm n (A.under (.builtin "type.__call__" ⟨.ref C::args,[]⟩)):=by
 have h1:(Qg "type.__call__" ⟨.ref C::args,[]⟩).weight=1:=by rfl
 have h2:(Qg "type.__call__" ⟨.ref C::args,[]⟩).cUnits=1:=by rfl
 have h3:(Qg "type.__call__" ⟨.ref C::args,[]⟩).envs= []:=by rfl
 refine ⟨?_,?_,h.handled,?_⟩
 ·have:=h.depth;show A.depth+Code.weight _+n<1000;rw [h1];exact Ar.d1 (zG _ _ _) this
 ·have:=h.units;show A.units+Code.cUnits _+20*n<9000;rw [h2];exact Ar.s3 this rfl
 ·have:=h.frames;rw [show (A.under (.builtin "type.__call__" ⟨.ref C::args,[]⟩)).frames=pushEnvs (Qg "type.__call__" ⟨.ref C::args,[]⟩).envs A.frames from rfl,h3];exact this
end
end
section
section
variable{b:qe}{w:World}{A:qq}{L L':Led}{R:Value→Led→Prop}{F:Frag}{α:Type}{T:α→Value→Prop}{ds:List α}{x dx bo:Addr}
theorem seqI_app{x:Addr}{ox:Obj}{vs:List Value}{y:Value}{n:Nat}{E:Value→qe→Prop}{Q:vi→qe→Prop}{h:Heap}{g:Array ju}{d:Drawn}{t:Nat}{os:OsState}(hx:h.get? x=some ox)(hd:ox.data= .seq vs.toArray n)(hz:vs.length≤100000)
  (hq: ∀h' n',Qv x h h'→h'.get? x=some {ox with data:= .seq (vs++ [y]).toArray n'}→Q (.done (.ret .none)) ⟨h',g,d,t,os⟩):wpAny (model pw w) A (Builtin.«list.append» ⟨[.ref x,y],[]⟩) Q E ⟨h,g,d,t,os⟩:=by
 obtain ⟨c1,c2,c3,c4⟩:=ox
 dsimp only at hd
 subst hd
 have hsz:vs.toArray.size≤ji:=by rw [qo,qu];omega
 have hz':(vs.toArray.push y).size≤ji+1:=by rw [Array.size_push];omega
 wp_walk using (wpAny_updateSeq hx rfl (hz:=hsz) (_hz':=hz'))
 have U:=zR (js fun xs=>xs.push y) hx rfl
 have e2:js (fun xs=>xs.push y) {cls:=c1,dict:=c2,data:=Data.seq vs.toArray n,slots:=c4}={cls:=c1,dict:=c2,data:=Data.seq (vs.toArray.push y) (if (vs.toArray.push y).size==vs.toArray.size then n else n+1),slots:=c4}:=rfl
 rw [e2,show vs.toArray.push y=(vs++ [y]).toArray by simp] at U
 exact hq _ _ (qK ..) U
theorem check_meth{M:Model}{A:qq}{E:Value→qe→Prop}{s:qe}{i owner n:String}{self:Value}{rest:List Value}{kw:List (Str×Value)}{Q:Unit→qe→Prop}
  (hk:builtinKind i=some .method) (hs:splitId i=some (owner,n)) (hi:Looks M s.heap (QC self (.type owner)) true) (ha:argsOk i ⟨self::rest,kw⟩) (q:Q () s):
  wpAny M A (checkBuiltinCall i ⟨self::rest,kw⟩) Q E s:=by
 simp-iota only [checkBuiltinCall,hk,hs]
 refine qc (hi.here ?_)
 simp-iota only [Bool.not_true,qT,if_false]
 cases hsig:vB i with
 |none=>exact qf q
 |some sig=>
  simp-iota only [argsOk,hsig] at ha
  have h2:Bind.checkArgs i sig ⟨self::rest,kw⟩=qj ():=ha
  show wpAny M A (Bind.checkArgs i sig ⟨self::rest,kw⟩) Q E s
  rw [h2];exact qf q
theorem Kc.inst{s:qe}(KC:Kc F b)(H:St b s L)(hx:Mm (x,isA dx T ds) L):Looks (model pw w) s.heap (QC (.ref x) (.type "list")) true:=by
 obtain ⟨ox,hox,hc,_⟩:=St.isI H hx
 have t1:Looks (model pw w) s.heap (QK (.ref x)) (.ref 151):=hc▸(Looks.ld hox).andThen .now
 exact t1.andThen (KC.sub H rfl)
theorem W.appI{e:α}{v:Value}(KC:Kc F b)(hz:ds.length≤100000)(hu:Upd L x (isA dx T ds) (isA dx T (ds++ [e])) L')(hv:T e v)(q:R .none L'):W b w A L (call (.builtin "list.append") [.ref x,v]) R:=W.mk fun s H=>by
 have hi:=KC.inst (w:=w) H (mem_mm hu.mem)
 obtain ⟨ox,hox,hc,⟨vs,n,ha,hd⟩,hnc,he⟩:=St.isI H (mem_mm hu.mem)
 obtain ⟨hp,g,d,t,os⟩:=s
 refine zL (jb (by decide+kernel) PySem.F.entry_list_append (check_meth (owner:="list") (n:="append") (by decide+kernel) (by decide+kernel) hi (PySem.F.args_list_append_2 _ _) (seqI_app hox hd (by rw [ha.len];exact hz) fun h' n' hs hx'=>⟨L',?_,q⟩)))
 exact H.same hu hs ⟨_,hx',by rw [he];exact isA_of (ha.app (.one hv))⟩ t
theorem tyFn{s:qe}{f:Addr}{fd:vS}(K:Kn b)(hf:Mm (f,fd) fns)(H:St b s L):Looks (model pw w) s.heap (QK (.ref f)) (.type "function"):=
 (Looks.ld (H.base (K.fn _ hf.mem) (by intro h;cases h))).andThen .now
theorem push_ok{ds:List Addr}{f p:Str}{t1 t2:Tok}{sz:Value}(K:Kn b)(KC:Kc F b)(hA:Rm 1 A)(hz:ds.length≤1000)(hx:Mm (x,isA dx VR ds) L)(hd:Mm (dx,isAt (szAt sz)) L)(q: ∀a,∃L',Upd L x (isA dx VR ds) (isA dx VR (ds++ [a])) L'∧R .none ((a,isT VS [f,p])::L')):
  W b w A L (call (.ref 95) [.ref x,.str f t1,.str p t2]) R:=by
 refine W.fn (fd:=fd95) 3 [(qb "self",some (.ref x)),(qb "fws",some (.str f t1)),(qb "string",some (.str p t2))] K (by tb_rel) hA rfl (fun fz fz=>zc (by kernel_rfl)) (by kernel_rfl) (by kernel_rfl) ?_
 intro La A' hA
 refine W.exprS ⟨by kernel_rfl,by kernel_rfl⟩ ?_
 repeat tb_start
 refine W.gmI KC KC.acc (.tail hx) (.tail hd) (ga:="list.__getattribute__") (by tb_rel) (by decide+kernel) (by tb_rel) (by tb_rel) (tf:= .type "method_descriptor") (fun s H=>Looks.of_pure (by kernel_rfl)) (by kernel_rfl!) (by kernel_rfl!) ?_
 repeat tb_start
 refine W.newT (T:=VS) (ds:= [f,p]) (.cons ⟨_,rfl⟩ (.one ⟨_,rfl⟩)) (by simp) fun a=> ?_
 repeat tb_start
 obtain ⟨L',hu,q⟩:=q a
 refine W.appI KC (by omega) (.tail (.tail hu)) rfl ?_
 exact W.nil ⟨_,.cons .head (.skip .all),q⟩
theorem pop_ok{ds:List Addr}{e:Addr}{sz:Value}(K:Kn b)(KC:Kc F b)(hA:Rm 2 A)(hz:ds.length≤1000)(hd:Mm (dx,isAt (szAt sz)) L)(hu:Upd L x (isA dx VR (ds++ [e])) (isA dx VR ds) L')(q:R (.ref e) L'):W b w A L (call (.ref 111) [.ref x]) R:=by
 refine W.fnAt (fd:=fd111) 1 [(qb "self",some (.ref x))] K (by tb_rel) hA rfl (fun fz fz=>zc (by kernel_rfl)) (by kernel_rfl) (by kernel_rfl) ?_
 intro La hA
 refine Wt.ifs ?_
 have hx:=mem_mm hu.mem
 repeat k_memK
 refine W.gmI KC KC.acc (.tail hx) (.tail hd) (ga:="list.__getattribute__") (by tb_rel) (by decide+kernel) (by tb_rel) (by tb_rel) (tf:= .type "function") (fun s H=>tyFn K (f:=148) (fd:=fd148) (by tb_rel) H) (by kernel_rfl!) (by kernel_rfl!) ?_
 refine ⟨KprL.def K (by tb_rel),?_⟩
 refine part_count_ok K KC hA (.tail hx) fun t=> ?_
 repeat k_memK
 refine ⟨fun h=> ?_,fun h=> ?_⟩
 ·exfalso
  simp at h
  omega
 refine Wt.ret ?_
 refine Wt.sup (id:="list.pop") (fd:=fd111) (f:=111) (cd:=110) K KC (by kernel_rfl!) (by tb_rel) (by tb_rel) .head (by kernel_rfl) .head .head (.tail hx) slot_md_get (by kernel_rfl) entry_md_get args_md_get (by decide) (fun hx hc hs hq=>md_bind (by decide+kernel) (by decide+kernel) hx hc hs hq) (by kernel_rfl!) ?_
 intro so bo
 refine W.bndPop (e:=e) KC (by omega) .head (.tail (.tail (.tail hu))) ?_
 rintro v rfl
 exact ⟨_,.skip (.skip (.skip .all)),q⟩
theorem pop0_ok{sz:Value}(K:Kn b)(KC:Kc F b)(hA:Rm 2 A)(hd:Mm (dx,isAt (szAt sz)) L)(hx:Mm (x,isA dx VR []) L)(q: ∀a,R (.ref a) ((a,isT VS ["",""])::L)):W b w A L (call (.ref 111) [.ref x]) R:=by
 refine W.fnAt (fd:=fd111) 1 [(qb "self",some (.ref x))] K (by tb_rel) hA rfl (fun fz fz=>zc (by kernel_rfl)) (by kernel_rfl) (by kernel_rfl) ?_
 intro La hA
 refine Wt.ifs ?_
 repeat k_memK
 refine W.gmI KC KC.acc (.tail hx) (.tail hd) (ga:="list.__getattribute__") (by tb_rel) (by decide+kernel) (by tb_rel) (by tb_rel) (tf:= .type "function") (fun s H=>tyFn K (f:=148) (fd:=fd148) (by tb_rel) H) (by kernel_rfl!) (by kernel_rfl!) ?_
 refine ⟨KprL.def K (by tb_rel),?_⟩
 refine part_count_ok K KC hA (.tail hx) fun t=> ?_
 repeat k_memK
 refine ⟨fun h=> ?_,fun h=> ?_⟩
 ·repeat k_memK
  refine W.newT (T:=VS) (ds:= ["",""]) (.cons ⟨_,rfl⟩ (.one ⟨_,rfl⟩)) (by simp) fun a=> ?_
  exact ⟨_,.cons .head (.skip .all),q a⟩
 ·simp at h
end
end
section
section
variable{b:qe}{w:World}{A:qq}{L L':Led}{R:Value→Led→Prop}{F:Frag}{α:Type}{T:α→Value→Prop}{ds:List α}{x dx bo:Addr}{env:Env}{pos:Pos}{Q:Flow→Led→Prop}
noncomputable abbrev slO(l u st:Value):Obj:={cls:= .type "slice",data:= .fields #[l,u,st]}
theorem mapSeq_of{f:Array Value→Array Value}{c1:Value}{c2:Option Addr}{c4:Array (Option Value)}{a a':Array Value}{n:Nat}(h:f a=a'): ∃n',js f {cls:=c1,dict:=c2,data:= .seq a n,slots:=c4}={cls:=c1,dict:=c2,data:= .seq a' n',slots:=c4}:=
 ⟨if a'.size==a.size then n else n+1,by subst h;rfl⟩
theorem bounds_from(k n:Nat):sliceBounds (some (k:Int)) none none n=(((min k n:Nat):Int),(n:Int),1):=by
 have h1: ¬((k:Int)<0):=by omega
 show ((if ((1:Int)>0) then max 0 (min (if (k:Int)<0 then (k:Int)+n else k) n) else max (-1) (min (if (k:Int)<0 then (k:Int)+n else k) ((n:Int)-1))),(if ((1:Int)>0) then (n:Int) else-1),(1:Int))=_
 rw [if_neg h1,if_pos (show (1:Int)>0 by decide),if_pos (show (1:Int)>0 by decide)]
 congr 1
 exact Ar.i5 _ _
theorem slice_key{sl:Addr}{s:qe}{E:Value→qe→Prop}{vl vu vs:Value}{lo hi st:Option Int}{Q:Value×Value×Value→qe→Prop}(hos:s.heap.get? sl=some (slO vl vu vs))(pl:IsPart vl lo)(pu:IsPart vu hi)(ps:IsPart vs st)(h0:st≠some 0)
  (h:Q (rawPart lo,rawPart hi,rawPart st) s):wpAny (model pw w) A (Builtin.List.listSliceParts (.ref sl)) Q E s:=by
 have hstep: ¬((rawPart st==zw 0)=true):=by
  cases st with
  |none=>exact qx
  |some c=>
   intro hh
   have:c=0:=by simpa [rawPart,zw] using hh
   exact h0 (by rw [this])
 rw [listSliceParts_eq]
 refine qc (jL hos (vs:=#[vl,vu,vs]) rfl (x:=vs) rfl (qc (wpAny_listPart ps ?_)))
 rw [if_neg hstep]
 refine qc (jL hos (vs:=#[vl,vu,vs]) rfl (x:=vl) rfl (qc (wpAny_listPart pl ?_)))
 exact qc (jL hos (vs:=#[vl,vu,vs]) rfl (x:=vu) rfl (qc (wpAny_listPart pu (qf h))))
theorem slice_sub{sl:Addr}{s:qe}{E:Value→qe→Prop}{vl vu vs:Value}{Q:Option Int→qe→Prop}(hos:s.heap.get? sl=some (slO vl vu vs))(h:Q none s):wpAny (model pw w) A (Qh (.ref sl)) Q E s:=by
 have hTs:s.TypeIs (.ref sl) "slice":=⟨_,hos,rfl⟩
 unfold Qh
 refine qc (jT hTs slice_no_index ?_)
 simp-iota only [Option.isNone_none,if_true]
 exact qf h
theorem seqI_part{sl:Addr}{ox:Obj}{vs:List Value}{n k:Nat}{vl:Value}{E:Value→qe→Prop}{Q:vi→qe→Prop}{h:Heap}{g:Array ju}{d:Drawn}{t:Nat}{os:OsState}(hx:h.get? x=some ox)(hd:ox.data= .seq vs.toArray n)(hs:h.get? sl=some (slO vl .none .none))(pl:IsPart vl (some (k:Int)))(hz:vs.length≤100000)
  (hq:Q (.done (.ret (.ref h.objs.size))) ⟨h.push {cls:= .type "list",data:= .seq (vs.drop k).toArray},g,d,t,os⟩):wpAny (model pw w) A (Builtin.«list.__getitem__» ⟨[.ref x,.ref sl],[]⟩) Q E ⟨h,g,d,t,os⟩:=by
 have hTs:(⟨h,g,d,t,os⟩:qe).TypeIs (.ref sl) "slice":=⟨_,hs,rfl⟩
 show wpAny _ _ (Qh (.ref sl)>>=_) _ _ _
 refine qc (slice_sub hs ?_)
 show wpAny _ _ (QK (.ref sl)>>=_) _ _ _
 refine qc (jx hTs ?_)
 rw [if_neg (by decide)]
 refine qc (slice_key hs pl .none .none (by simp) ?_)
 refine qc (m:=jF (.ref x)) ?_
 unfold jF
 refine qc (vy hx hd (qf ?_))
 refine qc (ze (sliceIndices_raw _ _ _ vs.toArray.size (by simp)) ?_)
 have e:=slicePick_from' vs.toArray k
 unfold slicePick at e
 dsimp only
 rw [e]
 refine qc (qM (qf hq) ?_)
 show (List.drop k vs).toArray.size≤_
 rw [qu,qo,zt];exact qg (Nat.sub_le _ _) (qg hz (Ar.d rfl))
theorem seqI_cut{sl l0:Addr}{ox:Obj}{vs:List Value}{n n0 k:Nat}{vl:Value}{E:Value→qe→Prop}{Q:vi→qe→Prop}{h:Heap}{g:Array ju}{d:Drawn}{t:Nat}{os:OsState}(hx:h.get? x=some ox)(hd:ox.data= .seq vs.toArray n)(hs:h.get? sl=some (slO vl .none .none))(pl:IsPart vl (some (k:Int)))(hz:vs.length≤100000)
  (hl:h.get? l0=some (listO [] n0)) (hne:x≠l0)
  (hq: ∀h' n',Qv x h h'→h'.get? x=some {ox with data:= .seq (vs.take k).toArray n'}→Q (.done (.ret .none)) ⟨h',g,d,t,os⟩):wpAny (model pw w) A (Builtin.«list.__setitem__» ⟨[.ref x,.ref sl,.ref l0],[]⟩) Q E ⟨h,g,d,t,os⟩:=by
 revert w A x sl l0 ox vs n n0 k vl E Q h g d t os hx hd hs pl hz hl hne hq
 funext w A x sl l0 ox vs n n0 k vl E Q h g d t os hx hd hs pl hz hl hne hq
 have hTs:(⟨h,g,d,t,os⟩:qe).TypeIs (.ref sl) "slice":=⟨_,hs,rfl⟩
 have hTl:(⟨h,g,d,t,os⟩:qe).TypeIs (.ref l0) "list":=⟨_,hl,rfl⟩
 show wpAny _ _ (Qh (.ref sl)>>=_) _ _ _
 refine qc (slice_sub hs ?_)
 show wpAny _ _ (QK (.ref sl)>>=_) _ _ _
 refine qc (jx hTs ?_)
 rw [if_neg (by decide)]
 refine qc (slice_key hs pl .none .none (by simp) ?_)
 have hsr:Builtin.List.listSameRef (.ref x) (.ref l0)=false:=by simp [Builtin.List.listSameRef,hne]
 dsimp only
 rw [hsr,if_neg qx]
 refine qc (m:=Builtin.List.listAllItems _ _) ?_
 unfold Builtin.List.listAllItems
 refine qc (jx hTl ?_)
 rw [if_pos (by decide)]
 unfold jF
 refine qc (vy hl rfl (qf ?_))
 refine qc (qc (vy hx hd (qf ?_)))
 refine qc (ze (sliceIndices_raw _ _ _ vs.toArray.size (by simp)) ?_)
 rw [bounds_from]
 obtain ⟨c1,c2,c3,c4⟩:=ox
 revert c1 c2 c3 c4;funext c1 c2 c3 c4 hx hd hq
 dsimp only at hd
 subst hd
 dsimp only
 rw [if_pos (by decide)]
 refine qc (jI ?_)
 have hsz:vs.toArray.size≤ji:=by rw [qo,qu];omega
 have hlt:Builtin.List.listTooLong (vs.toArray.size+([]:List Value).toArray.size)=false:=by
  unfold Builtin.List.listTooLong
  simpa using hsz
 rw [hlt,if_neg qx]
 have hE:vs.toArray.extract 0 (((min k vs.toArray.size:Nat):Int)).toNat++([]:List Value).toArray++vs.toArray.extract (max ((min k vs.toArray.size:Nat):Int) ((vs.toArray.size:Nat):Int)).toNat=(vs.take k).toArray:=by
  have e1:(max ((min k vs.toArray.size:Nat):Int) ((vs.toArray.size:Nat):Int)).toNat=vs.toArray.size:=by exact congrArg QI (Int.max_eq_right (QQ.mpr (vd _ _)))
  rw [e1]
  simp [List.take_eq_take_iff]
 unfold Builtin.List.listUpdate
 have hz':(vs.toArray.extract 0 (((min k vs.toArray.size:Nat):Int)).toNat++([]:List Value).toArray++vs.toArray.extract (max ((min k vs.toArray.size:Nat):Int) ((vs.toArray.size:Nat):Int)).toNat).size≤ji+1:=by
  rw [hE,qo,qI,qu];omega
 refine qc (wpAny_updateSeq hx rfl ?_ (hz:=hsz) (_hz':=hz'))
 refine qc (wpAny_letGo ?_)
 have U:=zR (js fun xs=>xs.extract 0 (((min k vs.toArray.size:Nat):Int)).toNat++([]:List Value).toArray++xs.extract (max ((min k vs.toArray.size:Nat):Int) ((vs.toArray.size:Nat):Int)).toNat) hx rfl
 refine hkX (mapSeq_of (f:=fun xs=>xs.extract 0 (((min k vs.toArray.size:Nat):Int)).toNat++([]:List Value).toArray++xs.extract (max ((min k vs.toArray.size:Nat):Int) ((vs.toArray.size:Nat):Int)).toNat) (c1:=c1) (c2:=c2) (c4:=c4) (n:=n) hE) ?_
 funext ⟨n',e'⟩
 rw [e'] at U
 exact qf (hq _ _ (qK ..) U)
theorem Kc.deq{s:qe}(KC:Kc F b)(H:St b s L):Looks (model pw w) s.heap (seqItemTypes.anyM fun n=>isSubtype (.ref 151) (.type n)) false:=
 (KC.sub H rfl).andThen .now
theorem W.acSp{name:Str}{id:String}{args:List Value}{P:Option Value→Led→Prop}(KC:Kc F b)(hx:Mm (x,isA dx T ds) L)(hf:Mm (name,some (.builtin id)) accTab)(hb: ∀self,bindSpecial (.builtin id) self=qj (.builtin id,[self]))
  (h:W b w A L (call (.builtin id) (.ref x::args)) fun v L'=>P (some v) L'):W b w A L (callSpecial? (.ref x) name args) P:=W.mk fun s H=>by
 obtain ⟨ox,hox,hc,_⟩:=St.isI H hx
 have t1:Looks (model pw w) s.heap (QK (.ref x)) (.ref 151):=hc▸(Looks.ld hox).andThen .now
 unfold callSpecial? specialOf
 refine qc (qc (t1.here ((jw (KC.at H) (KC.acc.find _ hf.mem)).here ?_)))
 refine qC (qc (ze (hb _) ?_))
 exact qc (h.then H fun v s' L' H' h'=>qf ⟨L',H',h'⟩)
theorem W.seqKey{k:Value}{name:Str}(KC:Kc F b)(hx:Mm (x,isA dx T ds) L)(h:R k L):W b w A L (sequenceKey (.ref x) k name) R:=W.mk fun s H=>by
 obtain ⟨ox,hox,hc,_⟩:=St.isI H hx
 have t1:Looks (model pw w) s.heap (QK (.ref x)) (.ref 151):=hc▸(Looks.ld hox).andThen .now
 unfold sequenceKey
 refine qc (t1.here ?_)
 refine qc ((KC.deq H).here ?_)
 rw [if_pos (show (!false)=true from rfl)]
 exact qf ⟨L,H,h⟩
theorem W.getAc{i:Value}(KC:Kc F b)(hx:Mm (x,isA dx T ds) L)(h:W b w A L (call (.builtin "list.__getitem__") [.ref x,i]) R):W b w A L (vn (.ref x) i) R:=by
 unfold vn
 exact W.holding (W.bind (W.seqKey KC hx (W.bind (W.acSp KC hx (by tb_rel) PySem.F.slot_list_getitem.bind (h.mono fun v L' h'=>W.pure h')))))
theorem W.setAc{i v:Value}{Q:Unit→Led→Prop}(KC:Kc F b)(hx:Mm (x,isA dx T ds) L)(h:W b w A L (call (.builtin "list.__setitem__") [.ref x,i,v]) fun fz L'=>Q () L'):W b w A L (setItem (.ref x) i v) Q:=by
 unfold setItem
 exact W.holding (W.bind (W.seqKey KC hx (W.bind (W.acSp KC hx (by tb_rel) PySem.F.slot_list_setitem.bind (h.mono fun v L' h'=>W.pure h')))))
theorem li_k:builtinKind "list.__getitem__"=some .method:=by decide+kernel
theorem li_s:splitId "list.__getitem__"=some ("list","__getitem__"):=by decide+kernel
theorem ls_k:builtinKind "list.__setitem__"=some .slot:=by decide+kernel
theorem ls_s:splitId "list.__setitem__"=some ("list","__setitem__"):=by decide+kernel
theorem W.partAc{sl:Addr}{vl:Value}{k:Nat}(KC:Kc F b)(hx:Mm (x,isA dx T ds) L)(hs:Mm (sl,isSlice vl .none .none) L)(pl:IsPart vl (some (k:Int)))(hz:ds.length≤100000)(q: ∀a,R (.ref a) ((a,isL T (ds.drop k))::L)):
  W b w A L (call (.builtin "list.__getitem__") [.ref x,.ref sl]) R:=W.mk fun s H=>by
 have hi:=KC.inst (w:=w) H hx
 obtain ⟨ox,hox,hc,⟨vs,n,ha,hd⟩,hnc,he⟩:=St.isI H hx
 obtain ⟨_,hos,rfl⟩:=H.own _ hs.mem
 obtain ⟨hp,g,d,t,os⟩:=s
 refine zL (jb (by decide+kernel) PySem.F.entry_list_getitem (@check_meth (model pw w) _ _ _ "list.__getitem__" "list" "__getitem__" (.ref x) [.ref sl] [] _ li_k li_s hi (PySem.F.args_list_getitem_2 _ _) (seqI_part hox hd hos pl (by rw [ha.len];exact hz) ?_)))
 exact ⟨_,H.alloc (P:=isL T (ds.drop k)) (listO (vs.drop k) 0) rfl ⟨_,0,ha.drop k,rfl⟩,q _⟩
theorem W.cutAc{sl l0:Addr}{vl:Value}{k:Nat}(KC:Kc F b)(hu:Upd L x (isA dx T ds) (isA dx T (ds.take k)) L')(hs:Mm (sl,isSlice vl .none .none) L)(hl:Mm (l0,isL T []) L)(pl:IsPart vl (some (k:Int)))(hz:ds.length≤100000)(q:R .none L'):
  W b w A L (call (.builtin "list.__setitem__") [.ref x,.ref sl,.ref l0]) R:=W.mk fun s H=>by
 have hi:=KC.inst (w:=w) H (mem_mm hu.mem)
 obtain ⟨ox,hox,hc,⟨vs,n,ha,hd⟩,hnc,he⟩:=St.isI H (mem_mm hu.mem)
 obtain ⟨_,hos,rfl⟩:=H.own _ hs.mem
 obtain ⟨_,hol,⟨vs0,n0,h0,rfl⟩⟩:=H.own _ hl.mem
 cases h0
 have hne:x≠l0:=fun e=>by
  subst e
  rw [hox] at hol
  cases hol
  cases hc
 obtain ⟨hp,g,d,t,os⟩:=s
 refine zL (jb (by decide+kernel) PySem.F.entry_list_setitem (@check_slot (model pw w) _ _ _ "list.__setitem__" "list" "__setitem__" (.ref x) [.ref sl,.ref l0] [] _ ls_k ls_s hi (PySem.F.args_list_setitem_3 _ _ _) (seqI_cut hox hd hos pl (by rw [ha.len];exact hz) hol hne fun h' n' hs hx'=>⟨L',?_,q⟩)))
 exact H.same hu hs ⟨_,hx',by rw [he];exact isA_of (ha.take k)⟩ t
theorem W.asgSub{o i value:Expr}{p:Pos}{rest:List Stmt}(hs:swapsWith value (some (.Subscript o i p)) pos.line env=qj false)
  (h:W b w A L (eval value env) fun v L1=>W b w A L1 (eval o env) fun ov L2=>W b w A L2 (eval i env) fun iv L3=>W b w A L3 (setItem ov iv v) fun fz L4=>W b w A L4 (execs rest env) Q):W b w A L (execs (.Assign [.Subscript o i p] value pos::rest) env) Q:=
 W.seq<|W.mk fun s H=>wpAny_Assign_Subscript (h.then H fun v s1 L1 H1 h1=>h1.then H1 fun ov s2 L2 H2 h2=>h2.then H2 fun iv s3 L3 H3 h3=>h3.then H3 fun fz s4 L4 H4 h4=>⟨L4,H4,h4⟩) hs
theorem W.tailAc{value slice:Expr}{i:Value}{ops:List Value}(KC:Kc F b)(hx:Mm (x,isA dx T ds) L)(hs:jq slice false (.ref x) i=zZ ops (vn (.ref x) i))(h:W b w A L (vn (.ref x) i) R):
  W b w A L (zC value slice (.ref x) i) R:=W.mk fun s H=>by
 obtain ⟨ox,hox,hc,_⟩:=St.isI H hx
 have t1:Looks (model pw w) s.heap (QK (.ref x)) (.ref 151):=hc▸(Looks.ld hox).andThen .now
 unfold zC
 refine qc ?_
 rw [getitemInPython_of_ne (by intro e;cases e)]
 unfold specialOf
 refine qc (qc (t1.here ((jw (KC.at H) (KC.acc.find (qb "__getitem__",some (.builtin "list.__getitem__")) (by decide+kernel))).here ?_)))
 have fin:wpAny (model pw w) A (jq slice false (.ref x) i) (fun r s₃=>wpAny (model pw w) A (Ql value (.ref x) r>>=fun fz=>qj r) (Post b R) (fun fz fz=>False) s₃) (fun fz fz=>False) s:=by
  rw [hs]
  exact wpAny_operating (h.then H fun r s₃ L3 H3 h₃=>qc (wpAny_letTemporaryGo (qf ⟨L3,H3,h₃⟩)))
 exact qf (qc fin)
end
end
section
section
variable{b:qe}{w:World}{A:qq}{L L':Led}{R:Value→Led→Prop}{F:Frag}{α:Type}{T:α→Value→Prop}{ds:List α}{x dx bo:Addr}{env:Env}{pos:Pos}{Q:Flow→Led→Prop}
theorem pop_from_ok{k:Nat}{t:Tok}(K:Kn b)(KC:Kc F b)(hA:Rm 1 A)(hz:ds.length≤1000)(hx:Mm (x,isA dx T ds) L)(hu:Upd L x (isA dx T ds) (isA dx T (ds.take k)) L')(q: ∀a,R (.ref a) ((a,isL T (ds.drop k))::L')):W b w A L (call (.ref 103) [.ref x,.int k t]) R:=by
 refine W.fn (fd:=fd103) 2 [(qb "self",some (.ref x)),(qb "i",some (.int k t)),(qb "popped",none)] K (by tb_rel) hA rfl (fun fz H=>by obtain ⟨t,n,e⟩:=KC.d96;exact kp_binds (frag1 H e (by intro h;cases h)) fun S=>by kernel_rfl) (by kernel_rfl) (by kernel_rfl) ?_
 intro La A' hA
 refine W.asg (by kernel_rfl!) ?_
 repeat tb_start
 intro sl
 refine W.tailAc KC (.tail (.tail hx)) rfl (W.getAc KC (.tail (.tail hx)) (W.partAc KC (.tail (.tail hx)) .head (.int _ _) (by omega) fun a=> ?_))
 repeat tb_start
 refine W.asgSub (by kernel_rfl!) ?_
 refine W.list0 (T:=T) fun l0=> ?_
 repeat tb_start
 intro s2
 refine W.setAc KC (.tail (.tail (.tail (.tail (.tail hx))))) ?_
 refine W.cutAc KC (.tail (.tail (.tail (.tail (.tail hu))))) .head (.tail .head) (.int _ _) (by omega) ?_
 repeat tb_start
 exact ⟨_,.skip (.skip (.cons .head (.skip (.skip .all)))),q a⟩
end
end
section
section
variable{b:qe}{w:World}{A:qq}{L L':Led}{R:Value→Led→Prop}{F:Frag}{α:Type}{T:α→Value→Prop}{ds:List α}{x dx bo:Addr}{env:Env}{pos:Pos}{Q:Flow→Led→Prop}
theorem nextA{s:qe}{E:Value→qe→Prop}{it l:Addr}{i n:Nat}{ol:Obj}{items:Array Value}{y:Value}{Q:Option Value→qe→Prop}(hit:s.heap.IsListIter it l i)(hol:s.heap.get? l=some ol)(hdl:ol.data= .seq items n)(hy:items[i]? =some y)
  (hQ: ∀h',h'.IsListIter it l (i+1)→Qv it s.heap h'→Q (some y) {s with heap:=h'}):wpAny (model pw w) A (jY (.ref it)) Q E s:=by
 obtain ⟨o,ho,hc,hd⟩:=id hit
 unfold jY
 refine qc (vq (jA (name:=qb "__next__") hit.typeIs zI (zr zI hit.typeIs entry_listiter_next ?_ (args_listiter_next _))))
 show wpAny _ _ (field (.ref it) 0>>=_) _ _ s
 refine qc (jL ho hd (x:= .ref l) rfl ?_)
 show wpAny _ _ (if (Value.ref l==Value.none)=true then _ else _) _ _ s
 rw [if_neg (show ¬((Value.ref l==Value.none)=true) from qx)]
 show wpAny _ _ (field (.ref it) 1>>=_) _ _ s
 refine qc (jL ho hd (x:= .int i 0) rfl ?_)
 show wpAny _ _ (seqItems? (.ref l)>>=_) _ _ s
 refine qc (vy hol hdl ?_)
 simp only [vt,hy]
 refine qc (wpAny_setField ho hd (by simp) (qf ⟨y,rfl,qf (hQ _ ?_ (qK ..))⟩))
 exact ⟨_,zR _ ho (Obj.isFreed_of_fields (Obj.data_mapFields hd _)),(Obj.cls_mapFields ..).trans hc,by rw [Obj.data_mapFields hd];simp [zw]⟩
theorem endA{s:qe}{E:Value→qe→Prop}{it l:Addr}{i n:Nat}{ol:Obj}{items:Array Value}{Q:Option Value→qe→Prop}(hh:A.handled=none)(hit:s.heap.IsListIter it l i)(hol:s.heap.get? l=some ol)(hdl:ol.data= .seq items n)(hy:items[i]? =none)
  (hQ: ∀h',Heap.ExtBut it s.heap h'→Q none {s with heap:=h'}):wpAny (model pw w) A (jY (.ref it)) Q E s:=by
 revert w A s E it l i n ol items Q hh hit hol hdl hy hQ
 funext w A s E it l i n ol items Q hh hit hol hdl hy hQ
 refine hkX (id hit) ?_
 funext ⟨o,ho,hc,hd⟩
 unfold jY
 refine qc (vq (jA (name:=qb "__next__") hit.typeIs zI (zr zI hit.typeIs entry_listiter_next ?_ (args_listiter_next _))))
 show wpAny _ _ (field (.ref it) 0>>=_) _ _ s
 refine qc (jL ho hd (x:= .ref l) rfl ?_)
 show wpAny _ _ (if (Value.ref l==Value.none)=true then _ else _) _ _ s
 rw [if_neg (show ¬((Value.ref l==Value.none)=true) from qx)]
 show wpAny _ _ (field (.ref it) 1>>=_) _ _ s
 refine qc (jL ho hd (x:= .int i 0) rfl ?_)
 show wpAny _ _ (seqItems? (.ref l)>>=_) _ _ s
 refine qc (vy hol hdl ?_)
 simp only [vt,hy]
 refine qc (jI (qc (wpAny_setField ho hd (by simp) ?_)))
 show wpAny _ _ (newExc (.type "StopIteration") []>>=_) _ _ _
 refine qc ?_
 simp only [newExc,newTuple]
 refine qc (qM ?_ (by size_fits))
 refine qc (m:=Qm _ _) (ze (a:=Value.none) (by first|rfl|(simp only [Qm];rfl)) ?_)
 refine qM ?_ (by size_fits)
 simp-iota only [raiseNew]
 refine qc (wpAny_handled ?_)
 rw [show A.in1.handled=none from hh]
 refine qc (qf (wpAny_throw ?_))
 refine qc (jo (T:="StopIteration") (b:=true) ⟨_,zK _ rfl,rfl⟩ isSubtype_stop ?_)
 exact qf (hQ _ (((qK ..).extBut.push _).push _))
theorem li_i:builtinKind "list.__iter__"=some .slot∧splitId "list.__iter__"=some ("list","__iter__"):=by decide+kernel
theorem W.iterA(KC:Kc F b)(hx:Mm (x,isA dx T ds) L)(h: ∀it,R (.ref it) ((it,isLI x 0)::L)):W b w A L (pyIter (.ref x)) R:=W.mk fun s H=>by
 have hi:=KC.inst (w:=w) H hx
 obtain ⟨ox,hox,hc,⟨vs,n,ha,hd⟩,hnc,he⟩:=St.isI H hx
 have t1:Looks (model pw w) s.heap (QK (.ref x)) (.ref 151):=hc▸(Looks.ld hox).andThen .now
 have sp:Looks (model pw w) s.heap (specialOf (.ref x) "__iter__") (some (.builtin "list.__iter__")):=t1.andThen (jw (KC.at H) (KC.acc.find (qb "__iter__",some (.builtin "list.__iter__")) (by decide+kernel)))
 obtain ⟨hp,g,d,t,os⟩:=s
 unfold pyIter
 refine qc (sp.here ?_)
 show wpAny _ A (vX (.ref x) "__iter__" _>>=_) _ _ _
 refine qc ?_
 simp only [vX,bindSpecialIfBound?]
 refine qC (qc (qc (sp.here ?_)))
 simp only [slot_list_iter.bind]
 refine qc (jn (wpAny_ite ?_))
 let o':Obj:={cls:= .type "list_iterator",data:= .fields #[.ref x,.int 0 0]}
 have H2:St b ⟨hp.push o',g,d,t,os⟩ ((hp.objs.size,isLI x 0)::L):=H.alloc (P:=isLI x 0) o' rfl ⟨rfl,rfl⟩
 have hT':(⟨hp.push o',g,d,t,os⟩:qe).TypeIs (.ref hp.objs.size) "list_iterator":=⟨o',zK _ rfl,rfl⟩
 have hcall:wpAny (model pw w) A (call (.builtin "list.__iter__") [.ref x]) (fun v s'=>v= .ref hp.objs.size∧s'=⟨hp.push o',g,d,t,os⟩) (fun fz fz=>False) ⟨hp,g,d,t,os⟩:=by
  refine zL (jb slot_list_iter.plain entry_list_iter (@check_slot (model pw w) _ _ _ "list.__iter__" "list" "__iter__" (.ref x) [] [] _ li_i.1 li_i.2 hi (args_list_iter _) ?_))
  show wpAny _ _ (do PySem.ret (←Qs "list_iterator" [.ref x,zw 0])) _ _ _
  exact qc (qM (qf ⟨rfl,rfl⟩))
 have fin: ∀{Z:Option Value→qe→Prop} {refuse:Sem Value},Z (some (.ref hp.objs.size)) ⟨hp.push o',g,d,t,os⟩→wpAny (model pw w) A (if (Value.builtin "list.__iter__"==Value.none)=true then (refuse>>=fun v=>qj (some v)) else (call (.builtin "list.__iter__") [.ref x]>>=fun v=>qj (some v))) Z (fun fz fz=>False) ⟨hp,g,d,t,os⟩:=fun hz=>by
  simp-iota only [builtin_beq_none,qT,if_false]
  exact qc (qL hcall (fun v s' ⟨e1,e2⟩=>by subst e1 e2;exact qf hz) fun fz fz h'=>h')
 split
 ·refine qc (qf (qf (fin ?_)))
  exact qc (jT hT' zI.lookup (qf ⟨_,H2,h _⟩))
 ·refine wpAny_tryCatch (qc (qf (qf (fin ?_))))
  exact qc (jT hT' zI.lookup (qf ⟨_,H2,h _⟩))
theorem Walk.acc(KC:Kc F b)(hh:A.handled=none)(hm:Mm (x,isA dx T ds) L):Walk b w A (.ref x) ds.length (fun i v=> ∃d,ds[i]? =some d∧T d v) (fun L=>Mm (x,isA dx T ds) L) L:=by
 refine ⟨fun i=>isLI x i,⟨fun i it L P hi hk h=> ?_,fun it L P hk h=> ?_,fun fz fz h=> .tail h,fun target v i it L P h=> ?_,fun i it L P h=> ?_⟩,fun P h=>W.iterA KC hm h⟩
 ·refine W.mk fun s H=> ?_
  obtain ⟨ox,hox,hc,⟨vs,n,ha,hd⟩,hnc,he⟩:=St.isI H (Mm.tail hk)
  obtain ⟨o,ho,h1,h2⟩:=H.own _ (.head _)
  obtain ⟨v,hv,hT⟩:=ha.get (qd hi)
  exact nextA ⟨o,ho,h1,h2⟩ hox hd (y:=v) (by simpa using hv) fun h' ⟨o',ho',q⟩ hs=>⟨_,H.same .head hs ⟨o',ho',q⟩ s.toks,h v ⟨_,qd hi,hT⟩⟩
 ·refine W.mk fun s H=> ?_
  obtain ⟨ox,hox,hc,⟨vs,n,ha,hd⟩,hnc,he⟩:=St.isI H (Mm.tail hk)
  obtain ⟨o,ho,h1,h2⟩:=H.own _ (.head _)
  exact endA hh ⟨o,ho,h1,h2⟩ hox hd (by simp [ha.len]) fun h' hx=>⟨_,H.gone hx s.toks,h⟩
 ·refine W.mk fun s H=> ?_
  obtain ⟨o,ho,h1,h2⟩:=H.own _ (.head _)
  exact letGo_listiter ⟨o,ho,h1,h2⟩ ⟨_,H,h⟩
 ·refine W.mk fun s H=> ?_
  obtain ⟨o,ho,h1,h2⟩:=H.own _ (.head _)
  exact wpAny_pyIter_listiter ⟨o,ho,h1,h2⟩ ⟨_,H,h⟩
end
end
section
section
variable{b:qe}{w:World}{L L':Led}{F:Frag}
noncomputable def PairOk(d:Str×Str)(vals:Array Value):Prop:= ∃t u,vals=#[.str d.1 t,.str d.2 u]
structure AccAt(it x:Addr)(as:List Addr)(ds:List (Str×Str))(i:Nat)(h:Heap):Prop where
 it:h.IsListIter it x i
 seq: ∃ox n,h.get? x=some ox∧ox.data= .seq (as.map Value.ref).toArray n
 tup: ∀(j:Nat) a d,as[j]? =some a→ds[j]? =some d→ ∃vals,PairOk d vals∧h.IsTuple a vals
theorem AccAt.keeps{it x:Addr}{as:List Addr}{ds:List (Str×Str)}{i:Nat}{h h':Heap}(A:AccAt it x as ds i h)(k: ∀c∈it::x::as,∀o,h.get? c=some o→h'.get? c=some o):AccAt it x as ds i h' where
 it:=let ⟨o,e,r⟩:=A.it;⟨o,k _ (by simp) _ e,r⟩
 seq:=let ⟨o,n,e,r⟩:=A.seq;⟨o,n,k _ (by simp) _ e,r⟩
 tup:=fun j a d h1 h2=>let ⟨vals,p,o,e,r⟩:=A.tup j a d h1 h2;⟨vals,p,o,k _ (by simp [qk h1]) _ e,r⟩
theorem walksAcc{A:qq}{it x:Addr}{as:List Addr}{ds:List (Str×Str)}(hl:as.length=ds.length)(hx:x≠it)(has:it∉as)(hh:A.handled=none):
  WalksU pw w A it (it::x::as) [it] ds.length (fun i vals=> ∃d,ds[i]? =some d∧PairOk d vals) (AccAt it x as ds) (fun i T h=>as[i]? =some T∧AccAt it x as ds (i+1) h) where
 sub:=fun b hb=>by simp at hb;subst hb;simp
 frame:=fun i h h' st k=>st.keeps k
 item:=fun i s Q E hi st hq=>by
  obtain ⟨ox,n,e,hd⟩:=st.seq
  have hi':i<as.length:=by omega
  have h1:=qd hi'
  have h2:=qd hi
  obtain ⟨vals,p,hT⟩:=st.tup _ _ _ h1 h2
  refine nextA st.it e hd (y:= .ref as[i]) (by simp [hi']) fun h' hit hs=> ?_
  have k: ∀c o,c∉ [it]→s.heap.get? c=some o→h'.get? c=some o:=fun c o hc e=>(hs.2 c (by simpa using hc)).trans e
  have kt: ∀(j:Nat) a d,as[j]? =some a→ds[j]? =some d→ ∃vals,PairOk d vals∧h'.IsTuple a vals:=fun j a d e1 e2=>by
   obtain ⟨vals,p,o,e,r⟩:=st.tup j a d e1 e2
   exact ⟨vals,p,o,k _ _ (by simp;intro h;subst h;exact has (qk e1)) e,r⟩
  obtain ⟨vals',p',hT'⟩:=kt _ _ _ h1 h2
  exact hq _ vals' h' s.toks ⟨_,h2,p'⟩ hT' ⟨h1,hit,⟨ox,n,k _ _ (by simpa using hx) e,hd⟩,kt⟩ k
 go:=fun elts k pos i T s Q E hm hq=>by
  obtain ⟨o,ho,h1,h2⟩:=hm.2.it
  exact letGo_listiter ⟨o,ho,h1,h2⟩ (hq s.heap hm.2 fun fz fz fz e=>e)
 apart:=fun i T h hm=>by
  have:=qk hm.1
  simp;intro e;subst e;exact has this
 done:=fun s Q E st hq=>by
  obtain ⟨ox,n,e,hd⟩:=st.seq
  exact endA hh st.it e hd (by simp [hl]) fun h' hs=>hq h' s.toks fun c o hc e=>hs c o (by simpa using hc) e
 self:=fun i s Q E st hq=>wpAny_pyIter_listiter st.it hq
end
end
section
section
variable{w:World}{A:qq}{E:Value→qe→Prop}{s:qe}{env:Env}{m mg mb:Str→Option Value}
noncomputable def Ticks(s s':qe):Prop:= ∃k,s'={s with toks:=k}
theorem Ticks.keeps{s s':qe}(h:Ticks s s'):Keeps s s':=let ⟨k,e⟩:=h;⟨s.heap,k,by subst e;rfl,fun fz fz e=>e⟩
structure GEnv(env:Env)(s:qe)(m mg mb:Str→Option Value):Prop where
 k:env.scope.kind= .function
 ns:s.heap.Ns env.locals m
 g:s.heap.Ns env.globals mg
 b:s.heap.Ns env.builtins mb
theorem GEnv.tick(h:GEnv env s m mg mb)(k:Nat):GEnv env {s with toks:=k} m mg mb:=⟨h.k,h.ns,h.g,h.b⟩
theorem len_of{x:Str}{v:Str}{t:Tok}{p1 p2 p3:Pos}{Q:Value→qe→Prop}(G:GEnv env s m mg mb)(hk:(env.kindOf "len"==some .globalImplicit&&env.kindOf x==some .local&& !(x==("__debug__":Str)))=true)(hm:mg "len"=none)(hb:mb "len"=some (.builtin "len"))(hx:m x=some (.str v t))(hz:v.length<1000000)
  (hs:backTo p3 (zB [.Name x p2] env)= [(false,eval (.Name x p2) env)])
  (h: ∀k u,Q (.int v.length u) {s with toks:=k}):wpAny (model pw w) A (eval (.Call (.Name "len" p1) [.Name x p2] [] p3) env) Q E s:=by
 simp-iota only [qt,beq_iff_eq,zY] at hk
 obtain ⟨⟨h1,h2⟩,h3⟩:=hk
 refine wpAny_Call_NameR (Qn G.k h1 (Calls.loadGlobal_builtin G.g hm G.b hb ?_))
 rw [hs]
 refine Calls.callWith_builtin rfl (Qz (vL (wpAny_Name (vT G.k h2 G.ns hx ?_) h3)))
 exact Calls.spliced_nil (len_str (by omega) (h _ _))
theorem elt_len{a c:Str}{t u:Tok}{p1 p2 p3 p4 p5 p6 p7:Pos}{Q:Value→qe→Prop}(G:GEnv env s m mg mb)(hk:(env.kindOf "len"==some .globalImplicit&&env.kindOf "fws"==some .local&&env.kindOf "part"==some .local)=true)(hm:mg "len"=none)(hb:mb "len"=some (.builtin "len"))
  (hx:m "fws"=some (.str a t)) (hy:m "part"=some (.str c u)) (hz:a.length<1000000) (hz':c.length<1000000)
  (hs:backTo p3 (zB [.Name "fws" p2] env)= [(false,eval (.Name "fws" p2) env)]) (hs':backTo p6 (zB [.Name "part" p5] env)= [(false,eval (.Name "part" p5) env)])
  (h: ∀k u,Q (.int (a.length+c.length) u) {s with toks:=k}):wpAny (model pw w) A (eval (.BinOp (.Call (.Name "len" p1) [.Name "fws" p2] [] p3) .Add (.Call (.Name "len" p4) [.Name "part" p5] [] p6) p7) env) Q E s:=by
 simp-iota only [qt,beq_iff_eq] at hk
 obtain ⟨⟨h1,h2⟩,h3⟩:=hk
 refine wpAny_BinOp (len_of G (by rw [h1,h2];decide+kernel) hm hb hx hz hs fun k fz=> ?_)
 refine len_of (G.tick k) (by rw [h1,h3];decide+kernel) hm hb hy hz' hs' fun k' fz=> ?_
 exact add_int (h _ _)
end
end
section
section
variable{w:World}{A:qq}{E:Value→qe→Prop}{s:qe}{env:Env}{m mg mb:Str→Option Value}
theorem elt_join{a c:Str}{t u t0:Tok}{p1 p2 p3 p4 p5 p6:Pos}{k0:Nat}{Q:Value→qe→Prop}(G:GEnv env s m mg mb)(hk:(env.kindOf "EMPTYSTRING"==some .globalImplicit&&env.kindOf "fws"==some .local&&env.kindOf "part"==some .local)=true)(hm:mg "EMPTYSTRING"=some (.str "" t0))
  (hx:m "fws"=some (.str a t)) (hy:m "part"=some (.str c u)) (hz:a.length<1000) (hz':c.length<1000) (hbase:jE (.Name "EMPTYSTRING" p1) "join" env (eval (.Name "EMPTYSTRING" p1) env)=eval (.Name "EMPTYSTRING" p1) env) (hline:(p2.endLine==p6.line)=true)
  (hs:backTo p6 (zB [.Tuple [.Name "fws" p3,.Name "part" p4] k0 p5] env)= [(false,eval (.Tuple [.Name "fws" p3,.Name "part" p4] k0 p5) env)]) (hs':backTo p5 (zB [.Name "fws" p3,.Name "part" p4] env)= [(false,eval (.Name "fws" p3) env),(false,eval (.Name "part" p4) env)])
  (h: ∀k u',Q (.str (Txt.join "" [a,c]) u') {s with heap:=s.heap.push {cls:= .type "tuple",data:= .seq #[.str a t,.str c u]},toks:=k}):wpAny (model pw w) A (eval (.Call (.Attribute (.Name "EMPTYSTRING" p1) "join" p2) [.Tuple [.Name "fws" p3,.Name "part" p4] k0 p5] [] p6) env) Q E s:=by
 simp-iota only [qt,beq_iff_eq] at hk
 obtain ⟨⟨h1,h2⟩,h3⟩:=hk
 refine wpAny_Call_method (T:="str") (id:="str.join") hbase (by rw [hs];rfl) hline PySem.F.plainAttrs_str PySem.F.slot_str_join PySem.F.type_str_join ?_
 refine Qn G.k h1 (Calls.loadGlobal_global G.g hm ?_)
 refine ⟨typeIs_str _ _ _,fun fz e=>(nomatch e),?_⟩
 rw [hs]
 refine Calls.callWith_builtin rfl (Qz (vL (wpAny_Tuple ?_)))
 rw [hs']
 refine vL (wpAny_Name (vT G.k h2 G.ns hx ?_))
 refine vL (wpAny_Name (vT G.k h3 G.ns hy ?_))
 refine Calls.spliced_nil ⟨by rw [qu];simp,?_⟩
 refine Calls.spliced_nil ?_
 refine join_tupleW (ys:= [a,c]) ⟨_,zK _ rfl,rfl,0,rfl⟩ (.cons _ _ (.cons _ _ .nil)) (by decide) (by simp;exact qg (qv (Nat.add_lt_add hz hz')) (Ar.d rfl)) fun fz fz=>h _ _
end
end
section
section
variable{w:World}{A:qq}{E:Value→qe→Prop}{s:qe}{I:Addr}{fp wr:List Addr}{G:Array ju→Array ju→Prop}{n:Nat}{P:Nat→Value→Prop}{St:Nat→qe→Prop}
theorem walkBehind(W:WalksS pw w A I fp wr G n P St)(P0:Value→Prop):WalksS pw w A I fp wr G (n+1) (fun i v=>match i with|0=>P0 v|i+1=>P i v) (fun i s=>match i with|0=>False|i+1=>St i s) where
 sub:=W.sub
 grefl:=W.grefl
 gtrans:=W.gtrans
 frame:=fun i s h' tk st ht k=>by
  cases i with
  |zero=>exact st.elim
  |succ i=>exact W.frame i s h' tk st ht k
 item:=fun i s Q E hi st hq=>by
  cases i with
  |zero=>exact st.elim
  |succ i=>exact W.item i s Q E (by omega) st fun v s' p st' hm=>hq v s' p st' hm
 done:=fun s Q E st hq=>W.done s Q E st hq
 self:=fun i s Q E st hq=>by
  cases i with
  |zero=>exact st.elim
  |succ i=>exact W.self i s Q E st hq
theorem args_sum2(a c:Value):argsOk "sum" ⟨[a,c],[]⟩:=by unfold argsOk;kernel_rfl
noncomputable def sumFrom(z:Int)(val:Nat→Int):Nat→Int
 |0=>z
 |i+1=>val i
theorem preSum_from(z:Int)(val:Nat→Int): ∀n,preSum (sumFrom z val) (n+1)=z+preSum val n
 |0=>by simp [preSum,sumFrom]
 |n+1=>by
  rw [preSum,preSum_from z val n,preSum]
  show z+preSum val n+val n=_
  omega
theorem sum_start{z:Int}{tz:Tok}{Q:Value→qe→Prop}(W:WalksS pw w A.in1 I fp wr G n P St)(val:Nat→Int)(hval: ∀i v,P i v→ ∃t,v= .int (val i) t)(hst:St 0 s)(hfp: ∀b∈fp,b<s.heap.objs.size)(hz:(decide (-(2^ 63:Int)≤z)&&decide (z<2^ 63))=true)
  (hq: ∀s' t',Moved wr G s s'→Q (.int (z+preSum val n) t') s'):wpAny (model pw w) A (call (.builtin "sum") [.ref I,.int z tz]) Q E s:=by
 revert w A E s I fp wr G n P St z tz Q W val hval hst hfp hz hq
 funext w A E s I fp wr G n P St z tz Q W val hval hst hfp hz hq
 refine call_function_tree F.kind_sum F.plain_sum F.entry_sum (args_sum2 _ _) ?_
 unfold Builtin.«sum»
 simp-iota only [qy,qP]
 rw [if_neg (by decide)]
 refine qc (ze (show Builtin.Builtins.bindParams "sum" ["start"] 0 ⟨[.int z tz],[]⟩=qj [some (.int z tz)] from rfl) ?_)
 refine qc (W.self 0 s _ _ hst ?_)
 dsimp only
 split
 case isFalse h=>exact absurd hz h
 refine qc (jI (qc (wpAny_mkInt (qc (qf ?_)))))
 simp-iota only [Qb,List.forIn_nil]
 refine qc (qc (qc (jo (T:="int") (b:=false) (typeIs_int _ _ _) PySem.sub_int_str ?_)))
 simp-iota only [qT,if_false]
 refine qf (qc (qc (jo (T:="int") (b:=false) (typeIs_int _ _ _) PySem.sub_int_bytes ?_)))
 simp-iota only [qT,if_false]
 refine qf (qc (qc (jo (T:="int") (b:=false) (typeIs_int _ _ _) PySem.sub_int_bytearray ?_)))
 simp-iota only [qT,if_false]
 refine qf (qf ?_)
 refine qc (qM ?_)
 have hSf:s.heap.objs.size∉fp:=fun hm=>zO _ (hfp _ hm)
 have hP0:preSum (sumFrom z val) 1=z:=by simp [preSum,sumFrom]
 refine qf ⟨plainId_quiet PySem.F.plain_sum_loop _,codeAny_sum_loopAnyS (walkBehind W fun v=> ∃t,v= .int z t) (sumFrom z val) (fun i v p=> ?_) s.heap.objs.size hSf n 1 _ s.toks 0 0 (.inl rfl) (by omega) (by omega)
  (W.frame 0 s _ _ hst (by first|exact zg _|exact Nat.le_succ _|omega) fun b fz o e=>qD _ e) ?_ fun s' t' hm=> ?_⟩
 ·cases i with
  |zero=>exact p
  |succ i=>
   revert i;funext i p
   exact hval i v p
 ·rw [hP0]
  exact zK _ rfl
 ·rw [preSum_from]
  exact hq s' t' (hm.drop_new (by first|exact zg _|exact Nat.le_succ _|omega))
end
end
section
section
variable{b:qe}{w:World}{A:qq}{L L':Led}{F:Frag}
theorem St.keepL{s s':qe}(H:St b s L)(hk: ∀c o,(c<b.heap.objs.size∨c∈L.map (·.1)∨LamC s.heap c)→s.heap.get? c=some o→s'.heap.get? c=some o)(hos:s'.os=s.os)(hg:AllBare s'.gens)(hgk: ∀(i:Nat) (x:ju),b.gens[i]? =some x→s'.gens[i]? =some x):St b s' L where
 old:=by
  revert b L s s' H hk hos hg hgk
  funext b L s s' H hk hos hg hgk
  refine ⟨?_,fun c o e=>let ⟨o',ho'⟩:=H.old.there c o e;⟨o',hk c o' (.inl (zi e)) ho'⟩⟩
  funext c o e
  rcases H.old.old c o e with x|⟨t,hc,vs,more,hv,x⟩|⟨rfl,hc,⟨o',es,n,ho',r⟩,z⟩
  ·exact .inl (hk c o (.inl (zi e)) x)
  ·exact .inr (.inl ⟨t,hc,vs,more,hv,hk c _ (.inl (zi e)) x⟩)
  ·have q:=hk _ _ (.inl (zi e)) ho'
   exact .inr (.inr ⟨rfl,hc,⟨o',es,n,q,r⟩,fun key=>by
    rw [OldK.staticOf_congr (show s'.heap.get? ja=s.heap.get? ja from q.trans ho'.symm) key];exact z key⟩)
 lim:=H.lim.at fun o e=>hk _ o (.inl H.stat) e
 os:=hos.trans H.os
 gens:=hg
 gk:=hgk
 top:=H.top
 stat:=H.stat
 st0:=H.st0k fun o e=>hk _ o (.inl H.stat) e
 tabs:=H.tabs.keeps fun c o hc e=>hk c o (.inl hc) e
 lam:=H.lam.keeps H.tabs (fun c o hc e=>hk c o (hc.imp id .inr) e) fun x hx=> .inl hx
 own:=fun p hp=>by
  refine hkX (H.own p hp) ?_
  funext ⟨o,ho,h⟩
  exact ⟨o,hk p.1 o (.inr (.inl (qA (f:=(·.1)) hp))) ho,h⟩
 nd:=H.nd
 fresh:=H.fresh
theorem St.tableLam{s s':qe}{c P:Addr}(H:St b s L)(hc:(c,P)∈genCodes)(hcl:c≠242)(hx:Heap.ExtBut P s.heap s'.heap):Lam s'.heap b.heap.objs.size L:=by
 have hne:P≠240∧P≠242:=by
  have: ∀p∈genCodes,p.1≠242→p.2≠240∧p.2≠242:=by decide+kernel
  exact this _ hc hcl
 obtain ⟨_,_,_,_,l2,_⟩:=H.tabs c P hc
 intro ps' cv ht2 hcv
 obtain ⟨ps1,_,ht1,m1,m2,_⟩:=H.tabs 242 240 (by decide)
 have e:ps'=ps1:=by
  have:=(hx _ _ (Ne.symm hne.1) ht1.2).symm.trans ht2.2
  cases this;rfl
 subst e
 obtain ⟨c',o,vs,t,rfl,ho,hd,hv,hn,hm⟩:=H.lam ps' cv ht1 hcv
 exact ⟨c',o,vs,t,rfl,hx c' o (Ne.symm (qS (ql l2 hn))) ho,hd,hv,hn,hm⟩
theorem St.table{s s':qe}{c P:Addr}{ps more:Array Value}(H:St b s L)(hc:(c,P)∈genCodes)(hl:Lam s'.heap b.heap.objs.size L)(ht:s.heap.TableAt c P ps)(hC':s'.heap.IsCode c P (ps++more))(ht':s'.heap.TableAt c P (ps++more))(hx:Heap.ExtBut P s.heap s'.heap)(hos:s'.os=s.os)(hg:s'.gens=s.gens):St b s' L:=by
 revert b L s s' c P ps more H hc hl ht hC' ht' hx hos hg
 funext b L s s' c P ps more H hc hl ht hC' ht' hx hos hg
 refine hkX (H.tabs c P hc) ?_
 funext ⟨ps1,_,t1,l1,l2,ps0,t0,k0⟩
 have e1:ps1=ps:=by
  have:=t1.2.symm.trans ht.2
  cases this;rfl
 subst e1
 have hP:P≠ja:=by
  have: ∀p∈genCodes,p.2≠ja:=by decide+kernel
  exact this _ hc
 exact {
  old:=H.old.step_table t0 ht ht' hx hP
  lim:=H.lim.extBut hx (Ne.symm hP)
  os:=hos.trans H.os
  gens:=by rw [hg];exact H.gens
  gk:=by rw [hg];exact H.gk
  top:=H.top
  stat:=H.stat
  st0:=H.st0k fun o e=>hx _ o (Ne.symm hP) e
  tabs:=fun c' P' hc'=>by
   by_cases e:P'=P
   ·have: ∀p∈genCodes,∀q∈genCodes,p.2=q.2→p=q:=by decide+kernel
    have:=this _ hc' _ hc e
    cases this
    exact ⟨_,hC',ht',l1,l2,ps0,t0,fun pos cv h=>by rw [Array.toList_append];exact codeAmong_app (k0 pos cv h)⟩
   ·refine hkX (H.tabs c' P' hc') ?_
    funext ⟨ps2,i2,t2,m1,m2,ps3,t3⟩
    have e':c'≠P:=by
     have: ∀p∈genCodes,∀q∈genCodes,p.1≠q.2:=by decide+kernel
     exact this _ hc' _ hc
    exact ⟨ps2,i2.extBut hx e' e,t2.extBut hx e' e,m1,m2,ps3,t3⟩
  lam:=hl
  own:=fun p hp=>by
   refine hkX (H.own p hp) ?_
   funext ⟨o,ho,h⟩
   exact ⟨o,hx p.1 o (Ne.symm (qS (ql l2 (H.fresh p hp)))) ho,h⟩
  nd:=H.nd
  fresh:=H.fresh}
theorem St.genCode{s:qe}{env:Env}{c P:Addr}{pos:Pos}{qualname:Str}{scope:Scope}{Q:Value→qe→Prop}{E:Value→qe→Prop}(H:St b s L)(hc:(c,P)∈genCodes)(hcl:c≠242)(he:env.code= .ref c)
  (q: ∀code h' tk,St b {s with heap:=h',toks:=tk} L→(∀a o,a≠P→s.heap.get? a=some o→h'.get? a=some o)→Q code {s with heap:=h',toks:=tk}):wpAny (model pw w) A (genexprCode env pos qualname scope) Q E s:=by
 obtain ⟨ps,hi,ht,l1,l2,ps0,t0,_⟩:=H.tabs c P hc
 cases hn:codeAmong pos ps.toList with
 |some cv=>exact wpAny_genexprCode_hit he hi hn (q cv s.heap s.toks H fun fz fz fz e=>e)
 |none=>
  exact wpAny_genexprCodeX he hi ht hn fun c' h' tk hx fz fz hi' fz ht' fz=>q _ h' tk (H.table (s':={s with heap:=h',toks:=tk}) hc (H.tableLam hc hcl hx) ht hi' ht' hx rfl rfl) fun a o ha e=>hx a o ha e
theorem St.moved{s s':qe}{wr:List Addr}{g:Nat}(H:St b s L)(m:Moved wr (GenOnlyQ g) s s')(hw: ∀a∈wr,b.heap.objs.size≤a∧a∉L.map (·.1)∧ ¬LamC s.heap a)(hg:b.gens.size≤g):St b s' L:=by
 revert b L s s' wr g H m hw hg
 funext b L s s' wr g H m hw hg
 refine H.keepL (fun c o hc e=>m.heap c o (fun hm=> ?_) e) m.os (H.gens.movedS m) ?_
 ·refine hkX (hw c hm) ?_
  funext ⟨h1,h2,h3⟩
  rcases hc with hc|hc|hc
  ·exact absurd hc (Nat.not_lt.mpr h1)
  ·exact h2 hc
  ·exact h3 hc
 ·funext i x hi
  have:=H.gk i x hi
  refine Or.elim (m.gens) ?_ ?_
  ·funext e
   rw [e];exact this
  ·funext ⟨⟨_,ho⟩,_⟩
   rw [ho i (fun e=> ?_)];exact this
   subst e
   rw [jh hg] at hi
   cases hi
theorem St.newGen{s:qe}{gs:ju}{h:Heap}{tk:Nat}(H:St b s L)(hb:gs.bare=true)(hk: ∀a o,s.heap.get? a=some o→h.get? a=some o):St b {s with gens:=s.gens.push gs,toks:=tk,heap:=h} L:=by
 refine H.keepL (fun c o fz e=>hk c o e) rfl (fun y hy=> ?_) fun i x hi=> ?_
 ·rcases Array.mem_push.mp hy with h|h
  ·exact H.gens y h
  ·rw [h];exact hb
 ·have:=H.gk i x hi
  have hlt:i<s.gens.size:=by
   rcases Nat.lt_or_ge i s.gens.size with h|h
   ·exact h
   ·rw [jh h] at this;cases this
  show (s.gens.push gs)[i]? =some x
  rw [Array.getElem?_push_lt hlt,←this,jH hlt]
theorem St.gsize{s:qe}(H:St b s L):b.gens.size≤s.gens.size:=by
 rcases Nat.lt_or_ge s.gens.size b.gens.size with h|h
 ·have:=H.gk s.gens.size _ (jH h)
  rw [jh (zg _)] at this
  cases this
 ·exact h
end
end
section
structure Kg(b:qe):Prop where
 g: ∃o es ep,b.heap.get? 3=some o∧o.cls≠ .none∧o.data= .dict es ep∧StrKeys es∧jy es "__builtins__"=some (.ref 4)
 m: ∃o,b.heap.get? 4=some o∧o.cls= .type "module"∧o.dict=some QR∧o.data= .plain
theorem passing_all(n:Nat):passing (fun fz=>true) n 0=zo n:=by
 unfold passing
 rw [List.drop_zero]
 exact List.filter_eq_self.mpr fun fz fz=>rfl
section
variable{b:qe}{w:World}{A:qq}{L L':Led}{F:Frag}
theorem vr_map{as:List Addr}{vs:List Value}(ha:All2 VR as vs):vs=as.map Value.ref:=by
 induction ha with
 |nil=>rfl
 |cons h1 _ ih=>rw [h1,qR,ih]
theorem iterA_wp{x dx:Addr}{α:Type}{T:α→Value→Prop}{ds:List α}{s:qe}{E:Value→qe→Prop}{Q:Value→qe→Prop}(H:St b s L)(KC:Kc F b)(hx:Mm (x,isA dx T ds) L)
  (h:Q (.ref s.heap.objs.size) {s with heap:=s.heap.push {cls:= .type "list_iterator",data:= .fields #[.ref x,.int 0 0]}}):wpAny (model pw w) A (pyIter (.ref x)) Q E s:=by
 revert b w A L F x dx α T ds s E Q H KC hx h
 funext b w A L F x dx α T ds s E Q H KC hx h
 have hi:=KC.inst (w:=w) H hx
 refine hkX (St.isI H hx) ?_
 funext ⟨ox,hox,hc,⟨vs,n,ha,hd⟩,hnc,he⟩
 have t1:Looks (model pw w) s.heap (QK (.ref x)) (.ref 151):=hc▸(Looks.ld hox).andThen .now
 have sp:Looks (model pw w) s.heap (specialOf (.ref x) "__iter__") (some (.builtin "list.__iter__")):=t1.andThen (jw (KC.at H) (KC.acc.find (qb "__iter__",some (.builtin "list.__iter__")) (by decide+kernel)))
 obtain ⟨hp,g,d,t,os⟩:=s
 revert hp g d t os;funext hp g d t os H h hi hox t1 sp
 unfold pyIter
 refine qc (sp.here ?_)
 show wpAny _ A (vX (.ref x) "__iter__" _>>=_) _ _ _
 refine qc ?_
 simp only [vX,bindSpecialIfBound?]
 refine qC (qc (qc (sp.here ?_)))
 simp only [slot_list_iter.bind]
 refine qc (jn (wpAny_ite ?_))
 let o':Obj:={cls:= .type "list_iterator",data:= .fields #[.ref x,.int 0 0]}
 have hT':(⟨hp.push o',g,d,t,os⟩:qe).TypeIs (.ref hp.objs.size) "list_iterator":=⟨o',zK _ rfl,rfl⟩
 have hcall:wpAny (model pw w) A (call (.builtin "list.__iter__") [.ref x]) (fun v s'=>v= .ref hp.objs.size∧s'=⟨hp.push o',g,d,t,os⟩) (fun fz fz=>False) ⟨hp,g,d,t,os⟩:=by
  refine zL (jb slot_list_iter.plain entry_list_iter (@check_slot (model pw w) _ _ _ "list.__iter__" "list" "__iter__" (.ref x) [] [] _ li_i.1 li_i.2 hi (args_list_iter _) ?_))
  show wpAny _ _ (do PySem.ret (←Qs "list_iterator" [.ref x,zw 0])) _ _ _
  exact qc (qM (qf ⟨rfl,rfl⟩))
 have fin: ∀{Z:Option Value→qe→Prop} {Z':Value→qe→Prop} {refuse:Sem Value},Z (some (.ref hp.objs.size)) ⟨hp.push o',g,d,t,os⟩→wpAny (model pw w) A (if (Value.builtin "list.__iter__"==Value.none)=true then (refuse>>=fun v=>qj (some v)) else (call (.builtin "list.__iter__") [.ref x]>>=fun v=>qj (some v))) Z Z' ⟨hp,g,d,t,os⟩:=fun hz=>by
  simp only [builtin_beq_none,qT,if_false]
  exact qc (qL hcall (fun v s' ⟨e1,e2⟩=>by subst e1 e2;exact qf hz) fun fz fz h'=>h'.elim)
 split
 ·refine qc (qf (qf (fin ?_)))
  exact qc (jT hT' zI.lookup (qf h))
 ·refine wpAny_tryCatch (qc (qf (qf (fin ?_))))
  exact qc (jT hT' zI.lookup (qf h))
theorem gen_acc{s:qe}{env:Env}{elt:Expr}{pa pb pt ps pos:Pos}{kt:Nat}{scope:Scope}{c P x dx:Addr}{as:List Addr}{ds:List (Str×Str)}{fr:List (Str×Option Value)}{Fv:Nat→Value→Prop}{Q:Value→qe→Prop}{E:Value→qe→Prop}
  (H:St b s L) (K:Kn b) (KG:Kg b) (KC:Kc F b) (hA:Rm 0 A) (hc:(c,P)∈genCodes) (hcl:c≠242) (hcode:env.code= .ref c) (hg:env.globals=3)
  (hx:Mm (x,isA dx VR as) L) (hds: ∀(j:Nat) (a:Addr) (d:Str×Str),as[j]? =some a→ds[j]? =some d→Mm (a,isT VS [d.1,d.2]) L) (hlen:as.length=ds.length)
  (hl:Mm (env.locals,loc fr) L) (hv:Mm (qb "self",some (.ref x)) fr)
  (hk:(env.scope.kind== .function&&env.kindOf "self"==some .local)=true) (hclos:QA scope env=qj [])
  (hsc:(!scope.isCoroutine&&scope.names.all (fun y=>y.2 != .cell)&&scope.names.lookup (".0":Str)==some NameKind.local&&scope.names.lookup ("fws":Str)==some NameKind.local&&scope.names.lookup ("part":Str)==some NameKind.local&&scope.kind== .function)=true)
  (hs: ∀v,genFold (.Name "self" ps) env v=qj v)
  (helt: ∀(A':qq) E' C code i s₂ m₂ mg mb t u d,A'.handled=none→ds[i]? =some d→GEnv (genEnv scope [] C code QR env) s₂ m₂ mg mb→mg "len"=none→mb "len"=some (.builtin "len")→mg "EMPTYSTRING"=some (.str "" 360)→m₂ "fws"=some (.str d.1 t)→m₂ "part"=some (.str d.2 u)→
   wpAny (model pw w) A' (eval elt (genEnv scope [] C code QR env)) (fun y s₃=>Fv i y∧Keeps s₂ s₃) E' s₂)
  (q: ∀a s' fp wr St0 g,St b s' L→WalksS pw w A.in4 a fp wr (GenOnlyQ g) ds.length (fun j y=> ∃i,(zo ds.length)[j]? =some i∧Fv i y) St0→St0 0 s'→(∀i s,St0 i s→s.TypeIs (.ref a) "generator")→(∀y∈fp,y<s'.heap.objs.size)→a∈fp→
   (∀a∈wr,b.heap.objs.size≤a∧a∉L.map (·.1)∧ ¬LamC s'.heap a)→b.gens.size≤g→(∀p∈L,p.1∈fp)→Q (.ref a) s'):
  wpAny (model pw w) A (eval (.GeneratorExp elt [⟨.Tuple [.Name "fws" pa,.Name "part" pb] kt pt,.Name "self" ps,[],0⟩] scope pos) env) Q E s:=by
 revert b w A L F s env elt pa pb pt ps pos kt scope c P x dx as ds fr Fv Q E H K KG KC hA hc hcl hcode hg hx hds hlen hl hv hk hclos hsc hs helt q
 funext b w A L F s env elt pa pb pt ps pos kt scope c P x dx as ds fr Fv Q E H K KG KC hA hc hcl hcode hg hx hds hlen hl hv hk hclos hsc hs helt q
 simp only [qt,beq_iff_eq,zY] at hk hsc
 refine hkX (hsc) ?_
 funext ⟨⟨⟨⟨⟨c1,c2⟩,c3⟩,c4⟩,c5⟩,c6⟩
 have hcell: ∀y∈scope.names,y.2≠ .cell:=fun y hy=>by simpa using qz.mp c2 y hy
 refine hkX (K.glob) ?_
 funext ⟨og,esg,epg,g1,g2,g3,g4,g5,_⟩
 refine hkX (KG.g) ?_
 funext ⟨og',esg',epg',g1',g2',g3',g4',g5'⟩
 refine hkX (KG.m) ?_
 funext ⟨om,m1,m2,m3,m4⟩
 refine hkX (K.bi) ?_
 funext ⟨ob,esb,epb,b1,b2,b3,b4,b5⟩
 refine wpAny_GeneratorExp_walksQT hA.handled c1 hclos hcell c3 c4 c5 (by decide) c6 (by have:=hA.depth;show A.depth<1000;omega) ?_ hs
 refine hkX (H.ns hl.mem) ?_
 funext ⟨hn,hnd⟩
 refine wpAny_Name (vT hk.1 hk.2 hn (by show (fr.lookup _).join=some (.ref x);rw [lookup_mem hnd hv.mem];rfl) ?_) (by decide+kernel)
 refine iterA_wp H KC hx ?_
 have H1:=H.alloc (P:=isLI x 0) {cls:= .type "list_iterator",data:= .fields #[.ref x,.int 0 0]} rfl ⟨rfl,rfl⟩
 refine ⟨H1.lim,H1.genCode hc hcl hcode ?_⟩
 funext code h' tk H2 hkeep
 have hn3:h'.Ns env.globals (jy esg'):=by rw [hg];exact ⟨og',esg',epg',H2.base g1' g2',g3',g4',fun fz=>rfl⟩
 refine wpAny_builtinsFor hn3 g5' (by decide) (H2.base m1 (by rw [m2];intro e;cases e)) m2 m3 m4 ?_
 have hit: ∀p∈L,p.1<s.heap.objs.size:=fun p hp=>by obtain ⟨o,e,_⟩:=H.own p hp;exact zi e
 have hxL:x<s.heap.objs.size:=hit _ hx.mem
 have hasL: ∀a∈as,a<s.heap.objs.size:=fun a ha=>by
  refine hkX (List.mem_iff_getElem.mp ha) ?_
  funext ⟨j,hj,rfl⟩
  exact hit _ (hds j _ _ (qd hj) (qd (by omega))).mem
 have hsz2: ∀a,a<s.heap.objs.size∨a=s.heap.objs.size→ ∀o,(s.heap.push {cls:= .type "list_iterator",data:= .fields #[.ref x,.int 0 0]}).get? a=some o→a≠P→a<h'.objs.size:=fun a fz o e hP=>zi (hkeep a o hP e)
 have hlt: ∀p∈((s.heap.objs.size,isLI x 0)::L),p.1<h'.objs.size:=fun p hp=>by obtain ⟨o,e,_⟩:=H2.own p hp;exact zi e
 have hbs:b.heap.objs.size≤h'.objs.size:=H2.size
 have hst:AccAt s.heap.objs.size x as ds 0 h':=by
  refine ⟨?_,?_,fun j a d h1 h2=> ?_⟩
  ·refine hkX (H2.own _ (.head _)) ?_
   funext ⟨o,ho,e1,e2⟩
   exact ⟨o,ho,e1,e2⟩
  ·refine hkX (St.isI H2 (.tail hx)) ?_
   funext ⟨ox,hox,hcx,⟨vs,n,ha,hd⟩,_⟩
   have:vs=as.map Value.ref:=vr_map ha
   exact ⟨ox,n,hox,by rw [←this];exact hd⟩
  ·refine hkX (H2.tup (.tail (hds j a d h1 h2))) ?_
   funext ⟨vs,n,ha,e⟩
   cases ha with
   |cons e1 r1=>
    cases r1 with
    |cons e2 r2=>
     cases r2
     refine hkX (e1) ?_
     funext ⟨t,rfl⟩
     refine hkX (e2) ?_
     funext ⟨u,rfl⟩
     exact ⟨_,⟨t,u,rfl⟩,_,e,rfl,n,rfl⟩
 refine ⟨s.heap.objs.size,s.heap.objs.size::x::as,[s.heap.objs.size],ds.length,_,AccAt s.heap.objs.size x as ds,_,fun fz=>true,Fv,rfl,fun A' hA'=>walksAcc hlen (qS hxL) (fun hm=>zO _ (hasL _ hm)) hA',?_,hst,?_,H2.lim,?_,fun href hr=>⟨fun A' E' i va vb s₂ m₂ fz fz fz fz fz fz=>wpAny_tests_nil ⟨rfl,s₂.heap,s₂.toks,rfl,fun fz fz e=>e⟩,fun A' E' i va vb s₂ m₂ hA' hp fz hns e1 e2 hk2=> ?_⟩,fun a h₅ tk₅ gs hbare hlt5 hsz5 hk5 hW hG=> ?_⟩
 ·funext i vals ⟨d,_,t,u,rfl⟩
  exact ⟨_,_,rfl⟩
 ·funext a ha
  refine Or.elim (qH.mp ha) ?_ ?_
  ·funext rfl
   exact hlt _ (.head _)
  ·funext ha
   refine Or.elim (qH.mp ha) ?_ ?_
   ·funext rfl
    exact hlt _ (.tail _ hx.mem)
   ·funext ha
    refine hkX (List.mem_iff_getElem.mp ha) ?_
    funext ⟨j,hj,rfl⟩
    exact hlt _ (.tail _ (hds j _ _ (qd hj) (qd (by omega))).mem)
 ·funext hm
  have e:ja=s.heap.objs.size:=by simpa using hm
  have h1:=H.stat
  have h2:=H.size
  rw [e] at h1
  exact zO _ (ql h1 h2)
 ·refine hkX (hp) ?_
  funext ⟨d,hd,t,u,ev⟩
  have ea:va= .str d.1 t:=by have:=congrArg (fun z:Array Value=>z[0]?) ev;simpa using this
  have eb:vb= .str d.2 u:=by have:=congrArg (fun z:Array Value=>z[1]?) ev;simpa using this
  subst ea eb
  have hold: ∀a o,b.heap.get? a=some o→o.cls≠ .none→s₂.heap.get? a=some o:=fun a o e hcl=>by
   have h0:=H2.base e hcl
   refine hk2 a (zW.mpr (zi h0)) (?_) o (hr a o h0)
   funext hm
   have e':a=s.heap.objs.size:=by simpa using hm
   have h1:=zi e
   rw [e'] at h1
   exact zO _ (ql h1 H.size)
  exact helt A' E' h'.objs.size code i s₂ m₂ (jy esg) (jy esb) t u d hA' hd ⟨c6,hns,by show s₂.heap.Ns env.globals _;rw [hg];exact ⟨og,esg,epg,hold _ _ g1 g2,g3,g4,fun fz=>rfl⟩,⟨ob,esb,epb,hold _ _ b1 b2,b3,b4,fun fz=>rfl⟩⟩
   ((by assumption: ∀p∈bnames,jy esg p.1=none) (qb "len",.builtin "len") (by decide+kernel)) (b5 (qb "len",.builtin "len") (by decide+kernel)) (g5 (qb "EMPTYSTRING",.str "" 360) (by decide+kernel)) e1 e2
 ·have H5:St b _ ((s.heap.objs.size,isLI x 0)::L):=H2.newGen (gs:=gs) (h:=h₅) (tk:=tk₅) hbare hk5
  rw [passing_all] at hW
  rw [List.length_range] at hW
  refine q a _ _ _ _ _ H5.drop hW hG (fun i s hG=>hG.1.typeIs) ?_ (.head _) ?_ H2.gsize fun p hp=> .tail _ (.tail _ (zW.mpr (hlt p (.tail _ hp))))
  ·funext y hy
   show y<h₅.objs.size
   rw [hsz5]
   refine Or.elim (qH.mp hy) ?_ ?_
   ·funext rfl
    exact Nat.lt_succ_self _
   ·funext hy
    refine Or.elim (qH.mp hy) ?_ ?_
    ·funext rfl
     exact Nat.lt_succ_of_lt hlt5
    ·funext hy
     exact Nat.lt_succ_of_lt (zq (zW.mp hy) hlt5)
  ·funext y hy
   refine Or.elim (qH.mp hy) ?_ ?_
   ·funext rfl
    refine ⟨hbs,fun hm=> ?_,fun hc=> ?_⟩
    ·refine hkX (qw.mp hm) ?_
     funext ⟨p,hp,e⟩
     have:=hlt p (.tail _ hp)
     rw [e] at this
     exact zO _ this
    ·refine hkX (H2.lam.ne (hc.back H2.tabs hk5)) ?_
     funext ⟨_,_,o,ho⟩
     exact zO _ (zi ho)
   ·funext hy
    have e:y=s.heap.objs.size:=by simpa using hy
    subst e
    refine ⟨H.size,?_,fun hc=>(H5.lam.ne hc).2.1 (List.mem_cons_self ..)⟩
    funext hm
    refine hkX (qw.mp hm) ?_
    funext ⟨p,hp,e⟩
    have:=hit p hp
    rw [e] at this
    exact zO _ this
end
end
section
theorem join_nil: ∀(ls:List (List Nat)),Txt.join "" (ls.map sOf)=sOf ls.flatten
 | []=>by rfl
 | [x]=>by simp;rfl
 |x::y::r=>by
  have ih:=join_nil (y::r)
  have e:Txt.join "" ((x::y::r).map sOf)=sOf x++""++Txt.join "" ((y::r).map sOf):=by
   show Builtin.Str.glued _ _=_++Builtin.Str.glued _ _
   rw [StrLaws.glued_eq_join,StrLaws.glued_eq_join]
   rfl
  rw [e,ih,show (("":Str))=sOf [] by decide+kernel,sOf_app,sOf_app]
  simp
noncomputable def lenOf(ds:List (Str×Str)):Int:=(ds.map fun d=>((d.1.length:Nat):Int)+((d.2.length:Nat):Int)).sum
noncomputable def lenAt(ds:List (Str×Str))(i:Nat):Int:=((ds[i]?).map fun d=>((d.1.length:Nat):Int)+((d.2.length:Nat):Int)).getD 0
theorem preSum_lenOf(ds:List (Str×Str)): ∀n,n≤ds.length→preSum (lenAt ds) n=lenOf (ds.take n)
 |0,_=>rfl
 |n+1,h=>by
  rw [preSum,preSum_lenOf ds n (by omega),qV]
  have:ds[n]? =some ds[n]:=qd (by omega)
  rw [this]
  unfold lenOf lenAt
  rw [this]
  simp-iota only [jW,jG,Option.toList_some,qB,List.sum_append,qR,List.map_nil,List.sum_cons,List.sum_nil,Int.add_zero]
section
variable{b:qe}{w:World}{A:qq}{L L':Led}{F:Frag}{R:Value→Led→Prop}
theorem getAcc_wp{s:qe}{x dx:Addr}{P:Data→Prop}{kvs:List (Str×Value)}{name:Str}{v:Value}{ex:Bool}{Q:Value→qe→Prop}{E:Value→qe→Prop}(H:St b s L)(KC:Kc F b)(hx:Mm (x,isI 151 dx P) L)(hd:Mm (dx,isAt kvs) L)(hn:Mm (name,none) accTab)(hl:Lk kvs name v)(hv:handedIn v=true)
  (h:Q v {s with toks:=s.toks+1}):wpAny (model pw w) A (getAttr (.ref x) name ex) Q E s:=by
 revert b w A L F s x dx P kvs name v ex Q E H KC hx hd hn hl hv h
 funext b w A L F s x dx P kvs name v ex Q E H KC hx hd hn hl hv h
 have K:=KC.acc
 have X:=KC.at H
 refine hkX (H.inst hx hd) ?_
 funext ⟨ox,es,n,I,hdx,hA,_⟩
 refine hkX (K.cd) ?_
 funext ⟨cd,cod,sl,h1,h2,h3,h4,h5⟩
 have hc:clsIn F 151=some cd:=by unfold clsIn;rw [h1]
 have hf:findObj F 151 (some (dictOf es n)) name=some (.value v):=findObj_own (attr:=none) (by unfold hasDictIn clsIn;rw [h1];exact h3) (K.find _ hn.mem) rfl (by rw [lookIn_dict,ae_look hA,hl.eq])
 unfold getAttr getAttrBy
 refine qc (wpAny_mkText (qC (qc (hereT I.type (qc (hereT (jw X (K.find (qb "__getattribute__",some (.builtin "list.__getattribute__")) (by decide+kernel))) ?_))))))
 show wpAny _ _ (getAttrByItsOwn (.ref x) (.str name s.toks) (.ref 151) (.builtin "list.__getattribute__") true ex) _ _ _
 unfold getAttrByItsOwn hookBefore callGetattribute boundAndCalled
 refine qc (hereT (jw X (K.find (qb "__getattr__",none) (by decide+kernel))) ?_)
 refine qc (vq (qC ?_))
 have hex:(ex&&onTheHeap (.builtin "list.__getattribute__"))=false:=Bool.and_false ex
 rw [hex,if_neg qx]
 refine qc (ze (PySem.F.slot_list_getattribute.bind _) ?_)
 have sub:Looks (model pw w) s.heap (QC (.ref x) (.type "list")) true:=I.type.andThen (looks_mroIn X (by unfold mroIn;rw [hc,QN,if_neg (by rw [h2];exact qx),h2];rfl))
 refine zL (jb PySem.F.slot_list_getattribute.plain PySem.F.entry_list_ga (@check_slot (model pw w) _ _ _ "list.__getattribute__" "list" "__getattribute__" (.ref x) [.str name s.toks] [] _ (by decide+kernel) (by decide+kernel) sub (PySem.F.args_list_getattribute_2 _ _) ?_))
 unfold Builtin.«object.__getattribute__»
 refine qc (qf (qc (qf (qc (hereT I.type (qc (hereT (looks_find X I hf) ?_)))))))
 refine qf ?_
 show wpAny _ _ (handedOut v) _ _ _
 rw [handedOut_of hv]
 exact qf h
theorem acc_len_ok{x dx:Addr}{as:List Addr}{ds:List (Str×Str)}{sz:Int}{tz:Tok}(K:Kn b)(KG:Kg b)(KC:Kc F b)(hA:Rm 1 A)(hx:Mm (x,isA dx VR as) L)(hd:Mm (dx,isAt (szAt (.int sz tz))) L)(hds: ∀(j:Nat) (a:Addr) (d:Str×Str),as[j]? =some a→ds[j]? =some d→Mm (a,isT VS [d.1,d.2]) L)(hlen:as.length=ds.length)
  (hz: ∀d∈ds,d.1.length<1000∧d.2.length<1000) (hsz:0≤sz∧sz<1000) (q: ∀t,R (.int (sz+lenOf ds) t) L):W b w A L (call (.ref 118) [.ref x]) R:=by
 refine W.fn (fd:=fd118) 1 [(qb "self",some (.ref x))] K (by tb_rel) hA rfl (fun fz fz=>zc (by kernel_rfl)) (by kernel_rfl) (by kernel_rfl) ?_
 intro La A' hA
 refine W.ret (W.mk fun s H=> ?_)
 obtain ⟨og,esg,epg,g1,g2,g3,g4,g5,g6⟩:=K.glob
 obtain ⟨ob,esb,epb,b1,b2,b3,b4,b5⟩:=K.bi
 refine wpAny_Call_NameR (Qn (by kernel_rfl) (by kernel_rfl) (Calls.loadGlobal_builtin (mg:=jy esg) (mb:=jy esb) (v:= .builtin "sum") ⟨og,esg,epg,H.base g1 g2,g3,g4,fun fz=>rfl⟩ (g6 (qb "sum",.builtin "sum") (by decide+kernel)) ⟨ob,esb,epb,H.base b1 b2,b3,b4,fun fz=>rfl⟩ (b5 (qb "sum",.builtin "sum") (by decide+kernel)) ?_))
 refine Calls.callWith_builtin rfl (Qz (vL ?_))
 refine gen_acc (P:=113) (c:=117) (Fv:=fun i y=> ∃t,y= .int (lenAt ds i) t) H K KG KC hA.le (by decide+kernel) (by decide) rfl rfl (.tail hx) (fun j a d h1 h2=> .tail (hds j a d h1 h2)) hlen .head .head (by kernel_rfl) (by kernel_rfl) (by kernel_rfl) (fun fz=>by kernel_rfl) ?_ ?_
 ·intro A' E' C code i s₂ m₂ mg mb t u d hA' hdi G h1 h2 h3 h4 h5
  have hzd:=hz d (qk hdi)
  refine elt_len G (by kernel_rfl) h1 h2 h4 h5 (by exact zq hzd.1 (Ar.d rfl)) (by exact zq hzd.2 (Ar.d rfl)) (by kernel_rfl) (by kernel_rfl) fun k u=>⟨⟨u,?_⟩,Ticks.keeps ⟨k,rfl⟩⟩
  ·unfold lenAt;rw [hdi];rfl
 ·intro a s' fp wr St0 g H' hW hst hty hfp hI hwr hg hLf
  refine vL ?_
  rw [arm_eval_Attribute,show ∀(p:Pos) (env:Env),jE (.Name "self" p) "_initial_size" env (eval (.Name "self" p) env)=eval (.Name "self" p) env from fun fz fz=>by kernel_rfl]
  obtain ⟨hn,hnd⟩:=H'.ns (.head _)
  refine qc (wpAny_Name (vT (v:= .ref x) (by kernel_rfl) (by kernel_rfl) hn (by kernel_rfl) ?_) (by decide+kernel))
  refine qc (vp (qc (qC (getAcc_wp H' KC (.tail hx) (.tail hd) (by tb_rel) .head rfl ?_))))
  refine qc (wpAny_letTemporaryGo (qf ?_))
  refine Calls.spliced_nil ?_
  have hst':=hW.frame 0 s' s'.heap (s'.toks+1) hst (Nat.le_succ _) fun fz fz fz e=>e
  refine sum_start (s:={s' with toks:=s'.toks+1}) hW.in4_1 (lenAt ds) (fun i v ⟨j,hj,t,e⟩=> ?_) hst' hfp (by simp;exact ⟨jU (by decide) hsz.1,Int.lt_trans hsz.2 (by decide)⟩) fun s'' t' m=> ?_
  ·have:j=i:=by
    have h1:i<(zo ds.length).length:=(qr.mp hj).1
    have h2:=(qr.mp hj).2
    rw [List.getElem_range] at h2
    exact h2.symm
   subst this
   exact ⟨t,e⟩
  ·refine ⟨_,(H'.tok (s'.toks+1)).moved m hwr hg,_,.skip .all,?_⟩
   rw [preSum_lenOf ds _ (zg _),zh]
   exact q _
theorem acc_str_ok{x dx:Addr}{as:List Addr}{ds:List (List Nat×List Nat)}(K:Kn b)(KG:Kg b)(KC:Kc F b)(hA:Rm 1 A)(hx:Mm (x,isA dx VR as) L)(hds: ∀(j:Nat) (a:Addr) (d:List Nat×List Nat),as[j]? =some a→ds[j]? =some d→Mm (a,isT VS [sOf d.1,sOf d.2]) L)(hlen:as.length=ds.length)
  (hz: ∀d∈ds,d.1.length<500∧d.2.length<500) (hn:ds.length<1000) (q: ∀t,R (.str (sOf (ds.map fun d=>d.1++d.2).flatten) t) L):W b w A L (call (.ref 125) [.ref x]) R:=by
 refine W.fn (fd:=fd125) 1 [(qb "self",some (.ref x))] K (by tb_rel) hA rfl (fun fz fz=>zc (by kernel_rfl)) (by kernel_rfl) (by kernel_rfl) ?_
 intro La A' hA
 refine W.ret (W.mk fun s H=> ?_)
 obtain ⟨og,esg,epg,g1,g2,g3,g4,g5,g6⟩:=K.glob
 refine wpAny_Call_method (T:="str") (id:="str.join") (by kernel_rfl) (by kernel_rfl) (by kernel_rfl) PySem.F.plainAttrs_str PySem.F.slot_str_join PySem.F.type_str_join ?_
 refine Qn (by kernel_rfl) (by kernel_rfl) (Calls.loadGlobal_global (mg:=jy esg) (v:= .str "" 360) ⟨og,esg,epg,H.base g1 g2,g3,g4,fun fz=>rfl⟩ (g5 (qb "EMPTYSTRING",.str "" 360) (by decide+kernel)) ?_)
 refine ⟨typeIs_str _ _ _,fun fz e=>(nomatch e),?_⟩
 refine Calls.callWith_builtin rfl (Qz (vL ?_))
 have hd2: ∀(j:Nat) (a:Addr) (d:Str×Str),as[j]? =some a→(ds.map fun d=>(sOf d.1,sOf d.2))[j]? =some d→Mm (a,isT VS [d.1,d.2]) ((La,loc [(qb "self",some (.ref x))])::L):=fun j a d h1 h2=>by
  rw [qp] at h2
  cases h3:ds[j]? with
  |none=>rw [h3] at h2;cases h2
  |some d'=>rw [h3] at h2;cases h2;exact .tail (hds j a d' h1 h3)
 refine gen_acc (P:=120) (c:=124) (ds:=ds.map fun d=>(sOf d.1,sOf d.2)) (Fv:=fun i y=> ∃d t,ds[i]? =some d∧y= .str (sOf (d.1++d.2)) t) H K KG KC hA.le (by decide+kernel) (by decide) rfl rfl (.tail hx) hd2 (by simpa using hlen) .head .head (by kernel_rfl) (by kernel_rfl) (by kernel_rfl) (fun fz=>by kernel_rfl) ?_ ?_
 ·intro A' E' C code i s₂ m₂ mg mb t u d hA' hdi G h1 h2 h3 h4 h5
  rw [qp] at hdi
  cases h6:ds[i]? with
  |none=>rw [h6] at hdi;cases hdi
  |some d'=>
   rw [h6] at hdi
   cases hdi
   have hzd:=hz d' (qk h6)
   refine elt_join G (by kernel_rfl) h3 h4 h5 (by rw [sOf_len];exact zq hzd.1 (Ar.d rfl)) (by rw [sOf_len];exact zq hzd.2 (Ar.d rfl)) (by kernel_rfl) (by kernel_rfl) (by kernel_rfl) (by kernel_rfl) fun k u'=>⟨⟨d',u',rfl,?_⟩,_,k,rfl,fun b o e=>qD _ e⟩
   have:=join_nil [d'.1,d'.2]
   rw [show Txt.join "" [sOf d'.1,sOf d'.2]=Txt.join "" ([d'.1,d'.2].map sOf) from rfl,this]
   simp
 ·intro a s' fp wr St0 g H' hW hst hty hfp hI hwr hg hLf
  refine Calls.spliced_nil ?_
  rw [qh] at hW
  refine SC.joinGen hW.in4_2 hty hst hfp hI (fun i v ⟨j,hj,d,t,_,e⟩=>⟨_,_,e⟩) (fun s'' l m hl=> ?_) (by rw [qu];omega)
  have hls:l.map (·.1)=(ds.map fun d=>d.1++d.2).map sOf:=by
   have hlen':l.length=ds.length:=by simpa [strValues] using hl.1
   refine List.ext_getElem? fun j=> ?_
   rw [qp,qp,qp]
   by_cases hj:j<ds.length
   ·have e1:l[j]? =some l[j]:=qd (by omega)
    have:=hl.2 j (.str l[j].1 l[j].2) (by simp [strValues,e1])
    obtain ⟨i,hi,d,t,hd,e⟩:=this
    have hi':i=j:=by
     have h2:=(qr.mp hi).2
     rw [List.getElem_range] at h2
     exact h2.symm
    subst hi'
    rw [e1,hd]
    injection e with e2 e3
    rw [jW,jW,jW,←e2]
   ·rw [jO (by exact Ar.d2 hlen' (qQ hj)),jO (by exact qQ hj)]
    rfl
  rw [hls,join_nil]
  refine ⟨?_,fun t' k=>⟨(La,loc [(qb "self",some (.ref x))])::L,(H'.moved m hwr hg).tok k,L,.skip .all,q t'⟩⟩
  unfold JoinOk
  rw [zY]
  refine StrLaws.joinFits (sep:="") (texts:=(ds.map fun d=>d.1++d.2).map sOf) (B:=1000) (fun y hy=> ?_) (by rw [qh,qh,show (qb "").length=0 by decide+kernel];exact qg (jQ (ve 1000 (qv hn)) (qN (Nat.mul_zero _))) (Ar.d rfl))
  obtain ⟨z,hz1,rfl⟩:=qw.mp hy
  obtain ⟨d,hd1,rfl⟩:=qw.mp hz1
  rw [sOf_len,qm]
  have:=hz d hd1
  exact qv (Nat.add_lt_add this.1 this.2)
end
end
section
structure Ke(F:Frag)(b:qe):Prop where
 n:Kn b
 g:Kg b
 c:Kc F b
 fn: ∀f∈ [(118:Addr),125],isFn F (.ref f)=true
theorem Kn.gens{b:qe}(K:Kn b)(g:Array ju):Kn {b with gens:=g}:=⟨K.fn,K.code,K.glob,K.re43,K.re42,K.bi⟩
theorem Kc.gens{F:Frag}{b:qe}(K:Kc F b)(g:Array ju):Kc F {b with gens:=g}:=⟨K.X,K.nn,K.acc,K.can,K.accNew,K.canNew,K.accQ,K.d80,K.d96,K.d185,K.d200,K.d238,K.cel75,K.cdf,K.stt⟩
section
variable{b:qe}{w:World}{A:qq}{L L':Led}{F:Frag}{R:Value→Led→Prop}
theorem W.lenAc{x dx:Addr}{P:Data→Prop}{kvs:List (Str×Value)}(K:Ke F b)(hx:Mm (x,isI 151 dx P) L)(hd:Mm (dx,isAt kvs) L)
  (h:W b w A.in1 L (call (.ref 118) [.ref x]) fun v L'=> ∃n t,v= .int n t∧0≤n∧n<2^ 63∧ ∀t,R (.int n t) L'):W b w A L (call (.builtin "len") [.ref x]) R:=W.mk fun s H=>by
 obtain ⟨ox,es,n,I,hdx,hA,_⟩:=H.inst hx hd
 refine Calls.call_function_entry kind_len plain_len entry_len (args_len1 _) ?_
 unfold Builtin.«len»
 refine qc (m:=oneArg "len" _) (qf ?_)
 refine qc (m:=callSpecial? (.ref x) (qb "__len__")) (special_fn (K.c.at H) I (K.c.acc.find (qb "__len__",some (.ref 118)) (by decide+kernel)) (beq_iff_eq.mp (K.fn 118 (by decide))) (h.then H fun r s' L1 H1 ⟨n,t,e,h0,h1,hq⟩=> ?_))
 subst e
 refine qc (qC (qf ?_))
 refine qc (wpAny_letGo ?_)
 show wpAny _ _ (if n<0 then _ else _) _ _ _
 rw [if_neg (by omega)]
 show wpAny _ _ (if n≥2^ 63 then _ else _) _ _ _
 rw [if_neg (by exact Int.not_le.mpr h1)]
 exact qc (wpAny_mkInt (qf ⟨_,rfl,L1,H1.tok _,hq _⟩))
theorem W.strAc{x dx:Addr}{P:Data→Prop}{kvs:List (Str×Value)}(K:Ke F b)(hA:Rm 3 A)(hx:Mm (x,isI 151 dx P) L)(hd:Mm (dx,isAt kvs) L)
  (h:W b w A.in1.in1 L (call (.ref 125) [.ref x]) fun v L'=> ∃y t,v= .str y t∧R (.str y t) L'):W b w A L (call (.type "str") [.ref x]) R:=W.mk fun s H=>by
 obtain ⟨ox,es,n,I,hdx,hAE,_⟩:=H.inst hx hd
 refine kso_call (by have:=hA.units;show A.units+1+1<9900;exact Ar.s5 this) (K.c.at H) I (K.c.acc.find (qb "__str__",some (.ref 125)) (by decide+kernel)) (K.fn 125 (by decide)) (h.then H fun r s' L1 H1 ⟨y,t,e,hq⟩=> ?_)
 subst e
 exact ⟨L1,H1,hq⟩
theorem KprL.strT:KprL b w L (.type "str"):=KprL.ty
structure Pairs(L:Led)(as:List Addr)(ds:List (List Nat×List Nat)):Prop where
 len:as.length=ds.length
 at_: ∀(j:Nat) (a:Addr) (d:List Nat×List Nat),as[j]? =some a→ds[j]? =some d→Mm (a,isT VS [sOf d.1,sOf d.2]) L
 small: ∀d∈ds,d.1.length<500∧d.2.length<500
 few:ds.length<1000
theorem lenOf_sOf: ∀ds:List (List Nat×List Nat),lenOf (ds.map fun d=>(sOf d.1,sOf d.2))=((ds.map fun d=>d.1.length+d.2.length).sum:Nat)
 | []=>rfl
 |d::r=>by
  have ih:=lenOf_sOf r
  unfold lenOf at ih ⊢
  simp-iota only [qR,List.sum_cons,sOf_len] at ih ⊢
  rw [ih];omega
theorem sum_small: ∀{ds:List (List Nat×List Nat)},(∀d∈ds,d.1.length<500∧d.2.length<500)→(ds.map fun d=>d.1.length+d.2.length).sum≤1000*ds.length
 | [],_=>by simp
 |d::r,hs=>by
  have h1:=hs d (.head _)
  have h2:=sum_small (ds:=r) fun d hd=>hs d (.tail _ hd)
  simp-iota only [qR,List.sum_cons,qy];exact qg (qN (vO _ _)) (jQ h2 (qv (Nat.add_lt_add h1.1 h1.2)))
theorem W.strPile{x dx:Addr}{kvs:List (Str×Value)}{as:List Addr}{ds:List (List Nat×List Nat)}(K:Ke F b)(hA:Rm 4 A)(hx:Mm (x,isA dx VR as) L)(hd:Mm (dx,isAt kvs) L)(hp:Pairs L as ds)(q: ∀t,R (.str (sOf (ds.map fun d=>d.1++d.2).flatten) t) L):W b w A L (call (.type "str") [.ref x]) R:=
 W.strAc K hA.le hx hd (acc_str_ok K.n K.g K.c (hA.in1.in1.le) hx hp.at_ hp.len hp.small hp.few fun t=>⟨_,t,rfl,q t⟩)
theorem W.lenPile{x dx:Addr}{as:List Addr}{ds:List (List Nat×List Nat)}{sz:Int}{tz:Tok}(K:Ke F b)(hA:Rm 2 A)(hx:Mm (x,isA dx VR as) L)(hd:Mm (dx,isAt (szAt (.int sz tz))) L)(hp:Pairs L as ds)(hsz:0≤sz∧sz<1000)(q: ∀t,R (.int (sz+((ds.map fun d=>d.1.length+d.2.length).sum:Nat)) t) L):W b w A L (call (.builtin "len") [.ref x]) R:=by
 refine W.lenAc K hx hd (acc_len_ok (ds:=ds.map fun d=>(sOf d.1,sOf d.2)) K.n K.g K.c hA.in1 hx hd (fun j a d h1 h2=> ?_) (by simpa using hp.len) (fun d hd=> ?_) hsz fun t=>⟨_,t,rfl,?_,?_,fun t=> ?_⟩)
 ·rw [qp] at h2
  cases h3:ds[j]? with
  |none=>rw [h3] at h2;cases h2
  |some d'=>rw [h3] at h2;cases h2;exact hp.at_ j a d' h1 h3
 ·obtain ⟨d',h1,rfl⟩:=qw.mp hd
  have:=hp.small d' h1
  simp-iota only [sOf_len];exact ⟨zq this.1 (Ar.d rfl),zq this.2 (Ar.d rfl)⟩
 ·rw [lenOf_sOf];exact Int.add_nonneg hsz.1 (zx _)
 ·rw [lenOf_sOf]
  have:=sum_small hp.small
  have:=hp.few
  exact vI (Int.add_lt_add_of_lt_of_le hsz.2 (QQ.mpr (qg ‹_› (qW 1000 (qv this))))) (by decide)
 ·rw [lenOf_sOf];exact q t
end
end
section
noncomputable def subs(a:Nat):Nat→List (List Nat)
 |0=> [[]]
 |n+1=>subs (a+1) n++(subs (a+1) n).map (a:: ·)
noncomputable def chains:List (List Nat):=(subs 1 5).map (0:: ·)
noncomputable def comL:List Nat:= [99,111,109]
noncomputable def x7L:List Nat:= [120,55]
noncomputable def zones:List (List Nat):= [loc5,comL,x7L]
noncomputable def hostL(z c:List Nat):List Nat:=(c.reverse.map fun u=> [97+u,46]).flatten++z
noncomputable def lcp:List Nat→List Nat→List Nat
 |x::xs,y::ys=>if x==y then x::lcp xs ys else []
 |_,_=> []
noncomputable def okHost(z c:List Nat):Bool:=
 ((hostL z c).all (· <128))&&((hostL z c).length<20)&&(hostL z c).map lo1==hostL z c&&((hostL z c).map up1).map lo1==hostL z c&&((hostL z c).map up1).all (· <128)&&((hostL z c).count 46==c.length)
theorem okHosts: ∀z∈zones,∀c∈chains,okHost z c=true:=by decide+kernel
noncomputable def okReach(z c:List Nat):Bool:=c.length<2||(reachL (hostL z c)==some (46::hostL z c.dropLast)&&chains.contains c.dropLast)
theorem okReachs: ∀z∈zones,∀c∈chains,okReach z c=true:=by decide+kernel
noncomputable def okLcp(c q:List Nat):Bool:=if c.isPrefixOf q then lcp c q==c else (decide (2≤c.length)&&lcp c q==lcp c.dropLast q)
theorem okLcps: ∀c∈chains,∀q∈chains,okLcp c q=true:=by decide+kernel
noncomputable def okDm(z c q:List Nat):Bool:=dmL (119::46::hostL z q) (46::hostL z c)==some (c.isPrefixOf q)
theorem okDms: ∀z∈zones,∀c∈chains,∀q∈chains,okDm z c q=true:=by decide+kernel
end
section
noncomputable def nearOf(D:List (List Nat)):List Int→List Nat
 | []=> []
 |p::ps=>ps.foldl (fun c (p:Int)=>lcp c (D.getD p.toNat [])) (D.getD p.toNat [])
noncomputable def domsF(rows:List (List Int)):Nat→List (List Nat)
 |0=> [[0]]
 |n+1=>domsF rows n++ [nearOf (domsF rows n) (rows.getD (n+1) [])++ [n+1]]
noncomputable def okTo(v:Nat)(c:List Nat):Prop:=c∈chains∧c.all (· ≤v)=true∧c.getLast? =some v
structure DomOk(D:List (List Nat))(n:Nat):Prop where
 len:D.length=n
 ok: ∀(v:Nat) c,D[v]? =some c→okTo v c
theorem okLcp2: ∀c∈chains,∀q∈chains,(chains.contains (lcp c q)&&(lcp c q).isPrefixOf c&&(lcp c q).isPrefixOf q)=true:=by decide+kernel
theorem okSnoc: ∀v,v<6→ ∀c∈chains,(!(c.all (· <v))||chains.contains (c++ [v]))=true:=by decide+kernel
theorem okTo_lt{v:Nat}{c:List Nat}(h:okTo v c):c.all (· <v+1)=true:=by
 rw [qz]
 intro x hx
 have:=qz.mp h.2.1 x hx
 simp at this ⊢
 omega
theorem lcp_ok{n:Nat}{c q:List Nat}(h:c∈chains)(hn:c.all (· <n)=true)(hq:q∈chains):lcp c q∈chains∧(lcp c q).all (· <n)=true:=by
 have:=okLcp2 c h q hq
 simp-iota only [qt,zS] at this
 refine ⟨this.1.1,?_⟩
 rw [zH] at this
 rw [qz] at hn ⊢
 exact fun x hx=>hn x (this.1.2.subset hx)
theorem fold_ok{D:List (List Nat)}{n:Nat}(hD:DomOk D n): ∀{ps:List Int} {c:List Nat},(∀p∈ps,0≤p∧p<n)→c∈chains→c.all (· <n)=true→ps.foldl (fun c (p:Int)=>lcp c (D.getD p.toNat [])) c∈chains∧(ps.foldl (fun c (p:Int)=>lcp c (D.getD p.toNat [])) c).all (· <n)=true
 | [],c,_,h1,h2=>⟨h1,h2⟩
 |p::ps,c,h,h1,h2=>by
  have hp:=h p (.head _)
  have e:D[p.toNat]? =some (D.getD p.toNat []):=by
   rw [qi,qd (by rw [hD.len];omega)];rfl
  have:=lcp_ok h1 h2 (hD.ok _ _ e).1
  exact fold_ok (ps:=ps) hD (fun p hp=>h p (.tail _ hp)) this.1 this.2
theorem all_le{n m:Nat}{c:List Nat}(h:c.all (· <n)=true)(hm:n≤m):c.all (· <m)=true:=by
 rw [qz] at h ⊢
 intro x hx
 have:=h x hx
 simp at this ⊢
 exact ql this hm
theorem near_ok{D:List (List Nat)}{n:Nat}(hD:DomOk D n){r:List Int}(hr:RowOk n r):nearOf D r∈chains∧(nearOf D r).all (· <n)=true:=by
 match r,hr with
 |p::ps,hr=>
  have hp:=hr.2.2 p (.head _)
  have e:D[p.toNat]? =some (D.getD p.toNat []):=by
   rw [qi,qd (by rw [hD.len];omega)];rfl
  have h1:=hD.ok _ _ e
  exact fold_ok hD (fun p hp=>hr.2.2 p (.tail _ hp)) h1.1 (all_le (okTo_lt h1) (by exact Ar.t1 hp))
theorem DomOk.snoc{D:List (List Nat)}{n:Nat}(hD:DomOk D n){r:List Int}(hr:RowOk n r)(hn:n<6):DomOk (D++ [nearOf D r++ [n]]) (n+1) where
 len:=by simp [hD.len]
 ok:=fun v c hv=>by
  by_cases h:v<D.length
  ·rw [qE h] at hv;exact hD.ok v c hv
  ·rw [zd (by exact qQ h)] at hv
   have hlt:=(qr.mp hv).1
   simp at hlt
   have e:v=n:=by have:=hD.len;exact (vC (Qp hlt) (qQ h)).trans this
   subst e
   rw [show v-D.length=0 by omega] at hv
   cases hv
   obtain ⟨h1,h2⟩:=near_ok hD hr
   have:=okSnoc v hn _ h1
   rw [h2] at this
   refine ⟨by simpa using this,?_,by simp⟩
   rw [qz] at h2 ⊢
   intro x hx
   rcases qO.mp hx with hx|hx
   ·have:=h2 x hx;simp at this ⊢;exact qv this
   ·simp at hx;simp [hx]
theorem DomOk.base:DomOk [[0]] 1 where
 len:=rfl
 ok:=fun v c hv=>by
  match v with
  |0=>cases hv;exact ⟨by decide,by decide,rfl⟩
theorem domsF_ok{rows:List (List Int)}(hW:Ways rows): ∀n,n<6→DomOk (domsF rows n) (n+1)
 |0,_=>DomOk.base
 |n+1,h=>by
  have e:rows[n+1]? =some (rows.getD (n+1) []):=by
   rw [qi,qd (by rw [hW.len];omega)];rfl
  exact (domsF_ok hW n (by omega)).snoc (hW.row _ _ (by omega) e) h
theorem lit_abc:qb "abcdef"=sOf [97,98,99,100,101,102]:=by decide+kernel
theorem abc_at{v:Nat}(h:v<6): [97,98,99,100,101,102][v]? =some (97+v):=by
 have: ∀v,v<6→ [97,98,99,100,101,102][v]? =some (97+v):=by decide
 exact this v h
section
variable{b:qe}{w:World}{A:qq}{L L':Led}{F:Frag}{R:Value→Led→Prop}{env:Env}
theorem W.abc{v:Nat}{value slice:Expr}{t u:Tok}(h:v<6)(hs: ∀u,jq slice false (.str "abcdef" t) (.int (v:Int) u)=zZ [.str "abcdef" t,.int (v:Int) u] (vn (.str "abcdef" t) (.int (v:Int) u)))(ht: ∀r,Ql value (.str "abcdef" t) r=qj ())
  (q: ∀t,R (.str (sOf [97+v]) t) L):W b w A L (zC value slice (.str "abcdef" t) (.int (v:Int) u)) R:=by
 refine W.itemS (by unfold fitsSsize;simp;omega) (by omega) (by rw [show (qb "abcdef").length=6 by decide+kernel];omega) hs ht fun t=> ?_
 rw [lit_abc,sOf_item _ (abc_at h)]
 exact q t
theorem host0(z:List Nat):hostL z [0]= [97,46]++z:=rfl
theorem host_snoc(z c:List Nat)(v:Nat):hostL z (c++ [v])= [97+v,46]++hostL z c:=by simp [hostL]
noncomputable abbrev lcN(aw an:Addr)(z:List Nat)(tz:Tok)(v nr p:Option Value):List (Str×Option Value):= [("ways",some (.ref aw)),("zone",some (.str (sOf z) tz)),("names",some (.ref an)),("v",v),("near",nr),("p",p)]
inductive NmA(aw an La:Addr)(z:List Nat)(tz:Tok)(L:Led)(N:Nat→List Str)(i:Nat):Led→Prop
 |mk (v nr p:Option Value):NmA aw an La z tz L N i ((an,isL VS (N i))::(La,loc (lcN aw an z tz v nr p))::L)
inductive NmB(aw an La al:Addr)(z:List Nat)(tz:Tok)(L:Led)(ps:List Int)(q:Addr×Asn)(N:List Str)(v:Value)(g:Nat→List Nat)(j:Nat):Led→Prop
 |mk (tn:Tok) (p:Option Value):NmB aw an La al z tz L ps q N v g j ((al,isL VI ps)::q::(an,isL VS N)::(La,loc (lcN aw an z tz (some v) (some (.str (sOf (46::hostL z (g j))) tn)) p))::L)
theorem NmB.of{aw an La al:Addr}{z:List Nat}{tz:Tok}{L:Led}{ps:List Int}{q:Addr×Asn}{N:List Str}{v:Value}{g:Nat→List Nat}{j:Nat}{c:List Nat}(e:c=g j)(tn:Tok)(p:Option Value):NmB aw an La al z tz L ps q N v g j ((al,isL VI ps)::q::(an,isL VS N)::(La,loc (lcN aw an z tz (some v) (some (.str (sOf (46::hostL z c)) tn)) p))::L):=e▸ .mk tn p
inductive NmC(aw an La al:Addr)(z:List Nat)(tz:Tok)(L:Led)(ps:List Int)(q r:Addr×Asn)(N:List Str)(v p:Value)(c cp:List Nat)(n:Nat):Led→Prop
 |mk (c':List Nat) (tn:Tok) (h:c'∈chains) (hl:lcp c' cp=lcp c cp) (hn:n=c'.length):NmC aw an La al z tz L ps q r N v p c cp n (r::(al,isL VI ps)::q::(an,isL VS N)::(La,loc (lcN aw an z tz (some v) (some (.str (sOf (46::hostL z c')) tn)) (some p)))::L)
theorem law_names_ok{aw:Addr}{ra:List Addr}{rows:List (List Int)}{z:List Nat}{tz:Tok}(K:Kn b)(hA:Rm 3 A)(hL:Mm (aw,isL VR ra) L)(hr: ∀(v:Nat) a r,ra[v]? =some a→rows[v]? =some r→Mm (a,isL VI r) L)(h1:ra.length=6)(hW:Ways rows)(hz:z∈zones)
  (q: ∀a,R (.ref a) ((a,isL VS ((domsF rows 5).map fun c=>sOf (hostL z c)))::L)):W b w A L (call (.ref 302) [.ref aw,.str (sOf z) tz]) R:=by
 revert b w A L R aw ra rows z tz K hA hL hr h1 hW hz q
 funext b w A L R aw ra rows z tz K hA hL hr h1 hW hz q
 have hzl:z.length<10:=by
  have: ∀z∈zones,z.length<10:=by decide
  exact this z hz
 refine W.fn (fd:=fd0 23 lawm 301) 2 [(qb "ways",some (.ref aw)),(qb "zone",some (.str (sOf z) tz)),(qb "names",none),(qb "v",none),(qb "near",none),(qb "p",none)] K (by tb_rel) hA rfl (fun fz fz=>zc (by kernel_rfl)) (by kernel_rfl) (by kernel_rfl) ?_
 funext La A' hA
 refine W.asg (by kernel_rfl!) ?_
 repeat tb_start
 refine W.addS (by rewrite [sOf_len,show (qb "a.").length=2 by decide+kernel,qu];omega) ?_
 funext _
 rw [show qb "a."=sOf [97,46] by decide+kernel,sOf_app,←host0]
 repeat tb_start
 refine W.newL (T:=VS) (ds:= [sOf (hostL z [0])]) (.one ⟨_,rfl⟩) (by simp) ?_
 funext an
 repeat tb_start
 refine W.forG (fun fz=>by kernel_rfl) ?_
 repeat tb_start
 refine ⟨NmA aw an La z tz L fun i=>(domsF rows i).map fun c=>sOf (hostL z c),
  5,_,_,Walk.range hA.handled (by decide) (by decide) (by decide) .head,⟨_,.skip .all,.mk _ _ _⟩,fun fz fz fz=>trivial,?_,?_⟩
 ·funext i v L2 it P hi ⟨t,rfl⟩ ⟨ov,onr,op⟩
  have hD:=domsF_ok hW i (by omega)
  have hZ: ∃r,rows[i+1]? =some r:=⟨_,qd (by rw [hW.len];omega)⟩
  revert hZ;funext ⟨r,hrv⟩
  have hZ: ∃a,ra[i+1]? =some a:=⟨_,qd (by omega)⟩
  revert hZ;funext ⟨ar,hav⟩
  have hro:=hW.row _ _ (by omega) hrv
  have hgd:rows.getD (i+1) []=r:=by rw [qi,hrv];rfl
  rw [show (1+(i:Int))=((i+1:Nat):Int) by omega]
  refine hkX (Qo hro.1) ?_
  funext ⟨p0,ps,rfl⟩
  have hp0:=hro.2.2 p0 (.head _)
  have hlen6:(p0::ps).length≤6:=len_le 6 _ (hro.2.1.imp fun h=>Int.ne_of_lt h) fun v hv=>by have:=hro.2.2 v hv;exact ⟨this.1,vI this.2 (QQ.mpr (Qu hi))⟩
  have hZ: ∃c,(domsF rows i)[p0.toNat]? =some c:=⟨_,qd (by rw [hD.len];omega)⟩
  revert hZ;funext ⟨c0,hc0⟩
  have hk0:=hD.ok _ _ hc0
  repeat tb_start
  refine W.itemL (T:=VR) (ds:=ra) (d:=ar) (.tail (.tail (.tail hL))) (by omega) hav (fun fz=>by kernel_rfl) ?_
  funext _ rfl
  repeat tb_start
  refine W.itemL (T:=VI) (ds:=p0::ps) (i:=0) (d:=p0) (.tail (.tail (.tail (hr _ _ _ hav hrv)))) (by omega) rfl (fun fz=>by kernel_rfl) ?_
  funext _ ⟨tp,rfl⟩
  rw [show p0=((p0.toNat:Nat):Int) by omega]
  refine W.itemL (T:=VS) (ds:=(domsF rows i).map fun c=>sOf (hostL z c)) (d:=sOf (hostL z c0)) (by tb_rel) (by omega) (by rw [qp,hc0];rfl) (fun fz=>by kernel_rfl) ?_
  funext _ ⟨tn,rfl⟩
  have ok0:=okHosts z hz c0 hk0.1
  simp-iota only [okHost,qt,decide_eq_true_eq,beq_iff_eq] at ok0
  refine W.addS (by rewrite [sOf_len,show (qb ".").length=1 by decide+kernel,qu];omega) ?_
  funext _
  rw [lit_dot,sOf_app]
  repeat tb_start
  refine W.forG (fun fz=>by kernel_rfl) ?_
  repeat tb_start
  refine W.itemL (T:=VR) (ds:=ra) (d:=ar) (.tail (.tail (.tail hL))) (by omega) hav (fun fz=>by kernel_rfl) ?_
  funext _ rfl
  repeat tb_start
  funext sl
  refine W.partL (T:=VI) (ds:=p0::ps) (ds':=ps) (.tail (.tail (.tail (.tail (hr _ _ _ hav hrv))))) .head (.int _ _) .none .none (by simp) (by omega) (fun vs hv=>pick_from hv 1) ⟨_,rfl⟩ ?_
  funext al
  have hvs: ∀j:Nat,(ps.take j).foldl (fun c (p:Int)=>lcp c ((domsF rows i).getD p.toNat [])) c0∈chains∧((ps.take j).foldl (fun c (p:Int)=>lcp c ((domsF rows i).getD p.toNat [])) c0).all (· <i+1)=true:=fun j=>
   fold_ok hD (fun p hp=>hro.2.2 p (.tail _ (List.mem_of_mem_take hp))) hk0.1 (all_le (okTo_lt hk0) (by exact Ar.t1 hp0))
  refine ⟨NmB aw an La al z tz L ps (it,P) _ _ fun j=>(ps.take j).foldl (fun c (p:Int)=>lcp c ((domsF rows i).getD p.toNat [])) c0,ps.length,_,_,Walk.list (T:=VI) (ds:=ps) hA.handled .head,⟨_,.cons .head (.skip .all),.mk _ _⟩,?_,?_,?_⟩
  ·funext j L2 ⟨tn,op⟩
   exact .head
  ·funext j v L2 it2 P2 hj ⟨p,hp,tp,rfl⟩ ⟨tn,op⟩
   have hpp:=hro.2.2 p (.tail _ (qk hp))
   have hZ: ∃c,(domsF rows i)[p.toNat]? =some c:=⟨_,qd (by rw [hD.len];omega)⟩
   revert hZ;funext ⟨cp,hcp⟩
   have hkp:=hD.ok _ _ hcp
   have hgp:(domsF rows i).getD p.toNat []=cp:=by rw [qi,hcp];rfl
   have hst:(ps.take (j+1)).foldl (fun c (p:Int)=>lcp c ((domsF rows i).getD p.toNat [])) c0=lcp ((ps.take j).foldl (fun c (p:Int)=>lcp c ((domsF rows i).getD p.toNat [])) c0) cp:=by
    rw [qV,hp,List.foldl_append]
    simp-iota only [Option.toList_some,List.foldl_cons,List.foldl_nil]
    rw [hgp]
   have hc:=(hvs j).1
   generalize (ps.take j).foldl (fun c (p:Int)=>lcp c ((domsF rows i).getD p.toNat [])) c0=c at hst hc ⊢
   repeat tb_start
   refine W.whileG (NmC aw an La al z tz L ps (it,P) (it2,P2) _ _ _ c cp) c.length ⟨_,.all,.mk _ _ hc rfl rfl⟩ ?_
   funext n L2 ⟨c',tn',hc',hl',rfl⟩
   have okc:=okHosts z hz c' hc'
   have okp:=okHosts z hz cp hkp.1
   have okl:=okLcps c' hc' cp hkp.1
   have okr:=okReachs z hz c' hc'
   have okd:=okDms z hz c' hc' cp hkp.1
   simp-iota only [okHost,qt,decide_eq_true_eq,beq_iff_eq] at okc okp
   unfold okLcp at okl
   unfold okReach at okr
   unfold okDm at okd
   rw [beq_iff_eq] at okd
   repeat tb_start
   rw [show p=((p.toNat:Nat):Int) by omega]
   refine W.itemL (T:=VS) (ds:=(domsF rows i).map fun c=>sOf (hostL z c)) (d:=sOf (hostL z cp)) (by tb_rel) (by omega) (by rw [qp,hcp];rfl) (fun fz=>by kernel_rfl) ?_
   funext _ ⟨tq,rfl⟩
   repeat tb_start
   rw [←show p=((p.toNat:Nat):Int) by omega]
   have hasc: ∀k∈hostL z cp,k<128:=fun k hk=>by simpa using qz.mp okp.1.1.1.1.1 k hk
   have hascu: ∀k∈(hostL z cp).map up1,k<128:=fun k hk=>by simpa using qz.mp okp.1.2 k hk
   have hascc: ∀k∈hostL z c',k<128:=fun k hk=>by simpa using qz.mp okc.1.1.1.1.1 k hk
   refine W.supper (by rw [sOf_upper hasc];unfold Qd;rw [sOf_len,qh,qu];simp;omega) ?_
   funext _
   rw [sOf_upper hasc]
   refine W.addS (by rw [sOf_len,qh,show (qb "W.").length=2 by decide+kernel,qu];omega) ?_
   funext _
   rw [show qb "W."=sOf [87,46] by decide+kernel,sOf_app]
   repeat tb_start
   refine dm_ok (c:=c'.isPrefixOf cp) K hA.le (fun k hk=> ?_) (fun k hk=> ?_) (by rw [qm,qh];simp;omega) (by rw [qy];omega) (by simp) ?_ ?_
   ·refine Or.elim (qO.mp hk) ?_ ?_
    ·funext hk
     have: ∀k∈ [87,46],k<128:=by decide
     exact this k hk
    ·funext hk
     exact hascu k hk
   ·refine Or.elim (qH.mp hk) ?_ ?_
    ·funext rfl
     decide
    ·funext hk
     exact hascc k hk
   ·rw [qB,show List.map lo1 [87,46]= [119,46] by decide,okp.1.1.2,show List.map lo1 (46::hostL z c')=46::hostL z c' by rw [qR,okc.1.1.1.2];rfl]
    exact okd
   repeat tb_start
   refine ⟨fun hb=> ?_,fun hb=> ?_⟩
   ·have hb':c'.isPrefixOf cp=false:=by simpa using hb
    rw [if_neg (by rw [hb'];exact qx),qt,decide_eq_true_eq,beq_iff_eq] at okl
    simp-iota only [Bool.or_eq_true,qt,decide_eq_true_eq,beq_iff_eq,zS] at okr
    have okr:=okr.resolve_left (by omega)
    repeat tb_start
    funext sl2
    refine W.partS (i:=1) (by rw [sOf_len,qy,qu];omega) .head (by kernel_rfl) (fun fz=>by kernel_rfl) ?_
    funext _
    have hsl:=sOf_from (46::hostL z c') (k:=1) (by simp)
    rw [show ((1:Nat):Int)=1 from rfl] at hsl
    rw [hsl]
    repeat tb_start
    refine reach_ok K hA.le (by simp;omega) (r:=46::hostL z c'.dropLast) okr.1 ?_
    funext tr
    repeat tb_start
    refine W.nil ⟨c'.dropLast.length,_,by rw [List.length_dropLast];omega,.skip .all,.mk c'.dropLast _ okr.2 (by rw [←okl.2,hl']) rfl⟩
   ·have hb':c'.isPrefixOf cp=true:=by simpa using hb
    rw [if_pos hb',beq_iff_eq] at okl
    exact W.nil ⟨_,.all,.of (by rw [hst,←hl',okl]) tn' (some (.int p tp))⟩
  ·funext L2 ⟨tn,op⟩
   have hnear:nearOf (domsF rows i) (p0::ps)=ps.foldl (fun c (p:Int)=>lcp c ((domsF rows i).getD p.toNat [])) c0:=by
    show ps.foldl _ ((domsF rows i).getD p0.toNat [])=_
    rw [qi,hc0];rfl
   have hc:=(hvs ps.length).1
   rw [zh,←hnear] at hc ⊢
   have okc:=okHosts z hz _ hc
   simp-iota only [okHost,qt,decide_eq_true_eq,beq_iff_eq] at okc
   repeat tb_start
   refine W.abc (by omega) (fun fz=>by kernel_rfl) (fun fz=>by kernel_rfl) ?_
   funext _
   repeat tb_start
   refine W.addS (by rw [sOf_len,sOf_len,qy,qu];simp;omega) ?_
   funext ts
   rw [sOf_app]
   repeat tb_start
   refine W.append (T:=VS) (d:=sOf (hostL z (nearOf (domsF rows i) (p0::ps)++ [i+1]))) (by tb_rel) (by rw [qh,hD.len];omega) ⟨ts,by rw [host_snoc];rfl⟩ ?_
   refine W.nil ⟨_,.cons (.tail .head) (.skip .all),?_⟩
   have hdf:domsF rows (i+1)=domsF rows i++ [nearOf (domsF rows i) (p0::ps)++ [i+1]]:=by
    rw [←hgd];rfl
   have hm:((domsF rows i).map fun c=>sOf (hostL z c))++ [sOf (hostL z (nearOf (domsF rows i) (p0::ps)++ [i+1]))]=(domsF rows (i+1)).map fun c=>sOf (hostL z c):=by rw [hdf,qB];rfl
   rw [hm]
   exact .mk _ _ _
 ·funext L2 ⟨ov,onr,op⟩
  repeat tb_start
  exact ⟨_,.cons .head (.skip .all),q an⟩
end
end
section
inductive Blk:Led→Led→Led→Prop
 |head {X R}:Blk (X++R) X R
 |all {X}:Blk X X []
 |tail {q L X R}:Blk L X R→Blk (q::L) X (q::R)
 |skip {Y L X R}:Blk L X R→Blk (Y++L) X (Y++R)
 |left {L X R M}:Blk L X R→Blk (L++M) X (R++M)
theorem Blk.perm{L X R:Led}(h:Blk L X R):L.Perm (X++R):=by
 induction h with
 |head=>exact .refl _
 |all=>rw [za]
 |tail _ ih=>exact (QJ _ ih).trans vf.symm
 |@skip Y L X R _ ih=>
  refine (List.Perm.append_left Y ih).trans ?_
  rw [←qY,←qY]
  exact List.Perm.append_right R List.perm_append_comm
 |@left L X R M _ ih=>rw [←qY];exact ih.append_right M
theorem Take.appL{X R L':Led}(t:Take R L'):Take (X++R) (X++L'):=by
 induction X with
 |nil=>exact t
 |cons p X ih=>exact .cons .head ih
theorem Take.blk{L X R L':Led}(h:Blk L X R)(t:Take R L'):Take L (X++L'):= .perm h.perm t.appL
theorem Take.dropR{X R:Led}:Take (X++R) X:=by
 induction X with
 |nil=>exact .nil
 |cons p X ih=>exact .cons .head ih
theorem Take.last{L X R:Led}(h:Blk L X R):Take L X:= .perm h.perm .dropR
section
variable{b:qe}{w:World}{A:qq}{L L':Led}{F:Frag}{R:Value→Led→Prop}{env:Env}{pos:Pos}{x dx:Addr}
theorem W.tgtT2{α:Type}{T:α→Value→Prop}{d1 d2:α}{a:Addr}{y z:Str}{p1 p2 tp:Pos}{k:Nat}{Q:Unit→Led→Prop}(hh:A.handled=none)(hm:Mm (a,isT T [d1,d2]) L)
  (h: ∀v1 v2,T d1 v1→T d2 v2→W b w A L (Qi env y v1) fun fz L1=>W b w A L1 (Qi env z v2) Q):W b w A L (QS (.Tuple [.Name y p1,.Name z p2] k tp) env (.ref a)) Q:=W.mk fun s H=>by
 obtain ⟨vs,n,ha,e⟩:=H.tup hm
 obtain ⟨v1,v2,rfl,e1,e2⟩:=ha.inv2
 refine wpAny_assign_Tuple (items:=#[v1,v2]) hh ⟨_,e,rfl,n,rfl⟩ rfl rfl fun h' hx=> ?_
 have H':St b {s with heap:=h',toks:=s.toks} L:=H.grow (Heap.extFresh hx)
 show wpAny _ _ (do zv [v2] (QS (.Name y p1) env v1);do zv [] (QS (.Name z p2) env v2);qj ()) _ _ _
 refine qc (qC (jK ((h v1 v2 e1 e2).then H' fun fz s1 L1 H1 h1=> ?_)))
 exact qc (qC (jK (h1.then H1 fun fz s2 L2 H2 h2=>qf ⟨L2,H2,h2⟩)))
theorem KprL.cls{F:Frag}{C:Addr}{ms:List Value}{tab:List (Str×Option Value)}(KC:Kc F b)(K:Cls F C ms tab):KprL b w L (.ref C):=fun s H A Q E q=>by
 obtain ⟨cd,cod,sl,h1,_⟩:=K.cd
 have X:=KC.at H
 unfold keeperOf
 refine qc (Qk (X _ _ h1) ?_)
 refine qc ((looks_specialIn X K.call).here ?_)
 exact qf (q _)
theorem W.mkAcc{v:Value}(K:Kn b)(KC:Kc F b)(hA:Rm 2 A)(h: ∀dx x,R (.ref x) ((x,isA dx VR [])::(dx,isAt (szAt v))::L)):W b w A L (call (.ref 151) [v]) R:=
 W.newAcc K KC fun dx x=>acc_init_ok K KC hA.tc (.tail .head) .head .head ⟨rfl,h dx x⟩
theorem W.gmAcc{α:Type}{T:α→Value→Prop}{ds:List α}{name:Str}{f:Addr}{fd:vS}{sz:Value}{pl:Sem Bool}{PP:Value→Value→Led→Prop}(K:Kn b)(KC:Kc F b)(hx:Mm (x,isA dx T ds) L)(hd:Mm (dx,isAt (szAt sz)) L)
  (hf:Mm (name,some (.ref f)) accTab) (hfn:Mm (f,fd) fns) (hs:(szAt sz).lookup name=none) (h:PP (.ref f) (.ref x) L):W b w A L (vg (.ref x) name pl) (MF PP):=
 W.gmI KC KC.acc hx hd (ga:="list.__getattribute__") (by tb_rel) (by decide+kernel) (by tb_rel) hf (tf:= .type "function") (fun s H=>tyFn K hfn H) (by kernel_rfl!) hs h
noncomputable def tupsL(as:List Addr)(c:List Nat):Led:=List.zipWith (fun a u=>(a,isT VS [sOf [46],sOf [97+u]])) as c
theorem tupsL_mem: ∀{as:List Addr} {c:List Nat} {j:Nat} {a:Addr} {u:Nat},as[j]? =some a→c[j]? =some u→Mm (a,isT VS [sOf [46],sOf [97+u]]) (tupsL as c)
 | [],_,j,_,_,h,_=>by simp at h
 |_::_,[],j,_,_,_,h=>by simp at h
 |a::as,u::c,0,_,_,h1,h2=>by simp at h1 h2;subst h1;subst h2;exact .head
 |a::as,u::c,j+1,_,_,h1,h2=> .tail (tupsL_mem (by simpa using h1) (by simpa using h2))
theorem tupsL_snoc: ∀{as:List Addr} {c:List Nat} {a:Addr} {u:Nat},as.length=c.length→tupsL (as++ [a]) (c++ [u])=tupsL as c++ [(a,isT VS [sOf [46],sOf [97+u]])]:=fun h=>List.zipWith_append h
theorem tupsL_split: ∀(k:Nat) {as:List Addr} {c:List Nat},as.length=c.length→tupsL as c=tupsL (as.take k) (c.take k)++tupsL (as.drop k) (c.drop k)
 |0,as,c,_=>rfl
 |k+1,[],[],_=>rfl
 |k+1,a::as,u::c,h=>congrArg (List.cons _) (tupsL_split k (by simpa using h))
 |k+1,[],_::_,h=>by simp at h
 |k+1,_::_,[],h=>by simp at h
structure Pile where
 x:Addr
 dx:Addr
 as:List Addr
noncomputable def pileL(sz:Value)(p:Pile)(c:List Nat):Led:=(p.x,isA p.dx VR p.as)::(p.dx,isAt (szAt sz))::tupsL p.as c
noncomputable def pilesL(sz:Value)(ps:List Pile)(cs:List (List Nat)):Led:=(List.zipWith (pileL sz) ps cs).flatten
noncomputable def cutsL(ps:List (Addr×List Addr))(cs:List (List Nat)):Led:=(List.zipWith (fun p c=>(p.1,isL VR p.2)::tupsL p.2 c) ps cs).flatten
theorem pilesL_mem{sz:Value}{q:Addr×Asn}: ∀{ps:List Pile} {cs:List (List Nat)} {j:Nat} {p:Pile} {c:List Nat},ps[j]? =some p→cs[j]? =some c→Mm q (pileL sz p c)→Mm q (pilesL sz ps cs)
 | [],_,j,_,_,h,_,_=>by simp at h
 |_::_,[],j,_,_,_,h,_=>by simp at h
 |p::ps,c::cs,0,_,_,h1,h2,hq=>by simp at h1 h2;subst h1;subst h2;exact .inl hq
 |p::ps,c::cs,j+1,_,_,h1,h2,hq=> .inr (pilesL_mem (by simpa using h1) (by simpa using h2) hq)
theorem cutsL_mem{q:Addr×Asn}: ∀{ps:List (Addr×List Addr)} {cs:List (List Nat)} {j:Nat} {p:Addr×List Addr} {c:List Nat},ps[j]? =some p→cs[j]? =some c→Mm q ((p.1,isL VR p.2)::tupsL p.2 c)→Mm q (cutsL ps cs)
 | [],_,j,_,_,h,_,_=>by simp at h
 |_::_,[],j,_,_,_,h,_=>by simp at h
 |p::ps,c::cs,0,_,_,h1,h2,hq=>by simp at h1 h2;subst h1;subst h2;exact .inl hq
 |p::ps,c::cs,j+1,_,_,h1,h2,hq=> .inr (cutsL_mem (by simpa using h1) (by simpa using h2) hq)
theorem pilesL_snoc{sz:Value}: ∀{ps:List Pile} {cs:List (List Nat)} {p:Pile} {c:List Nat},ps.length=cs.length→pilesL sz (ps++ [p]) (cs++ [c])=pilesL sz ps cs++pileL sz p c:=by
 intro ps cs p c h
 unfold pilesL
 rw [List.zipWith_append h,QG]
 exact congrArg _ (za _)
theorem cutsL_snoc: ∀{ps:List (Addr×List Addr)} {cs:List (List Nat)} {p:Addr×List Addr} {c:List Nat},ps.length=cs.length→cutsL (ps++ [p]) (cs++ [c])=cutsL ps cs++((p.1,isL VR p.2)::tupsL p.2 c):=by
 intro ps cs p c h
 unfold cutsL
 rw [List.zipWith_append h,QG]
 exact congrArg _ (za _)
end
end
section
noncomputable def headOf(D:List (List Nat)):List Int→List Nat
 | []=> []
 |p::_=>D.getD p.toNat []
noncomputable def cutF(rows:List (List Int)):Nat→List (List Nat)
 |0=> [[]]
 |n+1=>cutF rows n++ [(headOf (domsF rows n) (rows.getD (n+1) [])).drop (nearOf (domsF rows n) (rows.getD (n+1) [])).length]
theorem domsF_len(rows:List (List Int)): ∀n,(domsF rows n).length=n+1
 |0=>rfl
 |n+1=>by
  show (domsF rows n++ [_]).length=_
  rw [qm,domsF_len rows n];rfl
theorem cutF_len(rows:List (List Int)): ∀n,(cutF rows n).length=n+1
 |0=>rfl
 |n+1=>by
  show (cutF rows n++ [_]).length=_
  rw [qm,cutF_len rows n];rfl
theorem domsF_pre(rows:List (List Int))(n v:Nat)(hv:v<n+1): ∀k,(domsF rows (n+k))[v]? =(domsF rows n)[v]?
 |0=>rfl
 |k+1=>by
  show (domsF rows (n+k)++ [_])[v]? =_
  rw [qE (by rw [domsF_len];exact ql hv (jm (jk _ _))),domsF_pre rows n v hv k]
theorem domsF_at(rows:List (List Int)){n m:Nat}(h:n+1≤m):(domsF rows m)[n+1]? =some (nearOf (domsF rows n) (rows.getD (n+1) [])++ [n+1]):=by
 obtain ⟨k,rfl⟩:=Nat.le.dest h
 rw [domsF_pre rows (n+1) (n+1) (by omega) k]
 show (domsF rows n++ [_])[n+1]? =_
 rw [zd (by rw [domsF_len];omega),domsF_len]
 simp
theorem fold_pre{D:List (List Nat)}{n:Nat}(hD:DomOk D n): ∀{ps:List Int} {c:List Nat},(∀p∈ps,0≤p∧p<n)→c∈chains→c.all (· <n)=true→ps.foldl (fun c (p:Int)=>lcp c (D.getD p.toNat [])) c<+:c
 | [],c,_,_,_=>QL c
 |p::ps,c,h,h1,h2=>by
  have hp:=h p (.head _)
  have e:D[p.toNat]? =some (D.getD p.toNat []):=by
   rw [qi,qd (by rw [hD.len];omega)];rfl
  have h3:=lcp_ok h1 h2 (hD.ok _ _ e).1
  have h4:=okLcp2 c h1 _ (hD.ok _ _ e).1
  simp-iota only [qt,zH] at h4
  exact (fold_pre (ps:=ps) hD (fun p hp=>h p (.tail _ hp)) h3.1 h3.2).trans h4.1.2
theorem near_pre{D:List (List Nat)}{n:Nat}(hD:DomOk D n){r:List Int}(hr:RowOk n r):nearOf D r<+:headOf D r:=by
 match r,hr with
 |p::ps,hr=>
  have hp:=hr.2.2 p (.head _)
  have e:D[p.toNat]? =some (D.getD p.toNat []):=by
   rw [qi,qd (by rw [hD.len];omega)];rfl
  have h1:=hD.ok _ _ e
  exact fold_pre hD (fun p hp=>hr.2.2 p (.tail _ hp)) h1.1 (all_le (okTo_lt h1) (by exact Ar.t1 hp))
theorem chain_len: ∀c∈chains,1≤c.length∧c.length≤6:=by decide+kernel
section
variable{b:qe}{w:World}{A:qq}{L L':Led}{F:Frag}{R:Value→Led→Prop}{env:Env}
noncomputable abbrev lcP(aw an tp tc:Addr)(size:Int)(tz:Tok)(v pl f p:Option Value):List (Str×Option Value):= [("ways",some (.ref aw)),("names",some (.ref an)),("size",some (.int size tz)),("piles",some (.ref tp)),("cuts",some (.ref tc)),("v",v),("pile",pl),("fws",f),("part",p)]
noncomputable abbrev LenP(ps:List Pile)(D:List (List Nat)):Prop:= ∀(j:Nat) p c,ps[j]? =some p→D[j]? =some c→p.as.length=c.length
noncomputable abbrev LenC(cs:List (Addr×List Addr))(D:List (List Nat)):Prop:= ∀(j:Nat) p c,cs[j]? =some p→D[j]? =some c→p.2.length=c.length
inductive PiA(aw an tp tc La:Addr)(size:Int)(tz:Tok)(rows:List (List Int))(L:Led)(i:Nat):Led→Prop
 |mk (ps:List Pile) (cs:List (Addr×List Addr)) (v pl f p:Option Value) (h3:ps.length=i+1) (h4:cs.length=i+1) (h5:LenP ps (domsF rows i)) (h6:LenC cs (cutF rows i)):PiA aw an tp tc La size tz rows L i
  ((tp,isL VR (ps.map (·.x)))::(tc,isL VR (cs.map (·.1)))::(La,loc (lcP aw an tp tc size tz v pl f p))::(pilesL (.int size tz) ps (domsF rows i)++(cutsL cs (cutF rows i)++L)))
inductive PiB(x dx La:Addr)(sz:Value)(c:List Nat)(q1 q2 q3:Addr×Asn)(fr:Option Value→Option Value→List (Str×Option Value))(L:Led)(j:Nat):Led→Prop
 |mk (as':List Addr) (f p:Option Value) (h:as'.length=(c.take j).length):PiB x dx La sz c q1 q2 q3 fr L j ((x,isA dx VR as')::(dx,isAt (szAt sz))::(tupsL as' (c.take j)++(q1::q2::q3::(La,loc (fr f p))::L)))
theorem law_piles_ok{aw an:Addr}{ra:List Addr}{rows:List (List Int)}{z:List Nat}{size:Int}{tz:Tok}(KE:Ke F b)(hA:Rm 3 A)(hL:Mm (aw,isL VR ra) L)(hr: ∀(v:Nat) a r,ra[v]? =some a→rows[v]? =some r→Mm (a,isL VI r) L)(h1:ra.length=6)(hW:Ways rows)(hz:z∈zones)
  (hn:Mm (an,isL VS ((domsF rows 5).map fun c=>sOf (hostL z c))) L)
  (q: ∀t tp tc (ps:List Pile) (cs:List (Addr×List Addr)),ps.length=6→cs.length=6→(∀(j:Nat) p c,ps[j]? =some p→(domsF rows 5)[j]? =some c→p.as.length=c.length)→(∀(j:Nat) p c,cs[j]? =some p→(cutF rows 5)[j]? =some c→p.2.length=c.length)→
   R (.ref t) ((t,isT VR [tp,tc])::(tp,isL VR (ps.map (·.x)))::(tc,isL VR (cs.map (·.1)))::(pilesL (.int size tz) ps (domsF rows 5)++(cutsL cs (cutF rows 5)++L)))):W b w A L (call (.ref 309) [.ref aw,.ref an,.int size tz]) R:=by
 revert b w A L F R aw an ra rows z size tz KE hA hL hr h1 hW hz hn q
 funext b w A L F R aw an ra rows z size tz KE hA hL hr h1 hW hz hn q
 have K:=KE.n
 refine W.fn (fd:=fd0 24 lawm 308) 3 [(qb "ways",some (.ref aw)),(qb "names",some (.ref an)),(qb "size",some (.int size tz)),(qb "piles",none),(qb "cuts",none),(qb "v",none),(qb "pile",none),(qb "fws",none),(qb "part",none)] K (by tb_rel) hA rfl (fun fz fz=>zc (by kernel_rfl)) (by kernel_rfl) (by kernel_rfl) ?_
 funext La A' hA
 refine W.asg (by kernel_rfl!) ?_
 repeat tb_start
 refine ⟨KprL.cls KE.c KE.c.acc,?_⟩
 refine W.mkAcc K KE.c hA.le ?_
 funext dx0 x0
 refine W.newL (T:=VR) (ds:= [x0]) (.one rfl) (by simp) ?_
 funext tp
 repeat tb_start
 refine W.itemL (T:=VR) (ds:= [x0]) (i:=0) (d:=x0) (by tb_rel) (by omega) rfl (fun fz=>by kernel_rfl) ?_
 funext _ rfl
 refine W.gmAcc (T:=VR) (ds:= []) K KE.c (f:=95) (fd:=fd95) (by tb_rel) (by tb_rel) (by tb_rel) (by tb_rel) rfl ?_
 repeat tb_start
 rw [lit_dot,show qb "a"=sOf [97+0] by decide+kernel]
 refine push_ok (ds:= []) K KE.c hA.le (by simp) (by tb_rel) (by tb_rel) ?_
 funext a0
 refine ⟨_,by tb_rel,?_⟩
 repeat tb_start
 refine W.list0 (T:=VR) ?_
 funext c0
 refine W.newL (T:=VR) (ds:= [c0]) (.one rfl) (by simp) ?_
 funext tc
 repeat tb_start
 refine W.forG (fun fz=>by kernel_rfl) ?_
 repeat tb_start
 refine ⟨PiA aw an tp tc La size tz rows L,
  5,_,_,Walk.range hA.handled (by decide) (by decide) (by decide) .head,⟨_,?_,.mk [⟨x0,dx0,[a0]⟩] [(c0,[])] none none none none rfl rfl ?_ ?_⟩,fun fz fz fz=>trivial,?_,?_⟩
 ·show Take _ ((tp,isL VR [x0])::(tc,isL VR [c0])::(La,_)::(x0,isA dx0 VR ([]++ [a0]))::(dx0,isAt (szAt (.int size tz)))::(a0,isT VS [sOf [46],sOf [97+0]])::(c0,isL VR [])::L)
  dl_keep
 ·funext j p c hj hc
  match j with
  |0=>cases hj;cases hc;rfl
 ·funext j p c hj hc
  match j with
  |0=>cases hj;cases hc;rfl
 ·funext i v L2 it P hi ⟨t,rfl⟩ ⟨ps,cs,ov,ol,of,op,h3,h4,h5,h6⟩
  have hD:=domsF_ok hW i (by omega)
  have hZ: ∃r,rows[i+1]? =some r:=⟨_,qd (by rw [hW.len];omega)⟩
  revert hZ;funext ⟨r,hrv⟩
  have hZ: ∃a,ra[i+1]? =some a:=⟨_,qd (by omega)⟩
  revert hZ;funext ⟨ar,hav⟩
  have hro:=hW.row _ _ (by omega) hrv
  have hgd:rows.getD (i+1) []=r:=by rw [qi,hrv];rfl
  rw [show (1+(i:Int))=((i+1:Nat):Int) by omega]
  have hpre:=near_pre hD hro
  have hnear:=near_ok hD hro
  refine hkX (Qo hro.1) ?_
  funext ⟨p0,pr,rfl⟩
  have hp0:=hro.2.2 p0 (.head _)
  have hZ: ∃c,(domsF rows i)[p0.toNat]? =some c:=⟨_,qd (by rw [hD.len];omega)⟩
  revert hZ;funext ⟨c0',hc0⟩
  have hZ: ∃c,ps[p0.toNat]? =some c:=⟨_,qd (by exact h3▸Ar.t1 hp0)⟩
  revert hZ;funext ⟨q0,hq0⟩
  have hhd:headOf (domsF rows i) (p0::pr)=c0':=by
   show (domsF rows i).getD p0.toNat []=_
   rw [qi,hc0];rfl
  rw [hhd] at hpre
  have hal:=h5 _ _ _ hq0 hc0
  have hk0:=hD.ok _ _ hc0
  have hcl:=chain_len _ hk0.1
  have hm1:Mm (ar,isL VI (p0::pr)) L:=hr _ _ _ hav hrv
  have hm2:Mm (q0.x,isA q0.dx VR q0.as) (pilesL (.int size tz) ps (domsF rows i)):=pilesL_mem hq0 hc0 .head
  have hm3: ∀{j:Nat} {a:Addr} {u:Nat},q0.as[j]? =some a→c0'[j]? =some u→Mm (a,isT VS [sOf [46],sOf [97+u]]) (pilesL (.int size tz) ps (domsF rows i)):=fun h1 h2=>pilesL_mem hq0 hc0 (.tail (.tail (tupsL_mem h1 h2)))
  repeat tb_start
  refine ⟨KprL.cls KE.c KE.c.acc,?_⟩
  refine W.mkAcc K KE.c hA.le ?_
  funext dx x
  repeat tb_start
  refine W.forG (fun fz=>by kernel_rfl) ?_
  repeat tb_start
  refine W.itemL (T:=VR) (ds:=ra) (d:=ar) (by tb_rel) (by omega) hav (fun fz=>by kernel_rfl) ?_
  funext _ rfl
  repeat tb_start
  refine W.itemL (T:=VI) (ds:=p0::pr) (i:=0) (d:=p0) (by tb_rel) (by omega) rfl (fun fz=>by kernel_rfl) ?_
  funext _ ⟨tp0,rfl⟩
  rw [show p0=((p0.toNat:Nat):Int) by omega]
  refine W.itemL (T:=VR) (ds:=ps.map (·.x)) (d:=q0.x) (by tb_rel) (by omega) (by rw [qp,hq0];rfl) (fun fz=>by kernel_rfl) ?_
  funext _ rfl
  refine ⟨PiB x dx La (.int size tz) c0' (it,P) _ _ (fun f p=>lcP aw an tp tc size tz (some (.int ((i+1:Nat):Int) t)) (some (.ref x)) f p) _,q0.as.length,_,_,Walk.acc (T:=VR) (ds:=q0.as) KE.c hA.handled (by tb_rel),⟨_,.all,.mk [] _ _ rfl⟩,?_,?_,?_⟩
  ·funext j L2 ⟨as',of,op,_⟩
   tb_rel
  ·funext j v L2 it2 P2 hj ⟨a,ha,rfl⟩ ⟨as',of,op,h7⟩
   have hZ: ∃u,c0'[j]? =some u:=⟨_,qd (by omega)⟩
   revert hZ;funext ⟨u,hu⟩
   have hm4:=hm3 ha hu
   refine W.tgtT2 (T:=VS) hA.handled (by tb_rel) ?_
   funext _ _ ⟨t1,rfl⟩ ⟨t2,rfl⟩
   repeat tb_start
   refine W.gmAcc (T:=VR) (ds:=as') K KE.c (f:=95) (fd:=fd95) (by tb_rel) (by tb_rel) (by tb_rel) (by tb_rel) rfl ?_
   repeat tb_start
   refine push_ok (ds:=as') K KE.c hA.le (by rw [h7,qI];exact Ar.m1 hcl.2 (Ar.d rfl)) (by tb_rel) (by tb_rel) ?_
   funext a'
   refine ⟨_,by tb_rel,?_⟩
   repeat tb_start
   refine W.nil ⟨_,?_,.mk (as'++ [a']) (some (.str (sOf [46]) t1)) (some (.str (sOf [97+u]) t2)) (by rw [qm,h7,qI,qI];simp;exact (congrArg (· +1) (jR (qv (hal▸hj)))).trans (jR (hal▸hj)).symm)⟩
   rw [qV,hu]
   simp-iota only [Option.toList_some]
   rw [tupsL_snoc h7]
   simp-iota only [qY,vj,zV]
   dl_keep
  ·funext L2 ⟨as',of,op,h7⟩
   rw [hal,zh] at h7 ⊢
   have hZ:(nearOf (domsF rows i) (p0::pr)).length≤c0'.length∧c0'.take (nearOf (domsF rows i) (p0::pr)).length=nearOf (domsF rows i) (p0::pr):=⟨hpre.length_le,(List.prefix_iff_eq_take.mp hpre).symm⟩
   revert hZ;funext ⟨hk,hkc⟩
   have hnew:(domsF rows 5)[i+1]? =some (nearOf (domsF rows i) (p0::pr)++ [i+1]):=by
    rw [domsF_at rows (n:=i) (by omega),hgd]
   have hnk:nearOf (domsF rows i) (p0::pr)++ [i+1]∈chains:=((domsF_ok hW 5 (by omega)).ok _ _ hnew).1
   have okn:=okHosts z hz _ hnk
   simp-iota only [okHost,qt,decide_eq_true_eq,beq_iff_eq] at okn
   generalize hnr:nearOf (domsF rows i) (p0::pr)=nr at*
   revert nr;funext nr hnr hnear hpre hk hkc hnew hnk okn
   repeat tb_start
   refine W.gmAcc (T:=VR) (ds:=as') K KE.c (f:=103) (fd:=fd103) (by tb_rel) (by tb_rel) (by tb_rel) (by tb_rel) rfl ?_
   repeat tb_start
   refine W.itemL (T:=VS) (ds:=(domsF rows 5).map fun c=>sOf (hostL z c)) (d:=sOf (hostL z (nr++ [i+1]))) (by tb_rel) (by omega) (by rw [qp,hnew];rfl) (fun fz=>by kernel_rfl) ?_
   funext _ ⟨tn,rfl⟩
   repeat tb_start
   rw [sOf_count,okn.2]
   rw [show (((nr++ [i+1]).length:Nat):Int)-1=((nr.length:Nat):Int) by rw [qm];simp]
   repeat tb_start
   refine pop_from_ok (k:=nr.length) (T:=VR) (ds:=as') K KE.c hA.le (by exact Ar.d2 h7 (qg hcl.2 (Ar.d rfl))) (by tb_rel) (by tb_rel) ?_
   funext cut
   repeat tb_start
   refine W.append (T:=VR) (d:=cut) (by tb_rel) (by rw [qh];exact Ar.d2 h4 (qg hi (Ar.d rfl))) rfl ?_
   repeat tb_start
   refine W.gmAcc (T:=VR) (ds:=as'.take nr.length) K KE.c (f:=95) (fd:=fd95) (by tb_rel) (by tb_rel) (by tb_rel) (by tb_rel) rfl ?_
   repeat tb_start
   refine W.abc (by omega) (fun fz=>by kernel_rfl) (fun fz=>by kernel_rfl) ?_
   funext _
   repeat tb_start
   refine push_ok (ds:=as'.take nr.length) K KE.c hA.le (by rw [qI];exact qg (zU _ _) (qg hk (qg hcl.2 (Ar.d rfl)))) (by tb_rel) (by tb_rel) ?_
   funext a'
   refine ⟨_,by tb_rel,?_⟩
   repeat tb_start
   refine W.append (T:=VR) (d:=x) (by tb_rel) (by rw [qh];exact Ar.d2 h3 (qg hi (Ar.d rfl))) rfl ?_
   have hps:(ps.map (·.x))++ [x]=(ps++ [Pile.mk x dx (as'.take nr.length++ [a'])]).map (·.x):=by simp
   have hcs:(cs.map (·.1))++ [cut]=(cs++ [(cut,as'.drop nr.length)]).map (·.1):=by simp
   have hdf:domsF rows (i+1)=domsF rows i++ [nr++ [i+1]]:=by rw [←hnr,←hgd];rfl
   have hcf:cutF rows (i+1)=cutF rows i++ [c0'.drop nr.length]:=by rw [←hnr,←hhd,←hgd];rfl
   have hl7:(as'.take nr.length++ [a']).length=(nr++ [i+1]).length:=by rw [qm,qm,qI];simp;exact jR (qg hk (qN h7.symm))
   have hl8:(as'.drop nr.length).length=(c0'.drop nr.length).length:=by rw [zt,zt,h7]
   rw [hps,hcs]
   refine W.nil ⟨_,?_,.mk (ps++ [⟨x,dx,as'.take nr.length++ [a']⟩]) (cs++ [(cut,as'.drop nr.length)]) (some (.int ((i+1:Nat):Int) t)) (some (.ref x)) of op (by simp;omega) (by simp;omega) ?_ ?_⟩
   ·rw [hdf,hcf,pilesL_snoc (by rw [hD.len];omega),cutsL_snoc (by rw [cutF_len];omega),tupsL_split nr.length h7,hkc]
    unfold pileL
    rw [tupsL_snoc (by rw [qI];exact jR (qg hk (qN h7.symm)))]
    simp-iota only [qY,vj,zV]
    dl_keep
   ·funext j p c hj hc
    rw [hdf] at hc
    by_cases hlt:j<ps.length
    ·rw [qE hlt] at hj
     rw [qE (by rw [hD.len];omega)] at hc
     exact h5 j p c hj hc
    ·rw [zd (by exact qQ hlt)] at hj
     rw [zd (by rw [hD.len];exact h3▸qQ hlt)] at hc
     have:=(qr.mp hj).1
     simp at this
     rw [show j-ps.length=0 by omega] at hj
     rw [show j-(domsF rows i).length=0 by rw [hD.len];exact h3▸this] at hc
     cases hj;cases hc
     exact hl7
   ·funext j p c hj hc
    rw [hcf] at hc
    by_cases hlt:j<cs.length
    ·rw [qE hlt] at hj
     rw [qE (by rw [cutF_len];omega)] at hc
     exact h6 j p c hj hc
    ·rw [zd (by exact qQ hlt)] at hj
     rw [zd (by rw [cutF_len];exact h4▸qQ hlt)] at hc
     have:=(qr.mp hj).1
     simp at this
     rw [show j-cs.length=0 by omega] at hj
     rw [show j-(cutF rows i).length=0 by rw [cutF_len];exact h4▸this] at hc
     cases hj;cases hc
     exact hl8
 ·funext L2 ⟨ps,cs,ov,ol,of,op,h3,h4,h5,h6⟩
  repeat tb_start
  refine W.newT (T:=VR) (ds:= [tp,tc]) (.cons rfl (.one rfl)) (by simp) ?_
  funext t
  exact ⟨_,by dl_keep,q t tp tc ps cs h3 h4 h5 h6⟩
end
end
section
local macro_rules | `(tactic| size_fits) => return q "Mine.sf0 X r"
section
variable{b:qe}{w:World}{A:qq}{L L':Led}{R:Value→Led→Prop}{F:Frag}{α:Type}{T:α→Value→Prop}{ds:List α}{l:Addr}
theorem md_bindL{id:String}{x:Addr}{ox:Obj}{Q:vi→qe→Prop}{E:Value→qe→Prop}{h:Heap}{g:Array ju}{d:Drawn}{t:Nat}{os:OsState}(hown:".".intercalate (id.cutAt '.').dropLast="list")(ht: ¬Manifest.toldItsClass.contains id=true)(hx:h.get? x=some ox)(hc:ox.cls= .type "list")
  (hq:Q (.done (.ret (.ref h.objs.size))) ⟨h.push (bndO "builtin_function_or_method" id x),g,d,t,os⟩):
  wpAny (model pw w) A (Builtin.«method_descriptor.__get__» ⟨[.builtin id,.ref x,.type "list"],[]⟩) Q E ⟨h,g,d,t,os⟩:=by
 revert w A id x ox Q E h g d t os hown ht hx hc hq
 funext w A id x ox Q E h g d t os hown ht hx hc hq
 have hs:isSubtype (.type "list") (.type "list")=qj true:=by rw [jP];kernel_rfl
 unfold Builtin.«method_descriptor.__get__»
 repeat (first|(with_reducible refine jC hx ?_;rewrite [hc])|(rewrite [hown,hs])|rewrite [if_neg ht]|(unfold Qs;with_reducible refine qM ?_ (by size_fits))|wp_step|dsimp only)
 all_goals exact hq
theorem W.attrApp{ex:Bool}(hm:Mm (l,isL T ds) L)(h: ∀bo,R (.ref bo) ((bo,(· =bndO "builtin_function_or_method" "list.append" l))::L)):W b w A L (getAttr (.ref l) "append" ex) R:=W.mk fun s H=>by
 obtain ⟨vs,n,ha,e⟩:=H.lst hm
 obtain ⟨hp,g,d,t,os⟩:=s
 have hT: ∀t',(⟨hp,g,d,t',os⟩:qe).TypeIs (.ref l) "list":=fun fz=>⟨_,e,rfl⟩
 have hTf: ∀t',(⟨hp,g,d,t',os⟩:qe).TypeIs (.builtin "list.append") "method_descriptor":=fun fz=>by exact PySem.F.type_list_append
 unfold getAttr getAttrBy
 refine qc (wpAny_mkText (qC (qc (jx (hT _) (qc (ze PySem.F.slot_list_getattribute.lookup ?_))))))
 show wpAny _ _ (getAttrByItsOwn (.ref l) (.str "append" t) (.type "list") (.builtin "list.__getattribute__") true ex) _ _ _
 unfold getAttrByItsOwn hookBefore callGetattribute boundAndCalled
 refine qc (ze (show (if onTheHeap (.type "list") then typeLookup (.type "list") "__getattr__" else qj none)=qj none from rfl) ?_)
 refine qc (vq (qC ?_))
 have hex:(ex&&onTheHeap (.builtin "list.__getattribute__"))=false:=Bool.and_false ex
 rw [hex,if_neg qx]
 refine qc (ze (PySem.F.slot_list_getattribute.bind _) ?_)
 have sub:QC (.ref l) (.type "list")=QC (.ref l) (.type "list"):=rfl
 have hsub:isSubtype (.type "list") (.type "list")=qj true:=by rw [jP];kernel_rfl
 refine zr PySem.F.slot_list_getattribute (hT _) PySem.F.entry_list_ga ?_ (PySem.F.args_list_getattribute_2 _ _)
 unfold Builtin.«object.__getattribute__»
 refine qc (qf (qc (qf (qc (jx (hT _) ?_)))))
 refine qc (m:=Builtin.ObjectAttr.find _ _ _) ?_
 unfold Builtin.ObjectAttr.find
 refine qc (ze PySem.F.slot_list_append.lookup ?_)
 refine qc (m:=Builtin.ObjectAttr.getOf _) (jT (hTf _) slot_md_get.lookup ?_)
 refine qc (m:=Builtin.ObjectAttr.dataDescriptor? _ _) (ze (a:=none) (by kernel_rfl) ?_)
 dsimp only
 unfold Builtin.ObjectAttr.ownThenClass Builtin.ObjectAttr.inOwnDict Builtin.ObjectAttr.ownDict
 refine qc (qc (qc ?_))
 unfold loadHead
 refine jC e ?_
 dsimp only
 unfold instanceDict
 refine qc (jC e ?_)
 dsimp only
 refine qf (qf ?_)
 dsimp only
 refine qc (m:=Builtin.ObjectAttr.copiedAttributeGuard _ _) (ze (a:=()) (by kernel_rfl) ?_)
 refine qc (m:=PySem.rule _) (jI (qf ?_))
 dsimp only
 unfold Builtin.ObjectAttr.bindTo
 dsimp only
 refine qc (qC ?_)
 refine zr slot_md_get (hTf _) entry_md_get (md_bindL (by decide+kernel) (by decide+kernel) e rfl ?_) (args_md_get _ _ _)
 refine ⟨_,rfl,qf ⟨_,rfl,qf ⟨_,(H.tok (t+1)).alloc (P:=(· =bndO "builtin_function_or_method" "list.append" l)) _ rfl rfl,h _⟩⟩⟩
end
end
section
noncomputable def elS(w:World)(p:Str×Tok):Int×Value:=(hashStr w p.1,.str p.1 p.2)
noncomputable def isSt(w:World)(ks:List Str):Asn:=fun o=> ∃(es:Array (Int×Value)) (ep:Nat) (t:SetTable) (tks:List (Str×Tok)),o.ExactSet∧o.data= .set es ep t∧es.toList.Perm (tks.map (elS w))∧tks.map (·.1)=ks∧t.fits es.size=true∧(w.params.followText "set-order"=true∨t.led=true)∧(t.plain=false∨ks= [])∧ks.Nodup∧ks.length<100
section
variable{b:qe}{w:World}{A:qq}{L L':Led}{R:Value→Led→Prop}{F:Frag}
theorem elS_ok{tks:List (Str×Tok)}{es:List (Int×Value)}(h:es.Perm (tks.map (elS w))):ElemsOf (qJ pw w) es:=fun e he=>by
 obtain ⟨p,_,rfl⟩:=qw.mp (h.mem_iff.mp he)
 exact ⟨⟨p.1,by simp [elS,qJ,Value.isStrOf],rfl⟩,rfl⟩
theorem elS_len{tks:List (Str×Tok)}{es:Array (Int×Value)}(h:es.toList.Perm (tks.map (elS w))):es.size=tks.length:=by
 have:=h.length_eq
 simpa using this
theorem layNew_keeps(t:SetTable)(es:Array (Int×Value))(h:Int)(x:Value):(layNew t es h x).2.1.led=t.led∧(t.plain=false→(layNew t es h x).2.1.plain=false):=by
 revert t es h x
 funext t es h x
 unfold layNew
 cases hf:t.freeSlot h with
 |none=>exact ⟨rfl,fun fz=>rfl⟩
 |some p=>
  revert p;funext p hf
  obtain ⟨slot,wd⟩:=p
  revert slot wd;funext slot wd hf
  dsimp only
  unfold SetTable.orStandIn
  split
  ·exact ⟨rfl,fun e=>e⟩
  ·exact ⟨rfl,fun fz=>rfl⟩
theorem relayAll_keeps(t:SetTable)(es:Array (Int×Value))(wanted:Nat):(relayAll t es wanted).2.1.led=t.led∧(t.plain=false→(relayAll t es wanted).2.1.plain=false):=by
 revert t es wanted
 funext t es wanted
 unfold relayAll
 cases hr:t.relaid (es.map (·.1)) wanted with
 |none=>exact ⟨rfl,fun fz=>rfl⟩
 |some p=>
  revert p;funext p hr
  obtain ⟨t',order⟩:=p
  revert t' order;funext t' order hr
  have:t'.led=t.led∧t'.plain=t.plain:=by
   unfold SetTable.relaid SetTable.laid at hr
   cases hl:SetTable.layClean (SetTable.sizeAbove wanted-1) (es.map (·.1)) with
   |none=>rw [hl] at hr;cases hr
   |some o=>
    revert o;funext o hl
    rw [hl] at hr;cases hr;exact ⟨rfl,rfl⟩
  dsimp only
  split
  ·exact ⟨this.1,fun e=>by rw [this.2];exact e⟩
  ·exact ⟨rfl,fun fz=>rfl⟩
theorem putSet_get{h:Heap}{a:Addr}{o:Obj}{es:Array (Int×Value)}{ep:Nat}{t:SetTable}(ho:h.get? a=some o)(hd:o.data= .set es ep t)(es':Array (Int×Value))(t':SetTable):
  (h.update a (Obj.putSet es' t')).get? a=some {o with data:= .set es' (ep+1) t'}:=by
 have:=zR (Obj.putSet es' t') ho (by rw [putSet_of es' t' hd];rfl)
 rw [putSet_of es' t' hd] at this;exact this
theorem setAddHashed_new{s:qe}{E:Value→qe→Prop}{a:Addr}{o:Obj}{ks:List Str}{k:Str}{t:Tok}{Q:Bool→qe→Prop}(ho:s.heap.get? a=some o)(hS:isSt w ks o)(hn:k∉ks)(hz:ks.length<99)
  (h: ∀h' o',Qv a s.heap h'→h'.get? a=some o'→isSt w (ks++ [k]) o'→Q true {s with heap:=h'}):wpAny (model pw w) A (setAddHashed a (.str k t) (hashStr w k)) Q E s:=by
 obtain ⟨es,ep,tb,tks,hex,hd,hp,hk,hf,hled,hpl,hnd,hlt⟩:=hS
 have hel:=elS_ok hp
 have hsz:=elS_len hp
 have hkl:tks.length=ks.length:=by rw [←hk,qh]
 have hkey:(qJ pw w).is k (.str k t)=true:=by simp [qJ,Value.isStrOf]
 unfold setAddHashed setAddHashedIn
 refine qC (qc (zm ho hd hf ?_))
 dsimp only
 rw [byScan_of (knd:=qJ pw w) (x:= .str k t) rfl (by unfold scanBound;exact Ar.d1 (hsz.trans hkl) (zq hz (Ar.d rfl))) hel]
 simp-iota only [if_true]
 unfold setAddByScan
 refine qc ?_
 refine qc (jI ?_)
 refine qc (wpAny_setScan_of hkey ho hd hf hel ?_)
 have hnone:List.findIdx? (fun e=>(qJ pw w).is k e.2) es.toList=none:=by
  refine List.findIdx?_eq_none_iff.mpr fun e he=> ?_
  obtain ⟨p,hpm,rfl⟩:=qw.mp (hp.mem_iff.mp he)
  have hne:p.1≠k:=fun e=>hn (by rw [←hk,←e];exact qA (f:=(·.1)) hpm)
  simp-iota only [elS,qJ,Value.isStrOf]
  simpa using fun e=>hne e
 rw [hnone]
 dsimp only
 have hperm:=layNew_perm tb es (hashStr w k) (.str k t)
 have hfits:=layNew_fits tb es (hashStr w k) (.str k t)
 have hkeep:=layNew_keeps tb es (hashStr w k) (.str k t)
 generalize hL:layNew tb es (hashStr w k) (.str k t)=LL at hperm hfits hkeep ⊢
 obtain ⟨es1,t1,wasDummy,gave⟩:=LL
 dsimp only at hperm hfits hkeep ⊢
 rw [Array.toList_push] at hperm
 have hp1:es1.toList.Perm ((tks++ [(k,t)]).map (elS w)):=by
  rw [qB]
  exact hperm.trans (hp.append_right _)
 have hk1:(tks++ [(k,t)]).map (·.1)=ks++ [k]:=by rw [qB,hk];rfl
 have hnd1:(ks++ [k]).Nodup:=List.nodup_append.mpr ⟨hnd,by simp,fun x hx y hy e=>hn (by simp at hy;rw [←hy,←e];exact hx)⟩
 have hsz1:=elS_len hp1
 rw [qm] at hsz1
 have hg: ∀(c:Bool) (s₁:qe) (Q':Unit→qe→Prop),Q' () s₁→wpAny (model pw w) A (match c with|true=>PySem.rule "set.scan.the-table-gave-way"|false=>qj ()) Q' E s₁:=
  fun c s₁ Q' hq=>by cases c<;>first|exact qf hq|exact jI hq
 refine qc (hg _ _ _ ?_)
 have fin: ∀t2:SetTable,t2.led=tb.led→t2.plain=false→t2.fits es1.size=true→wpAny (model pw w) A (do
    storeSet a es1 t2
    if (!wasDummy&&t2.tooFull)=true then do
      (match (relayAll t2 es1 (QP es1.size)).2.2 with|true=>PySem.rule "set.scan.the-table-gave-way"|false=>qj ())
      storeSet a (relayAll t2 es1 (QP es1.size)).1 (relayAll t2 es1 (QP es1.size)).2.1
      qj (some true)
     else qj (some true)) (fun r s'=>wpAny (model pw w) A (match r with|some added=>qj added|none=>setAddHashedIn a (.str k t) (hashStr w k) 99999) Q E s') E s:=by
  intro t2 e1 e2 e3
  refine qc (wpAny_storeSet_of ho hd ?_ (by rw [qu,hsz1];simp;exact Ar.d2 hkl (qg (qv hz) (Ar.d rfl))))
  have ho1:=putSet_get ho hd es1 t2
  have hs1:=qK s.heap a (Obj.putSet es1 t2)
  split
  ·have hpr:=relayAll_perm t2 es1 (QP es1.size)
   have hfr:=relayAll_fits t2 es1 (QP es1.size)
   have hkr:=relayAll_keeps t2 es1 (QP es1.size)
   generalize relayAll t2 es1 (QP es1.size)=Rl at hpr hfr hkr ⊢
   obtain ⟨es2,t3,gave2⟩:=Rl
   dsimp only at hpr hfr hkr ⊢
   have hp2:=hpr.trans hp1
   have hsz2:=elS_len hp2
   rw [qm] at hsz2
   refine qc (hg _ _ _ ?_)
   refine qc (wpAny_storeSet_of ho1 rfl ?_ (by rw [qu,hsz2];simp;exact Ar.d2 hkl (qg (qv hz) (Ar.d rfl))))
   refine qf (qf (h _ _ (hs1.trans (qK _ a _)) (putSet_get ho1 rfl es2 t3) ⟨es2,_,t3,_,hex,rfl,hp2,hk1,hfr,?_,.inl (hkr.2 e2),hnd1,by simp;exact Nat.succ_lt_succ hz⟩))
   rw [hkr.1,e1];exact hled
  ·refine qf (qf (h _ _ hs1 ho1 ⟨es1,_,t2,_,hex,rfl,hp1,hk1,e3,?_,.inl e2,hnd1,by simp;exact Nat.succ_lt_succ hz⟩))
   rw [e1];exact hled
 cases hp1l:t1.plain with
 |true=>
  simp-iota only [if_true]
  refine qc ?_
  rw [hashByValue_scannable 8 (x:= .str k t) rfl]
  refine qf ?_
  show wpAny _ _ _ _ _ s
  exact fin {t1 with plain:=false} hkeep.1 rfl (SetTable.fits_plain_off hfits)
 |false=>
  simp-iota only [qT,if_false]
  refine qc (qf ?_)
  simp-iota only [if_true]
  exact fin t1 hkeep.1 hp1l hfits
end
end
section
noncomputable def isD(w:World){α:Type}(T:α→Value→Prop)(kds:List (Str×α)):Asn:=fun o=> ∃kvs,o.IsDictOf (qJ pw w) kvs∧All2 (fun d (kv:Str×Value)=>d.1=kv.1∧T d.2 kv.2) kds kvs∧kds.length<100
section
variable{b:qe}{w:World}{A:qq}{L L':Led}{R:Value→Led→Prop}{F:Frag}{env:Env}{pos:Pos}{α:Type}{T:α→Value→Prop}{kds:List (Str×α)}{d:Addr}{TT:Bool→Led→Prop}
theorem St.notSys{s:qe}{P:Asn}(H:St b s L)(hm:Mm (d,P) L):(d==sysModules)=false:=by
 have h1:=H.stat
 have h2:=H.fresh _ hm.mem
 have h3:sysModules<ja:=by decide
 have:sysModules<d:=ql (zq h3 h1) h2
 exact beq_false_of_ne (Ne.symm (qS this))
inductive DctAt(X:List (Str×Value)→Prop)(T:α→Value→Prop)(kds:List (Str×α)):Prop
 |mk (kvs:List (Str×Value)) (h:X kvs) (ha:All2 (fun d (kv:Str×Value)=>d.1=kv.1∧T d.2 kv.2) kds kvs) (hz:kds.length<100)
theorem St.dct{s:qe}(H:St b s L)(hm:Mm (d,isD w T kds) L):DctAt (s.heap.DictOf (qJ pw w) d) T kds:=by
 obtain ⟨o,ho,kvs,h1,h2,h3⟩:=H.own _ hm.mem
 exact ⟨kvs,Heap.dictOf_iff.mpr ⟨o,ho,h1⟩,h2,h3⟩
theorem kd_keys{kvs:List (Str×Value)}(h:All2 (fun d (kv:Str×Value)=>d.1=kv.1∧T d.2 kv.2) kds kvs):kvs.map (·.1)=kds.map (·.1):=by
 induction h with
 |nil=>rfl
 |cons h1 _ ih=>rw [qR,qR,ih,h1.1]
theorem W.newD(h: ∀a,R (.ref a) ((a,isD w T [])::L)):W b w A L (eval (.Dict [] [] pos) env) R:=W.mk fun s H=>
 wpAny_Dict_empty ⟨_,H.alloc (P:=isD w T []) QO rfl ⟨[],⟨#[],0,⟨rfl,rfl,rfl⟩,rfl,fun e he=>by simp at he,.nil,.nil⟩,.nil,by simp⟩,h _⟩
theorem W.getD{k:Str}{x:α}{i:Nat}{u:Tok}(hm:Mm (d,isD w T kds) L)(hi:kds[i]? =some (k,x))(h: ∀v,T x v→R v L):W b w A L (vn (.ref d) (.str k u)) R:=W.mk fun s H=>by
 obtain ⟨kvs,hD,ha,_⟩:=H.dct hm
 obtain ⟨⟨k',v⟩,hv,e,hT⟩:=ha.get hi
 dsimp only at e hT
 subst e
 have hn:(kvs.map (·.1)).Nodup:=by obtain ⟨_,_,_,_,_,_,_,_,hn⟩:=hD;exact hn
 exact wpAny_getItem_of (vM pw w k u) hD.mapOf (valueAt_of_get hn hv) ⟨L,H.tok _,h v hT⟩
theorem W.itemD{value slice:Expr}{k:Str}{x:α}{i:Nat}{u:Tok}(hm:Mm (d,isD w T kds) L)(hi:kds[i]? =some (k,x))
  (hs: ∃ops,jq slice false (.ref d) (.str k u)=zZ ops (vn (.ref d) (.str k u))) (h: ∀v,T x v→R v L):W b w A L (zC value slice (.ref d) (.str k u)) R:=by
 obtain ⟨ops,hs⟩:=hs
 exact W.tail (fun s H=>by obtain ⟨kvs,hD,_⟩:=H.dct hm;exact hD.typeIs) slot_dict_getitem.lookup hs (W.getD hm hi h)
theorem stored_new{kvs:List (Str×Value)}{k:Str}{v:Value}(h:k∉kvs.map (·.1)):stored kvs k v=kvs++ [(k,v)]:=by
 unfold stored
 rw [if_neg]
 intro hc
 obtain ⟨kv,h1,h2⟩:=List.any_eq_true.mp hc
 exact h (by rw [←(by simpa using h2:kv.1=k)];exact qA (f:=(·.1)) h1)
theorem W.putD{k:Str}{x:α}{v:Value}{u:Tok}{Q:Unit→Led→Prop}(hu:Upd L d (isD w T kds) (isD w T (kds++ [(k,x)])) L')(hn:k∉kds.map (·.1))(hz:kds.length<99)(hT:T x v)(h:Q () L'):W b w A L (dictSet d (.str k u) v) Q:=W.mk fun s H=>by
 obtain ⟨kvs,hD,ha,hl⟩:=H.dct (mem_mm hu.mem)
 refine wpAny_dictSet_pairs (vM pw w k u) hD (fun h' hD' hs=> ?_) (by have:=ha.len;rw [qu];exact Ar.d2 this (qg (qv hz) (Ar.d rfl)))
 rw [stored_new (by rw [kd_keys ha];exact hn)] at hD'
 obtain ⟨o',ho',hI⟩:=Heap.dictOf_iff.mp hD'
 exact ⟨L',H.same hu hs ⟨o',ho',_,hI,ha.app (.one ⟨rfl,hT⟩),by simp;exact Nat.succ_lt_succ hz⟩ _,h⟩
theorem W.truD(hm:Mm (d,isD w T kds) L)(h:TT (!kds.isEmpty) L):W b w A L (truthy (.ref d)) TT:=W.mk fun s H=>by
 obtain ⟨kvs,hD,ha,hl⟩:=H.dct hm
 have:=ha.len
 refine wpAny_truthy_dict (H.notSys hm) hD (by exact Ar.i6 (Ar.d1 this hl) rfl) ⟨L,H.tok _,?_⟩
 have:kvs.isEmpty=kds.isEmpty:=by cases ha<;>rfl
 rw [this];exact h
theorem valueAt_none{kvs:List (Str×Value)}{k:Str}(h:k∉kvs.map (·.1)):valueAt kvs k=none:=by
 unfold valueAt
 rw [Option.map_eq_none_iff,List.find?_eq_none]
 intro kv hkv e
 exact h (by rw [←(by simpa using e:kv.1=k)];exact qA (f:=(·.1)) hkv)
noncomputable def isIV(d:Addr):Asn:=fun o=>o={cls:= .type "dict_items",data:= .fields #[.ref d]}
variable{ks:List Str}{a:Addr}
theorem setAddHashed_old{s:qe}{E:Value→qe→Prop}{o:Obj}{k:Str}{t:Tok}{Q:Bool→qe→Prop}(ho:s.heap.get? a=some o)(hS:isSt w ks o)(hn:k∈ks)(h:Q false s):wpAny (model pw w) A (setAddHashed a (.str k t) (hashStr w k)) Q E s:=by
 revert w A ks a s E o k t Q ho hS hn h
 funext w A ks a s E o k t Q ho hS hn h
 refine hkX (hS) ?_
 funext ⟨es,ep,tb,tks,hex,hd,hp,hk,hf,hled,hpl,hnd,hlt⟩
 have hel:=elS_ok hp
 have hsz:=elS_len hp
 have hkl:tks.length=ks.length:=by rw [←hk,qh]
 have hkey:(qJ pw w).is k (.str k t)=true:=vM pw w k t
 unfold setAddHashed setAddHashedIn
 refine qC (qc (zm ho hd hf ?_))
 dsimp only
 rw [byScan_of (knd:=qJ pw w) (x:= .str k t) rfl (by unfold scanBound;exact Ar.d1 (hsz.trans hkl) (zq hlt (Ar.d rfl))) hel]
 simp-iota only [if_true]
 unfold setAddByScan
 refine qc ?_
 refine qc (jI ?_)
 refine qc (wpAny_setScan_of hkey ho hd hf hel ?_)
 cases hr:List.findIdx? (fun e=>(qJ pw w).is k e.2) es.toList with
 |some j=>
  revert j;funext j hr
  exact qf (qf h)
 |none=>
  exfalso
  rw [←hk] at hn
  refine hkX (qw.mp hn) ?_
  funext ⟨p,h1,h2⟩
  have:=List.findIdx?_eq_none_iff.mp hr (elS w p) (hp.mem_iff.mpr (qA (f:=elS w) h1))
  rw [←h2,show (qJ pw w).is p.1 (elS w p).2=true from vM pw w p.1 p.2] at this
  cases this
noncomputable def withS(ks:List Str)(k:Str):List Str:=if k∈ks then ks else ks++ [k]
theorem W.addHashed{k:Str}{t:Tok}{Q:Bool→Led→Prop}(hu:Upd L a (isSt w ks) (isSt w (withS ks k)) L')(hz:ks.length<99)(h: ∀c,Q c L'):W b w A L (setAddHashed a (.str k t) (hashStr w k)) Q:=W.mk fun s H=>by
 obtain ⟨o,ho,hS⟩:=H.own _ hu.mem
 by_cases hn:k∈ks
 ·refine setAddHashed_old ho hS hn ⟨L',?_,h _⟩
  have:withS ks k=ks:=if_pos hn
  rw [this] at hu
  have hs:Qv a s.heap s.heap:=⟨rfl,fun fz fz=>rfl⟩
  exact H.same hu hs ⟨o,ho,hS⟩ s.toks
 ·refine setAddHashed_new ho hS hn hz fun h' o' hs ho' hS'=>⟨L',H.same hu hs ⟨o',ho',?_⟩ s.toks,h _⟩
  show isSt w (withS ks k) o'
  unfold withS
  rw [if_neg hn];exact hS'
theorem W.setAdd{k:Str}{t:Tok}{Q:Bool→Led→Prop}(hu:Upd L a (isSt w ks) (isSt w (withS ks k)) L')(hz:ks.length<99)(h: ∀c,Q c L'):W b w A L (setAdd a (.str k t)) Q:=by
 unfold PySem.setAdd
 refine W.holding (W.mk fun s H=>qc ((qJ pw w).pyHash (vM pw w k t) ?_))
 exact (W.addHashed hu hz h).run _ (H.tok _)
theorem W.newSt{Q:Value→Led→Prop}(h: ∀a,Q (.ref a) ((a,isSt w [])::L)):W b w A L (newSet (.type "set")) Q:=W.mk fun s H=>by
 unfold newSet setsByText
 refine qc (qc (jn (qf ?_)))
 dsimp only
 simp-iota only [newObj]
 refine qc (wpAny_alloc (qf ⟨_,H.alloc (P:=isSt w []) _ rfl ⟨#[],0,_,[],⟨rfl,rfl,rfl⟩,rfl,by simp,rfl,by rfl,?_,.inr rfl,.nil,by simp⟩,h _⟩))
 show _∨(!w.params.followText "set-order")=true
 cases w.params.followText "set-order"<;>simp
end
end
section
local macro_rules | `(tactic| size_fits) => return q "Mine.sf0 X r"
section
variable{b:qe}{w:World}{A:qq}{L L':Led}{R:Value→Led→Prop}{l:Addr}
noncomputable def isMs(w:World)(ks:List Str):Asn:=fun o=>o.SetObjOf (qJ pw w) (fun k=>decide (k∈ks)) ks.length∧ks.length<100
theorem St.ms{s:qe}{a:Addr}{ks:List Str}(H:St b s L)(hm:Mm (a,isMs w ks) L):s.heap.SetOf (qJ pw w) a (fun k=>decide (k∈ks)) ks.length:=by
 obtain ⟨o,ho,h,hz⟩:=H.own _ hm.mem
 exact h.setOf ho (by unfold scanBound;omega)
theorem W.inMs{a:Addr}{ks:List Str}{k:Str}{u:Tok}(hm:Mm (a,isMs w ks) L)(h:R (.bool (decide (k∈ks))) L):W b w A L (jd .In (.str k u) (.ref a)) R:=W.mk fun s H=>
 wpAny_inSet_of (vM pw w k u) rfl (H.ms hm) ⟨L,H.tok _,h⟩
theorem W.ninMs{a:Addr}{ks:List Str}{k:Str}{u:Tok}(hm:Mm (a,isMs w ks) L)(h:R (.bool (!decide (k∈ks))) L):W b w A L (jd .NotIn (.str k u) (.ref a)) R:=W.mk fun s H=>
 wpAny_notInSet_of (vM pw w k u) rfl (H.ms hm) ⟨L,H.tok _,h⟩
theorem W.addMs{a:Addr}{ks:List Str}{k:Str}{t:Tok}{Q:Bool→Led→Prop}(hu:Upd L a (isMs w ks) (isMs w (withS ks k)) L')(hz:ks.length<99)(h: ∀c,Q c L'):W b w A L (PySem.setAdd a (.str k t)) Q:=W.mk fun s H=>by
 unfold PySem.setAdd
 refine qC (qc ((qJ pw w).pyHash (vM pw w k t) ?_))
 have hS:=(H.tok (s.toks+1)).ms (mem_mm hu.mem)
 refine wpAny_setAddHashed_of (vM pw w k t) rfl hS (by unfold scanBound;omega) fun h' hs hS'=> ?_
 obtain ⟨o',ho',hO⟩:=hS'.objOf
 refine ⟨L',(H.tok (s.toks+1)).same hu hs ⟨o',ho',?_⟩ _,h _⟩
 have e1:(fun k'=>decide (k'∈ks)||decide (k'=k))=fun k'=>decide (k'∈withS ks k):=by
  funext k'
  unfold withS
  by_cases hn:k∈ks
  ·rw [if_pos hn]
   by_cases e:k'=k
   ·subst e;simp [hn]
   ·simp [e]
  ·rw [if_neg hn];simp
 have e2:(if decide (k∈ks)=true then ks.length else ks.length+1)=(withS ks k).length:=by
  unfold withS
  by_cases hn:k∈ks<;>simp [hn]
 rw [e1,e2] at hO
 refine ⟨hO,?_⟩
 rw [←e2];split<;>omega
theorem setLoop{x:Str}{S I:Addr}(hh:A.handled=none): ∀{s:qe},St b s ((I,isLI l 0)::(S,isMs w [])::L)→Mm (l,isL VS [x]) L→
  Qq (model pw w) A (.builtin "set.update.loop" ⟨[.ref S,.ref I],[]⟩) (fun r s'=>r= .ok (.ret .none)∧St b s' ((S,isMs w [x])::L)) s:=by
 revert b w A L l x S I hh
 funext b w A L l x S I hh
 funext s H hm
 refine jj F.entry_set_update_loop ?_
 rw [jc vm _]
 show wpAny _ A.in1 (jY (.ref I)>>=_) _ _ s
 have n1:W b w A.in1 ((I,isLI l 0)::(S,isMs w [])::L) (jY (.ref I)) fun r L2=>(∃t,r=some (Value.str x t))∧L2=(I,isLI l 1)::(S,isMs w [])::L:=
  W.nextL (T:=VS) (ds:= [x]) (i:=0) (d:=x) .head (.tail (.tail hm)) rfl (fun v hv=>by obtain ⟨t,e⟩:=hv;exact ⟨⟨t,by rw [e]⟩,rfl⟩)
 refine qc (n1.then H fun r s1 L1 H1 ⟨⟨t,e1⟩,e2⟩=> ?_)
 subst e1 e2
 show wpAny _ A.in1 (zv [Value.str x t] (PySem.setAdd S (.str x t))>>=_) _ _ s1
 have n3:W b w A.in1 ((I,isLI l 1)::(S,isMs w [])::L) (PySem.setAdd S (.str x t)) fun fz L2=>L2=(I,isLI l 1)::(S,isMs w [x])::L:=
  W.addMs (ks:= []) (k:=x) (t:=t) (.tail .head) (by simp) fun fz=>rfl
 refine qc (qC (n3.then H1 ?_))
 funext c s2 L2 H2 e
 subst e
 refine qf ⟨plainId_quiet vm _,jj F.entry_set_update_loop ?_⟩
 rw [jc vm _]
 show wpAny _ A.in1 (jY (.ref I)>>=_) _ _ s2
 have n2:W b w A.in1 ((I,isLI l 1)::(S,isMs w [x])::L) (jY (.ref I)) fun r L2=>r=none∧L2=(S,isMs w [x])::L:=
  W.nextL0 (T:=VS) (ds:= [x]) (i:=1) hh .head (.tail (.tail hm)) rfl ⟨rfl,rfl⟩
 refine qc (n2.then H2 ?_)
 funext r s3 L3 H3 ⟨e1,e2⟩
 subst e1 e2
 show wpAny _ A.in1 (PySem.ret Value.none) _ _ s3
 exact qf ⟨rfl,H3⟩
set_option maxHeartbeats 3200000 in
theorem W.setOf1{x:Str}(hh:A.handled=none)(hm:Mm (l,isL VS [x]) L)(h: ∀a,R (.ref a) ((a,isMs w [x])::L)):W b w A L (call (.type "set") [.ref l]) R:=W.mk fun s H=>by
 obtain ⟨vs,n,ha,el⟩:=H.lst hm
 obtain ⟨v,rfl,hv⟩:=ha.inv1
 obtain ⟨tx,rfl⟩:=hv
 obtain ⟨c,tl,hmro⟩:=PySem.F.called_set.mro
 have hmade:=PySem.F.called_set.made
 have hsub:=PySem.F.called_set.sub
 refine zL (codeAny_of_tree ?_)
 show wpAny _ _ (callAny (.type "set") _) _ _ _
 refine qf ⟨jD _ (by decide+kernel),jj PySem.F.entry_type_call ?_⟩
 rw [qq.under_plain (weight_type_call_type "set" [.ref l] []) rfl]
 have h1:=PySem.F.called_set.notType
 have h2:=PySem.F.called_set.canCreate
 have hct:=PySem.F.typeCall_set_1 (.ref l)
 repeat (any_goals (first|assumption|wp_step))
 refine vP (code_set_new_1 (.ref l) (E:=fun fz fz=>False) (Q₁:=fun obj s₁=> ∃led:Bool,obj= .ref s.heap.objs.size∧s₁={s with heap:=s.heap.push {cls:= .type "set",dict:=none,data:= .set #[] 0 (.fresh 0 0 led)}}) fun led=>⟨led,rfl,rfl⟩) fun r s₁ hr=> ?_
 match r,hr with
 | .ok (.ret obj),hr=>
 obtain ⟨led,rfl,rfl⟩:=hr
 have hS:(s.heap.push {cls:= .type "set",dict:=none,data:= .set #[] 0 (.fresh 0 0 led)}).get? s.heap.objs.size=some {cls:= .type "set",dict:=none,data:= .set #[] 0 (.fresh 0 0 led)}:=zK _ rfl
 have hT:qe.TypeIs {s with heap:=s.heap.push {cls:= .type "set",dict:=none,data:= .set #[] 0 (.fresh 0 0 led)}} (.ref s.heap.objs.size) "set":=⟨_,hS,rfl⟩
 have hli:=PySem.F.called_set.init.lookup
 have hbi:=PySem.F.called_set.init.bind (.ref s.heap.objs.size)
 repeat (any_goals (first|assumption|wp_step))
 refine vP (jb (R:=wants (fun r s₂=>r= .none∧Post b R (.ref s.heap.objs.size) s₂) (fun fz fz=>False)) PySem.F.called_set.init.plain PySem.F.entry_set_init (check_set_init_1 hT ?_)) fun r₂ s₂ hr₂=> ?_
 ·have hol':(s.heap.push {cls:= .type "set",dict:=none,data:= .set #[] 0 (.fresh 0 0 led)}).get? l=some {cls:= .type "list",dict:=none,data:= .seq #[.str x tx] n,slots:=#[]}:=qD _ el
  have hsls:=PySem.F.sub_list_set
  have hslf:=PySem.F.sub_list_frozenset
  have hne:(Value.type "list"==Value.type "dict")=false:=by decide
  have hl1:(s.heap.push {cls:= .type "set",dict:=none,data:= .set #[] 0 (.fresh 0 0 led)}).IsList l #[.str x tx]:=⟨_,hol',rfl,n,rfl⟩
  unfold Builtin.«set.__init__» noKeywords Builtin.Frozenset.updateFrom
  generalize hPI:pyIter=PI
  wp_walk
  subst hPI
  refine wpAny_pyIter_list hl1 ?_
  refine qc (wpAny_runValue ?_)
  have H1:=H.alloc (P:=isMs w []) {cls:= .type "set",dict:=none,data:= .set #[] 0 (.fresh 0 0 led)} rfl ⟨setObjOf_fresh led,by simp⟩
  have H2:=H1.alloc (P:=isLI l 0) {cls:= .type "list_iterator",data:= .fields #[.ref l,.int 0 0]} rfl ⟨rfl,rfl⟩
  refine vP (setLoop (A:=A.in1.in1) hh H2 hm) fun r s' ⟨e,H'⟩=> ?_
  subst e
  refine qf ?_
  show wpAny _ _ (PySem.ret Value.none) _ _ _
  exact qf ⟨rfl,_,H',h _⟩
 ·match r₂,hr₂ with
  | .ok (.ret r),hr₂=>
   obtain ⟨rfl,L',H',hq⟩:=hr₂
   repeat (any_goals (first|assumption|wp_step))
   exact ⟨L',H',hq⟩
  | .ok .next,hr₂=>exact hr₂.elim
  | .ok .brk,hr₂=>exact hr₂.elim
  | .ok .cont,hr₂=>exact hr₂.elim
  | .error _,hr₂=>exact hr₂.elim
 | .ok .next,hr=>exact hr.elim
 | .ok .brk,hr=>exact hr.elim
 | .ok .cont,hr=>exact hr.elim
 | .error _,hr=>exact hr.elim
end
end
section
structure Kw(w:World)(b:qe):Prop where
 d177: ∃h1 h2 h3 h4 h5 h6 h7 t1 t2 t3 t4 t5 t6 t7 n,b.heap.get? 177=some {cls:= .type "dict",data:=Data.dict (#[⟨h1,.str "with_comments" t1,.bool false⟩,⟨h2,.str "strip_text" t2,.bool false⟩,⟨h3,.str "rewrite_prefixes" t3,.bool false⟩,⟨h4,.str "qname_aware_tags" t4,.none⟩,⟨h5,.str "qname_aware_attrs" t5,.none⟩,⟨h6,.str "exclude_attrs" t6,.none⟩,⟨h7,.str "exclude_tags" t7,.none⟩]) n}
 d161: ∃o kvs,b.heap.get? 161=some o∧o.IsDictOf (qJ pw w) kvs∧kvs.length<100
noncomputable abbrev VU(_:Unit)(_:Value):Prop:=True
noncomputable abbrev VB(c:Bool)(v:Value):Prop:=v= .bool c
theorem All2.units: ∀(vs:List Value),All2 VU (vs.map fun fz=>()) vs
 | []=> .nil
 |_::r=> .cons trivial (All2.units r)
noncomputable abbrev fd184:=fdS (meth 17 0) "C14NWriterTarget.__init__" [] .none (.ref 177) etree 183 .none
noncomputable abbrev fd192:=fdS (meth 17 1) "C14NWriterTarget._iter_namespaces" [] (.ref 185) .none etree 191 .none
noncomputable abbrev fd207:=fdS (meth 17 3) "C14NWriterTarget._qname" [] (.ref 200) .none etree 206 .none
noncomputable abbrev fd237:=fdS (meth 17 7) "C14NWriterTarget.start" [] .none .none etree 236 .none
noncomputable abbrev fd243:=fdS (meth 17 8) "C14NWriterTarget._start" [] (.ref 238) .none etree 242 .none
noncomputable abbrev fd250:=fdS (meth 17 9) "C14NWriterTarget.end" [] .none .none etree 249 .none
noncomputable def plainD:Data→Prop:=fun d=>d= .plain
noncomputable abbrev isC(dx:Addr):Asn:=isI 267 dx plainD
section
variable{b:qe}{w:World}{A:qq}{L L':Led}{R:Value→Led→Prop}{F:Frag}{env:Env}{pos:Pos}{Q:Flow→Led→Prop}{rest body orelse:List Stmt}{l:Addr}
theorem W.baseItems(KW:Kw w b){pl:Sem Bool}{P:Value→Value→Led→Prop}(h:P (.builtin "dict.items") (.ref 161) L):W b w A L (vg (.ref 161) "items" pl) (MF P):=W.mk fun s H=>by
 obtain ⟨o,kvs,ho,hI,hl⟩:=KW.d161
 have hD:s.heap.DictOf (qJ pw w) 161 kvs:=Heap.dictOf_iff.mpr ⟨o,H.base ho (by obtain ⟨_,_,hx,_⟩:=hI;rw [hx.1];intro e;cases e),hI⟩
 exact getMethod_builtin hD.typeIs PySem.F.plainAttrs_dict vY PySem.F.type_dict_items hD.mapOf.noDict ⟨L,H,_,_,rfl,h⟩
theorem W.baseView(KW:Kw w b)(h: ∀v,R (.ref v) ((v,isIV 161)::L)):W b w A L (call (.builtin "dict.items") [.ref 161]) R:=W.mk fun s H=>by
 obtain ⟨o,kvs,ho,hI,hl⟩:=KW.d161
 have hD:s.heap.DictOf (qJ pw w) 161 kvs:=Heap.dictOf_iff.mpr ⟨o,H.base ho (by obtain ⟨_,_,hx,_⟩:=hI;rw [hx.1];intro e;cases e),hI⟩
 refine call_meetsIn vY hD.typeIs PySem.F.entry_dict_items (PySem.F.args_dict_items_1 _) (meets_dict_items (qJ pw w) 161 (by decide)) ⟨⟨_,hD⟩,?_⟩
 exact ⟨_,H.alloc (P:=isIV 161) _ rfl rfl,h _⟩
theorem W.baseList(KW:Kw w b)(hh:A.handled=none){v:Addr}(hm:Mm (v,isIV 161) L)(h: ∀a us,R (.ref a) ((a,isL VU us)::L)):W b w A L (call (.type "list") [.ref v]) R:=W.mk fun s H=>by
 obtain ⟨o,kvs,ho,hI,hl⟩:=KW.d161
 have hD:s.heap.DictOf (qJ pw w) 161 kvs:=Heap.dictOf_iff.mpr ⟨o,H.base ho (by obtain ⟨_,_,hx,_⟩:=hI;rw [hx.1];intro e;cases e),hI⟩
 obtain ⟨ep,hDA⟩:=hD.dictAt
 obtain ⟨_,hv,rfl⟩:=H.own _ hm.mem
 refine kdx_call (knd:=qJ pw w) hh ⟨_,hv,rfl,rfl⟩ hDA (by rw [qu];omega) fun h' tk acc c as hk hl' fz fz fz=> ?_
 refine ⟨_,H.ext (P:=isL VU (acc.toList.map fun fz=>())) hk (zg _) ⟨_,hl',acc.toList,c,All2.units _,by simp [listO]⟩,h _ _⟩
theorem W.newCan{args:List Value}{kw:List (Str×Value)}(K:Kn b)(KC:Kc F b)(h: ∀dx x,WD b w ((A.under (.builtin "type.__call__" ⟨.ref 267::args,kw⟩))) ((x,isC dx)::(dx,isAt [])::L) (.call (.ref 184) ⟨.ref x::args,kw⟩) fun v L'=>v= .none∧R (.ref x) L'):
  W b w A L (call (.ref 267) args kw) R:=W.mk fun s H=>by
 obtain ⟨hp,g,d,t,os⟩:=s
 refine zL (make_core (makes_of (KC.at H) KC.canNew) (jw (KC.at H) (KC.can.find (qb "__init__",some (.ref 184)) (by decide+kernel))) (fun self=>bindFn K (by tb_rel) H self) (.inl rfl) ?_)
 have H1:St b ⟨hp.push QO,g,d,t,os⟩ ((hp.objs.size,isAt [])::L):=H.alloc (P:=isAt []) QO rfl ⟨[],0,.nil,rfl⟩
 have H2:=H1.alloc (P:=isC hp.objs.size) (instObj 267 hp.objs.size) rfl ⟨.plain,rfl,fun fz e=>(nomatch e),rfl⟩
 rw [Heap.size_push] at H2
 refine vP ((h _ _).run _ H2) fun r s' z=> ?_
 match r,z with
 | .error _,z=>exact z
 | .ok .next,z=>exact z
 | .ok .brk,z=>exact z
 | .ok .cont,z=>exact z
 | .ok (.ret v),⟨L',H',e,z⟩=>exact ⟨e,L',H',z⟩
theorem Rm.tck{n:Nat}{C:Addr}{args:List Value}{kw:List (Str×Value)}(h:Rm (n+1) A):Rm n (A.under (.builtin "type.__call__" ⟨.ref C::args,kw⟩)):=by
 have h1:(Qg "type.__call__" ⟨.ref C::args,kw⟩).weight=1:=by rfl
 have h2:(Qg "type.__call__" ⟨.ref C::args,kw⟩).cUnits=1:=by rfl
 have h3:(Qg "type.__call__" ⟨.ref C::args,kw⟩).envs= []:=by rfl
 refine ⟨?_,?_,h.handled,?_⟩
 ·have:=h.depth;show A.depth+Code.weight _+n<1000;rw [h1];exact Ar.d1 (zG _ _ _) this
 ·have:=h.units;show A.units+Code.cUnits _+20*n<9000;rw [h2];exact Ar.s3 this rfl
 ·have:=h.frames;rw [show (A.under (.builtin "type.__call__" ⟨.ref C::args,kw⟩)).frames=pushEnvs (Qg "type.__call__" ⟨.ref C::args,kw⟩).envs A.frames from rfl,h3];exact this
theorem W.iffF{test:Expr}(h:W b w A L (isTrue test env (eval test env)) fun c L1=>c=false∧W b w A L1 (execs orelse env) (SQ b w A env rest Q)):W b w A L (execs (.If test body orelse pos::rest) env) Q:=
 W.iff (h.mono fun c L1 ⟨e,h1⟩=>by subst e;exact h1)
theorem W.iffT{test:Expr}(h:W b w A L (isTrue test env (eval test env)) fun c L1=>c=true∧W b w A L1 (execs body env) (SQ b w A env rest Q)):W b w A L (execs (.If test body orelse pos::rest) env) Q:=
 W.iff (h.mono fun c L1 ⟨e,h1⟩=>by subst e;exact h1)
end
end
section
structure WrC where
 (x dx bo wl dl ea et nsd d0 t0 nss ps pm:Addr)
 (u1 u2:Tok)
noncomputable abbrev uriL:Str:="http://www.w3.org/XML/1998/namespace"
noncomputable abbrev xmlT(u1 u2:Tok):Asn:=isT VV [.str uriL u1,.str (qb "xml") u2]
noncomputable abbrev wrAt(c:WrC)(rs rd:Bool)(ig:Value):List (Str×Value):= [("_write",.ref c.bo),("_data",.ref c.dl),("_with_comments",.bool false),("_strip_text",.bool false),("_exclude_attrs",.ref c.ea),("_exclude_tags",.ref c.et),("_rewrite_prefixes",.bool false),("_qname_aware_tags",.none),("_find_qname_aware_attrs",.none),
 ("_declared_ns_stack",.ref c.nsd),("_ns_stack",.ref c.nss),("_prefix_map",.ref c.pm),("_preserve_space",.ref c.ps),("_pending_start",.none),("_root_seen",.bool rs),("_root_done",.bool rd),("_ignored_depth",ig)]
noncomputable def nsL(ds:List Addr):Led:=ds.map fun a=>(a,isL VR ([]:List Addr))
section
variable{b:qe}{w:World}{A:qq}{L L':Led}{R:Value→Led→Prop}{F:Frag}{env:Env}{pos:Pos}
theorem W.setC{x dx:Addr}{kvs kvs':List (Str×Value)}{name:Str}{v:Value}{Q:Unit→Led→Prop}(KC:Kc F b)(hn:Mm (name,none) canTab)(hx:Mm (x,isC dx) L)(hu:Upd L dx (isAt kvs) (isAt kvs') L')(hp:PutA kvs name v kvs')(hz:kvs.length≤1000)(q:Q () L'):W b w A L (setAttr (.ref x) name v) Q:=
 W.setA KC KC.can refuse_can (by decide+kernel) (by tb_rel) hn hx hu hp hz q
theorem W.getC{x dx:Addr}{kvs:List (Str×Value)}{name:Str}{v:Value}{ex:Bool}(KC:Kc F b)(hn:Mm (name,none) canTab)(hx:Mm (x,isC dx) L)(hd:Mm (dx,isAt kvs) L)(hl:Lk kvs name v)(hv:handedIn v=true)(h:R v L):W b w A L (getAttr (.ref x) name ex) R:=
 W.getI KC KC.can hx hd (by tb_rel) hn hl hv h
end
end
local macro_rules | `(tactic| dict_keeps) => return q "[ Mine.PutA.nil P Mine.PutA.head P Mine.PutA.tail tacticKernel_rfl:kernel_rfl B #1 P tacticDict_keeps:dict_keeps ; O r"
local macro_rules | `(tactic| dict_fit) => return q "[ Mine.Lk.head P Mine.Lk.tail tacticKernel_rfl:kernel_rfl B #1 P PyProof.Rows.tacticDict_fit:dict_fit ; O r"
local macro_rules | `(tactic| k_memK) => return q ("[ " ++ al "Mine.W." "R" "" "attr:kh asgA:Kh augA:h setC:atttsSh getC:atttfrh" ++ " O r")
section
section
variable{b:qe}{w:World}{A:qq}{L L':Led}{R:Value→Led→Prop}{F:Frag}{env:Env}{pos:Pos}
set_option tactic.hygienic true in
theorem init_can_ok{x dx bo wl lt la:Addr}{letter other:Str}{written:List Str}(K:Kn b)(KC:Kc F b)(KW:Kw w b)(hA:Rm 2 A)(hlt:Mm (lt,isL VS [letter]) L)(hla:Mm (la,isL VS [other]) L)
  (q: ∀dl ea et nsd d0 t0 nss ps pm ti u1 u2,R .none ((x,isC dx)::(dx,isAt (wrAt ⟨x,dx,bo,wl,dl,ea,et,nsd,d0,t0,nss,ps,pm,u1,u2⟩ false false (.int 0 ti)))::(dl,isL VR ([]:List Addr))::(ea,isMs w [other])::(et,isMs w [letter])::(nsd,isL VR [d0])::(d0,isL VR [t0])::(t0,xmlT u1 u2)::(nss,isL VU ([]++ [()]++ [()]))::(ps,isL VB [false])::L)):
  WD b w A ((x,isC dx)::(dx,isAt [])::L) (.call (.ref 184) ⟨[.ref x,.ref bo],[(qb "exclude_tags",.ref lt),(qb "exclude_attrs",.ref la)]⟩) R:=by
 revert b w A L R F x dx bo wl lt la letter other written K KC KW hA hlt hla q
 funext b w A L R F x dx bo wl lt la letter other written K KC KW hA hlt hla q
 refine hkX (KW.d177) ?_
 funext ⟨h1,h2,h3,h4,h5,h6,h7,t1,t2,t3,t4,t5,t6,t7,n,e177⟩
 refine WD.fnAt (fd:=fd184) 9 [(qb "self",some (.ref x)),(qb "write",some (.ref bo)),(qb "with_comments",some (.bool false)),(qb "strip_text",some (.bool false)),(qb "rewrite_prefixes",some (.bool false)),(qb "qname_aware_tags",some .none),(qb "qname_aware_attrs",some .none),
  (qb "exclude_attrs",some (.ref la)),(qb "exclude_tags",some (.ref lt))] K (by tb_rel) hA rfl (fun fz H=>kp_binds (frag1 H e177 (by intro h;cases h)) fun S=>by kernel_rfl) (by kernel_rfl) (by kernel_rfl) ?_
 funext La hA
 refine Wt.of ?_
 refine W.asgA (by kernel_rfl!) ?_
 repeat tb_start
 refine W.list0 (T:=VR) (α:=Addr) ?_
 funext dl
 repeat tb_start
 refine W.truL (T:=VS) (ds:= [other]) (by tb_rel) (by simp) ?_
 refine ⟨?_,fun e=>nomatch e⟩
 funext _
 repeat tb_start
 refine W.setOf1 (x:=other) hA.handled (by tb_rel) ?_
 funext ea
 repeat tb_start
 refine W.truL (T:=VS) (ds:= [letter]) (by tb_rel) (by simp) ?_
 refine ⟨?_,fun e=>nomatch e⟩
 funext _
 repeat tb_start
 refine W.setOf1 (x:=letter) hA.handled (by tb_rel) ?_
 funext et
 repeat tb_start
 refine W.iffF ?_
 repeat tb_start
 refine ⟨rfl,?_⟩
 repeat tb_start
 refine W.nil ?_
 refine W.iffF ?_
 repeat tb_start
 refine ⟨rfl,?_⟩
 repeat tb_start
 refine W.nil ?_
 repeat tb_start
 rename_i u1 u2
 refine W.newT (T:=VV) (ds:=_) (All2.vv _) (by simp) ?_
 funext t0
 refine W.newL (T:=VR) (ds:= [t0]) (.one rfl) (by simp) ?_
 funext d0
 refine W.newL (T:=VR) (ds:= [d0]) (.one rfl) (by simp) ?_
 funext nsd
 repeat tb_start
 refine W.list0 (T:=VU) (α:=Unit) ?_
 funext nss
 repeat tb_start
 refine ⟨?_,fun e=>nomatch e⟩
 funext _
 repeat tb_start
 refine W.baseItems KW ?_
 repeat tb_start
 refine W.baseView KW ?_
 funext vw
 repeat tb_start
 refine W.baseList KW hA.handled (by tb_rel) ?_
 funext la' us
 repeat tb_start
 refine W.append (T:=VU) (d:=()) (by tb_rel) (by simp) trivial ?_
 refine W.nil ?_
 repeat tb_start
 refine W.list0 (T:=VU) (α:=Unit) ?_
 funext _
 repeat tb_start
 refine W.append (T:=VU) (d:=()) (by tb_rel) (by simp) trivial ?_
 repeat tb_start
 refine W.newD (T:=VU) (α:=Unit) ?_
 funext pm
 repeat tb_start
 refine W.newL (T:=VB) (ds:= [false]) (.one rfl) (by simp) ?_
 funext ps
 repeat tb_start
 rename_i ti
 refine W.nil ⟨_,?_,q dl ea et nsd d0 t0 nss ps pm ti u1 u2⟩
 dl_keep
end
end
section
noncomputable def isRvI(l:Addr)(i:Int):Asn:=fun o=>o.cls= .type "list_reverseiterator"∧o.data= .fields #[.ref l,zw i]
section
variable{b:qe}{w:World}{A:qq}{L L':Led}{R:Value→Led→Prop}{F:Frag}{env:Env}{pos:Pos}{α:Type}{T:α→Value→Prop}{ds:List α}{l it:Addr}
theorem W.rev(hm:Mm (l,isL T ds) L)(h: ∀it,R (.ref it) ((it,isRvI l ((ds.length:Int)-1))::L)):W b w A L (call (.type "reversed") [.ref l]) R:=W.mk fun s H=>by
 obtain ⟨vs,n,ha,e⟩:=H.lst hm
 refine call_reversed_list (listO_is e) ⟨_,H.alloc (P:=isRvI l ((ds.length:Int)-1)) _ rfl ⟨rfl,?_⟩,h _⟩
 rw [←ha.len,qo];rfl
theorem W.nextV{i:Nat}{d:α}{P:Option Value→Led→Prop}(hu:Upd L it (isRvI l i) (isRvI l ((i:Int)-1)) L')(hm:Mm (l,isL T ds) L)(hd:ds[i]? =some d)(h: ∀v,T d v→P (some v) L'):W b w A L (jY (.ref it)) P:=W.mk fun s H=>by
 obtain ⟨vs,n,ha,e⟩:=H.lst hm
 obtain ⟨o,ho,h1,h2⟩:=H.own _ hu.mem
 obtain ⟨v,hv,hT⟩:=ha.get hd
 exact wpAny_pyNext_rev_item (i:=i) ⟨o,ho,h1,h2⟩ (listO_is e) (x:=v) (by simpa using hv) fun h' ⟨o',ho',q⟩ hs=>⟨L',H.same hu hs ⟨o',ho',q⟩ s.toks,h v hT⟩
theorem W.nextV0{P:Option Value→Led→Prop}(hh:A.handled=none)(hp:Pick L (it,isRvI l (-1)) L')(h:P none L'):W b w A L (jY (.ref it)) P:=W.mk fun s H=>by
 have H1:=H.perm hp.perm
 obtain ⟨o,ho,h1,h2⟩:=H1.own _ (.head _)
 exact wpAny_pyNext_rev_end hh ⟨o,ho,h1,h2⟩ fun h' hx=>⟨L',H1.gone hx s.toks,h⟩
structure GS(b:qe)(w:World)(A:qq)(R:GenEnd)(Y:Protocol)(n:Nat)(s₀:qe)(c:Code)(fs:List Frame)(L:Led)(t:Sem vi):Prop where
 run: ∀s,St b s L→Seg (model pw w) A R Y n s₀ c t fs s
variable{R:GenEnd}{Y:Protocol}{n:Nat}{s₀:qe}{c:Code}{fs:List Frame}{β γ:Type}{K':γ→Sem vi}{H':Value→Sem vi}{gd:Bool→Bool}{lv:List Value→List Value}
theorem GS.bw{m:Sem β}{K:β→Sem γ}(h:W b w (A.over c fs) L m fun a L1=>GS b w A R Y n s₀ c fs L1 ((K a).wrap K' H' gd lv)):GS b w A R Y n s₀ c fs L ((m>>=K).wrap K' H' gd lv):=
 ⟨fun s H=>seg_bind_wrap (h.then H fun a s' L1 H1 h1=>h1.run s' H1)⟩
theorem GS.For{target iter:Expr}{body:List Stmt}{K:Flow→Sem vi}(hs: ∀x,zE iter env x=qj x)
  (h:W b w (A.over c fs) L (eval iter env) fun x L1=>W b w (A.over c fs) L1 (pyIter x) fun it L2=> ∀p,GS b w A R Y n s₀ (.forLoop target it body [] env)
   (.ret (fun r=>((match r with| .ok f=>(.pure f:Sem Flow)| .error e=> .raise e).onRaise fun (x:Value)=>do
    if (←field x 1)==Value.none then unsupported "frame.own-activation:exception-without-traceback"
    setFlight x env.frame).wrap K H' gd lv) none (gd false) (lv []) c p []::fs) L2 ((model pw w).den (.forLoop target it body [] env))):
  GS b w A R Y n s₀ c fs L ((exec (.For target iter body [] pos) env).wrap K H' gd lv):=by
 show GS b w A R Y n s₀ c fs L ((jS pos>>=fun fz=>eval iter env>>=fun v=>zE iter env v>>=fun x=>jS iter.pos>>=fun fz=>zv [x] (pyIter x)>>=fun it=>runOwn (.forLoop target it body [] env) env).wrap K H' gd lv)
 refine GS.bw (W.stand (GS.bw (h.mono fun x L1 h1=>GS.bw (W.eq (hs x) (W.pure (GS.bw (W.stand (GS.bw (W.holding (h1.mono fun it L2 h2=> ?_))))))))))
 exact ⟨fun s H=>seg_call fun p=>(h2 p).run s H⟩
theorem GS.turn{target:Expr}{body:List Stmt}{it:Value}(h:W b w (A.over (.forLoop target it body [] env) fs) L (jY it) fun r L1=>match r with
   |none=>GS b w A R Y n s₀ (.forLoop target it body [] env) fs L1 (.pure (.again (.block [] env)))
   |some v=>W b w (A.over (.forLoop target it body [] env) fs) L1 (zF target it v) fun fz L2=>W b w (A.over (.forLoop target it body [] env) fs) L2 (QS target env v) fun fz L3=>
     GS b w A R Y n s₀ (.forLoop target it body [] env) fs L3 ((execs body env).wrap (fun f=>match f with
      | .next| .cont=> .pure (.again (.forLoop target it body [] env))
      | .brk=> .pure (.done .next)
      | .ret v=> .pure (.done (.ret v))) (fun e=>(do noteFrame e env;theTreesLotGoes e:Sem Unit).wrap (fun fz=> .raise e) .raise id id) id id)):
  GS b w A R Y n s₀ (.forLoop target it body [] env) fs L ((model pw w).den (.forLoop target it body [] env)):=by
 revert b w A L env R Y n s₀ fs target body it h
 funext b w A L env R Y n s₀ fs target body it h
 refine ⟨?_⟩
 funext s H
 show Seg _ A R Y n s₀ _ ((forTurn target it body [] env).onRaise (fun x=>do noteFrame x env;theTreesLotGoes x)) fs s
 unfold forTurn
 rw [Sem.onRaise_eq_wrap]
 refine seg_bind_wrap (vp ?_)
 refine seg_bind_wrap (wpAny_onRaise (h.then H ?_))
 funext r s1 L1 H1 h1
 cases r with
 |none=>exact h1.run s1 H1
 |some v=>
  revert v;funext v h1
  refine seg_bind_wrap (h1.then H1 fun fz s2 L2 H2 h2=>seg_bind_wrap (h2.then H2 fun fz s3 L3 H3 h3=> ?_))
  rw [Sem.bind_eq_wrap',Sem.wrap_wrap]
  have:=h3.run s3 H3
  rw [Sem.wrap_congr (execs body env) _ _ (K':=fun f=>match f with
      | .next| .cont=> .pure (.again (.forLoop target it body [] env))
      | .brk=> .pure (.done .next)
      | .ret v=> .pure (.done (.ret v))) (H':=(fun e=>(do noteFrame e env;theTreesLotGoes e:Sem Unit).wrap (fun fz=> .raise e) .raise id id))
    (fun f=>by cases f<;>rfl)
    (fun e=>by first|exact Sem.bind_eq_wrap _ _|(show (do noteFrame e env;theTreesLotGoes e:Sem Unit).bind (fun fz=> .raise e)=_;rw [Sem.bind_eq_wrap]))]
  exact this
end
end
section
section
variable{b:qe}{w:World}{A:qq}{L L':Led}{F:Frag}{env:Env}{pos:Pos}{l it:Addr}{R:GenEnd}{Y:Protocol}{n:Nat}{s₀:qe}{c:Code}{fs:List Frame}{β γ:Type}{gd:Bool→Bool}{lv:List Value→List Value}{K:Flow→Sem vi}{H':Value→Sem vi}
theorem GS.seq{st:Stmt}{rest:List Stmt}(h:GS b w A R Y n s₀ c fs L ((exec st env).wrap (fun f=>match f with| .next=>(execs rest env).wrap K H' gd lv|f=>K f) H' gd lv)):GS b w A R Y n s₀ c fs L ((execs (st::rest) env).wrap K H' gd lv):=⟨fun s H=>seg_execs_cons (h.run s H)⟩
theorem GS.nil(h:GS b w A R Y n s₀ c fs L (K .next)):GS b w A R Y n s₀ c fs L ((execs [] env).wrap K H' gd lv):=⟨fun s H=>seg_execs_nil (h.run s H)⟩
theorem GS.If{test:Expr}{body:List Stmt}(h:W b w (A.over c fs) L (isTrue test env (eval test env)) fun t L1=>(t=true→GS b w A R Y n s₀ c fs L1 ((execs body env).wrap K H' gd lv))∧(t=false→GS b w A R Y n s₀ c fs L1 (K .next))):
  GS b w A R Y n s₀ c fs L ((exec (.If test body [] pos) env).wrap K H' gd lv):=by
 show GS b w A R Y n s₀ c fs L ((jS pos>>=fun fz=>isTrue test env (eval test env)>>=fun t=>if t=true then execs body env else execs [] env).wrap K H' gd lv)
 refine GS.bw (W.stand (GS.bw (h.mono fun t L1 h1=> ?_)))
 cases t with
 |true=>exact h1.1 rfl
 |false=>exact GS.nil (env:=env) (h1.2 rfl)
theorem GS.again{c':Code}(hq:c'.quiet=true)(h:GS b w A R Y n s₀ c' fs L ((model pw w).den c')):GS b w A R Y n s₀ c fs L (.pure (.again c')):=⟨fun s H=>seg_again hq (h.run s H)⟩
theorem entry_yf:entryFor table "proto.yield_from"=some Builtin.«proto.yield_from»:=entryFor_of_tree (by kernel_rfl)
theorem den_bi(w:World){id:String}{args:Args}{B:Builtin}(hb:entryFor table id=some B):(model pw w).den (.builtin id args)=B args:=by
 show (match entryFor table id with|some b=>b args|none=>unsupported ((withoutEnding? id "#data").getD id))=_
 rw [hb]
theorem noClose_li:typeLookup (.type "list_iterator") "close"=qj none:=by rw [vD,zQ];kernel_rfl
noncomputable abbrev yfC(J:Addr):Code:= .builtin "proto.yield_from" ⟨[.ref J,.bool false,.none],[]⟩
theorem GS.yf{J d0 t0:Addr}{L2 L3:Led}(hfs:splitAtGen fs=none)(hfg:fs.any Frame.guarded=false)(hh':(A.over (yfC J) fs).handled=none)(hm:Mm (d0,isL VR [t0]) L)(hu:Upd L J (isLI d0 0) (isLI d0 1) L')(hm2:Mm (d0,isL VR [t0]) L2)(hp2:Pick L2 (J,isLI d0 1) L3)
  (hY: ∀s' kap,St b s' L'→(∀s'',St b s'' L2→kap (.send .none) s'')→Y n s₀ (.ref t0) s' kap) (h2: ∀s'',GS b w A R Y n s'' (yfC J) fs L3 (leafOf (.ok (.ret .none)))):GS b w A R Y (n+1) s₀ (yfC J) fs L ((model pw w).den (yfC J)):=by
 refine ⟨fun s H=> ?_⟩
 rw [den_bi w entry_yf]
 obtain ⟨od,hod,vs,k,ha,rfl⟩:=H.own _ hm.mem
 obtain ⟨v,rfl,hv⟩:=ha.inv1
 cases hv
 obtain ⟨oj,hoj,j1,j2⟩:=H.own _ hu.mem
 have hit:s.heap.IsListIter J d0 0:=⟨oj,hoj,j1,j2⟩
 show Seg _ A R Y (n+1) s₀ _ ((Sem.attempt _>>=_)) fs s
 refine seg_bind (vq (qC ?_))
 rw [if_neg qx,if_pos (show (Value.none==Value.none)=true from rfl)]
 refine qc (jI (qc (jA (name:=qb "__next__") hit.typeIs zI (zr zI hit.typeIs entry_listiter_next ?_ (args_listiter_next _)))))
 show wpAny _ _ (field (.ref J) 0>>=_) _ _ s
 refine qc (jL hoj j2 (x:= .ref d0) rfl ?_)
 show wpAny _ _ (if (Value.ref d0==Value.none)=true then _ else _) _ _ s
 rw [if_neg (show ¬((Value.ref d0==Value.none)=true) from qx)]
 show wpAny _ _ (field (.ref J) 1>>=_) _ _ s
 refine qc (jL hoj j2 (x:= .int 0 0) rfl ?_)
 show wpAny _ _ (seqItems? (.ref d0)>>=_) _ _ s
 refine qc (vy hod rfl ?_)
 refine qc (wpAny_setField hoj j2 (by simp) (qf ⟨.ref t0,rfl,qf ?_⟩))
 have hg1:=zR (Obj.mapFields fun x=>x.setIfInBounds 1 (zw (0+1))) hoj (Obj.isFreed_of_fields (Obj.data_mapFields j2 _))
 have hcl1:(Obj.mapFields (fun x=>x.setIfInBounds 1 (zw (0+1))) oj).cls= .type "list_iterator":=(Obj.cls_mapFields ..).trans j1
 have H1:St b {s with heap:=s.heap.update J (Obj.mapFields fun x=>x.setIfInBounds 1 (zw (0+1))),toks:=s.toks} L':=H.same hu (qK ..) ⟨_,hg1,hcl1,by rw [Obj.data_mapFields j2];simp [zw]⟩ s.toks
 have hT1:qe.TypeIs {s with heap:=s.heap.update J (Obj.mapFields fun x=>x.setIfInBounds 1 (zw (0+1))),toks:=s.toks} (.ref J) "list_iterator":=⟨_,hg1,hcl1⟩
 dsimp only
 refine seg_bind (jx hT1 ?_)
 dsimp only
 refine seg_bind (ze noClose_li (seg_bind (qf ?_)))
 refine seg_bind ?_
 unfold Builtin.Generator.sleptOver
 refine qc (Qk hg1 ?_)
 rw [hcl1,if_pos (by decide)]
 refine qf ?_
 refine seg_yield hfs rfl hfg (hY _ _ H1 fun s2 H2=> ?_)
 have H3:=H2.perm hp2.perm
 obtain ⟨oj2,hoj2,j3,j4⟩:=H3.own _ (.head _)
 have hit2:s2.heap.IsListIter J d0 1:=⟨oj2,hoj2,j3,j4⟩
 obtain ⟨od2,hod2,vs2,k2,ha2,rfl⟩:=H2.own _ hm2.mem
 obtain ⟨v2,rfl,hv2⟩:=All2.inv1 ha2
 cases hv2
 refine seg_bind ?_
 refine qf ?_
 refine seg_bind ?_
 refine qc (Qk hoj2 ?_)
 rw [j3,if_pos (by decide)]
 refine qf ?_
 refine seg_bind (qf ?_)
 refine seg_again (jD _ (by decide+kernel)) ?_
 rw [den_bi w entry_yf]
 show Seg _ A R Y n s2 _ ((Sem.attempt _>>=_)) fs s2
 refine seg_bind (vq (qC ?_))
 rw [if_neg qx,if_pos (show (Value.none==Value.none)=true from rfl)]
 refine qc (jI (qc (jA (name:=qb "__next__") hit2.typeIs zI (zr zI hit2.typeIs entry_listiter_next ?_ (args_listiter_next _)))))
 show wpAny _ _ (field (.ref J) 0>>=_) _ _ s2
 refine qc (jL hoj2 j4 (x:= .ref d0) rfl ?_)
 show wpAny _ _ (if (Value.ref d0==Value.none)=true then _ else _) _ _ s2
 rw [if_neg (show ¬((Value.ref d0==Value.none)=true) from qx)]
 show wpAny _ _ (field (.ref J) 1>>=_) _ _ s2
 refine qc (jL hoj2 j4 (x:= .int 1 0) rfl ?_)
 show wpAny _ _ (seqItems? (.ref d0)>>=_) _ _ s2
 refine qc (vy hod2 rfl ?_)
 refine qc (jI (qc (wpAny_setField hoj2 j4 (by simp) ?_)))
 show wpAny _ _ (newExc (.type "StopIteration") []>>=_) _ _ _
 refine qc ?_
 simp-iota only [newExc,newTuple]
 refine qc (qM ?_ (by size_fits))
 refine qc (m:=Qm _ _) (ze (a:=Value.none) (by first|rfl|(simp-iota only [Qm];rfl)) ?_)
 refine qM ?_ (by size_fits)
 simp-iota only [raiseNew]
 refine qc (wpAny_handled ?_)
 rw [show (A.over (yfC J) fs).in1.handled=none from hh']
 refine qc (qf (wpAny_throw ?_))
 have hgE: ∀(hp:Heap) (o:Obj),o.isFreed=false→(hp.push o).get? hp.objs.size=some o:=fun hp o e=>zK _ e
 refine seg_bind ?_
 unfold Builtin.Generator.endsTheTurnAsAValue Builtin.Generator.isStopAndMetaclass
 refine qc (qc (jx (T:="StopIteration") ⟨_,hgE _ _ rfl,rfl⟩ ?_))
 dsimp only
 refine qc (ze isSubtype_stop (qc (ze (a:=Value.type "type") (by kernel_rfl) (qf ?_))))
 dsimp only
 rw [if_neg qx]
 refine qf ?_
 rw [if_pos rfl,if_neg qx]
 refine seg_bind (jI (seg_bind (jL (hgE _ _ rfl) rfl (x:= .none) (by first|rfl|simp) ?_)))
 refine (h2 s2).run _ (H3.gone (h':=_) ?_ _)
 exact (((qK ..).extBut.push _).push _)
end
end
section
section
variable{b:qe}{w:World}{A:qq}{L L':Led}{F:Frag}{env:Env}{pos ypos:Pos}{l it:Addr}{R:GenEnd}{Y:Protocol}{n:Nat}{s₀:qe}{c:Code}{fs:List Frame}{β γ:Type}{gd:Bool→Bool}{lv:List Value→List Value}{K:Flow→Sem vi}{H':Value→Sem vi}
theorem GS.yfS{value:Expr}{d0 t0:Addr}{L2:Led}(hi:interactive env=false)(hfs:splitAtGen fs=none)(hfg:fs.any Frame.guarded=false)(hgd:gd false=false)(hh': ∀J p k,(A.over (yfC J) (.ret k none (gd false) (lv []) c p []::fs)).handled=none)
  (hv:W b w (A.over c fs) L (eval value env) fun v L1=>v= .ref d0∧L1=L) (hm:Mm (d0,isL VR [t0]) L) (hm2:Mm (d0,isL VR [t0]) L2)
  (hY: ∀J s' kap,St b s' ((J,isLI d0 1)::L)→(∀s'',St b s'' ((J,isLI d0 1)::L2)→kap (.send .none) s'')→Y n s₀ (.ref t0) s' kap) (h2: ∀s'',GS b w A R Y n s'' c fs L2 (K .next)):
  GS b w A R Y (n+1) s₀ c fs L ((exec (.Expr (.YieldFrom value ypos) pos) env).wrap K H' gd lv):=by
 rw [exec_Expr env (.YieldFrom value ypos) pos hi rfl]
 show GS b w A R Y (n+1) s₀ c fs L ((jS pos>>=fun fz=>(eval value env>>=fun v=>jS ypos>>=fun fz=>yieldFrom env v)>>=fun x=>dropValue (.YieldFrom value ypos) pos x).wrap K H' gd lv)
 refine GS.bw (W.stand ?_)
 rw [zJ]
 refine GS.bw (hv.mono fun v L1 ⟨e1,e2⟩=> ?_)
 subst e1 e2
 rw [zJ]
 refine GS.bw (W.stand ?_)
 unfold yieldFrom
 rw [zJ]
 refine GS.bw (W.mk fun s H=>jx (tyL H hm) ⟨L1,H,?_⟩)
 rw [if_neg (by decide),zJ]
 refine GS.bw (W.holding (W.iterL (T:=VR) (ds:= [t0]) hm fun J=> ?_))
 refine ⟨fun s H=>seg_call fun p=> ?_⟩
 have e1: ∀k:Result→Sem vi,splitAtGen (.ret k none (gd false) (lv []) c p []::fs)=none:=fun k=>by
  show (splitAtGen fs).map _=none
  rw [hfs];rfl
 refine (GS.yf (L2:=(J,isLI d0 1)::L2) (L3:=L2) (e1 _) ?_ (hh' J p _) (.tail hm) .head (.tail hm2) .head (hY J) fun s''=>⟨fun s3 H3=>seg_leaf (.ok (.ret .none)) ((h2 s'').run s3 H3)⟩).run s H
 rw [List.any_cons,hfg,Bool.or_false]
 exact hgd
end
end
section
section
variable{b:qe}{w:World}{A:qq}{L L':Led}{F:Frag}{env:Env}{pos ypos:Pos}{l it:Addr}{R:GenEnd}{Y:Protocol}{n:Nat}{s₀:qe}{c:Code}{fs:List Frame}
theorem W.iterV{i:Int}{R:Value→Led→Prop}(hm:Mm (it,isRvI l i) L)(h:R (.ref it) L):W b w A L (pyIter (.ref it)) R:=W.mk fun s H=>by
 obtain ⟨o,ho,h1,h2⟩:=H.own _ hm.mem
 exact wpAny_pyIter_revIter ⟨o,ho,h1,h2⟩ ⟨L,H,h⟩
theorem GS.func{body:List Stmt}(h:GS b w A R Y n s₀ (.func body env) fs L ((execs body env).wrap (fun f=> .pure (.done (.ret (match f with| .ret v=>v|_=> .none)))) (fun e=>(leaving env e).wrap (fun fz=> .raise e) .raise id id) id id)):GS b w A R Y n s₀ (.func body env) fs L ((model pw w).den (.func body env)):=⟨fun s H=>seg_func (h.run s H)⟩
noncomputable abbrev genBody:List Stmt:=bodyOf (meth 17 1)
noncomputable abbrev genE(C:Addr):Env:=envF fd192 C 192 []
noncomputable abbrev genFr(x nsd:Addr)(o:Option Value):List (Str×Option Value):= [(qb "self",some (.ref x)),(qb "ns_stack",some (.ref nsd)),(qb "_reversed",some (.type "reversed")),(qb "namespaces",o)]
theorem gen_loop{C x nsd d0 t0 I:Addr}{ds:List Addr}{L2:Led}{tg:Expr}{bd:List Stmt}{κ:Result→Sem vi}{p:Pos}{q1 q2 q3 q4 q5 q6:Pos}(htg:tg= .Name "namespaces" q1)(hbd:bd= [.If (.Name "namespaces" q2) [.Expr (.YieldFrom (.Name "namespaces" q3) q4) q5] [] q6])(hh:A.handled=none)(hκ:κ (.ok .next)=leafOf (.ok (.ret .none)))
  (hn:Mm (nsd,isL VR (d0::ds)) L) (hd0:Mm (d0,isL VR [t0]) L) (hds: ∀d∈ds,Mm (d,isL VR ([]:List Addr)) L) (hd2:Mm (d0,isL VR [t0]) L2) (hz:ds.length<1000)
  (hY: ∀J s' kap,St b s' ((J,isLI d0 1)::(I,isRvI nsd (-1))::(C,loc (genFr x nsd (some (.ref d0))))::L)→(∀s'',St b s'' ((J,isLI d0 1)::(I,isRvI nsd (-1))::(C,loc (genFr x nsd (some (.ref d0))))::L2)→kap (.send .none) s'')→Y 0 s₀ (.ref t0) s' kap)
  (hR: ∀s'' s₁,St b s₁ ((C,loc (genFr x nsd (some (.ref d0))))::L2)→R 0 s'' (.ok (.ret .none)) s₁):
  ∀(i:Nat) (o:Option Value),i≤ds.length→GS b w A R Y 1 s₀ (.forLoop tg (.ref I) bd [] (genE C)) [.ret κ none false [] (.func genBody (genE C)) p []] ((I,isRvI nsd (i:Int))::(C,loc (genFr x nsd o))::L) ((model pw w).den (.forLoop tg (.ref I) bd [] (genE C)))
 |i,o,hi=>by
  subst htg hbd
  obtain ⟨d,hd⟩: ∃d,(d0::ds)[i]? =some d:=⟨_,qd (by simp;omega)⟩
  refine GS.turn ?_
  refine W.nextV (T:=VR) (ds:=d0::ds) .head (.tail (.tail hn)) hd ?_
  rintro _ rfl
  show W b w _ _ (zF (.Name "namespaces" q1) (.ref I) (.ref d)) _
  refine W.pure ?_
  repeat tb_start
  refine GS.seq (GS.If ?_)
  repeat tb_start
  match i,hi,hd with
  |0,hi,hd=>
   cases hd
   refine W.truL (T:=VR) (ds:= [t0]) (.tail (.tail hd0)) (by simp) ?_
   refine ⟨fun fz=> ?_,fun e=>nomatch e⟩
   refine GS.seq (GS.yfS (d0:=d0) (t0:=t0) (L2:=(I,isRvI nsd (-1))::(C,loc (genFr x nsd (some (.ref d0))))::L2) (by kernel_rfl) rfl rfl rfl (fun fz fz fz=>hh) ?_ (.tail (.tail hd0)) (.tail (.tail hd2)) (hY) fun s''=> ?_)
   ·refine W.ld (by kernel_rfl) (by tb_rel) (by tb_rel) ⟨rfl,rfl⟩
   ·refine GS.nil (env:=genE C) ?_
    refine GS.nil (env:=genE C) ?_
    refine GS.again (by kernel_rfl) (GS.turn ?_)
    refine W.nextV0 hh .head ?_
    refine GS.again (by kernel_rfl) ?_
    refine ⟨fun s H=> ?_⟩
    show Seg _ A R Y 0 s'' _ ((execs [] (genE C)).onRaise _>>=_) _ s
    refine seg_leaf (.ok .next) ?_
    rw [hκ]
    exact seg_end _ (hR _ _ H)
  |i+1,hi,hd=>
   have hm:=hds d (qk (by simpa using hd))
   refine W.truL (T:=VR) (ds:= []) (.tail (.tail hm)) (by simp) ?_
   refine ⟨fun e=>(nomatch e),fun fz=> ?_⟩
   refine GS.nil (env:=genE C) ?_
   refine GS.again (by kernel_rfl) ?_
   have ih:=gen_loop (tg:= .Name "namespaces" q1) (κ:=κ) (p:=p) (q2:=q2) (q3:=q3) (q4:=q4) (q5:=q5) (q6:=q6) rfl rfl hh hκ hn hd0 hds hd2 hz hY hR i (some (.ref d)) (by omega)
   rw [show (((i+1:Nat):Int)-1)=(i:Int) by exact Int.sub_eq_iff_eq_add.mpr rfl]
   exact ih
theorem gen_body{C x nsd d0 t0:Addr}{ds:List Addr}{L2:Led}(hh:A.handled=none)(hn:Mm (nsd,isL VR (d0::ds)) L)(hd0:Mm (d0,isL VR [t0]) L)(hds: ∀d∈ds,Mm (d,isL VR ([]:List Addr)) L)(hd2:Mm (d0,isL VR [t0]) L2)(hz:ds.length<1000)
  (hY: ∀J I s' kap,St b s' ((J,isLI d0 1)::(I,isRvI nsd (-1))::(C,loc (genFr x nsd (some (.ref d0))))::L)→(∀s'',St b s'' ((J,isLI d0 1)::(I,isRvI nsd (-1))::(C,loc (genFr x nsd (some (.ref d0))))::L2)→kap (.send .none) s'')→Y 0 s₀ (.ref t0) s' kap)
  (hR: ∀s'' s₁,St b s₁ ((C,loc (genFr x nsd (some (.ref d0))))::L2)→R 0 s'' (.ok (.ret .none)) s₁):
  GS b w A R Y 1 s₀ (.func genBody (genE C)) [] ((C,loc (genFr x nsd none))::L) ((model pw w).den (.func genBody (genE C))):=by
 refine GS.func ?_
 refine GS.seq ?_
 refine GS.For (fun fz=>by kernel_rfl) ?_
 repeat tb_start
 refine W.rev (T:=VR) (ds:=d0::ds) (.tail hn) fun I=> ?_
 refine W.iterV .head ?_
 intro p
 have e:(((d0::ds).length:Nat):Int)-1=((ds.length:Nat):Int):=by simp
 rw [e]
 exact gen_loop rfl rfl hh rfl hn hd0 hds hd2 hz (fun J=>hY J I) hR ds.length none (zg _)
end
end
section
noncomputable def isGn(g:Nat):Asn:=fun o=> ∃nm qn,o.cls= .type "generator"∧o.data= .fields #[.int g 0,nm,qn]∧o.slots=#[]
structure WS{α:Type}(b:qe)(w:World)(A:qq)(L:Led)(t:Sem α)(P:α→qe→Prop):Prop where
 run: ∀s,St b s L→wpAny (model pw w) A t P (fun fz fz=>False) s
section
variable{b:qe}{w:World}{A:qq}{L L':Led}{F:Frag}{env:Env}{pos:Pos}{α β:Type}{P:Value→qe→Prop}
theorem WS.bindW{m:Sem α}{f:α→Sem β}{P:β→qe→Prop}(h:W b w A L m fun a L1=>WS b w A L1 (f a) P):WS b w A L (m>>=f) P:=WS.mk fun s H=>qc (h.then H fun a s' fz H' h'=>h'.run s' H')
theorem WS.callW{f:Value}{first:List Value}{x:Sem Value}{r:List (Bool×Sem Value)}(hp:((false,x)::r).all (fun x=> !x.1)=true)
  (h:W b w A L (spliced ((false,x)::r)) fun vs L1=>KprL b w L1 f∧WS b w A L1 (call f (first++vs) []) P):WS b w A L (callWith pos f first ((false,x)::r) []) P:=WS.mk fun s H=>by
 have hst:((false,x)::r).any (·.1)=false:=by
  rw [Qw]
  intro x hx
  have:=qz.mp hp x hx
  simpa using this
 let E:Value→qe→Prop:=fun fz fz=>False
 have ea:wpAny (model pw w) A (evalArgs f true ((false,x)::r) []) (fun a s₂=>Kpr (model pw w) f s₂∧wpAny (model pw w) A (call f (first++a.pos) a.kw) P E s₂) E s:=
  Qz (h.then H fun vs s1 fz H1 h1=>⟨h1.1 s1 H1,h1.2.run s1 H1⟩)
 unfold callWith
 refine qc (qC (qL ea (fun a s₁ h₁=> ?_) fun fz fz x=>x))
 refine qc (vp ?_)
 rw [hst]
 refine qc (h₁.1 _ _ _ fun k=> ?_)
 have tail: ∀{t:Sem Value},wpAny (model pw w) A t P E s₁→wpAny (model pw w) A (t>>=fun r=>zv [r] PySem.point>>=fun fz=>qj r) P E s₁:=
  fun ht=>qc (qL ht (fun r s₂ hr=>qc (qC (wpAny_point (qf hr)))) fun fz fz x=>x)
 have key: ∀m,wpAny (model pw w) A (callMarked m f (first++a.pos) a.kw) P E s₁:=fun m=>by unfold callMarked;exact Calls.wpAny_keep h₁.2
 cases k
 ·show wpAny (model pw w) A (if ((false,x)::r).length+2*([]:List (Option Str×Sem Value)).length>30 then _ else _) P E s₁
  split
  ·exact tail h₁.2
  ·exact tail (key _)
 ·show wpAny (model pw w) A (if ((false,x)::r).length+2*([]:List (Option Str×Sem Value)).length>30 then _ else _) P E s₁
  split
  ·exact tail h₁.2
  ·exact tail (key _)
 ·exact tail h₁.2
 ·exact tail (fun Γ p hΓ=>by rw [Sem.wp_operate];exact h₁.2 Γ p hΓ)
theorem WS.callM1{o:Expr}{e1:Expr}{name:Str}{apos:Pos}(hline:(apos.endLine==pos.line)=true)(hb:jE o name env (eval o env)=eval o env)(hs:zB [e1] env= [(false,eval e1 env)])
  (h:W b w A L (eval o env) fun ov L1=>W b w A L1 (vg ov name (do return (←importBound o env).getD true)) (MF fun f self L2=>W b w A L2 (eval e1 env) fun v1 L3=>KprL b w L3 f∧WS b w A L3 (call f [self,v1]) P)):
  WS b w A L (eval (.Call (.Attribute o name apos) [e1] [] pos) env) P:=by
 show WS b w A L (do
  let ov ←jE o name env (eval o env)
  jS apos.atName
  methodCall o name apos pos env ov (([e1]:List Expr).length+0) (backTo pos (zB [e1] env)) []) P
 rw [hb,hs]
 refine WS.bindW (h.mono fun ov L1 h1=>WS.bindW (W.stand ?_))
 show WS b w A L1 (methodCall o name apos pos env ov 1 [(false,eval e1 env)] []) P
 have hf:methodCallForm 1 [(false,eval e1 env)] []=true:=rfl
 unfold methodCall
 rw [hf]
 refine WS.bindW (W.holding (h1.mono fun fm L2 h2=> ?_))
 obtain ⟨f,self,e,h2⟩:=h2
 subst e
 have few: ∀c,methodCallPos c o env apos pos=qj pos:=fun c=>by
  unfold methodCallPos
  rw [hline,Bool.or_true];rfl
 rw [few]
 exact WS.bindW (W.pure (WS.callW rfl (W.sp (h2.mono fun fz fz h3=>W.sp0 h3))))
end
end
section
theorem nextGen{w:World}{A:qq}{E:Value→qe→Prop}{s:qe}{a:Addr}{g n:Nat}{gs:ju}{P:Nat→qe→qe→Prop}{Y:Protocol}{Q:Option Value→qe→Prop}(hh:A.handled=none)
  (hl:s.heap.NoLimit) (hroom:A.depth<recursionLimit)
  (hg:s.heap.IsGen a g) (hgs:s.gens[g]? =some gs)
  (hgo:gs.Goes (model pw w) A.in1 (fun n s₀ r s₁=>r= .ok (.ret .none)∧P n s₀ s₁) Y n (.send .none) (s.setGen g .running))
  (hY: ∀v s₁ gs',gs'.bare=true→Y (n-1) (s.setGen g .running) v s₁ (fun r' s''=>match n with
    |0=>False
    |m+1=>gs'.Goes (model pw w) A.in1 (fun n s₀ r s₁=>r= .ok (.ret .none)∧P n s₀ s₁) Y m r' s'')→Q (some v) (s₁.setGen g gs'))
  (hP: ∀s₁,P n (s.setGen g .running) s₁→ ∀h',(∀b o,s₁.heap.get? b=some o→h'.get? b=some o)→Q none {s₁.setGen g .finished with heap:=h'}):
  wpAny (model pw w) A (jY (.ref a)) Q E s:=by
 unfold jY
 refine qc (vq (jA (name:=qb "__next__") hg.typeIs slot_gen_next
  (zr slot_gen_next hg.typeIs entry_gen_next ?_ (args_gen_next _))))
 show wpAny _ _ (Builtin.Generator.genWake (.ref a) (.send .none)) _ _ s
 unfold Builtin.Generator.genWake
 refine qc (qC (wpAny_genNumber hg (qc (wpAny_genState hgs ?_))))
 cases gs with
 |running=>exact hgo.elim
 |finished=>exact hgo.elim
 |_=>
  refine qc (wpAny_roomToWake hl hroom ?_)
  show wpAny _ _ (.resume g (.send .none) [] _) _ _ s
  refine wpAny_resumeQ hgs hgo (fun x s₁ hx=> ?_) (fun v s₁ gs' hb hv=>qf ⟨v,rfl,qf (hY v s₁ gs' hb hv)⟩)
  obtain ⟨rfl,hp⟩:=hx
  show wpAny _ _ (newExc (.type "StopIteration") []>>=_) _ _ _
  refine qc ?_
  simp-iota only [newExc,newTuple]
  refine qc (qM ?_ (by size_fits))
  refine qc (m:=Qm _ _) (ze (a:=Value.none) (by first|rfl|(simp-iota only [Qm];rfl)) ?_)
  refine qM ?_ (by size_fits)
  simp-iota only [raiseNew]
  refine qc (qc (wpAny_handled ?_))
  rw [show A.in1.handled=none from hh]
  refine wpAny_throw ?_
  refine qc (jo (T:="StopIteration") (b:=true) ⟨_,zK _ rfl,rfl⟩ isSubtype_stop ?_)
  exact qf (hP s₁ hp _ fun b o hb=>qD _ (qD _ hb))
theorem St.setGen{b s:qe}{L:Led}(H:St b s L){g:Nat}{x:ju}(hg:b.gens.size≤g)(hb:x.bare=true):St b (s.setGen g x) L:=by
 refine H.keepL (fun fz fz fz e=>e) rfl (fun y hy=> ?_) fun i y hi=> ?_
 ·obtain ⟨i,hi,e⟩:=Array.mem_iff_getElem.mp hy
  have hi':i<(s.gens.setIfInBounds g x).size:=hi
  rw [Array.size_setIfInBounds] at hi'
  have e':(s.gens.setIfInBounds g x)[i]'hi=y:=e
  have q:(s.gens.setIfInBounds g x)[i]? =some y:=(jH hi).trans (congrArg some e')
  rw [Qc] at q
  split at q
  ·split at q
   ·cases q;exact hb
   ·cases q
  ·exact H.gens _ (Array.mem_of_getElem? q)
 ·have:=H.gk i y hi
  show (s.gens.setIfInBounds g x)[i]? =some y
  rw [Array.getElem?_setIfInBounds_ne (fun e=> ?_),this]
  subst e
  rw [jh hg] at hi
  cases hi
theorem St.inner{b s:qe}{L:Led}(H:St b s L):St {b with gens:=s.gens} s L:=⟨H.old,H.lim,H.os,H.gens,fun fz fz h=>h,H.top,H.stat,H.st0,H.tabs,H.lam,H.own,H.nd,H.fresh⟩
theorem St.outer{b s s':qe}{L L':Led}(H:St b s L)(H':St {b with gens:=s.gens} s' L'):St b s' L':=⟨H'.old,H'.lim,H'.os,H'.gens,fun i x h=>H'.gk i x (H.gk i x h),H'.top,H'.stat,H'.st0,H'.tabs,H'.lam,H'.own,H'.nd,H'.fresh⟩
theorem St.genObj{b s:qe}{L:Led}(H:St b s L){gs:ju}{o:Obj}{P:Asn}{tk:Nat}(hb:gs.bare=true)(hf:o.isFreed=false)(hp:P o):St b {s with gens:=s.gens.push gs,toks:=tk,heap:=s.heap.push o} ((s.heap.objs.size,P)::L):=
 (H.alloc (P:=P) o hf hp).newGen hb fun fz fz e=>e
theorem St.lessG{b s:qe}{L:Led}{G:Array ju}(H:St {b with gens:=G} s L)(hb: ∀(i:Nat) (x:ju),b.gens[i]? =some x→G[i]? =some x):St b s L:=⟨H.old,H.lim,H.os,H.gens,fun i x h=>H.gk i x (hb i x h),H.top,H.stat,H.st0,H.tabs,H.lam,H.own,H.nd,H.fresh⟩
theorem St.regen{b s:qe}{L:Led}{G G4:Array ju}{g:Nat}(H:St {b with gens:=G4} s L)(hsz:b.gens.size≤g)(hb: ∀(i:Nat) (x:ju),b.gens[i]? =some x→G4[i]? =some x)(hg:G[g]? =some .running)(hG: ∀i x,i≠g→G[i]? =some x→G4[i]? =some x)(hl:g<G4.size):St {b with gens:=G} (s.setGen g .running) L:=by
 have H0:St b s L:=⟨H.old,H.lim,H.os,H.gens,fun i x h=>H.gk i x (hb i x h),H.top,H.stat,H.st0,H.tabs,H.lam,H.own,H.nd,H.fresh⟩
 have H1:=H0.setGen (x:= .running) hsz rfl
 refine ⟨H1.old,H1.lim,H1.os,H1.gens,fun i x h=> ?_,H1.top,H1.stat,H1.st0,H1.tabs,H1.lam,H1.own,H1.nd,H1.fresh⟩
 show (s.gens.setIfInBounds g .running)[i]? =some x
 by_cases e:i=g
 ·subst e
  have h:G[i]? =some x:=h
  rw [hg] at h
  cases h
  have:G4[i]? =some (G4[i]'hl):=jH hl
  have:=H.gk i _ this
  have hl':i<s.gens.size:=by
   rcases Nat.lt_or_ge i s.gens.size with h|h
   ·exact h
   ·rw [jh h] at this;cases this
  rw [Qc,if_pos rfl,if_pos hl']
 ·rw [Array.getElem?_setIfInBounds_ne (fun z=>e z.symm)]
  exact H.gk i x (hG i x e h)
theorem loc_eq{fr fr':List (Str×Option Value)}{o:Obj}(h:loc fr o)(h':loc fr' o)(m:Str):(fr.lookup m).join=(fr'.lookup m).join:=by
 revert fr fr' o h h' m
 funext fr fr' o h h' m
 refine hkX (h) ?_
 funext ⟨⟨es,ep,hd,hs,hf⟩,_⟩
 refine hkX (h') ?_
 funext ⟨⟨es',ep',hd',hs',hf'⟩,_⟩
 rw [hd] at hd'
 cases hd'
 exact (hf m).symm.trans (hf' m)
section
variable{b:qe}{w:World}{A:qq}{L L':Led}{R:Value→Led→Prop}{F:Frag}{env:Env}{pos:Pos}
theorem callGen{x nsd:Addr}{P:Value→qe→Prop}(K:Kn b)(KC:Kc F b)(hA:Rm 1 A)(h: ∀a g C s,St b s ((a,isGn g)::(C,loc (genFr x nsd none))::L)→s.gens[g]? =some (.fresh (.func genBody (genE C)))→b.gens.size≤g→P (.ref a) s):
  WS b w A L (call (.ref 192) [.ref x,.ref nsd]) P:=WS.mk fun s H=>by
 obtain ⟨n,e⟩:=KC.d185
 have hf:Mm ((192:Addr),fd192) fns:=by tb_rel
 obtain ⟨c,vs,t,e1,e2,e3⟩:=K.code _ hf.mem
 have hb:BindsTo s fd192 ⟨[.ref x,.ref nsd],[]⟩ (bindsOf 3 (genFr x nsd none)):=kp_binds (frag1 H e (by intro h;cases h)) fun S=>by kernel_rfl
 refine zL (codeAny_call_generator (body:=genBody) (by have:=hA.depth;show A.depth<1000;omega) (H.base (K.fn _ hf.mem) (by intro h;cases h)) rfl rfl rfl rfl ⟨c,_,vs,t,e1,H.base e2 (by intro h;cases h),rfl,e3⟩ (hb _ _ _ _ ?_))
 refine wpAny_newFunctionEnv (by decide+kernel) (fun y hy=> ?_) (fun h₀ hns₀ hsb₀=> ?_) rfl
 ·have: ∀m∈(bindsOf 3 (genFr x nsd none)).map (·.1),fd192.scope.names.lookup m=some NameKind.local:=by
   show ∀m∈ [qb "self",qb "ns_stack",qb "_reversed"],fd192.scope.names.lookup m=some NameKind.local
   decide+kernel
  exact this _ (qA (f:=(·.1)) hy)
 ·have hk: ∀a o,s.heap.get? a=some o→h₀.get? a=some o:=fun a o e=>hsb₀.extBut a o (qS (zi e)) (qD _ e)
  have hnd:((genFr x nsd none).map (·.1)).Nodup:=by
   show ([qb "self",qb "ns_stack",qb "_reversed",qb "namespaces"]).Nodup
   decide+kernel
  have H':St b {s with heap:=h₀,toks:=s.toks+(bindsOf 3 (genFr x nsd none)).length} ((s.heap.objs.size,loc (genFr x nsd none))::L):=by
   refine H.ext hk (zg _) ?_
   obtain ⟨o,es,ep,ho,hd,hs,hf⟩:=hns₀
   refine ⟨o,ho,⟨es,ep,hd,hs,fun m=>(hf m).trans ?_⟩,hnd⟩
   exact (frame0_look (bindsOf 3 (genFr x nsd none)) [qb "namespaces"] hnd m).symm
  refine ⟨H'.lim,?_⟩
  refine h _ s.gens.size s.heap.objs.size _ ?_ (Array.getElem?_push_size ..) H.gsize
  exact H'.genObj rfl rfl ⟨_,_,rfl,rfl,rfl⟩
theorem St.isGen{s:qe}{a g:Nat}(H:St b s L)(hm:Mm (a,isGn g) L):s.heap.IsGen a g:=by
 obtain ⟨o,ho,nm,qn,h1,h2,h3⟩:=H.own _ hm.mem
 exact ⟨o,nm,qn,ho,h1,h2,h3⟩
theorem let_of{P:Sem Unit→Prop}{t:Expr}{r v:Value}(h1:P (pure ()))(h2:P (zF (.Tuple [] 0 zb) r v)):P (zF t r v):=by
 cases t<;>first|exact h1|exact h2
theorem let_of2{P:Sem Unit→Prop}{r:Addr}{v:Value}(h1:P (pure ()))(h2: ∀a,P (zF (.Tuple [] 0 zb) (.ref r) (.ref a))):P (zF (.Tuple [] 0 zb) (.ref r) v):=by
 cases v<;>first|exact h1|exact h2 _
theorem letGen{E:Value→qe→Prop}{s:qe}{target:Expr}{a g:Nat}{v:Value}{Q:Unit→qe→Prop}(hg:s.heap.IsGen a g)(h:Q () s):wpAny (model pw w) A (zF target (.ref a) v) Q E s:=by
 refine hkX (hg) ?_
 funext ⟨o,nm,qn,ho,hc,hd,hs⟩
 refine let_of (P:=fun t=>wpAny _ A t Q E s) (qf h) (let_of2 (P:=fun t=>wpAny _ A t Q E s) (qf h) fun r=> ?_)
 refine qc (Qk ho ?_)
 rw [hc,hd]
 exact qf h
theorem W.forGen{x nsd d0 t0:Addr}{ds:List Addr}{target iter:Expr}{body:List Stmt}{Q:Flow→Led→Prop}{L1 L2:Led}(hA:Rm 1 A)(hfs: ∀v,zE iter env v=qj v)
  (hn:Mm (nsd,isL VR (d0::ds)) L1) (hd0:Mm (d0,isL VR [t0]) L1) (hds: ∀d∈ds,Mm (d,isL VR ([]:List Addr)) L1) (hd2:Mm (d0,isL VR [t0]) L2) (hz:ds.length<1000)
  (h:WS b w A L (eval iter env) fun v s=> ∃a g C,v= .ref a∧St b s ((a,isGn g)::(C,loc (genFr x nsd none))::L1)∧s.gens[g]? =some (.fresh (.func genBody (genE C)))∧b.gens.size≤g)
  (hb: ∀gs Lh,W {b with gens:=gs} w A (Lh++L1) (QS target env (.ref t0)) fun fz La=>W {b with gens:=gs} w A La (execs body env) fun f Lb=>f= .next∧Lb=Lh++L2)
  (hq:Q .next L2):W b w A L (exec (.For target iter body [] pos) env) Q:=W.mk fun s H=>by
 refine wpAny_For (qL (h.run s H) (fun v s1 z=> ?_) fun fz fz x=>x) hfs
 obtain ⟨a,g,C,rfl,H1,hg,hsz⟩:=z
 refine wpAny_pyIter_gen (H1.isGen .head) ?_
 let G:=(s1.setGen g .running).gens
 have lt1:g<s1.gens.size:=by
  rcases Nat.lt_or_ge g s1.gens.size with h|h
  ·exact h
  ·rw [jh h] at hg;cases hg
 have hG:G[g]? =some .running:=by
  show (s1.gens.setIfInBounds g .running)[g]? =_
  rw [Qc,if_pos rfl,if_pos lt1]
 have hGl: ∀{s:qe} {L:Led},St {b with gens:=G} s L→g<s.gens.size:=fun {s L} H=>by
  have:=H.gk g _ hG
  rcases Nat.lt_or_ge g s.gens.size with h|h
  ·exact h
  ·rw [jh h] at this;cases this
 let Rr:GenEnd:=fun n s₀ r s₁=>r= .ok (.ret .none)∧St b s₁ ((C,loc (genFr x nsd (some (.ref d0))))::(a,isGn g)::L2)
 let Yy:Protocol:=fun m s₀ v s' kap=>(∃L,St b s₀ ((C,loc (genFr x nsd none))::L))∧v= .ref t0∧ ∃J I,St {b with gens:=G} s' ((J,isLI d0 1)::(I,isRvI nsd (-1))::(C,loc (genFr x nsd (some (.ref d0))))::(a,isGn g)::L1)∧
  (∀s'',St {b with gens:=G} s'' ((J,isLI d0 1)::(I,isRvI nsd (-1))::(C,loc (genFr x nsd (some (.ref d0))))::(a,isGn g)::L2)→kap (.send .none) s'')
 refine codeAny_forLoop_any (fun n s=>(n=1∧s=s1)∨
   (n=0∧ ∃J I gs,St b s ((J,isLI d0 1)::(I,isRvI nsd (-1))::(C,loc (genFr x nsd (some (.ref d0))))::(a,isGn g)::L2)∧s.gens[g]? =some gs∧gs.Goes (model pw w) A.in1 (fun n s₀ r s₁=>r= .ok (.ret .none)∧St b s₁ ((C,loc (genFr x nsd (some (.ref d0))))::(a,isGn g)::L2)) Yy 0 (.send .none) (s.setGen g .running))) ?_ 1 (.inl ⟨rfl,rfl⟩)
 rintro n s2 (⟨rfl,rfl⟩|⟨rfl,J,I,gs,H2,hg2,hgo⟩)
 ·have H2:=H1.perm (.swap ..)
  have hg2:=hg
  have hbG: ∀(i:Nat) (x:ju),b.gens[i]? =some x→G[i]? =some x:=(H2.setGen (x:= .running) hsz rfl).gk
  refine nextGen (n:=1) (P:=fun n s₀ s₁=>St b s₁ ((C,loc (genFr x nsd (some (.ref d0))))::(a,isGn g)::L2)) (Y:=Yy) hA.handled H2.lim (by have:=hA.depth;show A.depth<1000;omega) (H2.isGen (.tail .head)) hg2 ⟨rfl,?_⟩ ?_ ?_
  ·refine (gen_body (b:={b with gens:=G}) (A:=A.in1) (R:=fun n s₀ r s₁=>r= .ok (.ret .none)∧St b s₁ ((C,loc (genFr x nsd (some (.ref d0))))::(a,isGn g)::L2)) (Y:=Yy) (s₀:=s2.setGen g .running) (L:=(a,isGn g)::L1) (L2:=(a,isGn g)::L2) (x:=x) (nsd:=nsd) (d0:=d0) (t0:=t0) (ds:=ds) hA.handled (.tail hn) (.tail hd0) (fun d hd=> .tail (hds d hd)) (.tail hd2) hz ?_ ?_).run _ (H2.setGen (x:= .running) hsz rfl).inner
   ·intro J I s' kap h1 h2
    exact ⟨⟨_,H2.setGen hsz rfl⟩,rfl,J,I,h1,h2⟩
   ·intro _ _ h1
    exact ⟨rfl,h1.lessG hbG⟩
  ·rintro v s3 gs' hbare ⟨_,rfl,J,I,H3,hk⟩
   have H4:=(H3.lessG hbG).setGen (x:=gs') hsz hbare
   show wpAny _ _ (zF target (.ref a) (.ref t0)) _ _ _
   refine letGen (H4.isGen (.tail (.tail (.tail .head)))) ?_
   have q4:(s3.setGen g gs').gens[g]? =some gs':=by
    show (s3.gens.setIfInBounds g gs')[g]? =some gs'
    rw [Qc,if_pos rfl,if_pos (hGl H3)]
   refine (hb _ [(J,isLI d0 1),(I,isRvI nsd (-1)),(C,loc (genFr x nsd (some (.ref d0)))),(a,isGn g)]).then H4.inner fun fz s5 La H5 h5=> ?_
   refine h5.then H5 fun f s6 Lb H6 ⟨e1,e2⟩=> ?_
   subst e1
   subst e2
   refine ⟨0,Nat.zero_lt_one,.inr ⟨rfl,J,I,gs',H4.outer H6,H6.gk _ _ q4,hk _ (H6.regen hsz H4.gk hG (fun i x e h=> ?_) (by show g<(s3.gens.setIfInBounds g gs').size;rw [Array.size_setIfInBounds];exact hGl H3))⟩⟩
   show (s3.gens.setIfInBounds g gs')[i]? =some x
   rw [Array.getElem?_setIfInBounds_ne (fun z=>e z.symm)]
   exact H3.gk i x h
  ·intro s3 H3 h' hk
   exact wpAny_execs_nil ⟨_,((H3.setGen (x:= .finished) hsz rfl).keepL (s':={s3.setGen g .finished with heap:=h'}) (fun c o fz e=>hk c o e) rfl (H3.setGen (x:= .finished) hsz rfl).gens (H3.setGen (x:= .finished) hsz rfl).gk).takes (.skip (.skip .all)),hq⟩
 ·refine nextGen (n:=0) (P:=fun n s₀ s₁=>St b s₁ ((C,loc (genFr x nsd (some (.ref d0))))::(a,isGn g)::L2)) (Y:=Yy) hA.handled H2.lim (by have:=hA.depth;show A.depth<1000;omega) (H2.isGen (.tail (.tail (.tail .head)))) hg2 hgo ?_ ?_
  ·rintro v s3 gs' hbare ⟨⟨_,h0⟩,_⟩
   obtain ⟨o1,e1,n1⟩:=h0.own _ (.head _)
   obtain ⟨o2,e2,n2⟩:=(H2.setGen (x:= .running) hsz rfl).own _ (.tail _ (.tail _ (.head _)))
   rw [e1] at e2
   cases e2
   have:=loc_eq n1 n2 (qb "namespaces")
   cases this
  ·intro s3 H3 h' hk
   exact wpAny_execs_nil ⟨_,((H3.setGen (x:= .finished) hsz rfl).keepL (s':={s3.setGen g .finished with heap:=h'}) (fun c o fz e=>hk c o e) rfl (H3.setGen (x:= .finished) hsz rfl).gens (H3.setGen (x:= .finished) hsz rfl).gk).takes (.skip (.skip .all)),hq⟩
end
end
section
section
variable{b:qe}{w:World}{A:qq}{L L':Led}{R:Value→Led→Prop}{F:Frag}{env:Env}{pos:Pos}{Q:Flow→Led→Prop}{rest:List Stmt}
theorem W.asgT{elts:List Expr}{k:Nat}{tpos:Pos}{value:Expr}(hs:swapsWithSole [.Tuple elts k tpos] value pos.line env=qj false)(hw:swappedStores [.Tuple elts k tpos] value env=qj none)
  (h:W b w A L (eval value env) fun v L1=>W b w A L1 (QS (.Tuple elts k tpos) env v) fun fz L2=>W b w A L2 (execs rest env) Q):W b w A L (execs (.Assign [.Tuple elts k tpos] value pos::rest) env) Q:=
 W.seq<|W.mk fun s H=>Assign_Tuple (h.then H fun v s1 fz H1 h1=>h1.then H1 fun fz s2 L2 H2 h2=>⟨L2,H2,h2⟩) hs hw
theorem W.isP{x y:Value}(hp:plainIs x y=true)(h:R (.bool (x==y)) L):W b w A L (jd .Is x y) R:=W.mk fun s H=>wpAny_is_plain hp ⟨L,H,h⟩
theorem W.isnP{x y:Value}(hp:plainIs x y=true)(h:R (.bool (!(x==y))) L):W b w A L (jd .IsNot x y) R:=W.mk fun s H=>wpAny_isNot_plain hp ⟨L,H,h⟩
theorem W.set0(h: ∀a,R (.ref a) ((a,isMs w [])::L)):W b w A L (call (.type "set") []) R:=W.mk fun s H=>by
 refine call_set_0 fun led=>⟨_,H.alloc (P:=isMs w []) _ rfl ⟨setObjOf_fresh led,by simp⟩,h _⟩
theorem W.gmMs{a:Addr}{ks:List Str}{pl:Sem Bool}{P:Value→Value→Led→Prop}(hm:Mm (a,isMs w ks) L)(h:P (.builtin "set.add") (.ref a) L):W b w A L (vg (.ref a) "add" pl) (MF P):=W.mk fun s H=>by
 exact getMethod_set_add (H.ms hm) ⟨L,H,_,_,rfl,h⟩
theorem W.addMsC{a:Addr}{ks:List Str}{k:Str}{t:Tok}(hu:Upd L a (isMs w ks) (isMs w (withS ks k)) L')(hz:ks.length<99)(h:R .none L'):W b w A L (call (.builtin "set.add") [.ref a,.str k t]) R:=W.mk fun s H=>by
 have hS:=H.ms (mem_mm hu.mem)
 refine zr PySem.F.slot_set_add hS.typeIs PySem.F.entry_set_add ?_ (PySem.F.args_set_add_2 _ _)
 unfold Builtin.«set.add» Builtin.Frozenset.oneOther
 simp only [List.isEmpty_nil,zJ]
 unfold Builtin.Frozenset.addrOf
 refine qc (qf ?_)
 refine qc (qf ?_)
 refine qc ((W.addMs (Q:=fun fz L2=>L2=L') hu hz fun fz=>rfl).then H fun c s' L2 H2 e=> ?_)
 subst e
 exact qf ⟨_,rfl,_,H2,h⟩
theorem W.gmC{x dx:Addr}{kvs:List (Str×Value)}{name:Str}{f:Addr}{fd:vS}{pl:Sem Bool}{PP:Value→Value→Led→Prop}(K:Kn b)(KC:Kc F b)(hx:Mm (x,isC dx) L)(hd:Mm (dx,isAt kvs) L)
  (hf:Mm (name,some (.ref f)) canTab) (hfn:Mm (f,fd) fns) (hs:kvs.lookup name=none) (h:PP (.ref f) (.ref x) L):W b w A L (vg (.ref x) name pl) (MF PP):=
 W.gmI KC KC.can hx hd (ga:="object.__getattribute__") (by tb_rel) (by decide+kernel) (by tb_rel) hf (tf:= .type "function") (fun s H=>tyFn K hfn H) (by kernel_rfl!) hs h
theorem W.partSU{value slice:Expr}{x:Str}{t u:Tok}{i:Int}{a:Addr}(hz:x.length≤ji)(hm:Mm (a,isSlice .none (.int i u) .none) L)
  (hs:jq slice false (.str x t) (.ref a)=zZ [.ref a,.str x t] (vn (.str x t) (.ref a))) (ht: ∀r,Ql value (.str x t) r=qj ())
  (h: ∀v,R (.str (Txt.slice x none (some i)) v) L):W b w A L (zC value slice (.str x t) (.ref a)) R:=W.mk fun s H=>by
 obtain ⟨o,ho,rfl⟩:=H.own _ hm.mem
 exact tail_of_ItemOn ⟨"str",_,F.slot_str_getitem.lookup,typeIs_str _ _ _,wpAny_getItem_str_slice (l:=none) (u:=some (i,u)) (st:=none) ⟨_,ho,rfl,rfl⟩ rfl
  (post_val_or_str ⟨qg (Txt.slice_le x _ _) hz,fun t' k=>⟨L,H.tok _,h _⟩⟩)⟩ hs ht
theorem let1: ∀k<7,Txt.slice (sOf [97+k]) none (some 1)=sOf [97+k]:=by decide+kernel
theorem let2: ∀k<7,(sOf [97+k]==qb "{")=false:=by decide+kernel
theorem W.truS{x:Str}{t:Tok}{TT:Bool→Led→Prop}(h:TT ((x.length:Int) !=0) L)(hz:x.length≤1000000:=by decide):W b w A L (truthy (.str x t)) TT:=W.mk fun s H=>PySem.P.truthy_str (by omega) ⟨L,H.tok _,h⟩
set_option maxHeartbeats 4000000 in
theorem qname_wd{c:WrC}{k:Nat}{t:Tok}{ds:List Addr}{rs rd:Bool}{ig:Value}(K:Kn b)(KC:Kc F b)(hA:Rm 2 A)(hk:k<7)(hx:Mm (c.x,isC c.dx) L)(hd:Mm (c.dx,isAt (wrAt c rs rd ig)) L)
  (hn:Mm (c.nsd,isL VR (c.d0::ds)) L) (h0:Mm (c.d0,isL VR [c.t0]) L) (ht:Mm (c.t0,xmlT c.u1 c.u2) L) (hds: ∀d∈ds,Mm (d,isL VR ([]:List Addr)) L) (hz:ds.length<1000)
  (q: ∀a,R (.ref a) ((a,isT VS [sOf [97+k],sOf [97+k],sOf []])::L)):WD b w A L (.call (.ref 207) ⟨[.ref c.x,.str (sOf [97+k]) t],[]⟩) R:=by
 revert b w A L R F c k t ds rs rd ig K KC hA hk hx hd hn h0 ht hds hz q
 funext b w A L R F c k t ds rs rd ig K KC hA hk hx hd hn h0 ht hds hz q
 refine hkX (KC.d200) ?_
 funext ⟨n,e⟩
 refine WD.fnAt (fd:=fd207) 3 [(qb "self",some (.ref c.x)),(qb "qname",some (.str (sOf [97+k]) t)),(qb "uri",some .none),(qb "tag",none),(qb "prefixes_seen",none),(qb "u",none),(qb "prefix",none)] K (by tb_rel) hA rfl (fun fz H=>by exact kp_binds (frag1 H e (by intro h;cases h)) fun S=>by kernel_rfl) (by kernel_rfl) (by kernel_rfl) ?_
 funext La hA
 refine Wt.of ?_
 refine W.iffT ?_
 repeat tb_start
 refine W.isP (by kernel_rfl) ?_
 repeat tb_start
 refine ⟨rfl,?_⟩
 refine W.asgT (by kernel_rfl) (by kernel_rfl) ?_
 repeat tb_start
 funext _
 refine W.partSU (by show 1≤ji;rw [qu];omega) .head (by kernel_rfl) (fun fz=>by kernel_rfl) ?_
 funext _
 rw [let1 k hk]
 repeat tb_start
 rw [let2 k hk]
 repeat tb_start
 refine W.newT (T:=VS) (ds:= [sOf [],sOf [97+k]]) (.cons ⟨_,by rfl⟩ (.one ⟨_,rfl⟩)) (by simp) ?_
 funext tt
 refine W.tgtT2 (T:=VS) hA.handled .head ?_
 funext _ _ ⟨t1,rfl⟩ ⟨t2,rfl⟩
 repeat tb_start
 refine W.nil ?_
 repeat tb_start
 refine W.set0 ?_
 funext ps
 repeat tb_start
 refine W.take ?_ (.cons .head (.skip (.skip .all)))
 refine W.seq (W.forGen (L1:=(ps,isMs w [])::
     (La,
       loc
        [(qb "self",some (Value.ref c.x)),(qb "qname",some (Value.str (sOf [97+k]) t)),
         (qb "uri",some (Value.str (sOf []) t1)),
         (qb "tag",some (Value.str (sOf [97+k]) t2)),
         (qb "prefixes_seen",some (Value.ref ps)),(qb "u",none),
         (qb "prefix",none)])::
      L)
   (L2:=(ps,isMs w (withS [] (qb "xml")))::
     (La,
       loc
        [(qb "self",some (Value.ref c.x)),(qb "qname",some (Value.str (sOf [97+k]) t)),
         (qb "uri",some (Value.str (sOf []) t1)),
         (qb "tag",some (Value.str (sOf [97+k]) t2)),
         (qb "prefixes_seen",some (Value.ref ps)),(qb "u",some (.str uriL c.u1)),
         (qb "prefix",some (.str (qb "xml") c.u2))])::
      L) (x:=c.x) (nsd:=c.nsd) (d0:=c.d0) (t0:=c.t0) (ds:=ds) hA.le (fun fz=>by kernel_rfl) (.tail (.tail hn)) (.tail (.tail h0)) (fun d hd=> .tail (.tail (hds d hd))) (.tail (.tail h0)) hz ?_ ?_ ?_)
 ·refine WS.callM1 (by kernel_rfl) (by kernel_rfl) (by kernel_rfl) ?_
  repeat tb_start
  refine W.gmC K KC (f:=192) (fd:=fd192) (by tb_rel) (by tb_rel) (by tb_rel) (by tb_rel) rfl ?_
  repeat tb_start
  exact callGen K KC hA fun a g C s H h1 h2=>⟨a,g,C,rfl,H,h1,h2⟩
 ·funext gs Lh
  have K':=K.gens gs
  have KC':=KC.gens gs
  refine W.tgtT2 (T:=VV) hA.handled (.inr (.tail (.tail ht))) ?_
  funext _ _ rfl rfl
  repeat tb_start
  refine ⟨fun e=>absurd e (by decide+kernel),?_⟩
  funext _
  refine ⟨(fun e=>nomatch e),?_⟩
  funext _
  repeat tb_start
  refine W.gmMs (.inr .head) ?_
  repeat tb_start
  refine W.addMsC (.inr .head) (by decide) ?_
  exact W.nil ⟨rfl,rfl⟩
 ·show W b w _ _ _ _
  repeat tb_start
  refine W.truS ?_
  refine ⟨?_,fun e=>nomatch e⟩
  funext _
  repeat tb_start
  refine W.ninMs .head ?_
  repeat tb_start
  refine ⟨?_,fun e=>nomatch e⟩
  funext _
  repeat tb_start
  refine W.newT (T:=VS) (ds:= [sOf [97+k],sOf [97+k],sOf []]) (.cons ⟨_,rfl⟩ (.cons ⟨_,rfl⟩ (.one ⟨_,rfl⟩))) (by simp) ?_
  funext tt
  exact ⟨_,.cons .head (.skip (.skip .all)),q tt⟩
theorem qname_ok{c:WrC}{k:Nat}{t:Tok}{ds:List Addr}{rs rd:Bool}{ig:Value}(K:Kn b)(KC:Kc F b)(hA:Rm 2 A)(hk:k<7)(hx:Mm (c.x,isC c.dx) L)(hd:Mm (c.dx,isAt (wrAt c rs rd ig)) L)
  (hn:Mm (c.nsd,isL VR (c.d0::ds)) L) (h0:Mm (c.d0,isL VR [c.t0]) L) (ht:Mm (c.t0,xmlT c.u1 c.u2) L) (hds: ∀d∈ds,Mm (d,isL VR ([]:List Addr)) L) (hz:ds.length<1000)
  (q: ∀a,R (.ref a) ((a,isT VS [sOf [97+k],sOf [97+k],sOf []])::L)):W b w A L (call (.ref 207) [.ref c.x,.str (sOf [97+k]) t]) R:=(qname_wd K KC hA hk hx hd hn h0 ht hds hz q).toW
end
end
section
noncomputable def runP{α:Type}(n:Nat)(lt:Nat→Nat→Bool):KasT α→Option α
 | .ret a=>some a
 | .ask i j k=>if (decide (i<n)&&decide (j<n))=true then runP n lt (k (lt i j)) else none
noncomputable def sortP(n:Nat)(lt:Nat→Nat→Bool):Option (List Nat):=if n<2 then some (zo n) else (runP n lt (kas_sort n)).map Array.toList
section
variable{w:World}{A:qq}{E:Value→qe→Prop}
set_option tactic.hygienic true in
theorem runP_wp{α:Type}{n:Nat}{lt:Nat→Nat→Bool}{cmp:Nat→Nat→(Bool→qe→Prop)→qe→Prop}{I:qe→Prop}{G:α→qe→Prop}
  (hc: ∀i j s C,i<n→j<n→I s→(∀s',I s'→C (lt i j) s')→cmp i j C s) {a:α} (hG: ∀s',I s'→G a s'): ∀(t:KasT α) (s:qe),runP n lt t=some a→I s→t.kasWp cmp G s
 | .ret _,s,h,hI=>by cases h;exact hG s hI
 | .ask i j k,s,h,hI=>by
  have h:(if (decide (i<n)&&decide (j<n))=true then runP n lt (k (lt i j)) else none)=some a:=h
  split at h
  ·rename_i hij
   simp-iota only [qt,decide_eq_true_eq] at hij
   exact hc i j s _ hij.1 hij.2 hI fun s' hI'=>runP_wp hc hG (k (lt i j)) s' h hI'
  ·cases h
theorem sort_core{ks vs:List Value}{κ:SortKind}{lt:Nat→Nat→Bool}{I:qe→Prop}{p:List Nat}{s:qe}(hl:ks.length=vs.length)(h64:vs.length<64)(hr:sortP vs.length lt=some p)(hI:I s)
  (hc:2≤vs.length→ ∀i j s C,i<vs.length→j<vs.length→I s→(∀s',I s'→C (lt i j) s')→wpAny (model pw w) A (keyLt' κ (ks.getD i Value.none) (ks.getD j Value.none)) C (fun fz fz=>False) s):
  wpAny (model pw w) A ((if vs.toArray.size<2 then qj () else sortRuns').run (SortSt.mk' κ (ks.toArray.zip vs.toArray) #[] 7 none)) (fun r s'=>I s'∧(arrOf r.2).map (·.2)=vQ (p.map fun i=>vs.getD i Value.none)∧failedOf r.2=none) E s:=by
 unfold sortP at hr
 by_cases h2:vs.length<2
 ·rw [if_pos h2] at hr
  cases hr
  rw [if_pos (by rw [qo];exact h2)]
  refine qf ⟨hI,?_,rfl⟩
  have e:=kas_range (ks.toArray.zip vs.toArray)
  rw [show (ks.toArray.zip vs.toArray).size=vs.length by simp [hl]] at e
  have:=kat_snds (st:=SortSt.mk' κ (ks.toArray.zip vs.toArray) #[] 7 none) (p:=vQ (zo vs.length)) hl e.symm
  simpa using this
 ·rw [if_neg h2] at hr
  rw [if_neg (by rw [qo];exact h2)]
  obtain ⟨q,hq,rfl⟩:=je.mp hr
  have run:=runP_wp (cmp:=kas_ask pw w A κ ks) (G:=fun a s'=>a=q∧I s') (hc (by exact qQ h2)) (fun s' hI=>⟨rfl,hI⟩) (kas_sort vs.length) s hq hI
  refine kat_run (Q:=fun st' s'=>I s'∧(arrOf st').map (·.2)=vQ (q.toList.map fun i=>vs.getD i Value.none)∧failedOf st'=none) hl (by exact qQ h2) h64 (fun p' st' s' a1 a2 a3 ⟨a4,a5⟩=> ?_) run
  subst a4
  exact ⟨a5,kat_snds hl a2,a3⟩
end
section
variable{b:qe}{w:World}{A:qq}{L L':Led}{α:Type}{T:α→Value→Prop}{ds:List α}{a:Addr}{κ:SortKind}{lt:α→α→Bool}
structure CmpW(b:qe)(w:World)(A:qq)(L:Led)(κ:SortKind)(T:α→Value→Prop)(ds:List α)(lt:α→α→Bool):Prop where
 run: ∀e x y u v s (C:Bool→qe→Prop),x∈ds→y∈ds→T x u→T y v→St b s (e++L)→(∀s',St b s' (e++L)→C (lt x y) s')→wpAny (model pw w) A (keyLt' κ u v) C (fun fz fz=>False) s
structure KindW(b:qe)(w:World)(A:qq)(L:Led)(κ:SortKind)(T:α→Value→Prop)(ds:List α):Prop where
 run: ∀e vs s,All2 T ds vs→2≤vs.length→St b s (e++L)→wpAny (model pw w) A (keyKind' vs.toArray) (fun κ' s'=>κ'=κ∧St b s' (e++L)) (fun fz fz=>False) s
noncomputable abbrev exO(o:Obj):Asn:=fun o'=>o'=o
noncomputable def ltAt [Inhabited α](lt:α→α→Bool)(ds:List α)(i j:Nat):Bool:=lt (ds.getD i zb) (ds.getD j zb)
theorem All2.pick{vs:List Value}(h:All2 T ds vs)[Inhabited α]: ∀{p:List Nat},(∀i∈p,i<ds.length)→All2 T (p.map fun i=>ds.getD i zb) (p.map fun i=>vs.getD i Value.none)
 | [],_=> .nil
 |i::p,hp=>by
  refine .cons ?_ (All2.pick h fun j hj=>hp j (.tail _ hj))
  have hi:=hp i (.head _)
  obtain ⟨v,hv,hT⟩:=h.get (qd hi)
  have e1:ds.getD i zb=ds[i]:=by simp [hi]
  have e2:vs.getD i Value.none=v:=by rw [qi,hv];rfl
  show T (ds.getD i zb) (vs.getD i Value.none)
  rw [e1,e2];exact hT
set_option maxHeartbeats 1000000 in
theorem listSort [Inhabited α]{s:qe}{E:Value→qe→Prop}{p:List Nat}{P:vi→qe→Prop}(H:St b s ((a,isL T ds)::L))(h64:ds.length<64)(hk:KindW b w A L κ T ds)(hc:CmpW b w A L κ T ds lt)(hr:sortP ds.length (ltAt lt ds)=some p)(hp: ∀i∈p,i<ds.length)(hz:p.length<64)
  (q: ∀s',St b s' ((a,isL T (p.map fun i=>ds.getD i zb))::L)→P (.done (.ret .none)) s'):wpAny (model pw w) A (Builtin.«list.sort» ⟨[.ref a],[]⟩) P E s:=by
 obtain ⟨vs,n,ha,ho⟩:=H.lst .head
 have hlen:=ha.len
 rw [list_sort_plain]
 refine qc (vR ho rfl ?_)
 refine qc (QD ho rfl ?_ (by rw [qo,qu];exact Ar.d2 hlen (qg (qv h64) (Ar.d rfl))) (vh _))
 obtain ⟨e1,ho1⟩: ∃e1,(s.heap.update a (js fun fz=>(#[]:Array Value))).get? a=some (vo "list" #[] e1):=⟨_,jX ho fun fz=>#[]⟩
 have H1:St b {s with heap:=s.heap.update a (js fun fz=>(#[]:Array Value))} ((a,exO (vo "list" #[] e1))::L):=H.same (P':=exO (vo "list" #[] e1)) .head (qK ..) ⟨_,ho1,rfl⟩ s.toks
 refine qc (seqEpoch_at ho1 rfl ?_)
 refine qc (wpAny_newTuple ?_ (by show vs.length≤_;rw [qu];exact Ar.d2 hlen (qg (qv h64) (Ar.d rfl))))
 have H2:=(H1.alloc (P:=fun fz=>True) (vo "tuple" vs.toArray 0) rfl trivial).drop
 refine qc (wpAny_newList ?_ (vh _))
 have H3:=(H2.alloc (P:=fun fz=>True) (vo "list" #[] 0) rfl trivial).drop
 refine qC ?_
 dsimp only
 have tail: ∀(r:Unit×SortSt) (s':qe),St b s' ((a,exO (vo "list" #[] e1))::L)∧(arrOf r.2).map (·.2)=vQ (p.map fun i=>vs.getD i Value.none)∧failedOf r.2=none→
   wpAny (model pw w) A (do
    let sorted:=(arrOf r.2).map (·.2)
    let touched:=(←seqEpoch a) !=e1
    Builtin.List.listUpdate (.ref a) fun fz=>sorted
    if let some e:=failedOf r.2 then rule "list.sort.comparison-raised";throw e
    if touched then rule "list.sort.modified";raiseError "ValueError" "list modified during sort"
    ret .none) P E s':=fun r s' ⟨H',hout,hf⟩=>by
  obtain ⟨oa,hoa,rfl⟩:=H'.own _ (.head _)
  have hsz:(vQ (p.map fun i=>vs.getD i Value.none)).size=p.length:=by rw [qo,qh]
  dsimp only
  rw [hout]
  refine qc (seqEpoch_at hoa rfl ?_)
  refine qc (QD hoa rfl ?_ (vh _) (qg (qN hsz) (by rw [qu];omega)))
  rw [hf]
  simp-iota only [bne_self_eq_false,qT,if_false]
  refine qf (q _ ?_)
  refine H'.same .head (qK ..) ⟨_,jX hoa fun fz=>vQ (p.map fun i=>vs.getD i Value.none),⟨_,_,ha.pick hp,rfl⟩⟩ s'.toks
 have core: ∀κ' s',St b s' ((a,exO (vo "list" #[] e1))::L)→(2≤vs.length→κ'=κ)→wpAny (model pw w) A ((if vs.toArray.size<2 then qj () else sortRuns').run (SortSt.mk' κ' (vs.toArray.zip vs.toArray) #[] 7 none))
   (fun r s'=>St b s' ((a,exO (vo "list" #[] e1))::L)∧(arrOf r.2).map (·.2)=vQ (p.map fun i=>vs.getD i Value.none)∧failedOf r.2=none) E s':=fun κ' s' H' hκ=>by
  refine sort_core (lt:=ltAt lt ds) rfl (by omega) (by rw [hlen];exact hr) H' fun h2 i j s'' C hi hj H'' hC=> ?_
  rw [hκ h2]
  have gt: ∀i,i<vs.length→ds.getD i zb∈ds∧T (ds.getD i zb) (vs.getD i Value.none):=fun i hi=>by
   have hi':i<ds.length:=by omega
   obtain ⟨v,hv,hT⟩:=ha.get (qd hi')
   have e1:ds.getD i zb=ds[i]:=by simp [hi']
   have e2:vs.getD i Value.none=v:=by rw [qi,hv];rfl
   rw [e1,e2];exact ⟨vN hi',hT⟩
  exact hc.run [(a,exO (vo "list" #[] e1))] _ _ _ _ s'' C (gt i hi).1 (gt j hj).1 (gt i hi).2 (gt j hj).2 H'' hC
 by_cases h2:vs.toArray.size<2
 ·rw [if_pos h2]
  refine qc (qf ?_)
  exact qc (qL (core _ _ H3 fun h=>by rw [qo] at h2;omega) (fun r s' h=>tail r s' h) fun fz fz x=>x)
 ·rw [if_neg h2]
  refine qc (qL (hk.run [(a,exO (vo "list" #[] e1))] vs _ ha (by rw [qo] at h2;exact qQ h2) H3) (fun κ' s' ⟨e,H'⟩=> ?_) fun fz fz x=>x.elim)
  exact qc (qL (core _ _ H' fun h=>e) (fun r s' h=>tail r s' h) fun fz fz x=>x)
theorem W.sortedL [Inhabited α]{R:Value→Led→Prop}{l:Addr}{p:List Nat}(hm:Mm (l,isL T ds) L)(h64:ds.length<64)(hk:KindW b w A.in1.in1 L κ T ds)(hc:CmpW b w A.in1.in1 L κ T ds lt)(hr:sortP ds.length (ltAt lt ds)=some p)(hp: ∀i∈p,i<ds.length)(hz:p.length<64)
  (q: ∀D,R (.ref D) ((D,isL T (p.map fun i=>ds.getD i zb))::L)):W b w A L (call (.builtin "sorted") [.ref l]) R:=W.mk fun s H=>by
 obtain ⟨vs,n,ha,ho⟩:=H.lst hm
 have hlen:=ha.len
 refine Calls.call_function_entry kind_sorted plain_sorted entry_sorted (args_sorted1 _) ?_
 unfold Builtin.«sorted»
 refine qc (m:=checkCount "sorted" 1 1 _) (qf ?_)
 refine qc (collect_list (listO_is ho) ?_ (by rw [qu];exact Ar.d2 hlen (qg (qv h64) (Ar.d rfl))))
 refine qc (wpAny_newList ?_ (by rw [qu];exact Ar.d2 hlen (qg (qv h64) (Ar.d rfl))))
 have keep: ∀c o,s.heap.get? c=some o→((s.heap.push (vo "list" #[] 0)).update s.heap.objs.size (js (· ++vs.toArray))).get? c=some o:=fun c o e=>by
  have hlt:c<s.heap.objs.size:=zi e
  rw [Heap.get?_update_ne _ _ _ _ (qS hlt),Heap.get?_push_ne _ _ _ (qS hlt)]
  exact e
 have H1:=H.grow (t:=s.toks) keep
 have H2:=H1.alloc (P:=isL T ds) (vo "list" vs.toArray 0) rfl ⟨vs,0,ha,rfl⟩
 obtain ⟨o2,ho2,_⟩:=H2.own _ (.head _)
 have ht2:qe.TypeIs _ (.ref _) "list":=tyL H2 .head
 refine qc (qC (zr slot_list_sort ht2 entry_list_sort ?_ (args_list_sort _)))
 exact listSort H2 h64 hk hc hr hp hz fun s' H'=>⟨_,rfl,qf ⟨_,rfl,_,H',q _⟩⟩
noncomputable def ltS(x y:Str):Bool:=decide (x.cps.toList<y.cps.toList)
theorem kindS{ds:List Str}:KindW b w A L oneType' VS ds:=⟨fun e vs s ha h2 H=>kas_kind (T:= .type "str") h2 (fun v hv=>by
  obtain ⟨d,_,t,rfl⟩:=ha.mem hv
  exact Looks.of_pure rfl) (by decide) (by decide) ⟨rfl,H⟩⟩
theorem cmpS{ds:List Str}:CmpW b w A L oneType' VS ds ltS:=⟨fun e x y u v s C fz fz hu hv H hC=>by
  obtain ⟨t,rfl⟩:=hu
  obtain ⟨t',rfl⟩:=hv
  exact kas_lt_str (hC s H)⟩
theorem kindI{ds:List Int}:KindW b w A L oneType' VI ds:=⟨fun e vs s ha h2 H=>kas_kind (T:= .type "int") h2 (fun v hv=>by
  obtain ⟨d,_,t,rfl⟩:=ha.mem hv
  exact Looks.of_pure rfl) (by decide) (by decide) ⟨rfl,H⟩⟩
theorem cmpI{ds:List Int}:CmpW b w A L oneType' VI ds (fun x y=>decide (x<y)):=⟨fun e x y u v s C fz fz hu hv H hC=>by
  obtain ⟨t,rfl⟩:=hu
  obtain ⟨t',rfl⟩:=hv
  exact kat_lt_int (hC s H)⟩
end
end
section
noncomputable def lexP{α:Type}(eq lt:α→α→Bool):List α→List α→Bool
 |x::xs,y::ys=>if eq x y=true then lexP eq lt xs ys else lt x y
 |xs,ys=>decide (xs.length<ys.length)
structure ItemW(w:World){α:Type}(T:α→Value→Prop)(eq lt:α→α→Bool):Prop where
 eq: ∀(A:qq) (E:Value→qe→Prop) (s:qe) x y u v (C:Bool→qe→Prop),T x u→T y v→C (eq x y) s→wpAny (model pw w) A (eqBool u v) C E s
 lt: ∀(A:qq) (E:Value→qe→Prop) (s:qe) x y u v (Q:Value→qe→Prop),T x u→T y v→Q (.bool (lt x y)) s→wpAny (model pw w) A (richCompare .Lt u v) Q E s
theorem itemS{w:World}:ItemW w VS (fun x y=>decide (x=y)) ltS:=⟨fun A E s x y u v C ⟨t,hu⟩ ⟨t',hv⟩ h=>by
  subst hu hv
  exact wpAny_eqBool_str h,fun A E s x y u v C ⟨t,hu⟩ ⟨t',hv⟩ h=>by
  subst hu hv
  exact PySem.P.lt_str h⟩
theorem itemI{w:World}:ItemW w VI (fun x y=>x==y) (fun x y=>decide (x<y)):=⟨fun A E s x y u v C ⟨t,hu⟩ ⟨t',hv⟩ h=>by
  subst hu hv
  exact wpAny_eqBool_int h,fun A E s x y u v C ⟨t,hu⟩ ⟨t',hv⟩ h=>by
  subst hu hv
  exact lt_int h⟩
section
variable{b:qe}{w:World}{A:qq}{L L':Led}{α:Type}{T:α→Value→Prop}{ds es:List α}{l m:Addr}{eq lt:α→α→Bool}
theorem lexP_l{ds es:List α}{i:Nat}(h:i=ds.length):lexP eq lt (ds.drop i) (es.drop i)=decide (ds.length<es.length):=by
 subst h
 rw [List.drop_length]
 cases hx:es.drop ds.length with
 |nil=>
  have:=congrArg Qy hx
  rw [zt,qP] at this
  show decide (0<0)=_
  rw [decide_eq_decide];exact ⟨fun h=>absurd h (zO 0),fun h=>absurd h (Nat.not_lt.mpr (Qp this))⟩
 |cons y r=>
  have:=congrArg Qy hx
  rw [zt,qy] at this
  show decide (0<r.length+1)=_
  rw [decide_eq_decide];exact ⟨fun fz=>Nat.lt_of_sub_eq_succ this,fun fz=>Nat.succ_pos _⟩
theorem lexP_r{ds es:List α}{i:Nat}(h:i=es.length)(h':i<ds.length):lexP eq lt (ds.drop i) (es.drop i)=decide (ds.length<es.length):=by
 subst h
 rw [List.drop_length]
 cases hx:ds.drop es.length with
 |nil=>
  have:=congrArg Qy hx
  rw [zt,qP] at this
  omega
 |cons y r=>
  show decide (r.length+1<0)=_
  rw [decide_eq_decide];exact ⟨fun h=>absurd h (Nat.not_lt_zero _),fun h=>absurd h (Nat.lt_asymm h')⟩
theorem lt_loop(I:ItemW w T eq lt){vs us:List Value}{n n2:Nat}(ha:All2 T ds vs)(hb:All2 T es us): ∀(k i:Nat),ds.length-i=k→i≤ds.length→i≤es.length→ ∀{A:qq} {s:qe} {R:Result→qe→Prop},
  s.heap.get? l=some (listO vs n)→s.heap.get? m=some (listO us n2)→R (.ok (.ret (.bool (lexP eq lt (ds.drop i) (es.drop i))))) s→Qq (model pw w) A (.builtin "list.__eq__.loop" ⟨[.ref l,.ref m,zw i,zw 0],[]⟩) R s:=by
 have la:=ha.len
 have lb:=hb.len
 have stop: ∀(i:Nat) {A:qq} {s:qe} {R:Result→qe→Prop},(vs.toArray[((i:Nat):Int).toNat]? =none∨us.toArray[((i:Nat):Int).toNat]? =none)→
   s.heap.get? l=some (listO vs n)→s.heap.get? m=some (listO us n2)→R (.ok (.ret (.bool (decide (ds.length<es.length))))) s→Qq (model pw w) A (.builtin "list.__eq__.loop" ⟨[.ref l,.ref m,zw i,zw 0],[]⟩) R s:=by
  intro i A s R hn hl hm h
  refine jj PySem.MeetsSeq3.entry_eq_loop ?_
  show wpAny _ _ (jF (.ref l)>>=_) _ _ s
  refine qc (vR hl rfl ?_)
  refine qc (vR hm rfl ?_)
  have fin:wpAny (model pw w) (A.under (Qg "list.__eq__.loop" {pos:= [Value.ref l,Value.ref m,zw ↑i,zw 0]})) (do
    let __do_lift ←jF (Value.ref l)
    let __do_lift_1 ←jF (Value.ref m)
    PySem.ret (.bool (decide (__do_lift.size<__do_lift_1.size)))) (fun fin s'=>
    match fin with
    |Fin.done f=>R (Except.ok f) s'
    |Fin.again c'=>c'.quiet=true∧Qq (model pw w) A c' R s') (fun e s'=>R (Except.error e) s') s:=by
   refine qc (vR hl rfl ?_)
   refine qc (vR hm rfl ?_)
   refine qf ?_
   show R _ _
   rw [qo,qo,la,lb];exact h
  rcases hn with hn|hn
  ·rw [hn]
   exact fin
  ·rw [hn]
   cases vs.toArray[((i:Nat):Int).toNat]? <;>exact fin
 intro k
 induction k with
 |zero=>
  intro i hk h1 h2 A s R hl hm h
  have hi:i=ds.length:=by omega
  rw [lexP_l hi] at h
  exact stop i (.inl (by simp;exact qN (la.trans hi.symm))) hl hm h
 |succ k ih=>
  intro i hk h1 h2 A s R hl hm h
  by_cases he:i=es.length
  ·rw [lexP_r he (by omega)] at h
   exact stop i (.inr (by simp;exact qN (lb.trans he.symm))) hl hm h
  ·have d1:i<ds.length:=by omega
   have d2:i<es.length:=by exact Nat.lt_of_le_of_ne h2 he
   obtain ⟨v,hv,hT⟩:=ha.get (qd d1)
   obtain ⟨u,hu,hU⟩:=hb.get (qd d2)
   have e1:vs.toArray[((i:Nat):Int).toNat]? =some v:=by simpa using hv
   have e2:us.toArray[((i:Nat):Int).toNat]? =some u:=by simpa using hu
   rw [zM d1,zM d2] at h
   refine jj PySem.MeetsSeq3.entry_eq_loop ?_
   show wpAny _ _ (jF (.ref l)>>=_) _ _ s
   refine qc (vR hl rfl ?_)
   refine qc (vR hm rfl ?_)
   rw [e1,e2]
   refine qc (I.eq _ _ s ds[i] es[i] v u _ hT hU ?_)
   have h:R (.ok (.ret (.bool (if eq ds[i] es[i]=true then lexP eq lt (ds.drop (i+1)) (es.drop (i+1)) else lt ds[i] es[i])))) s:=h
   cases hx:eq ds[i] es[i] with
   |true=>
    rw [hx,if_pos rfl] at h
    rw [if_pos rfl]
    exact qf ⟨plainId_quiet PySem.MeetsSeq3.plain_eq_loop _,ih (i+1) (by omega) (by omega) (by omega) hl hm h⟩
   |false=>
    rw [hx,if_neg qx] at h
    rw [if_neg qx]
    refine qc (vR hl rfl ?_)
    refine qc (vR hm rfl ?_)
    rw [e1,e2]
    refine qc (I.lt _ _ s ds[i] es[i] v u _ hT hU ?_)
    exact qf h
theorem keyLt_list(I:ItemW w T eq lt){E:Value→qe→Prop}{s:qe}{C:Bool→qe→Prop}(H:St b s L)(hu:A.units<cLine)(hl:Mm (l,isL T ds) L)(hm:Mm (m,isL T es) L)(h:C (lexP eq lt ds es) s):
  wpAny (model pw w) A (keyLt' oneType' (.ref l) (.ref m)) C E s:=by
 obtain ⟨vs,n,ha,e1⟩:=H.lst hl
 obtain ⟨us,n2,hb,e2⟩:=H.lst hm
 rw [keyLt'_oneType,oneLt'_eq]
 simp-iota only [if_true]
 refine qc (wpAny_cRoomFor hu ?_)
 refine qc (wpAny_callSpecialIfBound?_slot (tyL H hl) PySem.F.slot_list_lt ?_)
 have tail: ∀c,C c s→wpAny (model pw w) A (truthOfDropped (.bool c)) C E s:=fun c hc=>wpAny_truthy_bool hc
 have hlp:=lt_loop (l:=l) (m:=m) I ha hb ds.length 0 (by omega) (vh _) (vh _) (A:=A) (s:=s) (R:=wants (fun v s'=>wpAny (model pw w) A (match some v with
      |some Value.notImplemented=>do
       rule "list.sort.lt-declined"
       let __do_lift ←richCompare CmpOp.Lt (Value.ref l) (Value.ref m)
       truthOfDropped __do_lift
      |none=>do
       rule "list.sort.lt-declined"
       let __do_lift ←richCompare CmpOp.Lt (Value.ref l) (Value.ref m)
       truthOfDropped __do_lift
      |some __do_lift=>truthOfDropped __do_lift) C E s') E) e1 e2 (tail _ h)
 refine zL (jb PySem.F.slot_list_lt.plain PySem.F.entry_list_lt (PySem.F.slot_list_lt.check _ _ _ _ _ _ _ _ (tyL H hl) (PySem.F.args_list_lt_2 _ _) ?_))
 have hT:=tyL H hm
 show wpAny _ _ (QC (.ref m) (.type "list")>>=_) _ _ s
 refine qc (jo hT (b:=true) (by rw [jP];kernel_rfl) ?_)
 have put: ∀z,z=zw 0→Qq (model pw w) A (.builtin "list.__eq__.loop" ⟨[.ref l,.ref m,zw 0,z],[]⟩) _ s:=fun z e=>by rw [e];exact hlp
 exact qf ⟨plainId_quiet PySem.MeetsSeq3.plain_eq_loop _,vP (put _ (by kernel_rfl)) fun r s' h=>h⟩
end
end
section
section
variable{w:World}{A:qq}{E:Value→qe→Prop}
theorem wpAny_choose{Q:Nat→qe→Prop}{s:qe}{src:Source}{n:Nat}(hn:n≠0)(h: ∀i d,i<n→Q i {s with drawn:=d}):wpAny (model pw w) A (choose src n) Q E s:=fun Γ p hΓ=>by
 unfold choose
 rw [Sem.wp_choose]
 refine ⟨hn,?_⟩
 exact h _ _ (Nat.mod_lt _ (jg hn))
theorem eraseIdx_perm{α:Type}: ∀{l:List α} {i:Nat} (h:i<l.length),(l[i]::l.eraseIdx i).Perm l
 |x::r,0,_=> .refl _
 |x::r,i+1,h=>(zA _ _ _).trans ((eraseIdx_perm (l:=r) (by simpa using h)).cons x)
theorem wpAny_drawOrder{α:Type}: ∀(n:Nat) (xs:List α) (s:qe) (Q:List α→qe→Prop),xs.length=n→(∀ys d,ys.Perm xs→Q ys {s with drawn:=d})→wpAny (model pw w) A (drawOrder n xs) Q E s
 |0,xs,s,Q,hl,h=>by
  cases xs with
  |nil=>exact qf (h [] s.drawn .nil)
  |cons x r=>cases hl
 |n+1,[],s,Q,hl,h=>by cases hl
 |n+1,x::r,s,Q,hl,h=>by
  refine qc (wpAny_choose (by simp) fun i d hi=> ?_)
  rw [qd hi]
  dsimp only
  refine qc (wpAny_drawOrder n _ _ _ (by rw [List.length_eraseIdx];simp-iota only [qy] at hl hi ⊢;rw [if_pos hi];exact Nat.succ.inj hl) fun ys d' hp=> ?_)
  refine qf (h _ d' ?_)
  exact (hp.cons _).trans (eraseIdx_perm hi)
theorem pickGo{α:Type}(next:Nat→Nat): ∀(n k:Nat) (xs:List α) (out:Array α),xs.length=n→(pickOrder.go next n k xs out).toList.Perm (out.toList++xs)
 |0,k,xs,out,hl=>by
  cases xs with
  |nil=>rw [za];exact .refl _
  |cons x r=>cases hl
 |n+1,k,xs,out,hl=>by
  have hi:next k % xs.length<xs.length:=Nat.mod_lt _ (by exact qU (Nat.succ_pos _) hl.symm)
  show (match xs[next k % xs.length]? with|some x=>pickOrder.go next n (k+1) (xs.eraseIdx (next k % xs.length)) (out.push x)|none=>out).toList.Perm _
  rw [qd hi]
  dsimp only
  refine (pickGo next n (k+1) _ _ (by rw [List.length_eraseIdx,if_pos hi];exact Nat.sub_eq_of_eq_add hl)).trans ?_
  rw [Array.toList_push,qY]
  exact (eraseIdx_perm hi).append_left _
theorem pick_perm{α:Type}(next:Nat→Nat)(es:Array α):(pickOrder next es).toList.Perm es.toList:=by
 have:=pickGo next es.size 0 es.toList #[] (by simp)
 unfold pickOrder
 simpa using this
end
theorem slot_setiter_next:Slot "set_iterator" "__next__" "set_iterator.__next__":=
 .of (owner:="set_iterator") (n:="__next__") (by rw [vD,zQ];kernel_rfl) (by decide+kernel) (by decide+kernel) (by decide+kernel)
  (by first|exact .inl (by decide+kernel)|exact .inr (by decide+kernel)) (by rw [jP];kernel_rfl)
theorem entry_setiter_next:entryFor table "set_iterator.__next__"=some Builtin.«set_iterator.__next__»:=entryFor_of_tree (by kernel_rfl)
theorem args_setiter_next(a:Value):argsOk "set_iterator.__next__" ⟨[a],[]⟩:=by unfold argsOk;kernel_rfl
theorem entry_set_iter:entryFor table "set.__iter__"=some Builtin.«frozenset.__iter__»:=
 entryFor_alias (id':="frozenset.__iter__") (by kernel_rfl) rfl (by decide+kernel) (by kernel_rfl)
noncomputable abbrev sitO(first:Value)(i:Nat)(S:Addr)(n ep:Nat):Obj:={cls:= .type "set_iterator",data:= .fields #[first,zw i,.ref S,zw n,zw ep]}
inductive SetOrd(w:World)(S:Addr)(es:Array (Int×Value))(ep:Nat)(t:SetTable):(Nat→Value)→List (Int×Value)→Led→Prop
 |text (h:w.params.followText "set-order"=true):SetOrd w S es ep t (fun fz=>zw 0) (pickOrder (w.params.setOrder S ep) es).toList []
 |one (h:w.params.followText "set-order"=false) (hl:t.led=true) (e:Int×Value) (he:es=#[e]) (j:Nat) (hj:t.place=#[j]):SetOrd w S es ep t (fun i=>if i=0 then zw 0 else zw (j+1:Nat)) [e] []
 |drawn (h:w.params.followText "set-order"=false) (pl:Addr) (ps:List Nat) (hp:ps.Perm (zo es.size)):SetOrd w S es ep t (fun fz=> .ref pl) (ps.filterMap fun p=>es[p]?) [(pl,exO (vo "tuple" (ps.map fun (i:Nat)=>zw i).toArray 0))]
section
variable{b:qe}{w:World}{A:qq}{L L':Led}{R:Value→Led→Prop}{S I:Addr}{es:Array (Int×Value)}{ep:Nat}{t:SetTable}{first:Nat→Value}{xs:List (Int×Value)}{X:Led}{oS:Obj}
theorem SetOrd.len(O:SetOrd w S es ep t first xs X):xs.Perm es.toList:=by
 cases O with
 |text h=>exact pick_perm _ _
 |one h hl e he j hj=>rw [he]
 |drawn h pl ps hp=>
  refine (hp.filterMap _).trans ?_
  rw [filterMap_getElem?_range]
theorem fm_get{β:Type}{es:Array β}: ∀{ps:List Nat} {i:Nat} {x:β},(∀p∈ps,p<es.size)→(ps.filterMap fun p=>es[p]?)[i]? =some x→ ∃p,ps[i]? =some p∧es[p]? =some x
 | [],i,x,_,h=>by simp at h
 |p::r,i,x,hp,h=>by
  have e:es[p]? =some (es[p]'(hp p (.head _))):=jH _
  rw [List.filterMap_cons_some (b:=es[p]'(hp p (.head _))) e] at h
  cases i with
  |zero=>
   refine ⟨p,rfl,?_⟩
   rw [e,←h];rfl
  |succ i=>exact fm_get (ps:=r) (fun q hq=>hp q (.tail _ hq)) (by simpa using h)
theorem nextSet{s:qe}{E:Value→qe→Prop}{i:Nat}{x:Int×Value}(O:SetOrd w S es ep t first xs X)(hd:oS.data= .set es ep t)(hf:t.fits es.size=true)(H:St b s ((I,exO (sitO (first i) i S es.size ep))::L))(hm:Mm (S,exO oS) L)(hX: ∀p∈X,p∈L)(hx:xs[i]? =some x):
  wpAny (model pw w) A (jY (.ref I)) (fun r s'=>r=some x.2∧St b s' ((I,exO (sitO (first (i+1)) (i+1) S es.size ep))::L)) E s:=by
 revert b w A L S I es ep t first xs X oS s E i x O hd hf H hm hX hx
 funext b w A L S I es ep t first xs X oS s E i x O hd hf H hm hX hx
 refine hkX (H.own _ (.head _)) ?_
 funext ⟨_,hI,rfl⟩
 refine hkX (H.own _ (.tail _ hm.mem)) ?_
 funext ⟨_,hS,rfl⟩
 have hl:=O.len.length_eq
 unfold jY
 refine qc (vq (jA (name:=qb "__next__") ⟨_,hI,rfl⟩ slot_setiter_next (zr slot_setiter_next ⟨_,hI,rfl⟩ entry_setiter_next ?_ (args_setiter_next _))))
 show wpAny _ _ (fieldsOf (.ref I)>>=_) _ _ s
 refine qc (wpAny_fieldsOf hI rfl ?_)
 dsimp only
 show wpAny _ _ (setEntries S>>=_) _ _ s
 unfold setEntries
 refine qc (qc (zm hS hd hf (qf ?_)))
 dsimp only
 rw [if_neg (by simp)]
 have fin: ∀{E₀:Value→qe→Prop} f' s',St b s' ((I,exO (sitO f' i S es.size ep))::L)→f'=first (i+1)→wpAny (model pw w) A.in1 (do
   setField (.ref I) 1 (zw ((i:Int)+1))
   PySem.ret x.2) (fun r s'=> ∃v,r= .done (.ret v)∧wpAny (model pw w) A (qj (some v)) (fun r s'=>r=some x.2∧St b s' ((I,exO (sitO (first (i+1)) (i+1) S es.size ep))::L)) E s') E₀ s':=fun {E₀} f' s' H' e=>by
  subst e
  refine hkX (H'.own _ (.head _)) ?_
  funext ⟨_,hI',rfl⟩
  refine qc (wpAny_setField_rec hI' (by simp) ?_)
  funext h' e' hs
  refine qf ⟨_,rfl,qf ⟨rfl,?_⟩⟩
  exact H'.same .head hs ⟨_,e',by show _=sitO _ _ _ _ _;rfl⟩ s'.toks
 have put0: ∀{E₀:Value→qe→Prop} f',wpAny (model pw w) A.in1 (setField (.ref I) 0 f') (fun fz s'=>St b s' ((I,exO (sitO f' i S es.size ep))::L)) E₀ s:=fun {E₀} f'=>
  wpAny_setField_rec hI (by simp) fun h' e' hs=>H.same .head hs ⟨_,e',by show _=sitO _ _ _ _ _;rfl⟩ s.toks
 have byText: ∀{E₀:Value→qe→Prop} (c:Bool) (Q:Bool→qe→Prop),w.params.followText "set-order"=c→Q c s→wpAny (model pw w) A.in1 setsByText Q E₀ s:=fun {E₀} c Q e h=>by
  subst e
  unfold setsByText
  exact qc (jn (qf h))
 cases O with
 |text h=>
  dsimp only
  unfold setNext
  simp-iota only [zJ]
  try dsimp only
  refine qc (zm hS hd hf ?_)
  dsimp only
  try simp-iota only [zJ]
  refine qc (byText true _ h ?_)
  rw [if_pos rfl,if_neg (by simp)]
  unfold setWalk
  simp-iota only [zJ]
  try dsimp only
  refine qc (zm hS hd hf ?_)
  dsimp only
  try simp-iota only [zJ]
  refine qc (byText true _ h ?_)
  rw [if_pos rfl]
  simp-iota only [zJ]
  try dsimp only
  refine qc (jn ?_)
  dsimp only
  simp-iota only [pure_bind]
  try dsimp only
  have hx':(pickOrder ((model pw w).w.params.setOrder S ep) es)[(i:Int).toNat]? =some x:=by
   show (pickOrder (w.params.setOrder S ep) es)[(i:Int).toNat]? =some x
   simpa using hx
  rw [hx']
  dsimp only [Option.map]
  refine qc (qL (put0 _) (fun fz s' H'=>fin _ s' H' rfl) fun fz fz z=>z)
 |one h hled e he j hj=>
  revert h hled e he j hj;funext h hled e he j hj H hI fin hx hl
  subst he
  have hi0:i=0∧e=x:=by
   cases i with
   |zero=>exact ⟨rfl,by simpa using hx⟩
   |succ i=>
    revert i;funext i hx put0 H hI fin
    simp at hx
  refine hkX (hi0) ?_
  funext ⟨rfl,rfl⟩
  dsimp only
  rw [if_pos rfl]
  dsimp only [zw]
  unfold setNext
  simp-iota only [zJ]
  try dsimp only
  refine qc (zm hS hd hf ?_)
  dsimp only
  try simp-iota only [zJ]
  refine qc (byText false _ h ?_)
  rw [if_neg qx]
  have e1:(#[e]:Array (Int×Value)).size=1:=rfl
  rw [if_neg (by show ¬((!t.plain&&decide ((#[e]:Array (Int×Value)).size>1))=true);rw [e1];simp)]
  refine qc (qc (ze (a:=()) (by show (if (!t.led&& !(#[e]:Array (Int×Value)).isEmpty)=true then unsupported "set:maker-not-led" else qj ())=_;rw [hled];rfl) ?_))
  rw [hj]
  have e2:SetTable.below #[j] (QI 0)=0:=rfl
  rw [e2]
  refine qf ?_
  rw [show (#[e]:Array (Int×Value))[0]? =some e from rfl,show (#[j]:Array Nat)[0]? =some j from rfl]
  exact qc (qL (put0 _) (fun fz s' H'=>fin _ s' H' rfl) fun fz fz z=>z)
 |drawn h pl ps hp=>
  revert h pl ps hp;funext h pl ps hp H hI fin hx hl hX
  dsimp only
  have hpl:=H.own _ (.tail _ (hX _ (.head _)))
  refine hkX (hpl) ?_
  funext ⟨_,hpl,rfl⟩
  refine qc (vy hpl rfl ?_)
  dsimp only
  refine hkX (fm_get (fun p hm=>zW.mp (hp.mem_iff.mp hm)) hx) ?_
  funext ⟨p,h1,h2⟩
  have h1':(List.map (fun (i:Nat)=>zw i) ps).toArray[(i:Int).toNat]? =some (zw p):=by simp [h1]
  rw [h1']
  dsimp only [zw]
  unfold setNextDrawn
  simp-iota only [zJ]
  try dsimp only
  refine qc (zm hS hd hf ?_)
  dsimp only
  rw [if_neg (by simp)]
  have h2':es[(p:Int).toNat]? =some x:=by simpa using h2
  rw [h2']
  exact fin _ s H rfl
theorem doneSet{s:qe}{E:Value→qe→Prop}{i:Nat}(O:SetOrd w S es ep t first xs X)(hh:A.handled=none)(hd:oS.data= .set es ep t)(hf:t.fits es.size=true)(H:St b s ((I,exO (sitO (first i) i S es.size ep))::L))(hm:Mm (S,exO oS) L)(hX: ∀p∈X,p∈L)(hi:i=es.size):
  wpAny (model pw w) A (jY (.ref I)) (fun r s'=>r=none∧St b s' L) E s:=by
 revert b w A L S I es ep t first xs X oS s E i O hh hd hf H hm hX hi
 funext b w A L S I es ep t first xs X oS s E i O hh hd hf H hm hX hi
 refine hkX (H.own _ (.head _)) ?_
 funext ⟨_,hI,rfl⟩
 refine hkX (H.own _ (.tail _ hm.mem)) ?_
 funext ⟨_,hS,rfl⟩
 have hl:=O.len.length_eq
 unfold jY
 refine qc (vq (jA (name:=qb "__next__") ⟨_,hI,rfl⟩ slot_setiter_next (zr slot_setiter_next ⟨_,hI,rfl⟩ entry_setiter_next ?_ (args_setiter_next _))))
 show wpAny _ _ (fieldsOf (.ref I)>>=_) _ _ s
 refine qc (wpAny_fieldsOf hI rfl ?_)
 dsimp only
 show wpAny _ _ (setEntries S>>=_) _ _ s
 unfold setEntries
 refine qc (qc (zm hS hd hf (qf ?_)))
 dsimp only
 rw [if_neg (by simp)]
 have stop: ∀s',St b s' L→wpAny (model pw w) A.in1 (do
   let x ←newExc (.type "StopIteration") []
   raiseNew x) (fun r s'=> ∃v,r=vi.done (.ret v)∧wpAny (model pw w) A (qj (some v)) (fun r s'=>r=none∧St b s' L) E s') (fun e s'=>wpAny (model pw w) A (do
    let c ←QC e (Value.type "StopIteration")
    if c=true then qj (none:Option Value) else throw e) (fun r s'=>r=none∧St b s' L) E s') s':=fun s' H'=>by
  refine qc ?_
  simp-iota only [newExc,newTuple]
  try dsimp only
  refine qc (qM ?_ (by size_fits))
  refine qc (m:=Qm _ _) (ze (a:=Value.none) (by first|rfl|(simp-iota only [Qm];rfl)) ?_)
  refine qM ?_ (by size_fits)
  simp-iota only [raiseNew]
  try dsimp only
  refine qc (wpAny_handled ?_)
  rw [show A.in1.handled=none from hh]
  refine qc (qf (wpAny_throw ?_))
  refine qc (jo (T:="StopIteration") (b:=true) ⟨_,zK _ rfl,rfl⟩ isSubtype_stop ?_)
  exact qf ⟨rfl,((H'.alloc (P:=fun fz=>True) _ rfl trivial).drop.alloc (P:=fun fz=>True) _ rfl trivial).drop⟩
 have put: ∀{E₀:Value→qe→Prop} (k:Nat) f' s',k<5→(∃P,St b s' ((I,P)::L)∧ ∃vs,s'.heap.get? I=some {cls:= .type "set_iterator",dict:=none,data:= .fields vs,slots:=#[]}∧vs.size=5)→
   wpAny (model pw w) A.in1 (setField (.ref I) k f') (fun fz s'=> ∃P,St b s' ((I,P)::L)∧ ∃vs,s'.heap.get? I=some {cls:= .type "set_iterator",dict:=none,data:= .fields vs,slots:=#[]}∧vs.size=5) E₀ s':=fun {E₀} k f' s' hk ⟨P,H',vs,e,hz⟩=>
  wpAny_setField_rec e (by omega) fun h' e' hs=>⟨fun fz=>True,H'.same .head hs ⟨_,e',trivial⟩ s'.toks,_,e',by rw [Array.size_setIfInBounds];exact hz⟩
 have st0: ∃P,St b s ((I,P)::L)∧ ∃vs,s.heap.get? I=some {cls:= .type "set_iterator",dict:=none,data:= .fields vs,slots:=#[]}∧vs.size=5:=⟨_,H,_,hI,rfl⟩
 have byText: ∀{E₀:Value→qe→Prop} (c:Bool) (Q:Bool→qe→Prop),w.params.followText "set-order"=c→Q c s→wpAny (model pw w) A.in1 setsByText Q E₀ s:=fun {E₀} c Q e h=>by
  subst e
  unfold setsByText
  exact qc (jn (qf h))
 cases O with
 |text h=>
  dsimp only
  unfold setNext
  simp-iota only [zJ]
  try dsimp only
  refine qc (zm hS hd hf ?_)
  dsimp only
  try simp-iota only [zJ]
  refine qc (byText true _ h ?_)
  rw [if_pos rfl,if_neg (by simp)]
  unfold setWalk
  simp-iota only [zJ]
  try dsimp only
  refine qc (zm hS hd hf ?_)
  dsimp only
  try simp-iota only [zJ]
  refine qc (byText true _ h ?_)
  rw [if_pos rfl]
  simp-iota only [zJ]
  try dsimp only
  refine qc (jn ?_)
  dsimp only
  simp-iota only [pure_bind]
  try dsimp only
  have hx':(pickOrder ((model pw w).w.params.setOrder S ep) es)[(i:Int).toNat]? =none:=by
   show (pickOrder (w.params.setOrder S ep) es)[(i:Int).toNat]? =none
   have:(pickOrder (w.params.setOrder S ep) es).size=es.size:=by simpa using hl
   rw [jh]
   rw [this,hi];simp
  rw [hx']
  dsimp only [Option.map]
  exact qc (qL (put 2 _ _ (by omega) st0) (fun fz s' ⟨P,H',_⟩=>stop s' H'.drop) fun fz fz z=>z)
 |one h hled e he j hj=>
  revert h hled e he j hj;funext h hled e he j hj H hI hl
  subst he
  have hi1:i=1:=hi
  subst hi1
  dsimp only
  rw [if_neg (by decide)]
  dsimp only [zw]
  unfold setNext
  simp-iota only [zJ]
  try dsimp only
  refine qc (zm hS hd hf ?_)
  dsimp only
  try simp-iota only [zJ]
  refine qc (byText false _ h ?_)
  rw [if_neg qx]
  have e1:(#[e]:Array (Int×Value)).size=1:=rfl
  rw [if_neg (by show ¬((!t.plain&&decide ((#[e]:Array (Int×Value)).size>1))=true);rw [e1];simp)]
  refine qc (qc (ze (a:=()) (by show (if (!t.led&& !(#[e]:Array (Int×Value)).isEmpty)=true then unsupported "set:maker-not-led" else qj ())=_;rw [hled];rfl) ?_))
  rw [hj]
  have e2:SetTable.below #[j] (QI ((j+1:Nat):Int))=1:=by
   show SetTable.below.go #[j] (j+1) 1 0 1=1
   show (if (0:Nat)<1 then (if j<j+1 then SetTable.below.go #[j] (j+1) 0 1 1 else SetTable.below.go #[j] (j+1) 0 0 0) else 0)=1
   rewrite [if_pos (Nat.zero_lt_one),if_pos (Nat.lt_succ_self j)]
   rfl
  rw [e2]
  refine qf ?_
  show wpAny _ _ (do
     setField (Value.ref I) 2 Value.none
     let x ←newExc (.type "StopIteration") []
     raiseNew x) _ _ _
  exact qc (qL (put 2 _ _ (by omega) st0) (fun fz s' ⟨P,H',_⟩=>stop s' H'.drop) fun fz fz z=>z)
 |drawn h pl ps hp=>
  revert h pl ps hp;funext h pl ps hp H hI hl hX
  dsimp only
  have hpl:=H.own _ (.tail _ (hX _ (.head _)))
  refine hkX (hpl) ?_
  funext ⟨_,hpl,rfl⟩
  refine qc (vy hpl rfl ?_)
  dsimp only
  have h1':(List.map (fun (i:Nat)=>zw i) ps).toArray[(i:Int).toNat]? =none:=by
   have:=hp.length_eq
   rw [List.length_range] at this
   simp;omega
  rw [h1']
  dsimp only [zw]
  exact qc (qL (put 0 _ _ (by omega) st0) (fun fz s' z=>qc (qL (put 2 _ _ (by omega) z) (fun fz s' ⟨P,H',_⟩=>stop s' H'.drop) fun fz fz z=>z)) fun fz fz z=>z)
theorem extLoop{D:Addr}{res:Value}(O:SetOrd w S es ep t first xs X)(hh:A.handled=none)(hd:oS.data= .set es ep t)(hf:t.fits es.size=true)(hz:es.size<100)(hm:Mm (S,exO oS) L)(hX: ∀p∈X,p∈L): ∀(k i:Nat) (s:qe) {R:Result→qe→Prop},es.size-i=k→i≤es.size→
  St b s ((I,exO (sitO (first i) i S es.size ep))::(D,isL VV ((xs.take i).map (·.2)))::L)→(∀s',St b s' ((D,isL VV (xs.map (·.2)))::L)→R (.ok (.ret res)) s')→Qq (model pw w) A (.builtin "list.extend.loop" ⟨[.ref D,.ref I,res],[]⟩) R s:=by
 have hl:xs.length=es.size:=by simpa using O.len.length_eq
 intro k
 induction k with
 |zero=>
  intro i s R hk hi H hR
  have e:i=es.size:=by omega
  refine jj F.entry_extend_loop ?_
  rw [jc F.plain_extend_loop _]
  show wpAny _ A.in1 (jY (.ref I)>>=_) _ _ s
  refine qc (qL (doneSet (A:=A.in1) O hh hd hf H (.tail hm) (fun p hp=> .tail _ (hX p hp)) e) (fun r s' ⟨e1,H'⟩=> ?_) fun fz fz x=>x)
  subst e1
  refine qf (hR s' ?_)
  rw [e,←hl,zh] at H'
  exact H'
 |succ k ih=>
  intro i s R hk hi H hR
  have hlt:i<xs.length:=by exact hl▸Nat.lt_of_sub_eq_succ hk
  refine jj F.entry_extend_loop ?_
  rw [jc F.plain_extend_loop _]
  show wpAny _ A.in1 (jY (.ref I)>>=_) _ _ s
  refine qc (qL (nextSet (A:=A.in1) O hd hf H (.tail hm) (fun p hp=> .tail _ (hX p hp)) (qd hlt)) (fun r s' ⟨e1,H'⟩=> ?_) fun fz fz x=>x)
  subst e1
  show wpAny _ A.in1 (updateSeq D (·.push xs[i].2)>>=_) _ _ _
  obtain ⟨vs,n,ha,ho⟩:=H'.lst (.tail .head)
  have hlen:=ha.len
  rw [qh,qI] at hlen
  refine qc (wpAny_updateSeq ho rfl (qf ⟨plainId_quiet F.plain_extend_loop _,ih (i+1) _ (by omega) (by exact qU hlt hl) ?_ hR⟩) ?_ ?_)
  ·refine H'.same (.tail .head) (qK ..) ⟨_,jX ho fun a=>a.push xs[i].2,?_⟩ s'.toks
   refine ⟨vs++ [xs[i].2],if ((vs++ [xs[i].2]).toArray.size==vs.toArray.size)=true then n else n+1,?_,?_⟩
   ·rw [qV,qd hlt,qB]
    exact ha.app (.one rfl)
   ·rw [show vs.toArray.push xs[i].2=(vs++ [xs[i].2]).toArray by simp]
  ·rw [qo,qu];exact hlen▸qg (zU _ _) (qg hi (qv (ql hz (Ar.d rfl))))
  ·rw [Array.size_push,qo,qu];omega
theorem iterSet{s:qe}{E:Value→qe→Prop}{ks:List Str}{P:Value→qe→Prop}(H:St b s L)(hS:isSt w ks oS)(hk:ks≠ [])(hd:oS.data= .set es ep t)(hm:Mm (S,exO oS) L)
  (q: ∀I first xs X s',SetOrd w S es ep t first xs X→St b s' ((I,exO (sitO (first 0) 0 S es.size ep))::(X++L))→P (.ref I) s'):wpAny (model pw w) A (pyIter (.ref S)) P E s:=by
 revert b w A L S es ep t oS s E ks P H hS hk hd hm q
 funext b w A L S es ep t oS s E ks P H hS hk hd hm q
 refine hkX (H.own _ hm.mem) ?_
 funext ⟨_,ho,rfl⟩
 refine hkX (hS) ?_
 funext ⟨es',ep',t',tks,hex,hd',hp,hks,hf,hled,hpl,hnd,hlt⟩
 rw [hd] at hd'
 cases hd'
 have hsz:=elS_len hp
 have hkl:tks.length=ks.length:=by rw [←hks,qh]
 have hkz:ks.length≠0:=fun e=>hk (List.length_eq_zero_iff.mp e)
 have hT:s.TypeIs (.ref S) "set":=⟨_,ho,hex.1⟩
 refine wpAny_pyIter_slot hT F.slot_set_iter (zr F.slot_set_iter hT entry_set_iter ?_ (F.args_set_iter_1 _))
 show wpAny _ _ (Builtin.Frozenset.sizeOf S>>=_) _ _ s
 unfold Builtin.Frozenset.sizeOf setEntries
 simp-iota only [zJ]
 try dsimp only
 refine qc (zm ho hd hf ?_)
 dsimp only
 simp-iota only [pure_bind]
 try dsimp only
 have byText: ∀{E₀:Value→qe→Prop} (c:Bool) (Q:Bool→qe→Prop),w.params.followText "set-order"=c→Q c s→wpAny (model pw w) A.in1 setsByText Q E₀ s:=fun {E₀} c Q e h=>by
  subst e
  unfold setsByText
  exact qc (jn (qf h))
 unfold setDrawn
 simp-iota only [zJ]
 try dsimp only
 refine qc (zm ho hd hf ?_)
 dsimp only
 have fin: ∀f first xs X s',SetOrd w S es ep t first xs X→first 0=f→St b s' (X++L)→wpAny (model pw w) A.in1 (do
     let e ←setEpoch S
     let r ←Qs "set_iterator" [f,zw 0,Value.ref S,zw es.size,zw e]
     PySem.ret r) (fun fin s'=> ∃v,fin=Fin.done (Flow.ret v)∧ ∃T' r,s'.TypeIs v T'∧typeLookup (Value.type T') (qb "__next__")=qj (some r)∧P v s') E s':=fun f first xs X s' O e H'=>by
  subst e
  refine hkX (H'.own _ (List.mem_append_right _ hm.mem)) ?_
  funext ⟨_,ho',e'⟩
  cases e'
  unfold setEpoch
  refine qc (qc (zm ho' hd hf (qf ?_)))
  refine qc (qM ?_)
  refine qf ⟨_,rfl,"set_iterator",_,⟨_,zK _ rfl,rfl⟩,slot_setiter_next.lookup,q _ first xs X _ O ?_⟩
  exact H'.alloc (P:=exO (sitO (first 0) 0 S es.size ep)) _ rfl rfl
 cases hT:w.params.followText "set-order" with
 |true=>
  try simp-iota only [zJ]
  refine qc (byText true _ hT ?_)
  refine qc (qf ?_)
  exact fin _ _ _ _ _ (.text hT) rfl H
 |false=>
  try simp-iota only [zJ]
  refine qc (byText false _ hT ?_)
  refine qc (qf ?_)
  by_cases h2:es.size>1
  ·have hpl':t.plain=false:=hpl.resolve_right hk
   rw [if_pos (by show (!false&&(!t.plain&&decide (es.size>1)))=true;rw [hpl'];simp [h2])]
   refine qc (wpAny_drawOrder _ _ _ _ (by simp) ?_)
   funext ps d hps
   refine qc (wpAny_newTuple ?_ (by have:=hps.length_eq;rw [List.length_range] at this;rw [qh,qu];exact Ar.d2 (this.trans (hsz.trans hkl)) (qg (qv hlt) (Ar.d rfl))))
   have H1:St b {s with drawn:=d} L:=⟨H.old,H.lim,H.os,H.gens,H.gk,H.top,H.stat,H.st0,H.tabs,H.lam,H.own,H.nd,H.fresh⟩
   exact fin _ _ _ _ _ (.drawn hT s.heap.objs.size ps hps) rfl (H1.alloc (P:=exO (vo "tuple" (ps.map fun (i:Nat)=>zw i).toArray 0)) _ rfl rfl)
  ·rw [if_neg (by show ¬((!false&&(!t.plain&&decide (es.size>1)))=true);simp [h2])]
   have e1:es.size=1:=by exact vC (qQ h2) (jg fun e=>hkz ((hsz.trans hkl).symm.trans e))
   have hZ: ∃e,es=#[e]:=Array.size_eq_one_iff.mp e1
   revert hZ;funext ⟨e,he⟩
   have hf':=hf
   unfold SetTable.fits at hf'
   simp-iota only [qt,beq_iff_eq] at hf'
   have hZ: ∃j,t.place=#[j]:=Array.size_eq_one_iff.mp (hf'.1.trans e1)
   revert hZ;funext ⟨j,hj⟩
   exact fin _ _ _ _ _ (.one hT (hled.resolve_left (by rw [hT];simp)) e he j hj) rfl H
theorem Mm.upd{a:Addr}{P P':Asn}: ∀{L:Led},Mm (a,P) L→ ∃L',Upd L a P P' L'∧Upd L' a P' P L
 |_,.head=>⟨_,.head,.head⟩
 |_,.tail h=>let ⟨_,h1,h2⟩:=Mm.upd h;⟨_,.tail h1,.tail h2⟩
theorem All2.vvEq: ∀{xs ys:List Value},All2 VV xs ys→ys=xs
 |_,_,.nil=>rfl
 |_,_,.cons h r=>by rw [show _=_ from h,r.vvEq]
noncomputable def strOfV:Value→Str| .str x _=>x|_=>⟨#[]⟩
theorem W.collectSt{ks:List Str}{Q:List Value→Led→Prop}(hh:A.handled=none)(hm:Mm (S,isSt w ks) L)(hk:ks≠ [])(h: ∀qs vs,qs.Perm ks→All2 VS qs vs→Q vs L):W b w A L (collect (.ref S)) Q:=W.mk fun s H=>by
 obtain ⟨oS,ho,hS⟩:=H.own _ hm.mem
 obtain ⟨L',u1,u2⟩:=Mm.upd (P':=exO oS) hm
 have hm':Mm (S,exO oS) L':=mem_mm u2.mem
 have H0:St b s L':=H.same u1 ⟨rfl,fun fz fz=>rfl⟩ ⟨oS,ho,rfl⟩ s.toks
 have hS':=hS
 obtain ⟨es,ep,t,tks,hex,hd,hp,hks,hf,hled,hpl,hnd,hlt⟩:=hS'
 have hsz:=elS_len hp
 have hkl:tks.length=ks.length:=by rw [←hks,qh]
 unfold collect
 refine qc (wpAny_runValue (jj entry_proto_collect' ?_))
 show wpAny _ _ (do again (.builtin "list.__iadd__" ⟨[←newList [],.ref S],[]⟩)) _ _ s
 refine qc (wpAny_newList (qf ⟨jD _ (by decide+kernel),jj entry_list_iadd' ?_⟩))
 have H1:=H0.alloc (P:=isL VV []) (listO [] 0) rfl ⟨[],0,.nil,rfl⟩
 obtain ⟨_,ho1,e⟩:=H1.own _ (.tail _ hm'.mem)
 cases e
 have hne:s.heap.objs.size≠S:=fun e=>zO _ (e▸zi ho)
 rw [jc F.plain_list_iadd _]
 show wpAny (model pw w) A.in1 (Builtin.List.listExtendWith (.ref s.heap.objs.size) (.ref S) (.ref s.heap.objs.size)) _ _ {s with heap:=s.heap.push (listO [] 0)}
 unfold Builtin.List.listExtendWith
 refine qc (jx (T:="set") ⟨_,ho1,hex.1⟩ ?_)
 have h1:Builtin.List.listSameRef (.ref s.heap.objs.size) (.ref S)=false:=by simp [Builtin.List.listSameRef,hne]
 rw [if_neg (by rw [h1];decide)]
 refine qc (iterSet H1 hS hk hd (.tail hm') fun I first xs X s2 O H2=> ?_)
 have hm2:Mm (S,exO oS) ((s.heap.objs.size,isL VV [])::L'):= .tail hm'
 obtain ⟨_,ho2,e⟩:=H2.own _ (.tail _ (List.mem_append_right _ hm2.mem))
 cases e
 unfold Builtin.List.listLengthHint
 refine qc (qC ?_)
 refine qc (jT (T:="set") ⟨_,ho2,hex.1⟩ F.slot_set_len.lookup ?_)
 generalize hid:("set.__len__":String)=id0
 dsimp only
 rw [show splitId id0=some ("set","__len__") from by subst hid;decide+kernel]
 subst hid
 refine qc (jo (T:="set") (b:=true) ⟨_,ho2,hex.1⟩ (by rw [jP];kernel_rfl) ?_)
 rw [if_neg (by decide)]
 rw [if_pos (by kernel_rfl)]
 refine qc (jx (T:="set") ⟨_,ho2,hex.1⟩ ?_)
 refine qf ?_
 rw [if_pos (by kernel_rfl)]
 refine qc (jI ?_)
 unfold Builtin.List.listTouch
 obtain ⟨vs0,n0,ha0,hD⟩:=H2.lst (T:=VV) (ds:= []) (l:=s.heap.objs.size) (.tail (Mm.inr .head))
 cases ha0
 refine qc (qc (QD hD rfl ?_ (by simp) (by simp [qu])))
 obtain ⟨n1,hD1⟩: ∃n1,(s2.heap.update s.heap.objs.size (js fun a=>a.push Value.none)).get? s.heap.objs.size=some (vo "list" #[.none] n1):=⟨_,jX hD fun a=>a.push Value.none⟩
 have H3:=H2.same (P':=exO (vo "list" #[.none] n1)) (.tail (Upd.inr .head)) (qK _ s.heap.objs.size (js fun a=>a.push Value.none)) ⟨_,hD1,rfl⟩ s2.toks
 refine QD hD1 rfl ?_ (by simp [qu]) (by simp)
 obtain ⟨n3,hD2⟩: ∃n3,((s2.heap.update s.heap.objs.size (js fun a=>a.push Value.none)).update s.heap.objs.size (js fun a=>a.pop)).get? s.heap.objs.size=some (vo "list" #[] n3):=⟨_,jX hD1 fun a=>a.pop⟩
 have H4:=H3.same (P':=isL VV []) (.tail (Upd.inr .head)) (qK _ s.heap.objs.size (js fun a=>a.pop)) ⟨_,hD2,[],_,.nil,rfl⟩ s2.toks
 have H5:=H4.perm (L':=(I,exO (sitO (first 0) 0 S es.size ep))::(s.heap.objs.size,isL VV ((xs.take 0).map (·.2)))::(X++L')) (QJ _ vf)
 refine qf ⟨plainId_quiet F.plain_extend_loop _,extLoop O hh hd hf (by exact Ar.d1 (hsz.trans hkl) hlt) (Mm.inr hm') (fun p hp=>jB _ hp) _ 0 _ rfl (vh _) H5 fun s3 H6=> ?_⟩
 obtain ⟨vs,n4,ha,hD3⟩:=H6.lst (T:=VV) (l:=s.heap.objs.size) .head
 rw [ha.vvEq] at hD3
 show wpAny (model pw w) A (load s.heap.objs.size>>=_) _ _ s3
 refine qc (Qk hD3 ?_)
 have hx: ∀e∈xs,∃p∈tks,e=elS w p:=fun e he=>by
  obtain ⟨p,hp1,hp2⟩:=qw.mp ((O.len.trans hp).mem_iff.mp he)
  exact ⟨p,hp1,hp2.symm⟩
 have H7:St b s3 L:=(H6.takes (L':=L') (.skip (.last (.skip .all)))).weak u2 fun o e=>by rw [show o=oS from e];exact hS
 refine qf ⟨L,H7,?_⟩
 show Q (listO (xs.map (·.2)) n4|>.data|>fun d=>match d with| .seq a _=>a.toList|_=> []) L
 have e0:(xs.map (·.2)).toArray.toList=xs.map (·.2):=by simp
 refine h (xs.map fun e=>strOfV e.2) _ ?_ ?_
 ·have:=(O.len.trans hp).map fun e=>strOfV e.2
  refine this.trans ?_
  rw [zf,←hks]
  exact .of_eq (jr fun p fz=>rfl)
 ·show All2 VS _ (xs.map (·.2)).toArray.toList
  rw [e0]
  clear H6 hD3 ha H5 O e0
  induction xs with
  |nil=>exact .nil
  |cons e r ih=>
   obtain ⟨p,_,rfl⟩:=hx e (.head _)
   exact .cons ⟨_,rfl⟩ (ih fun e he=>hx e (.tail _ he))
end
end
section
structure Reb(b b1:qe)(c:Addr):Prop where
 size:b1.heap.objs.size=b.heap.objs.size
 same: ∀a,a≠240→b1.heap.get? a=b.heap.get? a
 os:b1.os=b.os
 gens:b1.gens=b.gens
 tab: ∃ps0 more,b.heap.TableAt 242 240 ps0∧b1.heap.TableAt 242 240 (ps0++more)∧codeAmong lamPos (ps0++more).toList=some (.ref c)
theorem codeTab_ne{h h':Heap}{a:Addr}(hs: ∀a,a≠240→h'.get? a=h.get? a)(hn: ∃o,h.get? 240=some o∧o.cls= .none)(t:isCodeTable h a):isCodeTable h' a:=by
 revert h h' a hs hn t
 funext h h' a hs hn t
 refine hkX (t) ?_
 funext ⟨c,o,vs,e,hc,hd,hv⟩
 refine ⟨c,o,vs,(hs c ?_).trans e,hc,hd,hv⟩
 funext e0
 subst e0
 refine hkX (hn) ?_
 funext ⟨o',e',hc'⟩
 rw [e] at e'
 cases e'
 rw [hc] at hc';cases hc'
section
variable{b b1:qe}{w:World}{A:qq}{L L':Led}{R:Value→Led→Prop}{c:Addr}
theorem St.reb{s:qe}(H:St b s L)(hc:LamC s.heap c): ∃b1,Reb b b1 c∧St b1 s L:=by
 revert b L c s H hc
 funext b L c s H hc
 refine hkX (H.tabs 242 240 (by decide)) ?_
 funext ⟨ps,hi,ht,l1,l2,ps0,t0,k0⟩
 refine hkX (hc) ?_
 funext ⟨psc,htc,hcc⟩
 have ec:psc=ps:=by
  have:=htc.2.symm.trans ht.2
  cases this;rfl
 subst ec
 have hZ: ∃more,psc=ps0++more:=by
  rcases H.old.old 240 _ t0.2 with x|⟨t,_,vs,more,hv,x⟩|⟨hx,_⟩
  ·have:=ht.2.symm.trans x
   cases this;exact ⟨#[],by simp⟩
  ·cases hv
   have:=ht.2.symm.trans x
   cases this;exact ⟨more,rfl⟩
  ·cases hx
 revert hZ;funext ⟨more,rfl⟩
 have e1:(b.heap.update 240 fun fz=>({cls:= .none,data:= .fields (ps0++more)}:Obj)).get? 240=some {cls:= .none,data:= .fields (ps0++more)}:=zR _ t0.2 rfl
 have e2: ∀a,a≠240→(b.heap.update 240 fun fz=>({cls:= .none,data:= .fields (ps0++more)}:Obj)).get? a=b.heap.get? a:=fun a h=>Heap.get?_update_ne _ _ _ _ h
 have e3:(b.heap.update 240 fun fz=>({cls:= .none,data:= .fields (ps0++more)}:Obj)).objs.size=b.heap.objs.size:=Heap.size_update ..
 have tb: ∀c P ps0',(c,P)∈genCodes→P≠240→b.heap.TableAt c P ps0'→(b.heap.update 240 fun fz=>({cls:= .none,data:= .fields (ps0++more)}:Obj)).TableAt c P ps0':=fun c P ps0' hm hP ⟨⟨o,vs,g1,g2⟩,g3⟩=>⟨⟨o,vs,(e2 c (by
   have: ∀p∈genCodes,p.1≠240:=by decide
   exact this _ hm)).trans g1,g2⟩,(e2 P hP).trans g3⟩
 have tb0:(b.heap.update 240 fun fz=>({cls:= .none,data:= .fields (ps0++more)}:Obj)).TableAt 242 240 (ps0++more):=by
  refine hkX (t0) ?_
  funext ⟨⟨o,vs,g1,g2⟩,g3⟩
  exact ⟨⟨o,vs,(e2 242 (by decide)).trans g1,g2⟩,e1⟩
 refine ⟨{b with heap:=b.heap.update 240 fun fz=>{cls:= .none,data:= .fields (ps0++more)}},⟨e3,e2,rfl,rfl,ps0,more,t0,tb0,hcc⟩,?_⟩
 exact {
  old:=by
   refine ⟨fun a o e=> ?_,fun a o e=> ?_⟩
   ·by_cases ha:a=240
    ·subst ha
     have:=e1.symm.trans e
     cases this
     exact .inl ht.2
    ·have e:b.heap.get? a=some o:=(e2 a ha).symm.trans e
     rcases H.old.old a o e with x|⟨t,hc,vs,m,hv,x⟩|⟨rfl,_⟩
     ·exact .inl x
     ·exact .inr (.inl ⟨codeTab_ne e2 ⟨_,t0.2,rfl⟩ t,hc,vs,m,hv,x⟩)
     ·exact .inl (H.st0.trans e)
   ·by_cases ha:a=240
    ·subst ha;exact ⟨_,ht.2⟩
    ·exact H.old.there a o ((e2 a ha).symm.trans e)
  lim:=H.lim
  os:=H.os
  gens:=H.gens
  gk:=H.gk
  top:=by
   refine hkX (H.top) ?_
   funext ⟨o,e,hc⟩
   refine ⟨o,?_,hc⟩
   show (b.heap.update 240 fun fz=>({cls:= .none,data:= .fields (ps0++more)}:Obj)).get? ((b.heap.update 240 fun fz=>({cls:= .none,data:= .fields (ps0++more)}:Obj)).objs.size-1)=some o
   rw [e3,e2 _ (fun e0=> ?_)]
   ·exact e
   ·rw [e0,t0.2] at e
    cases e
    exact hc rfl
  stat:=by show _<(b.heap.update 240 _).objs.size;rw [e3];exact H.stat
  st0:=H.st0.trans (e2 _ (by decide)).symm
  tabs:=fun c' P' hm=>by
   show ∃ps,_∧_∧c'<(b.heap.update 240 _).objs.size∧P'<(b.heap.update 240 _).objs.size∧_
   rw [e3]
   by_cases hP:P'=240
   ·subst hP
    have:c'=242:=by
     have: ∀p∈genCodes,p.2=240→p.1=242:=by decide
     exact this _ hm rfl
    subst this
    exact ⟨_,hi,ht,l1,l2,_,tb0,fun fz fz h=>h⟩
   ·refine hkX (H.tabs c' P' hm) ?_
    funext ⟨ps2,i2,t2,m1,m2,ps3,t3,k3⟩
    exact ⟨ps2,i2,t2,m1,m2,ps3,tb _ _ _ hm hP t3,k3⟩
  lam:=by show Lam _ (b.heap.update 240 _).objs.size _;rw [e3];exact H.lam
  own:=H.own
  nd:=H.nd
  fresh:=fun p hp=>by show (b.heap.update 240 _).objs.size≤_;rw [e3];exact H.fresh p hp}
theorem St.unreb{s:qe}(Rb:Reb b b1 c)(H0: ∃s0 L0,St b s0 L0)(H:St b1 s L):St b s L:=by
 revert b b1 L c s Rb H0 H
 funext b b1 L c s Rb H0 H
 refine hkX (Rb.tab) ?_
 funext ⟨ps0,more,t0,t1,hcc⟩
 refine hkX (H0) ?_
 funext ⟨s0,L0,H0⟩
 have e2:=Rb.same
 have e2': ∀a,a≠240→b.heap.get? a=b1.heap.get? a:=fun a h=>(e2 a h).symm
 refine hkX (H.tabs 242 240 (by decide)) ?_
 funext ⟨ps,hi,ht,l1,l2,ps1,t1',k1⟩
 have e1:ps1=ps0++more:=by
  have:=t1'.2.symm.trans t1.2
  cases this;rfl
 subst e1
 exact {
  old:=by
   refine ⟨fun a o e=> ?_,fun a o e=> ?_⟩
   ·by_cases ha:a=240
    ·subst ha
     have:=t0.2.symm.trans e
     cases this
     rcases H.old.old 240 _ t1.2 with x|⟨t,_,vs,m,hv,x⟩|⟨hx,_⟩
     ·exact .inr (.inl ⟨t0.isCodeTable,rfl,_,more,rfl,x⟩)
     ·cases hv
      exact .inr (.inl ⟨t0.isCodeTable,rfl,_,more++m,rfl,by rw [x,Array.append_assoc]⟩)
     ·cases hx
    ·have e':b1.heap.get? a=some o:=(e2 a ha).trans e
     rcases H.old.old a o e' with x|⟨t,hc,vs,m,hv,x⟩|⟨rfl,_⟩
     ·exact .inl x
     ·exact .inr (.inl ⟨codeTab_ne e2' ⟨_,t1.2,rfl⟩ t,hc,vs,m,hv,x⟩)
     ·exact .inl (H.st0.trans e')
   ·by_cases ha:a=240
    ·subst ha;exact ⟨_,ht.2⟩
    ·exact H.old.there a o ((e2 a ha).trans e)
  lim:=H.lim
  os:=H.os.trans Rb.os
  gens:=H.gens
  gk:=by rw [←Rb.gens];exact H.gk
  top:=H0.top
  stat:=H0.stat
  st0:=H.st0.trans (e2 _ (by decide))
  tabs:=fun c' P' hm=>by
   by_cases hP:P'=240
   ·subst hP
    have:c'=242:=by
     have: ∀p∈genCodes,p.2=240→p.1=242:=by decide
     exact this _ hm rfl
    subst this
    rw [Rb.size] at l1 l2
    exact ⟨_,hi,ht,l1,l2,_,t0,fun pos cv h=>k1 pos cv (by rw [Array.toList_append];exact codeAmong_app h)⟩
   ·refine hkX (H.tabs c' P' hm) ?_
    funext ⟨ps2,i2,t2,m1,m2,ps3,t3,k3⟩
    rw [Rb.size] at m1 m2
    refine hkX (t3) ?_
    funext ⟨⟨o,vs,g1,g2⟩,g3⟩
    exact ⟨ps2,i2,t2,m1,m2,ps3,⟨⟨o,vs,(e2' c' (by
     have: ∀p∈genCodes,p.1≠240:=by decide
     exact this _ hm)).trans g1,g2⟩,(e2' P' hP).trans g3⟩,k3⟩
  lam:=by rw [←Rb.size];exact H.lam
  own:=H.own
  nd:=H.nd
  fresh:=fun p hp=>by rw [←Rb.size];exact H.fresh p hp}
theorem Reb.code{s:qe}(Rb:Reb b b1 c)(H:St b1 s L):s.heap.CodeRec (.ref c) lamQual:=by
 revert b b1 L c s Rb H
 funext b b1 L c s Rb H
 refine hkX (Rb.tab) ?_
 funext ⟨ps0,more,t0,t1,hcc⟩
 refine hkX (H.tabs 242 240 (by decide)) ?_
 funext ⟨ps,hi,ht,l1,l2,ps1,t1',k1⟩
 have e1:ps1=ps0++more:=by
  have:=t1'.2.symm.trans t1.2
  cases this;rfl
 subst e1
 refine hkX (H.lam ps _ ht (k1 _ _ hcc)) ?_
 funext ⟨c',o,vs,t,e,ho,hd,hv,_⟩
 cases e
 exact ⟨c,o,vs,t,rfl,ho,hd,hv⟩
end
end
section
structure Kb(b:qe):Prop where
 bm: ∃o es ep bm ob,b.heap.get? 3=some o∧o.cls≠ .none∧o.data= .dict es ep∧StrKeys es∧jy es "__builtins__"=some (.ref bm)∧bm≠QR∧bm≠mainGlobals∧bm≠240∧b.heap.get? bm=some ob∧ob.cls= .type "module"∧ob.dict=some QR∧ob.data= .plain
noncomputable abbrev lamO(params:Arguments)(body:Expr)(scope:Scope)(pm:Value)(c:Addr)(ctv:Value):Obj:=kla_obj "<lambda>" lamQual params body scope [] pm c ctv
theorem okL.of{env:Env}{x:Str}(h:env.scope.kind= .function)(h1:env.kindOf x=some .local)(h2:(x==("__debug__":Str))=false):okL env x=true:=by simp-iota only [okL,h,h1,h2];rfl
section
variable{b b1:qe}{w:World}{A:qq}{L L':Led}{R:Value→Led→Prop}{c:Addr}
theorem lam_eval{params:Arguments}{body:Expr}{scope:Scope}{env:Env}{pos:Pos}(KB:Kb b)(he:env.code= .ref 242)(hq:env.qual++"<lambda>"=lamQual)(hg:env.globals=mainGlobals)(hcl:QA scope env=qj [])(hp:pos=lamPos)(hdef:defaultsOf params env=([],[])):
  WS b w A L (eval (.Lambda params body scope pos) env) fun v s=> ∃f c pm ctv,v= .ref f∧LamC s.heap c∧St b s ((f,exO (lamO params body scope pm c ctv))::L):=WS.mk fun s H=>by
 subst hp
 refine kla_eval hdef ?_
 rw [hq]
 obtain ⟨ps,hi,ht,l1,l2,ps0,t0,k0⟩:=H.tabs 242 240 (by decide)
 obtain ⟨o,es,ep,bm,ob,e1,e2,e3,e4,e5,e6,e7,e8,e9,e10,e11,e12⟩:=KB.bm
 have hNs:s.heap.Ns mainGlobals (jy es):=⟨o,es,ep,H.base e1 e2,e3,e4,fun fz=>rfl⟩
 have hB:s.heap.BuiltinsAt (jy es) 240:=⟨bm,ob,e5,e6,e7,e8,H.base e9 (by rw [e10];intro e;cases e),e10,e11,e12⟩
 have htri:TriplesOk ps.toList:=by
  obtain ⟨_,_,_,_,_,_,_,_,_,_,_,_,_,_,_,_,_,_,_,r,_⟩:=hi
  exact r
 have hm:(242,240)∈genCodes:=by decide
 cases hn:codeAmong lamPos ps.toList with
 |some cv=>
  obtain ⟨c,oc,vs,t,rfl,hoc,hd,hv,hn1,hn2⟩:=H.lam ps cv ht hn
  refine kla_makeFunctionHit (mg:=jy es) (clos:= []) hcl hg hNs he (CodeHd.of hi ht) ht.2 htri hn hB fun ctv h' tk hk hsz=> ?_
  have H1:St b {s with heap:=h',toks:=tk} L:=H.keepL (fun a o fz e=>hk a o e) rfl H.gens H.gk
  refine ⟨_,c,(jy es (qb "__name__")).getD Value.none,ctv,rfl,⟨ps,(ht.keeps hk).keeps fun fz fz e=>qD _ e,hn⟩,?_⟩
  exact H1.alloc (P:=exO (lamO params body scope ((jy es (qb "__name__")).getD Value.none) c ctv)) _ rfl rfl
 |none=>
  refine kla_makeFunction (mg:=jy es) (clos:= []) hcl hg hNs he (CodeHd.of hi ht) ht.2 htri hn (by decide) hB fun c' ctv h' tk hx hge hlt hrec htb=> ?_
  have ht':h'.TableAt 242 240 (ps++#[zw lamPos.line,zw lamPos.col,.ref c']):=by
   obtain ⟨⟨o,vs,g1,g2⟩,g3⟩:=ht
   exact ⟨⟨o,vs,hx _ _ (by decide) g1,g2⟩,htb⟩
  have hsn:codeAmong lamPos (ps++#[zw lamPos.line,zw lamPos.col,.ref c']).toList=some (.ref c'):=by
   rw [Array.toList_append]
   exact codeAmong_snoc _ htri hn
  have hi':h'.IsCode 242 240 (ps++#[zw lamPos.line,zw lamPos.col,.ref c']):=by
   obtain ⟨o,vs,file,tf,flags,tg,inF,text,tt,op,a,r1,r2,r3,r4,r5,r6,e,f1,f2,f3⟩:=hi
   refine ⟨o,vs,file,tf,flags,tg,inF,text,tt,_,hx _ _ (by decide) a,r1,r2,r3,r4,r5,r6,htb,rfl,?_,f3⟩
   rw [Array.toList_append]
   exact TriplesOk_snoc _ _ _ _ htri
  have hl:Lam h' b.heap.objs.size L:=fun ps' cv ht2 hcv=>by
   have:ps'=ps++#[zw lamPos.line,zw lamPos.col,.ref c']:=by
    have:=ht2.2.symm.trans htb
    cases this;rfl
   subst this
   rw [hsn] at hcv
   cases hcv
   obtain ⟨c2,o,vs,t,e,g1,g2,g3⟩:=hrec
   cases e
   refine ⟨c',o,vs,t,rfl,g1,g2,g3,qg H.size hge,fun hm'=> ?_⟩
   obtain ⟨p,hp,e⟩:=qw.mp hm'
   obtain ⟨o',e',_⟩:=H.own p hp
   have:=zi e'
   rw [e] at this
   exact zO _ (ql this hge)
  have H1:St b {s with heap:=h',toks:=tk} L:=H.table (s':={s with heap:=h',toks:=tk}) hm hl ht hi' ht' hx rfl rfl
  refine ⟨_,c',(jy es (qb "__name__")).getD Value.none,ctv,rfl,⟨_,ht'.keeps fun fz fz e=>qD _ e,hsn⟩,?_⟩
  exact H1.alloc (P:=exO (lamO params body scope ((jy es (qb "__name__")).getD Value.none) c' ctv)) _ rfl rfl
theorem W.split1{x y:Str}{t u v:Tok}(h1:(decide (x.length<y.length)||decide (jJ x<jJ y))=false)(hy:(y.length==0)=false)(hf:(zp x y 0 x.length (PySem.limitOf x 1)).isEmpty=true)
  (h: ∀l,R (.ref l) ((l,isL VS [x])::L)):W b w A L (call (.builtin "str.split") [.str x t,.str y u,.int 1 v]) R:=W.mk fun s H=>by
 refine call_meets F.slot_str_split (typeIs_str _ _ _) F.entry_str_split (F.args_str_split_3 _ _ _) (meets_str_split_max_not_found x y 1 t u v (by decide) h1 hy hf) ?_
 exact ⟨_,H.alloc (P:=isL VS [x]) _ rfl ⟨[.str x t],0,.one ⟨_,rfl⟩,rfl⟩,h _⟩
theorem lam_call{params:Arguments}{scope:Scope}{p1 p2 p3 p4 p5:Pos}{k1 k2:Nat}{x:Str}{t:Tok}{pm ctv:Value}{f:Addr}(Rb:Reb b b1 c)(hA:Rm 1 A)
  (hsc:(scope.kind== .function&&scope.names.lookup (qb "n")==some NameKind.local&& !scope.isCoroutine&& !scope.isGenerator&&scope.names.all (fun x=>x.2 !=NameKind.cell))=true)
  (hbind: ∀fd:vS,fd.params=params→fd.defaults= .none→fd.kwdefaults= .none→bindArgs fd ⟨[.str x t],[]⟩=qj [(qb "n",.str x t)]) (hline:(p2.endLine==p5.line)=true)
  (hm:Mm (f,exO (lamO params (.Call (.Attribute (.Name "n" p1) "split" p2) [.Constant (.str "}") k1 p3,.Constant (.int 1) k2 p4] [] p5) scope pm c ctv)) L)
  (h1:(decide (x.length<Str.length "}")||decide (jJ x<jJ "}"))=false) (hf:(zp x "}" 0 x.length (PySem.limitOf x 1)).isEmpty=true)
  (h: ∀l,R (.ref l) ((l,isL VS [x])::L)):W b1 w A L (call (.ref f) [.str x t]) R:=W.mk fun s H=>by
 simp-iota only [qt,beq_iff_eq,zY] at hsc
 obtain ⟨⟨⟨⟨h3,h4⟩,h5⟩,h6⟩,h7⟩:=hsc
 obtain ⟨_,ho,rfl⟩:=H.own _ hm.mem
 refine zL (kla_callFunE (by have:=hA.depth;show A.depth<1000;omega) ho rfl h5 h6 rfl (Rb.code H) ?_)
 rw [hbind _ rfl rfl rfl]
 refine qf (wpAny_newFunctionEnv (fun y hy=> ?_) (fun y hy=> ?_) (fun h₀ hns hsb=> ?_) h3)
 ·have:=qz.mp h7 y hy
  simpa using this
 ·cases hy with
  |head=>exact h4
  |tail _ hy=>cases hy
 ·have H':St b1 {s with heap:=h₀,toks:=s.toks+1} ((s.heap.objs.size,loc [(qb "n",some (.str x t))])::L):=by
   refine H.ext (fun c o e=>hsb.extBut c o (qS (zi e)) (qD _ e)) (zg _) ?_
   obtain ⟨o,es,ep,ho,hd,hks,hf⟩:=hns
   refine ⟨o,ho,⟨es,ep,hd,hks,fun m=>(hf m).trans ?_⟩,by simp⟩
   simp [List.lookup]
   cases m==qb "n"<;>rfl
  refine ⟨H'.lim,?_⟩
  refine kla_codeExpr (qL (W.run (Q:=fun v L2=> ∃L3,Take L2 L3∧R v L3) ?_ _ H') (fun v s' ⟨L2,H2,L3,tk,hr⟩=>⟨L3,H2.takes tk,hr⟩) fun fz fz z=>z.elim)
  refine W.callM2 hline rfl rfl ?_
  refine W.ld (okL.of h3 h4 (by decide)) .head .head ?_
  refine W.gm F.slot_str_split F.type_str_split ?_
  refine W.cstr fun fz=> ?_
  refine W.cint fun fz=>⟨KprL.bi,?_⟩
  refine W.split1 h1 (by decide) hf fun l=>⟨_,.cons .head (.skip .all),h l⟩
end
end
section
noncomputable def allL{α:Type}(n:Nat)(P:α→Bool):KasT α→Bool
 | .ret a=>P a
 | .ask i j k=>decide (i<n)&&decide (j<n)&&allL n P (k true)&&allL n P (k false)
theorem allL_run{α:Type}{n:Nat}{P:α→Bool}{lt:Nat→Nat→Bool}: ∀(t:KasT α),allL n P t=true→ ∃a,runP n lt t=some a∧P a=true
 | .ret a,h=>⟨a,rfl,h⟩
 | .ask i j k,h=>by
  have h:(decide (i<n)&&decide (j<n)&&allL n P (k true)&&allL n P (k false))=true:=h
  simp-iota only [qt] at h
  obtain ⟨⟨h1,h2⟩,h3⟩:=h
  show ∃a,(if (decide (i<n)&&decide (j<n))=true then runP n lt (k (lt i j)) else none)=some a∧_
  rw [if_pos (by rw [h1.1,h1.2];rfl)]
  cases lt i j with
  |true=>exact allL_run _ h2
  |false=>exact allL_run _ h3
theorem sortP_some{n:Nat}(hn:n<7)(lt:Nat→Nat→Bool): ∃p,sortP n lt=some p∧p.Perm (zo n):=by
 by_cases h2:n<2
 ·exact ⟨_,by unfold sortP;rw [if_pos h2],.refl _⟩
 ·have all: ∀n<7,allL n (fun a:Array Nat=>a.toList.isPerm (zo n)) (kas_sort n)=true:=by decide+kernel
  obtain ⟨a,ha,hp⟩:=allL_run (lt:=lt) _ (all n hn)
  exact ⟨a.toList,by unfold sortP;rw [if_neg h2,ha];rfl,List.isPerm_iff.mp hp⟩
noncomputable def keyL(ls:List (Addr×Str)):Led:=ls.map fun p=>(p.1,isL VS [p.2])
theorem keyL_snoc{ls:List (Addr×Str)}{l:Addr}{x:Str}:keyL (ls++ [(l,x)])=keyL ls++ [(l,isL VS [x])]:=by
 unfold keyL
 rw [qB];rfl
section
variable{b:qe}{w:World}{A:qq}{L L':Led}{R:Value→Led→Prop}{S a kS f:Addr}{ds:List Str}
noncomputable abbrev KeyTurn(b:qe)(w:World)(A:qq)(L:Led)(f:Addr)(ds:List Str):Prop:=
 ∀(E:Led) (x:Str) (t:Tok),x∈ds→W b w A (E++L) (call (.ref f) [.str x t]) fun v L'=> ∃l,v= .ref l∧L'=(l,isL VS [x])::(E++L)
theorem All2.vsGet{vs:List Value}(ha:All2 VS ds vs){i:Nat}{v:Value}(h:vs[i]? =some v): ∃x t,ds[i]? =some x∧v= .str x t:=by
 obtain ⟨d,h1,t,h2⟩:=ha.get' h
 exact ⟨d,t,h1,h2⟩
theorem keySort{s:qe}{E:Value→qe→Prop}{P:vi→qe→Prop}(hu:A.units<cLine)(H:St b s ((a,isL VS ds)::L))(h7:ds.length<7)(turn:KeyTurn b w A L f ds)
  (q: ∀qs s',qs.Perm ds→St b s' ((a,isL VS qs)::L)→P (.done (.ret .none)) s'):wpAny (model pw w) A (Builtin.«list.sort» ⟨[.ref a],[(qb "key",.ref f)]⟩) P E s:=by
 obtain ⟨vs,n,ha,ho⟩:=H.lst .head
 have hlen:=ha.len
 rw [ksk_t1]
 unfold ksk_tree
 refine qc (vR ho rfl ?_)
 refine qc (QD ho rfl ?_ (by rw [qo,qu];exact Ar.d2 hlen (qg (qv h7) (Ar.d rfl))) (vh _))
 obtain ⟨e1,ho1⟩: ∃e1,(s.heap.update a (js fun fz=>(#[]:Array Value))).get? a=some (vo "list" #[] e1):=⟨_,jX ho fun fz=>#[]⟩
 have H1:St b {s with heap:=s.heap.update a (js fun fz=>(#[]:Array Value))} ((a,exO (vo "list" #[] e1))::L):=H.same (P':=exO (vo "list" #[] e1)) .head (qK ..) ⟨_,ho1,rfl⟩ s.toks
 refine qc (seqEpoch_at ho1 rfl ?_)
 refine qc (wpAny_newTuple ?_ (by show vs.length≤_;rw [qu];exact Ar.d2 hlen (qg (qv h7) (Ar.d rfl))))
 have H2:=(H1.alloc (P:=fun fz=>True) (vo "tuple" vs.toArray 0) rfl trivial).drop
 refine qc (wpAny_newList ?_ (vh _))
 have H3:=H2.alloc (P:=isL VR ([]:List Addr)) (vo "list" #[] 0) rfl ⟨[],0,.nil,rfl⟩
 generalize ({s with heap:=(s.heap.update a (js fun fz=>(#[]:Array Value))).push (vo "tuple" vs.toArray 0)}:qe).heap.objs.size=kS at H3
 refine qC ?_
 unfold ksk_rest
 refine qc (jI ?_)
 first
  |rw [←Array.forIn_toList]
  |skip
 refine qc (ksk_fold (fun i s'=> ∃ls:List (Addr×Str),ls.map Prod.snd=ds.take i∧St b s' ((a,exO (vo "list" #[] e1))::(kS,isL (α:=Addr) VR (ls.map Prod.fst))::(keyL ls++L))) vs 0 _ ⟨[],rfl,H3.perm (.swap ..)⟩ ?step ?done)
 case step=>
  rintro j x s' hx ⟨ls,hls,H'⟩
  simp-iota only [Nat.zero_add] at hls ⊢
  obtain ⟨x,t,hd,rfl⟩:=ha.vsGet hx
  have hj:j<ds.length:=(qr.mp hd).1
  have hll:ls.length=j:=by
   have:=congrArg Qy hls
   rw [qh,qI] at this
   exact this.trans (jR (qv hj))
  refine qc (vq (qL ((turn ((a,exO (vo "list" #[] e1))::(kS,isL (α:=Addr) VR (ls.map Prod.fst))::keyL ls) x t (qk hd)).run s' H') (fun v s'' ⟨L2,H2,l,e2,e3⟩=> ?_) fun fz fz hF=>hF.elim))
  subst e2 e3
  dsimp only
  obtain ⟨us,m,hb,hk⟩:=H2.lst (T:=VR) (l:=kS) (.tail (.tail .head))
  have hbl:=hb.len
  rw [qh] at hbl
  refine qc (QD hk rfl ?_ (by rw [qo,qu];omega) (by rw [Array.size_push,qo,qu];exact jm (Ar.d2 (hbl.trans hll) (qg (qv (zq hj h7)) (Ar.d rfl)))))
  refine qf ⟨rfl,ls++ [(l,x)],?_,?_⟩
  ·rw [qB,hls,qV,hd];rfl
  ·have H4:=H2.same (P':=isL (α:=Addr) VR ((ls++ [(l,x)]).map Prod.fst)) (.tail (.tail .head)) (qK _ kS (js fun a=>a.push (.ref l))) ⟨_,jX hk fun a=>a.push (.ref l),by
    refine ⟨us++ [Value.ref l],if ((us++ [Value.ref l]).toArray.size==us.toArray.size)=true then m else m+1,?_,?_⟩
    ·rw [qB];exact hb.app (.one rfl)
    ·rw [show us.toArray.push (Value.ref l)=(us++ [Value.ref l]).toArray by simp]⟩ s''.toks
   refine H4.perm ?_
   rw [keyL_snoc]
   refine (zA ..).trans (QJ _ ?_)
   refine (zA ..).trans (QJ _ ?_)
   rw [qY]
   exact vf.symm
 case done=>
  rintro s' ⟨ls,hls,H'⟩
  rw [Nat.zero_add,hlen,zh] at hls
  obtain ⟨us,m,hb,hk⟩:=H'.lst (T:=VR) (l:=kS) (.tail .head)
  have hbl:=hb.len
  rw [qh] at hbl
  have hll:ls.length=ds.length:=by rw [←hls,qh]
  refine qc (vR hk rfl ?_)
  unfold ksk_end
  simp-iota only [qT,if_false]
  obtain ⟨p,hp,hperm⟩:=sortP_some (n:=vs.length) (by omega) (fun i j=>lexP (fun x y=>decide (x=y)) ltS [ds.getD i zb] [ds.getD j zb])
  have pick: ∀i,i<vs.length→ ∃l,us.getD i Value.none= .ref l∧Mm (l,isL VS [ds.getD i zb]) ((a,exO (vo "list" #[] e1))::(kS,isL (α:=Addr) VR (ls.map Prod.fst))::(keyL ls++L)):=fun i hi=>by
   have hi':i<ls.length:=by exact qU hi (hlen.trans hll.symm)
   obtain ⟨u,hu1,hu2⟩:=hb.get (i:=i) (d:=ls[i].1) (by rw [qp,qd hi'];rfl)
   refine ⟨ls[i].1,?_,.tail (.tail (mem_mm (jB _ ?_)))⟩
   ·rw [qi,hu1];exact hu2
   ·have e:ds.getD i zb=ls[i].2:=by
     rw [←hls,qi,qp,qd hi'];rfl
    rw [e]
    exact qA (f:=fun p=>(p.1,isL VS [p.2])) (vN hi')
  have fin: ∀(st:SortSt) s',St b s' ((a,exO (vo "list" #[] e1))::(kS,isL (α:=Addr) VR (ls.map Prod.fst))::(keyL ls++L))→(arrOf st).map (·.2)=vQ (p.map fun i=>vs.getD i Value.none)→failedOf st=none→wpAny (model pw w) A (ksk_tail a false e1 (.ref kS) st) P E s':=fun st s' H' hout hf=>by
   obtain ⟨us',m',hb',hk'⟩:=H'.lst (T:=VR) (l:=kS) (.tail .head)
   have hbl':=hb'.len
   rw [qh] at hbl'
   have hpl:=hperm.length_eq
   rw [List.length_range] at hpl
   unfold ksk_tail
   dsimp only
   rw [hout]
   refine qc (QD hk' rfl ?_ (by rw [qo,qu];exact Ar.d2 (hbl'.trans hll) (qg (qv h7) (Ar.d rfl))) (vh _))
   have H1:=H'.same (P':=fun fz=>True) (.tail .head) (qK _ kS (js fun fz=>(#[]:Array Value))) ⟨_,jX hk' fun fz=>#[],trivial⟩ s'.toks
   obtain ⟨_,hoa,e⟩:=H1.own _ (.head _)
   cases e
   refine qc (wpAny_letGo ?_)
   refine qc (seqEpoch_at hoa rfl ?_)
   refine qc (QD hoa rfl ?_ (vh _) (by simp-iota only [qT,if_false];rw [qo,qh,qu];exact Ar.d2 (hpl.trans hlen) (qg (qv h7) (Ar.d rfl))))
   rw [hf]
   simp-iota only [bne_self_eq_false,qT,if_false]
   refine qf (q (p.map fun i=>ds.getD i zb) _ ?_ ?_)
   ·have hr:((zo ds.length).map fun i=>ds.getD i zb)=ds:=by
     apply List.ext_getElem
     ·simp
     ·intro i h1 h2;simp [h2]
    rw [hlen] at hperm
    have:=hperm.map fun i=>ds.getD i zb
    rw [hr] at this
    exact this
   ·refine (H1.same (P':=isL VS (p.map fun i=>ds.getD i zb)) .head (qK ..) ⟨_,jX hoa fun fz=>vQ (p.map fun i=>vs.getD i Value.none),_,_,ha.pick fun i hi=> ?_,rfl⟩ s'.toks).takes (.cons .head (.skip (.last (.skip .all))))
    have:=zW.mp (hperm.mem_iff.mp hi)
    exact qU this hlen
  have core: ∀κ s',St b s' ((a,exO (vo "list" #[] e1))::(kS,isL (α:=Addr) VR (ls.map Prod.fst))::(keyL ls++L))→(2≤vs.length→κ=oneType')→wpAny (model pw w) A ((if vs.toArray.size<2 then qj () else sortRuns').run (SortSt.mk' κ (us.toArray.zip vs.toArray) #[] 7 none))
    (fun r s'=>St b s' ((a,exO (vo "list" #[] e1))::(kS,isL (α:=Addr) VR (ls.map Prod.fst))::(keyL ls++L))∧(arrOf r.2).map (·.2)=vQ (p.map fun i=>vs.getD i Value.none)∧failedOf r.2=none) E s':=fun κ s' H' hκ=>by
   refine sort_core (by omega) (by omega) hp H' fun h2 i j s'' C hi hj H'' hC=> ?_
   rw [hκ h2]
   obtain ⟨l1,e1,m1⟩:=pick i hi
   obtain ⟨l2,e2,m2⟩:=pick j hj
   rw [e1,e2]
   exact keyLt_list itemS H'' hu m1 m2 (hC s'' H'')
  by_cases h2:vs.toArray.size<2
  ·rw [if_pos h2]
   refine qc (qf ?_)
   refine qc (qL (core _ _ H' fun h=>by rw [qo] at h2;omega) (fun r s' ⟨h1,h2,h3⟩=>fin r.2 s' h1 h2 h3) fun fz fz x=>x)
  ·rw [if_neg h2]
   refine qc (kas_kind (T:= .type "list") (by rw [qo] at h2;exact qg (qQ h2) (qN (hbl.trans (hll.trans hlen.symm)).symm)) (fun v hv=> ?_) (by decide) (by decide) ?_)
   ·obtain ⟨d,hd,e⟩:=hb.mem hv
    subst e
    obtain ⟨⟨l,x⟩,hp2,rfl⟩:=qw.mp hd
    obtain ⟨us',m',hb',hk'⟩:=H'.lst (T:=VS) (l:=l) (ds:= [x]) (.tail (.tail (mem_mm (jB _ (qA (f:=fun p=>(p.1,isL VS [p.2])) hp2)))))
    exact fun A Q E s k hq=>jx ⟨_,k _ _ hk',rfl⟩ hq
   ·refine qc (qL (core _ _ H' fun h=>rfl) (fun r s' ⟨h1,h2,h3⟩=>fin r.2 s' h1 h2 h3) fun fz fz x=>x)
theorem W.sortedK(hh:A.handled=none)(hu:A.in1.in1.units<cLine)(hm:Mm (S,isSt w ds) L)(hk:ds≠ [])(h7:ds.length<7)(turn:KeyTurn b w A.in1.in1 L f ds)(q: ∀D qs,qs.Perm ds→R (.ref D) ((D,isL VS qs)::L)):
  W b w A L (call (.builtin "sorted") [.ref S] [(qb "key",.ref f)]) R:=W.mk fun s H=>by
 refine call_function_entry_kw kind_sorted plain_sorted entry_sorted (ksk_s1 _ _) ?_
 unfold Builtin.«sorted»
 refine qc (m:=checkCount "sorted" 1 1 _) (qf ?_)
 refine qc ((W.collectSt (A:=A.in1) (Q:=fun vs L2=>L2=L∧ ∃qs,qs.Perm ds∧All2 VS qs vs) hh hm hk (fun qs vs h1 h2=>⟨rfl,qs,h1,h2⟩)).then H fun vs s' L2 H' ⟨e,qs,h1,h2⟩=> ?_)
 subst e
 have hl:=h2.len
 have hl2:=h1.length_eq
 refine qc (wpAny_newList ?_ (by rw [qu];exact Ar.d2 (hl.trans hl2) (qg (qv h7) (Ar.d rfl))))
 have H2:=H'.alloc (P:=isL VS qs) (vo "list" vs.toArray 0) rfl ⟨vs,0,h2,rfl⟩
 refine qc (qC (wpAny_call_entry_kw slot_list_sort (tyL H2 .head) entry_list_sort ?_ (ksk_l1 _ _)))
 exact keySort hu H2 (by omega) (fun E x t hx=>turn E x t (h1.mem_iff.mp hx)) fun qs' s' hp H'=>⟨_,rfl,qf ⟨_,rfl,_,H',q _ _ (hp.trans h1)⟩⟩
end
end
section
section
variable{b:qe}{w:World}{A:qq}{L L':Led}{R:Value→Led→Prop}{S:Addr}{env:Env}{pos:Pos}
theorem W.sortedLam{xp ppos kpos lpos:Pos}{y:Str}{params:Arguments}{body:Expr}{scope:Scope}
  (hkw:backToKw pos (keywordEach [⟨some "key",.Lambda params body scope lpos,kpos⟩] env)= [(some (qb "key"),do let v ←eval (.Lambda params body scope lpos) env;jS pos;qj v)])
  (hst:backTo pos (zB [.Name y ppos] env)= [(false,eval (.Name y ppos) env)])
  (hf:W b w A L (eval (.Name "sorted" xp) env) fun v L1=>v= .builtin "sorted"∧L1=L)
  (ha:W b w A L (eval (.Name y ppos) env) fun v L1=>v= .ref S∧L1=L)
  (lam:WS b w A L (eval (.Lambda params body scope lpos) env) fun v s=> ∃f c pm ctv,v= .ref f∧LamC s.heap c∧St b s ((f,exO (lamO params body scope pm c ctv))::L))
  (h: ∀b1 c f pm ctv,Reb b b1 c→W b1 w A ((f,exO (lamO params body scope pm c ctv))::L) (call (.builtin "sorted") [.ref S] [(qb "key",.ref f)]) R):
  W b w A L (eval (.Call (.Name "sorted" xp) [.Name y ppos] [⟨some "key",.Lambda params body scope lpos,kpos⟩] pos) env) R:=W.mk fun s H=>by
 show wpAny _ _ (do callWith pos (←eval (.Name "sorted" xp) env) [] (backTo pos (zB [.Name y ppos] env)) (backToKw pos (keywordEach [⟨some "key",.Lambda params body scope lpos,kpos⟩] env))) _ _ s
 rw [hkw,hst]
 refine qc (hf.then H fun v s1 L1 H1 ⟨e1,e2⟩=> ?_)
 subst e1 e2
 let Q:Value→qe→Prop:=Post b R
 let E:Value→qe→Prop:=fun fz fz=>False
 have ea:wpAny (model pw w) A (evalArgs (.builtin "sorted") true [(false,eval (.Name y ppos) env)] [(some (qb "key"),do let v ←eval (.Lambda params body scope lpos) env;jS pos;qj v)]) (fun a s₂=>Kpr (model pw w) (.builtin "sorted") s₂∧wpAny (model pw w) A (call (.builtin "sorted") ([]++a.pos) a.kw) Q E s₂) E s1:=by
  refine evalArgs_kw rfl (spliced_cons (ha.then H1 fun v s2 L2 H2 ⟨e1,e2⟩=> ?_))
  subst e1 e2
  refine qf ?_
  refine wpAny_evalAll_cons (qc (qL (lam.run s2 H2) (fun v s3 ⟨f,c,pm,ctv,e1,hc,H3⟩=> ?_) fun fz fz z=>z.elim))
  subst e1
  refine qc (vp (qf ?_))
  refine qf ⟨(KprL.bi (b:=b) (w:=w)) s3 H3,?_⟩
  obtain ⟨b1,Rb,H4⟩:=H3.reb hc
  exact (h b1 c f pm ctv Rb).then H4 fun v s' L' H' hr=>⟨L',H'.unreb Rb ⟨_,_,H3⟩,hr⟩
 unfold callWith
 refine qc (qC (qL ea (fun a s₁ h₁=> ?_) fun fz fz x=>x))
 refine qc (vp ?_)
 refine qc (h₁.1 _ _ _ fun k=> ?_)
 have tail: ∀{t:Sem Value},wpAny (model pw w) A t Q E s₁→wpAny (model pw w) A (t>>=fun r=>zv [r] PySem.point>>=fun fz=>qj r) Q E s₁:=
  fun ht=>qc (qL ht (fun r s₂ hr=>qc (qC (wpAny_point (qf hr)))) fun fz fz x=>x)
 have key: ∀m,wpAny (model pw w) A (callMarked m (.builtin "sorted") ([]++a.pos) a.kw) Q E s₁:=fun m=>by unfold callMarked;exact Calls.wpAny_keep h₁.2
 cases k
 ·exact tail (key _)
 ·exact tail (key _)
 ·exact tail h₁.2
 ·exact tail (fun Γ p hΓ=>by rw [Sem.wp_operate];exact h₁.2 Γ p hΓ)
theorem W.post{α:Type}{t:Sem α}{Q:α→Led→Prop}(h:W b w A L t fun v L1=> ∃L2,Take L1 L2∧Q v L2):W b w A L t Q:=
 W.mk fun s H=>h.then H fun v s' L1 H1 ⟨L2,tk,hq⟩=>⟨L2,H1.takes tk,hq⟩
theorem W.sortedBrace{xp ppos kpos lpos p1 p2 p3 p4 p5:Pos}{k1 k2:Nat}{y:Str}{params:Arguments}{scope:Scope}{ds:List Str}(KB:Kb b)(hA:Rm 3 A)(he:env.code= .ref 242)(hq:env.qual++"<lambda>"=lamQual)(hg:env.globals=mainGlobals)(hcl:QA scope env=qj [])(hp:lpos=lamPos)(hdef:defaultsOf params env=([],[]))
  (hkw:backToKw pos (keywordEach [⟨some "key",.Lambda params (.Call (.Attribute (.Name "n" p1) "split" p2) [.Constant (.str "}") k1 p3,.Constant (.int 1) k2 p4] [] p5) scope lpos,kpos⟩] env)= [(some (qb "key"),do let v ←eval (.Lambda params (.Call (.Attribute (.Name "n" p1) "split" p2) [.Constant (.str "}") k1 p3,.Constant (.int 1) k2 p4] [] p5) scope lpos) env;jS pos;qj v)])
  (hst:backTo pos (zB [.Name y ppos] env)= [(false,eval (.Name y ppos) env)])
  (hsc:(scope.kind== .function&&scope.names.lookup (qb "n")==some NameKind.local&& !scope.isCoroutine&& !scope.isGenerator&&scope.names.all (fun x=>x.2 !=NameKind.cell))=true)
  (hbind: ∀x t,∀fd:vS,fd.params=params→fd.defaults= .none→fd.kwdefaults= .none→bindArgs fd ⟨[.str x t],[]⟩=qj [(qb "n",.str x t)]) (hline:(p2.endLine==p5.line)=true)
  (hf:W b w A L (eval (.Name "sorted" xp) env) fun v L1=>v= .builtin "sorted"∧L1=L)
  (ha:W b w A L (eval (.Name y ppos) env) fun v L1=>v= .ref S∧L1=L)
  (hm:Mm (S,isSt w ds) L) (hk:ds≠ []) (h7:ds.length<7)
  (h1: ∀x∈ds,(decide (x.length<Str.length "}")||decide (jJ x<jJ "}"))=false) (h2: ∀x∈ds,(zp x "}" 0 x.length (PySem.limitOf x 1)).isEmpty=true)
  (q: ∀D qs,qs.Perm ds→R (.ref D) ((D,isL VS qs)::L)):
  W b w A L (eval (.Call (.Name "sorted" xp) [.Name y ppos] [⟨some "key",.Lambda params (.Call (.Attribute (.Name "n" p1) "split" p2) [.Constant (.str "}") k1 p3,.Constant (.int 1) k2 p4] [] p5) scope lpos,kpos⟩] pos) env) R:=by
 refine W.sortedLam hkw hst hf ha (lam_eval KB he hq hg hcl hp hdef) fun b1 c f pm ctv Rb=> ?_
 refine W.post ?_
 refine W.sortedK hA.handled ?_ (.tail hm) hk h7 ?_ fun D qs hp=> ?_
 ·have:=hA.units
  have e:cLine=9900:=by decide
  show A.units+1+1<cLine
  rw [e];exact Ar.s5 this
 ·intro E x t hx
  exact lam_call Rb hA.in1.in1 hsc (hbind x t) hline (Mm.inr .head) (h1 x hx) (h2 x hx) fun l=>⟨l,rfl,rfl⟩
 ·exact ⟨_,.cons .head (.skip .all),q D qs hp⟩
end
end
section
section
variable{b:qe}{w:World}{A:qq}{L L':Led}{env:Env}{pos:Pos}{R:Value→Led→Prop}{Q:Flow→Led→Prop}
theorem codeAny_compLoop_goD{kx vx target iter:Expr}{ifs:List Expr}{scope:Scope}{pos:Pos}{it:Value}{D:Addr}{env:Env}{R:Result→qe→Prop}{s:qe}(I:Nat→qe→Prop)
  (turn: ∀n s,I n s→wpAny (model pw w) A (jY it) (fun r s₁=>match r with
   |none=>R (.ok .next) s₁
   |some v=>wpAny (model pw w) A (zF target it v) (fun fz s₁'=>wpAny (model pw w) A (QS target env v) (fun fz s₂=>
     wpAny (model pw w) A (forIn ifs true fun c r=>if r=true then do let ok ←isTrue c env (eval c env);qj (jV ok) else qj (jV r)) (fun ok s₃=>
      if ok=true then wpAny (model pw w) A (eval kx env) (fun x s₄=>wpAny (model pw w) A (eval vx env) (fun y s₄=>
       wpAny (model pw w) A (dictSet D x y) (fun fz s₅=> ∃m,m<n∧I m s₅) (fun fz fz=>False) s₄) (fun fz fz=>False) s₄) (fun fz fz=>False) s₃
      else ∃m,m<n∧I m s₃) (fun fz fz=>False) s₂) (fun fz fz=>False) s₁') (fun fz fz=>False) s₁) (fun fz fz=>False) s)
  (n:Nat) (h:I n s):Qq (model pw w) A (.compLoop (.DictComp kx vx [⟨target,iter,ifs,0⟩] scope pos) 0 it (.ref D) env) R s:=by
 refine codeAny_loop rfl I (fun n s hI=> ?_) n h
 show wpAny _ A ((compTurn (.DictComp kx vx [⟨target,iter,ifs,0⟩] scope pos) 0 it (.ref D) env).onRaise (fun x=>do noteFrame x env;theTreesLotGoes x)) _ _ s
 refine wpAny_noted ?_
 rw [compTurn_dict]
 refine qc (vp (qc (qL (turn n s hI) (fun r s₁ h₁=> ?_) fun fz fz h'=>h'.elim)))
 cases r with
 |none=>exact qf h₁
 |some v=>
  refine qc (qL h₁ (fun fz s₁' h₁'=> ?_) fun fz fz h'=>h'.elim)
  refine qc (qL h₁' (fun fz s₂ h₂=>qc (qL h₂ (fun ok s₃ h₃=> ?_) fun fz fz h'=>h'.elim)) fun fz fz h'=>h'.elim)
  cases ok with
  |false=>exact qf ⟨rfl,h₃⟩
  |true=>
   exact qc (qc (qL h₃ (fun x s₄ h₄=>qc (qC (qL h₄ (fun y s₅ h₅=>qc (vp (qC (qL h₅ (fun fz s₆ h₆=>qf ⟨rfl,h₆⟩) fun fz fz h'=>h'.elim)))) fun fz fz h'=>h'.elim))) fun fz fz h'=>h'.elim))
inductive CompD(b:qe)(w:World)(A:qq)(env:Env)(kx vx target:Expr)(ifs:List Expr)(scope:Scope)(cl:List (Str×Addr))(names:List Str)(x:Value)(L1:Led)(I:Addr→Nat→Led→Prop)(n:Nat):Prop
 |mk (V:Nat→Value→Prop) (Kp:Led→Prop) (h:Walk b w A x n V Kp L1) (h0: ∃(α:Type) (T:α→Value→Prop),∀acc,∃L2,Take L1 L2∧I acc 0 ((acc,isD w T [])::L2)) (hk: ∀acc i L2,I acc i L2→Kp L2)
   (hb: ∀acc C it P i v L2 fr,i<n→V i v→fr.map (·.1)=names→I acc i L2→W b w A ((C,loc fr)::(it,P)::L2) (QS target (envC scope cl C env) v) fun fz L5=>
    W b w A L5 (forIn ifs true fun c r=>if r=true then do let ok ←isTrue c (envC scope cl C env) (eval c (envC scope cl C env));qj (jV ok) else qj (jV r)) fun ok L6=>
     (ok=true→W b w A L6 (eval kx (envC scope cl C env)) fun x L7=>W b w A L7 (eval vx (envC scope cl C env)) fun y L7=>W b w A L7 (dictSet acc x y) fun fz L8=>CB names C (it,P) (I acc (i+1)) L8)∧
     (ok=false→CB names C (it,P) (I acc (i+1)) L6))
theorem W.compDU{use:Option (Value→Sem Unit)}{kx vx target iter:Expr}{ifs:List Expr}{scope:Scope}(cl:List (Str×Addr))(names:List Str)
  (hs: ∀x,zE iter env x=qj x) (hclos:QA scope env=qj cl)
  (hd:(scope.kind== .function&&scope.names.all (fun x=>x.2 != .cell)&&scope.names.all (fun x=>x.2 != .local||scope.names.lookup x.1==some .local)&&decide names.Nodup)=true)
  (h:W b w A L (eval iter env) fun x L1=>ExC (CompD b w A env kx vx target ifs scope cl names x L1) fun I n=>
   (match use with
    |none=> ∀acc L2,I acc n L2→R (.ref acc) L2
    |some u=> ∀acc C fr L2,fr.map (·.1)=names→I acc n L2→W b w A ((C,loc fr)::L2) (u (.ref acc)) fun fz L3=> ∃fr' L4,Take L3 ((C,loc fr')::L4)∧R .none L4)):
  W b w A L (comprehension (.DictComp kx vx [⟨target,iter,ifs,0⟩] scope pos) scope env (firstIterPos [⟨target,iter,ifs,0⟩] pos) newDict false (eval iter env) use) R:=by
 revert b w A L env pos R use kx vx target iter ifs scope cl names hs hclos hd h
 funext b w A L env pos R use kx vx target iter ifs scope cl names hs hclos hd h
 simp-iota only [qt,beq_iff_eq,decide_eq_true_eq] at hd
 refine hkX (hd) ?_
 funext ⟨⟨⟨h1,h2⟩,h3⟩,h4⟩
 have hcell: ∀x∈scope.names,x.2≠ .cell:=fun x hx=>by simpa using qz.mp h2 x hx
 have hnames: ∀x∈scope.names,x.2= .local→scope.names.lookup x.1=some .local:=fun x hx hl=>by
  have:=qz.mp h3 x hx
  simpa [hl] using this
 refine W.mk ?_
 funext s H
 refine wpAny_comprehension_free (e:= .DictComp kx vx [⟨target,iter,ifs,0⟩] scope pos) (cl:=cl) (g:=⟨target,iter,ifs,0⟩) (gs:= []) rfl hs hclos h1 hnames (h.then H ?_)
 funext x s1 L1 H1 hx
 refine hkX (hx) ?_
 funext ⟨I,n,⟨V,Kp,⟨E,hE,hW⟩,⟨β,TT,hI⟩,hK,hT⟩,hD⟩
 refine (hW (fun itv L2=> ∃it,itv= .ref it∧L2=(it,E 0)::L1) (fun it=>⟨it,rfl,rfl⟩)).then H1 ?_
 funext itv s2 L2 H2 ⟨it,e1,e2⟩
 subst e1;subst e2
 unfold newDict
 refine qM ?_ (by size_fits)
 have H3:=H2.alloc (P:=isD w TT []) QO rfl ⟨[],⟨#[],0,⟨rfl,rfl,rfl⟩,rfl,fun e he=>by simp at he,.nil,.nil⟩,.nil,by simp⟩
 refine St.compEnv (names:=names) H3 hcell h1 h4 ?_
 funext C s4 H4
 refine hkX (hI s2.heap.objs.size) ?_
 funext ⟨L2,tk,hI0⟩
 have H5:St b s4 ((C,loc (allNone names))::(it,E 0)::(s2.heap.objs.size,isD w TT [])::L2):=
  H4.takes (.cons .head (.cons (.tail .head) (.cons .head tk)))
 have loop: ∀s4,St b s4 ((C,loc (allNone names))::(it,E 0)::(s2.heap.objs.size,isD w TT [])::L2)→Qq (model pw w) A (.compLoop (.DictComp kx vx [⟨target,iter,ifs,0⟩] scope pos) 0 (.ref it) (.ref s2.heap.objs.size) (envC scope cl C env))
   (fun r s'=>match r with| .ok _=>CmpE b names C (I s2.heap.objs.size n) s'| .error _=>False) s4:=by
  funext s4 H5
  refine codeAny_compLoop_goD (CmpI b names C it E (I s2.heap.objs.size) n) ?_ n ⟨0,allNone names,_,by omega,by omega,by simp [allNone,Function.comp_def],H5,hI0⟩
  funext m s' ⟨i,fr,L3,rfl,hi,hfr,H',hI'⟩
  have H'':St b s' ((it,E i)::(C,loc fr)::L3):=H'.perm (zA _ _ _)
  by_cases hlt:i<n
  ·refine (hE.next i it ((C,loc fr)::L3) (fun r L4=> ∃v,r=some v∧V i v∧L4=(it,E (i+1))::(C,loc fr)::L3) hlt (hE.mono _ _ (hK _ i L3 hI')) (fun v hv=>⟨v,rfl,hv,rfl⟩)).then H'' ?_
   funext r s6 L4 H6 ⟨v,e1,hv,e2⟩
   subst e1;subst e2
   refine (hE.go target v (i+1) it ((C,loc fr)::L3) (fun fz L4=>L4=(it,E (i+1))::(C,loc fr)::L3) rfl).then H6 ?_
   funext _ s6 L4 H6 e3
   subst e3
   refine (hT _ C it (E (i+1)) i v L3 fr hlt hv hfr hI').then (H6.perm (zA _ _ _)) ?_
   funext _ s7 L7 H7 h7
   refine h7.then H7 ?_
   funext ok s8 L8 H8 h8
   cases ok with
   |true=>
    rw [if_pos rfl]
    refine (h8.1 rfl).then H8 ?_
    funext x s9 L9 H9 h9
    refine h9.then H9 ?_
    funext y s9 L9 H9 h9
    refine h9.then H9 ?_
    funext _ s10 L10 H10 ⟨fr',L11,hf,tk',hI''⟩
    exact ⟨n-(i+1),by omega,i+1,fr',L11,rfl,hlt,hf,H10.takes tk',hI''⟩
   |false=>
    rw [if_neg qx]
    refine hkX (h8.2 rfl) ?_
    funext ⟨fr',L11,hf,tk',hI''⟩
    exact ⟨n-(i+1),by omega,i+1,fr',L11,rfl,hlt,hf,H8.takes tk',hI''⟩
  ·have e:i=n:=by omega
   subst e
   refine (hE.done it ((C,loc fr)::L3) (fun r L4=>r=none∧L4=(C,loc fr)::L3) (hE.mono _ _ (hK _ _ L3 hI')) ⟨rfl,rfl⟩).then H'' ?_
   funext r s6 L4 H6 ⟨e1,e2⟩
   subst e1;subst e2
   exact ⟨fr,L3,hfr,H6,hI'⟩
 have hsc:({newEnv scope C env.globals cl env.qual none .none (some env) QR with scope:=relabel scope env}:Env)=envC scope cl C env:=rfl
 rw [hsc]
 refine vP (codeAny_compStart_dict (loop s4 H5) ?_) ?_
 ·refine (hE.self 0 it ((C,loc (allNone names))::(s2.heap.objs.size,isD w TT [])::L2) (fun v L4=>v= .ref it∧L4=(it,E 0)::(C,loc (allNone names))::(s2.heap.objs.size,isD w TT [])::L2) ⟨rfl,rfl⟩).then (H5.perm (zA _ _ _)) ?_
  funext v s5 L5 H6 ⟨e1,e2⟩
  subst e1;subst e2
  exact loop s5 (H6.perm (zA _ _ _))
 ·funext r s' hr
  cases r with
  |error e=>
   revert e;funext e hr
   exact hr.elim
  |ok f=>
   revert f;funext f hr
   refine hkX (hr) ?_
   funext ⟨fr,L3,hfr,H',hI'⟩
   cases use with
   |none=>
    have hns:=H'.ns (.head _)
    exact ⟨_,hns.1,fun h' hs'=>⟨L3,H'.gone hs'.extBut s'.toks,hD _ L3 hI'⟩⟩
   |some u=>
    revert u;funext u h hx hD
    refine (hD _ C fr L3 hfr hI').then H' ?_
    funext _ s'' L4 H'' ⟨fr',L5,tk',hR⟩
    have H3:=H''.takes tk'
    have hns:=H3.ns (.head _)
    exact ⟨_,hns.1,fun h' hs'=>⟨L5,H3.gone hs'.extBut s''.toks,hR⟩⟩
theorem W.compD{kx vx target iter:Expr}{ifs:List Expr}{scope:Scope}(cl:List (Str×Addr))(names:List Str)
  (hs: ∀x,zE iter env x=qj x) (hclos:QA scope env=qj cl)
  (hd:(scope.kind== .function&&scope.names.all (fun x=>x.2 != .cell)&&scope.names.all (fun x=>x.2 != .local||scope.names.lookup x.1==some .local)&&decide names.Nodup)=true)
  (h:W b w A L (eval iter env) fun x L1=>ExC (CompD b w A env kx vx target ifs scope cl names x L1) fun I n=> ∀acc L2,I acc n L2→R (.ref acc) L2):
  W b w A L (eval (.DictComp kx vx [⟨target,iter,ifs,0⟩] scope pos) env) R:=by
 rw [arm_eval_DictComp]
 exact W.compDU (use:=none) cl names hs hclos hd h
theorem W.asgCD{x:Str}{pos' spos:Pos}{rest:List Stmt}{kx vx target iter:Expr}{ifs:List Expr}{scope:Scope}(cl:List (Str×Addr))(names:List Str)
  (hsw:swapsWith (.DictComp kx vx [⟨target,iter,ifs,0⟩] scope pos) (some (.Name x pos')) spos.line env=qj true)
  (hs: ∀x,zE iter env x=qj x) (hclos:QA scope env=qj cl)
  (hd:(scope.kind== .function&&scope.names.all (fun x=>x.2 != .cell)&&scope.names.all (fun x=>x.2 != .local||scope.names.lookup x.1==some .local)&&decide names.Nodup)=true)
  (h:W b w A L (eval iter env) fun xv L1=>ExC (CompD b w A env kx vx target ifs scope cl names xv L1) fun I n=>
   ∀acc C fr L2,fr.map (·.1)=names→I acc n L2→W b w A ((C,loc fr)::L2) (Qi env x (.ref acc)) fun fz L3=> ∃fr' L4,Take L3 ((C,loc fr')::L4)∧W b w A L4 (execs rest env) Q):
  W b w A L (execs (.Assign [.Name x pos'] (.DictComp kx vx [⟨target,iter,ifs,0⟩] scope pos) spos::rest) env) Q:=by
 revert b w A L env pos Q x pos' spos rest kx vx target iter ifs scope cl names hsw hs hclos hd h
 funext b w A L env pos Q x pos' spos rest kx vx target iter ifs scope cl names hsw hs hclos hd h
 refine W.seq ?_
 rw [arm_exec_Assign]
 refine W.bind (W.stand (W.bind (W.eq hsw (W.pure ?_))))
 rw [if_pos rfl]
 refine W.bind ?_
 have e:evalThenUse (.DictComp kx vx [⟨target,iter,ifs,0⟩] scope pos) env (fun v=>assignAll v ((assignEach [.Name x pos'] env).map (·.2)))=(do
  let _ ←comprehension (.DictComp kx vx [⟨target,iter,ifs,0⟩] scope pos) scope env (firstIterPos [⟨target,iter,ifs,0⟩] pos) newDict false (eval iter env) (some fun v=>assignAll v ((assignEach [.Name x pos'] env).map (·.2)))):=rfl
 rw [e]
 refine W.bind (W.compDU (R:=fun fz L4=>W b w A L4 (execs rest env) Q) (use:=some _) cl names hs hclos hd (h.mono fun x L1 hx=>hx.casesOn fun I n hc h5=>⟨I,n,hc,fun acc C fr L2 hfr hI=> ?_⟩)|>.mono fun fz L4 h4=>W.pure (W.pure h4))
 exact W.mk fun s H=>jK ((h5 acc C fr L2 hfr hI).run s H)
end
end
section
section
variable{b:qe}{w:World}{A:qq}{L L':Led}{env:Env}{pos:Pos}{R:Value→Led→Prop}{Q:Flow→Led→Prop}{it a d vw:Addr}{P P' Pa:Asn}{α:Type}{T:α→Value→Prop}{kds:List (Str×α)}{od:Obj}
theorem St.turn{s:qe}{h':Heap}(H:St b s ((it,P)::L))(hx:Heap.ExtBut it s.heap h')(h1: ∃o,h'.get? it=some o∧P' o)(ha:s.heap.objs.size≤a)(h2: ∃o,h'.get? a=some o∧Pa o)(t:Nat):St b {s with heap:=h',toks:=t} ((a,Pa)::(it,P')::L):=by
 have G:=H.gone hx t
 have hit:=H.fresh _ (.head _)
 obtain ⟨o0,e0,_⟩:=H.own _ (.head _)
 have hlt:it<a:=ql (zi e0) ha
 have hn: ∀p∈(it,P)::L,p.1<a:=fun p hp=>by
  obtain ⟨o,e,_⟩:=H.own p hp
  exact ql (zi e) ha
 have hnd:=H.nd
 exact {
  old:=G.old
  lim:=G.lim
  os:=G.os
  gens:=G.gens
  gk:=G.gk
  top:=G.top
  stat:=G.stat
  st0:=G.st0
  tabs:=G.tabs
  lam:=H.lam.keeps H.tabs (fun c o hc e=>hx _ o (by
   rcases hc with hc|hc
   ·exact qS (ql hc hit)
   ·intro e1
    subst e1
    exact (H.lam.ne hc).2.1 (List.mem_cons_self ..)) e) fun x hx'=>by
   rcases qH.mp hx' with rfl|hx'
   ·exact .inr (Heap.get?_none_of_le ha)
   ·exact .inl hx'
  own:=fun p hp=>by
   rcases qH.mp hp with rfl|hp
   ·exact .of h2
   ·rcases qH.mp hp with rfl|hp
    ·exact .of h1
    ·exact G.own p hp
  nd:=by
   refine zu.mpr ⟨fun hm=> ?_,hnd⟩
   obtain ⟨p,hp,e⟩:=qw.mp hm
   rcases qH.mp hp with rfl|hp
   ·exact qS hlt e
   ·exact qS (hn p (.tail _ hp)) e
  fresh:=fun p hp=>by
   rcases qH.mp hp with rfl|hp
   ·exact qg H.size ha
   ·rcases qH.mp hp with rfl|hp
    ·exact hit
    ·exact G.fresh p hp}
noncomputable def epOf(o:Obj):Nat:=match o.data with| .dict _ ep=>ep|_=>0
theorem St.dctAt{s:qe}(hod:isD w T kds od)(ho:s.heap.get? d=some od):DctAt (fun kvs=>s.heap.DictAt (qJ pw w) d kvs (epOf od)) T kds:=by
 revert w d α T kds od s hod ho
 funext w d α T kds od s hod ho
 refine hkX (hod) ?_
 funext ⟨kvs,⟨es,ep,h1,h2,h3⟩,h4,h5⟩
 have:epOf od=ep:=by unfold epOf;rw [h2]
 rw [this]
 exact ⟨kvs,⟨od,es,ho,h1,h2,h3⟩,h4,h5⟩
noncomputable def isII(d:Addr)(i n ep:Nat):Asn:=fun o=> ∃ok ov,o={cls:= .type "dict_itemiterator",dict:=none,data:= .fields #[.none,.bool false,.ref d,.int i 0,.int n 0,.int ep 0,ok,ov],slots:=#[]}
noncomputable def isIO(d:Addr)(i n ep a:Nat):Asn:=fun o=> ∃ok ov,o={cls:= .type "dict_itemiterator",dict:=none,data:= .fields #[zw a,.bool false,.ref d,.int i 0,.int n 0,.int ep 0,ok,ov],slots:=#[]}
theorem nextItems{s:qe}{E:Value→qe→Prop}{i:Nat}{k:Str}{x:α}{Q:Option Value→qe→Prop}(hod:isD w T kds od)(H:St b s ((it,isII d i kds.length (epOf od))::L))(hm:Mm (d,exO od) L)(hx:kds[i]? =some (k,x))
  (q: ∀a t v s',T x v→St b s' ((a,isT VV [.str k t,v])::(it,isIO d (i+1) kds.length (epOf od) a)::L)→Q (some (.ref a)) s'):wpAny (model pw w) A (jY (.ref it)) Q E s:=by
 obtain ⟨o0,ho,e0⟩:=H.own _ (.tail _ hm.mem)
 rw [show o0=od from e0] at ho
 obtain ⟨kvs,hD,ha,hz⟩:=St.dctAt (s:=s) hod ho
 obtain ⟨⟨k',v⟩,hv,e1,hT⟩:=ha.get hx
 dsimp only at e1 hT
 subst e1
 obtain ⟨_,hi,ok,ov,rfl⟩:=H.own _ (.head _)
 have hl:=ha.len
 have hi':IsItemIter s.heap it d i kvs.length (epOf od) ok ov:=by rw [hl];exact hi
 refine wpAny_pyNext_items_item hi' hD hv fun key h' hk h1 h2 h3 h4=> ?_
 obtain ⟨t,rfl⟩: ∃t,key= .str k t:=by
  cases key with
  |str y u=>
   have:k=y:=(qJ pw w).inj _ _ _ hk (vM pw w y u)
   exact ⟨u,by rw [this]⟩
  |_=>exact absurd hk (by simp [qJ,Value.isStrOf])
 refine q _ t v _ hT (H.turn (P':=isIO d (i+1) kds.length (epOf od) s.heap.objs.size) (fun b o hb e=>h4 b o hb e) ⟨_,h1,_,_,by rw [hl]⟩ (zg _) ⟨_,h2,[.str k t,v],0,All2.vv _,rfl⟩ s.toks)
theorem doneItems{s:qe}{E:Value→qe→Prop}{Q:Option Value→qe→Prop}(hh:A.handled=none)(hod:isD w T kds od)(H:St b s ((it,isII d kds.length kds.length (epOf od))::L))(hm:Mm (d,exO od) L)
  (q: ∀s',St b s' L→Q none s'):wpAny (model pw w) A (jY (.ref it)) Q E s:=by
 obtain ⟨o0,ho,e0⟩:=H.own _ (.tail _ hm.mem)
 rw [show o0=od from e0] at ho
 obtain ⟨kvs,hD,ha,hz⟩:=St.dctAt (s:=s) hod ho
 obtain ⟨_,hi,ok,ov,rfl⟩:=H.own _ (.head _)
 have hl:=ha.len
 have hi':IsItemIter s.heap it d kvs.length kvs.length (epOf od) ok ov:=by rw [hl];exact hi
 exact wpAny_pyNext_items_end hh hi' hD (by simp) fun h' hx=>q _ (H.gone hx s.toks)
theorem goItems{s:qe}{E:Value→qe→Prop}{elts:List Expr}{kt:Nat}{tp:Pos}{i n ep:Nat}{Q:Unit→qe→Prop}(H:St b s ((a,Pa)::(it,isIO d i n ep a)::L))(q: ∀s',St b s' ((a,Pa)::(it,isII d i n ep)::L)→Q () s'):
  wpAny (model pw w) A (zF (.Tuple elts kt tp) (.ref it) (.ref a)) Q E s:=by
 obtain ⟨_,hi,ok,ov,rfl⟩:=H.own _ (.tail _ (.head _))
 exact wpAny_letOwnedTupleGo_items (n:=n) (i:=i) (ep:=ep) (d:=d) (ok:=ok) (ov:=ov) hi fun h' e hs=>q _ (H.same (.tail .head) hs ⟨_,e,_,_,rfl⟩ s.toks)
inductive CompI(b:qe)(w:World)(A:qq)(env:Env)(kds:List (Str×α))(T:α→Value→Prop)(od:Obj)(d:Addr)(kx vx:Expr)(elts:List Expr)(kt:Nat)(tp:Pos)(ifs:List Expr)(scope:Scope)(cl:List (Str×Addr))(names:List Str)(x:Value)(L1:Led)(I:Addr→Nat→Led→Prop)(n:Nat):Prop
 |mk (hn:n=kds.length) (vw:Addr) (hx:x= .ref vw) (hv:Mm (vw,isIV d) L1) (hd:Mm (d,exO od) L1) (h0: ∃(α:Type) (T:α→Value→Prop),∀acc,∃L2,Take L1 L2∧I acc 0 ((acc,isD w T [])::L2)) (hk: ∀acc i L2,I acc i L2→Mm (d,exO od) L2)
   (hb: ∀acc C it P i k x v a t L2 fr,kds[i]? =some (k,x)→T x v→fr.map (·.1)=names→I acc i L2→W b w A ((C,loc fr)::(it,P)::(a,isT VV [.str k t,v])::L2) (QS (.Tuple elts kt tp) (envC scope cl C env) (.ref a)) fun fz L5=>
    W b w A L5 (forIn ifs true fun c r=>if r=true then do let ok ←isTrue c (envC scope cl C env) (eval c (envC scope cl C env));qj (jV ok) else qj (jV r)) fun ok L6=>
     (ok=true→W b w A L6 (eval kx (envC scope cl C env)) fun x L7=>W b w A L7 (eval vx (envC scope cl C env)) fun y L7=>W b w A L7 (dictSet acc x y) fun fz L8=>CB names C (it,P) (I acc (i+1)) L8)∧
     (ok=false→CB names C (it,P) (I acc (i+1)) L6))
theorem W.compDI{use:Option (Value→Sem Unit)}{kx vx iter:Expr}{elts:List Expr}{kt:Nat}{tp:Pos}{ifs:List Expr}{scope:Scope}(cl:List (Str×Addr))(names:List Str)
  (hod:isD w T kds od) (hh:A.handled=none) (hs: ∀x,zE iter env x=qj x) (hclos:QA scope env=qj cl)
  (hd:(scope.kind== .function&&scope.names.all (fun x=>x.2 != .cell)&&scope.names.all (fun x=>x.2 != .local||scope.names.lookup x.1==some .local)&&decide names.Nodup)=true)
  (h:W b w A L (eval iter env) fun x L1=>ExC (CompI b w A env kds T od d kx vx elts kt tp ifs scope cl names x L1) fun I n=>
   (match use with
    |none=> ∀acc L2,I acc n L2→R (.ref acc) L2
    |some u=> ∀acc C fr L2,fr.map (·.1)=names→I acc n L2→W b w A ((C,loc fr)::L2) (u (.ref acc)) fun fz L3=> ∃fr' L4,Take L3 ((C,loc fr')::L4)∧R .none L4)):
  W b w A L (comprehension (.DictComp kx vx [⟨.Tuple elts kt tp,iter,ifs,0⟩] scope pos) scope env (firstIterPos [⟨.Tuple elts kt tp,iter,ifs,0⟩] pos) newDict false (eval iter env) use) R:=by
 simp-iota only [qt,beq_iff_eq,decide_eq_true_eq] at hd
 obtain ⟨⟨⟨h1,h2⟩,h3⟩,h4⟩:=hd
 have hcell: ∀x∈scope.names,x.2≠ .cell:=fun x hx=>by simpa using qz.mp h2 x hx
 have hnames: ∀x∈scope.names,x.2= .local→scope.names.lookup x.1=some .local:=fun x hx hl=>by
  have:=qz.mp h3 x hx
  simpa [hl] using this
 refine W.mk fun s H=> ?_
 refine wpAny_comprehension_free (e:= .DictComp kx vx [⟨.Tuple elts kt tp,iter,ifs,0⟩] scope pos) (cl:=cl) (g:=⟨.Tuple elts kt tp,iter,ifs,0⟩) (gs:= []) rfl hs hclos h1 hnames (h.then H fun x s1 L1 H1 hx=> ?_)
 obtain ⟨I,n,⟨rfl,vw,rfl,hv,hdm,⟨β,TT,hI⟩,hK,hT⟩,hD⟩:=hx
 have Lx:=H1.own _ hdm.mem
 obtain ⟨o0,ho0,e0⟩:=Lx
 rw [show o0=od from e0] at ho0
 obtain ⟨kvs,hDa,hall,hz⟩:=St.dctAt (s:=s1) hod ho0
 obtain ⟨ov,hov,hov2⟩:=H1.own _ hv.mem
 refine wpAny_pyIter_items ⟨ov,hov,by rw [show ov=_ from hov2],by rw [show ov=_ from hov2]⟩ hDa ?_
 have H2:=H1.alloc (P:=isII d 0 kds.length (epOf od)) {cls:= .type "dict_itemiterator",data:= .fields #[.none,.bool false,.ref d,.int 0 0,.int kvs.length 0,.int (epOf od) 0,.none,.none]} rfl ⟨.none,.none,by rw [hall.len];rfl⟩
 generalize hit:s1.heap.objs.size=it at H2
 generalize ({s1 with heap:=s1.heap.push {cls:= .type "dict_itemiterator",data:= .fields #[.none,.bool false,.ref d,.int 0 0,.int kvs.length 0,.int (epOf od) 0,.none,.none]}}:qe)=s2 at H2
 unfold newDict
 refine qM ?_ (by size_fits)
 have H3:=H2.alloc (P:=isD w TT []) QO rfl ⟨[],⟨#[],0,⟨rfl,rfl,rfl⟩,rfl,fun e he=>by simp at he,.nil,.nil⟩,.nil,by simp⟩
 refine St.compEnv (names:=names) H3 hcell h1 h4 fun C s4 H4=> ?_
 obtain ⟨L2,tk,hI0⟩:=hI s2.heap.objs.size
 have H5:St b s4 ((C,loc (allNone names))::(it,isII d 0 kds.length (epOf od))::(s2.heap.objs.size,isD w TT [])::L2):=
  H4.takes (.cons .head (.cons (.tail .head) (.cons .head tk)))
 have loop: ∀s4,St b s4 ((C,loc (allNone names))::(it,isII d 0 kds.length (epOf od))::(s2.heap.objs.size,isD w TT [])::L2)→Qq (model pw w) A (.compLoop (.DictComp kx vx [⟨.Tuple elts kt tp,iter,ifs,0⟩] scope pos) 0 (.ref it) (.ref s2.heap.objs.size) (envC scope cl C env))
   (fun r s'=>match r with| .ok _=>CmpE b names C (I s2.heap.objs.size kds.length) s'| .error _=>False) s4:=by
  intro s4 H5
  refine codeAny_compLoop_goD (CmpI b names C it (fun i=>isII d i kds.length (epOf od)) (I s2.heap.objs.size) kds.length) ?_ kds.length ⟨0,allNone names,_,by omega,by omega,by simp [allNone,Function.comp_def],H5,hI0⟩
  rintro m s' ⟨i,fr,L3,rfl,hi,hfr,H',hI'⟩
  have H'':St b s' ((it,isII d i kds.length (epOf od))::(C,loc fr)::L3):=H'.perm (zA _ _ _)
  by_cases hlt:i<kds.length
  ·refine nextItems hod H'' (.tail (hK _ i L3 hI')) (qd hlt) fun a t v s6 hv H6=> ?_
   show wpAny _ _ (zF (.Tuple elts kt tp) (.ref it) (.ref a)) _ _ _
   refine goItems H6 fun s6 H6=> ?_
   have H7:St b s6 ((C,loc fr)::(it,isII d (i+1) kds.length (epOf od))::(a,isT VV [.str kds[i].1 t,v])::L3):=H6.perm (by
    refine (zA ..).trans ?_
    refine (QJ _ (zA ..)).trans ?_
    exact zA ..)
   refine (hT _ C it (isII d (i+1) kds.length (epOf od)) i kds[i].1 kds[i].2 v a t L3 fr (qd hlt) hv hfr hI').then H7 fun fz s7 L7 H7 h7=>h7.then H7 fun ok s8 L8 H8 h8=> ?_
   cases ok with
   |true=>
    rw [if_pos rfl]
    refine (h8.1 rfl).then H8 fun x s9 L9 H9 h9=>h9.then H9 fun y s9 L9 H9 h9=>h9.then H9 fun fz s10 L10 H10 ⟨fr',L11,hf,tk',hI''⟩=> ?_
    exact ⟨kds.length-(i+1),by omega,i+1,fr',L11,rfl,hlt,hf,H10.takes tk',hI''⟩
   |false=>
    rw [if_neg qx]
    obtain ⟨fr',L11,hf,tk',hI''⟩:=h8.2 rfl
    exact ⟨kds.length-(i+1),by omega,i+1,fr',L11,rfl,hlt,hf,H8.takes tk',hI''⟩
  ·have e:i=kds.length:=by omega
   subst e
   exact doneItems hh hod H'' (.tail (hK _ _ L3 hI')) fun s6 H6=>⟨fr,L3,hfr,H6,hI'⟩
 have hsc:({newEnv scope C env.globals cl env.qual none .none (some env) QR with scope:=relabel scope env}:Env)=envC scope cl C env:=rfl
 rw [hsc]
 refine vP (codeAny_compStart_dict (loop s4 H5) ?_) fun r s' hr=> ?_
 ·obtain ⟨_,hi,ok,ov,rfl⟩:=H5.own _ (.tail _ (.head _))
  exact kcp_self (d:=d) (i:=0) (n:=kds.length) (ep:=epOf od) (ok:=ok) (ov:=ov) hi (loop s4 H5)
 ·cases r with
  |error e=>exact hr.elim
  |ok f=>
   obtain ⟨fr,L3,hfr,H',hI'⟩:=hr
   cases use with
   |none=>
    have hns:=H'.ns (.head _)
    exact ⟨_,hns.1,fun h' hs'=>⟨L3,H'.gone hs'.extBut s'.toks,hD _ L3 hI'⟩⟩
   |some u=>
    refine (hD _ C fr L3 hfr hI').then H' fun fz s'' L4 H'' ⟨fr',L5,tk',hR⟩=> ?_
    have H3:=H''.takes tk'
    have hns:=H3.ns (.head _)
    exact ⟨_,hns.1,fun h' hs'=>⟨L5,H3.gone hs'.extBut s''.toks,hR⟩⟩
end
end
section
section
variable{b:qe}{w:World}{A:qq}{L L':Led}{env:Env}{pos:Pos}{R:Value→Led→Prop}{Q:Flow→Led→Prop}{it a d vw:Addr}{P P' Pa:Asn}{α:Type}{T:α→Value→Prop}{kds:List (Str×α)}{od:Obj}
theorem W.asgDI{x:Str}{pos' spos:Pos}{rest:List Stmt}{kx vx iter:Expr}{elts:List Expr}{kt:Nat}{tp:Pos}{ifs:List Expr}{scope:Scope}(cl:List (Str×Addr))(names:List Str)
  (hod:isD w T kds od) (hh:A.handled=none) (hsw:swapsWith (.DictComp kx vx [⟨.Tuple elts kt tp,iter,ifs,0⟩] scope pos) (some (.Name x pos')) spos.line env=qj true)
  (hs: ∀x,zE iter env x=qj x) (hclos:QA scope env=qj cl)
  (hd:(scope.kind== .function&&scope.names.all (fun x=>x.2 != .cell)&&scope.names.all (fun x=>x.2 != .local||scope.names.lookup x.1==some .local)&&decide names.Nodup)=true)
  (h:W b w A L (eval iter env) fun xv L1=>ExC (CompI b w A env kds T od d kx vx elts kt tp ifs scope cl names xv L1) fun I n=>
   ∀acc C fr L2,fr.map (·.1)=names→I acc n L2→W b w A ((C,loc fr)::L2) (Qi env x (.ref acc)) fun fz L3=> ∃fr' L4,Take L3 ((C,loc fr')::L4)∧W b w A L4 (execs rest env) Q):
  W b w A L (execs (.Assign [.Name x pos'] (.DictComp kx vx [⟨.Tuple elts kt tp,iter,ifs,0⟩] scope pos) spos::rest) env) Q:=by
 refine W.seq ?_
 rw [arm_exec_Assign]
 refine W.bind (W.stand (W.bind (W.eq hsw (W.pure ?_))))
 rw [if_pos rfl]
 refine W.bind ?_
 have e:evalThenUse (.DictComp kx vx [⟨.Tuple elts kt tp,iter,ifs,0⟩] scope pos) env (fun v=>assignAll v ((assignEach [.Name x pos'] env).map (·.2)))=(do
  let _ ←comprehension (.DictComp kx vx [⟨.Tuple elts kt tp,iter,ifs,0⟩] scope pos) scope env (firstIterPos [⟨.Tuple elts kt tp,iter,ifs,0⟩] pos) newDict false (eval iter env) (some fun v=>assignAll v ((assignEach [.Name x pos'] env).map (·.2)))):=rfl
 rw [e]
 refine W.bind (W.compDI (R:=fun fz L4=>W b w A L4 (execs rest env) Q) (use:=some _) cl names hod hh hs hclos hd (h.mono fun x L1 hx=>hx.casesOn fun I n hc h7=>⟨I,n,hc,fun acc C fr L2 hfr hI=> ?_⟩)|>.mono fun fz L4 h4=>W.pure (W.pure h4))
 exact W.mk fun s H=>jK ((h7 acc C fr L2 hfr hI).run s H)
end
section
variable{b:qe}{w:World}{A:qq}{L L':Led}{env:Env}{pos:Pos}{R:Value→Led→Prop}{Q:Flow→Led→Prop}{it a d vw:Addr}{P P' Pa:Asn}{α:Type}{T:α→Value→Prop}{kds:List (Str×α)}{od:Obj}
theorem W.fixP{β:Type}{t:Sem β}{Q:β→Led→Prop}{L1:Led}(hp:Pick L (a,P) L1)(h: ∀o,P o→W b w A ((a,exO o)::L1) t Q):W b w A L t Q:=W.mk fun s H=>by
 have H1:=H.perm hp.perm
 obtain ⟨o,ho,hP⟩:=H1.own _ (.head _)
 exact (h o hP).run s (H1.same (P':=exO o) .head ⟨rfl,fun fz fz=>rfl⟩ ⟨o,ho,rfl⟩ s.toks)
theorem W.gmDx{name:Str}{id:String}{pl:Sem Bool}{P:Value→Value→Led→Prop}(hod:isD w T kds od)(slot:Slot "dict" name id)(ty:QK (.builtin id)=qj (.type "method_descriptor"))(hm:Mm (d,exO od) L)(h:P (.builtin id) (.ref d) L):
  W b w A L (vg (.ref d) name pl) (MF P):=W.mk fun s H=>by
 obtain ⟨o0,ho0,e0⟩:=H.own _ hm.mem
 rw [show o0=od from e0] at ho0
 obtain ⟨kvs,hDa,hall,hz⟩:=St.dctAt (s:=s) hod ho0
 have hD:=hDa.dictOf
 exact getMethod_builtin hD.typeIs PySem.F.plainAttrs_dict slot ty hD.mapOf.noDict ⟨L,H,_,_,rfl,h⟩
theorem W.itemsx(hod:isD w T kds od)(hm:Mm (d,exO od) L)(h: ∀v,R (.ref v) ((v,isIV d)::L)):W b w A L (call (.builtin "dict.items") [.ref d]) R:=W.mk fun s H=>by
 obtain ⟨o0,ho0,e0⟩:=H.own _ hm.mem
 rw [show o0=od from e0] at ho0
 obtain ⟨kvs,hDa,hall,hz⟩:=St.dctAt (s:=s) hod ho0
 refine call_meetsIn vY hDa.dictOf.typeIs PySem.F.entry_dict_items (PySem.F.args_dict_items_1 _) (meets_dict_items (qJ pw w) d (H.notSys hm)) ⟨⟨_,hDa.dictOf⟩,?_⟩
 exact ⟨_,H.alloc (P:=isIV d) _ rfl rfl,h _⟩
end
end
section
noncomputable def addAll(ks:List Str)(qs:List Str):List Str:=qs.foldl withS ks
section
variable{w:World}{A:qq}{E:Value→qe→Prop}
theorem fold_list{β:Type}{body:β→PUnit→Sem (ForInStep PUnit)}{Q:PUnit→qe→Prop}(I:Nat→qe→Prop): ∀(vs:List β) (i:Nat) (s:qe),I i s→
  (∀j x s',vs[j]? =some x→I (i+j) s'→wpAny (model pw w) A (body x ⟨⟩) (fun r s''=>r= .yield ⟨⟩∧I (i+j+1) s'') E s')→
  (∀s',I (i+vs.length) s'→Q ⟨⟩ s')→wpAny (model pw w) A (forIn vs PUnit.unit body) Q E s
 | [],i,s,hI,_,done=>by
  rw [List.forIn_nil]
  exact qf (done s (by simpa using hI))
 |x::vs,i,s,hI,step,done=>by
  rw [Qb]
  refine qc (qL (step 0 x s (by simp) hI) (fun r s' h'=> ?_) fun fz fz e=>e)
  obtain ⟨rfl,hI'⟩:=h'
  show wpAny _ A (forIn vs PUnit.unit body) Q E s'
  refine fold_list I vs (i+1) s' hI' (fun j y s'' hy hJ=> ?_) fun s'' hd=>done s'' ?_
  ·have e:i+(j+1)=i+1+j:=by exact (zG _ 1 _).symm
   have h1:=step (j+1) y s'' (by simpa using hy) (by rw [e];exact hJ)
   rw [e] at h1
   exact h1
  ·have e:i+(x::vs).length=i+1+vs.length:=by rw [qy];exact (zG _ 1 _).symm
   rw [e]
   exact hd
end
theorem range_one{β:Type}{f:Nat→β}: ∀{n j:Nat},j<n→(zo n).filterMap (fun i=>if i=j then some (f i) else none)= [f j]
 |0,j,h=>by omega
 |n+1,j,h=>by
  rw [List.range_succ,List.filterMap_append]
  by_cases e:j=n
  ·subst e
   have:(zo j).filterMap (fun i=>if i=j then some (f i) else none)= []:=by
    rw [List.filterMap_eq_nil_iff]
    intro i hi
    have:=zW.mp hi
    rw [if_neg (by exact qS this)]
   rw [this];simp
  ·rw [range_one (by exact Nat.lt_of_le_of_ne (jt h) e)]
   have:n≠j:=fun h=>e h.symm
   simp [this]
theorem layClean_one(mask:Nat)(h:Int):SetTable.layClean mask #[h]=some ((Array.replicate (mask+1) none).setIfInBounds (zj h % (mask+1)) (some 0)):=by
 revert mask h
 funext mask h
 have hj:zj h % (mask+1)<mask+1:=Nat.mod_lt _ (by omega)
 have hf:SetTable.layClean.free mask (Array.replicate (mask+1) none) (SetTable.turns mask) (zj h % (mask+1)) (zj h)=some (zj h % (mask+1)):=by
  unfold SetTable.turns
  rw [show mask+15=(mask+14)+1 from rfl]
  show (match (zo (SetTable.runEnd mask (zj h % (mask+1))+1-zj h % (mask+1))).find? fun k=>((Array.replicate (mask+1) (none:Option Nat)).getD (zj h % (mask+1)+k) (some 0)).isNone with|some k=>some (zj h % (mask+1)+k)|none=>_)=_
  have hr:zj h % (mask+1)≤SetTable.runEnd mask (zj h % (mask+1)):=by
   unfold SetTable.runEnd;split<;>omega
  have hZ: ∃m,SetTable.runEnd mask (zj h % (mask+1))+1-zj h % (mask+1)=m+1:=⟨SetTable.runEnd mask (zj h % (mask+1))-zj h % (mask+1),by exact Nat.sub_add_comm hr⟩
  revert hZ;funext ⟨m,hm⟩
  rw [hm,List.range_succ_eq_map]
  simp [List.find?,hj,Array.getD]
 unfold SetTable.layClean
 simp [hf]
theorem fm_congr{β γ:Type}{f g:β→Option γ}: ∀{l:List β},(∀x∈l,f x=g x)→l.filterMap f=l.filterMap g
 | [],_=>rfl
 |x::r,h=>by
  rw [List.filterMap_cons,List.filterMap_cons,h x (.head _),fm_congr (l:=r) fun y hy=>h y (.tail _ hy)]
theorem sizeAbove_ok: ∀m<210,SetTable.sizeAbove m≤ji∧8≤SetTable.sizeAbove m:=by decide+kernel
theorem relaid_one(t:SetTable)(h:Int)(wanted:Nat)(hw:wanted<210): ∃j t',t.relaid #[h] wanted=some (t',#[0])∧t'.place=#[j]∧t'.dummies=#[]∧7≤t'.mask∧t'.led=t.led∧t'.plain=t.plain:=by
 revert t h wanted hw
 funext t h wanted hw
 have h8:=(sizeAbove_ok wanted hw).2
 generalize hm:SetTable.sizeAbove wanted-1=mask
 have hmask:7≤mask:=by exact hm▸Nat.sub_le_sub_right h8 1
 have hj:zj h % (mask+1)<mask+1:=Nat.mod_lt _ (by omega)
 refine ⟨zj h % (mask+1),{mask,place:=#[zj h % (mask+1)],dummies:=#[],finger:=t.finger,led:=t.led,moves:=t.movedTo mask,plain:=t.plain},?_,rfl,rfl,hmask,rfl,rfl⟩
 unfold SetTable.relaid SetTable.laid
 rw [hm,layClean_one]
 have hl:(zo (mask+1)).filterMap (fun j=>(((Array.replicate (mask+1) (none:Option Nat)).setIfInBounds (zj h % (mask+1)) (some 0)).getD j none).map (j,·))= [(zj h % (mask+1),0)]:=by
  rw [←range_one (f:=fun j=>(j,0)) hj]
  refine fm_congr ?_
  funext i hi
  have hi:=zW.mp hi
  by_cases e:i=zj h % (mask+1)
  ·rw [if_pos e]
   simp [Array.getD,hi,e]
   subst e
   simp [hi]
  ·rw [if_neg e]
   have e': ¬zj h % (mask+1)=i:=fun x=>e x.symm
   simp [Array.getD,hi,Array.getElem_setIfInBounds,e']
 show some _=some _
 rw [hl]
 rfl
section
variable{b:qe}{w:World}{A:qq}{L L':Led}{env:Env}{pos:Pos}{R:Value→Led→Prop}{S d:Addr}{α:Type}{T:α→Value→Prop}{kds:List (Str×α)}{od:Obj}
theorem setRoom_one{s:qe}{E:Value→qe→Prop}{Q:Unit→qe→Prop}{k:Str}{n:Nat}(hn:n<100)(H:St b s ((S,isSt w [k])::L))(q: ∀s',St b s' ((S,isSt w [k])::L)→Q () s'):wpAny (model pw w) A (setRoomFor S n) Q E s:=by
 revert b w A L S s E Q k n hn H q
 funext b w A L S s E Q k n hn H q
 refine hkX (H.own _ (.head _)) ?_
 funext ⟨oS,ho,hS⟩
 refine hkX (hS) ?_
 funext ⟨es,ep,t,tks,hex,hd,hp,hks,hf,hled,hpl,hnd,hlt⟩
 have hsz:=elS_len hp
 have hkl:tks.length=1:=by have:=congrArg Qy hks;rw [qh] at this;exact this
 have e1:es.size=1:=by omega
 have hZ: ∃e,es=#[e]:=Array.size_eq_one_iff.mp e1
 revert hZ;funext ⟨e,he⟩
 subst he
 have hf':=hf
 unfold SetTable.fits at hf'
 simp-iota only [qt,beq_iff_eq] at hf'
 unfold setRoomFor
 refine qc (zm ho hd hf ?_)
 dsimp only
 cases hr:t.roomFor n with
 |none=>exact qf (q _ H)
 |some wanted=>
  revert wanted;funext wanted hr
  have hw:wanted<210:=by
   unfold SetTable.roomFor at hr
   split at hr
   ·cases hr
    rw [hf'.1,e1];exact qF (ve 2 (qX (qv hn) 1)) (Ar.d rfl)
   ·cases hr
  refine hkX (relaid_one t e.1 wanted hw) ?_
  funext ⟨j,t',h1,h2,h3,h4,h5,h6⟩
  show wpAny _ _ (setRelay S wanted) Q E s
  unfold setRelay
  refine qc (zm ho hd hf ?_)
  dsimp only
  rw [if_neg (by have:=(sizeAbove_ok wanted hw).1;omega)]
  have e2:(#[e]:Array (Int×Value)).map (·.1)=#[e.1]:=by simp
  rw [e2,h1]
  refine qc (ze (a:=((#[e]:Array (Int×Value)),t')) rfl ?_)
  refine wpAny_storeSet_of ho hd (q _ ?_) (by rw [qu];simp)
  refine H.same .head (qK ..) ⟨_,putSet_get ho hd #[e] t',#[e],_,t',tks,hex,rfl,hp,hks,?_,?_,?_,hnd,hlt⟩ s.toks
  ·unfold SetTable.fits SetTable.fill
   rw [h2,h3];simp;omega
  ·rw [h5];exact hled
  ·rw [h6];exact hpl
theorem entriesOf(hod:isD w T kds od): ∃es ep,od.data= .dict es ep∧es.size=kds.length∧ ∀i (h:i<kds.length),∃e t,es[i]? =some e∧e.key= .str kds[i].1 t∧e.hash=hashStr w kds[i].1:=by
 obtain ⟨kvs,⟨es,ep,h1,h2,h3,h4,h5⟩,h6,h7⟩:=hod
 have hl:=h6.len
 have hsz:es.size=kvs.length:=by rw [←h4.length];simp
 refine ⟨es,ep,h2,by exact hsz.trans hl,fun i h=> ?_⟩
 have hi:i<es.size:=by exact qU h (hsz.trans hl).symm
 obtain ⟨⟨k',v⟩,hv,e1,_⟩:=h6.get (qd h)
 dsimp only at e1
 have hk:=(h4.get? (e:=es[i]) (by simp [hi]) hv).1
 rw [←e1] at hk
 obtain ⟨t,ht⟩: ∃t,es[i].key= .str kds[i].1 t:=by
  cases hx:es[i].key with
  |str y u=>
   rw [hx] at hk
   have:kds[i].1=y:=(qJ pw w).inj _ _ _ hk (vM pw w y u)
   exact ⟨u,by rw [this]⟩
  |_=>rw [hx] at hk;exact absurd hk (by simp [qJ,Value.isStrOf])
 refine ⟨es[i],t,jH hi,ht,?_⟩
 obtain ⟨k2,hk2,hh⟩:=h3 es[i] (Array.getElem_mem hi)
 rw [hh,(qJ pw w).inj _ _ _ hk2 hk]
 rfl
theorem addAll_take{ks:List Str}{i:Nat}(h:i<kds.length):addAll ks ((kds.take (i+1)).map (·.1))=withS (addAll ks ((kds.take i).map (·.1))) kds[i].1:=by
 unfold addAll
 rw [qV,qd h,qB,List.foldl_append]
 rfl
theorem withS_len{ks:List Str}{k:Str}:(withS ks k).length≤ks.length+1:=by
 unfold withS;split<;>simp
theorem addAll_len: ∀{qs ks:List Str},(addAll ks qs).length≤ks.length+qs.length
 | [],ks=>by simp [addAll]
 |q::qs,ks=>by
  have h1:=addAll_len (qs:=qs) (ks:=withS ks q)
  have h2:=withS_len (ks:=ks) (k:=q)
  show (addAll (withS ks q) qs).length≤_
  simp-iota only [qy];exact qg h1 (qg (qG h2 _) (qN (zG _ _ _)))
theorem updLoop{I:Addr}{ks:List Str}(hh:A.handled=none)(hod:isD w T kds od)(hz:ks.length+kds.length<99): ∀(n i:Nat) (s:qe),kds.length-i=n→i≤kds.length→St b s ((I,fun o=>o.cls= .type "dict_keyiterator"∧o.data= .fields #[.ref d,.int i 0,.int kds.length 0,.int (epOf od) 0])::(S,isSt w (addAll ks ((kds.take i).map (·.1))))::(d,exO od)::L)→
  Qq (model pw w) A (.builtin "set.update.loop" ⟨[.ref S,.ref I],[]⟩) (fun r s'=>r= .ok (.ret .none)∧St b s' ((S,isSt w (addAll ks (kds.map (·.1))))::(d,exO od)::L)) s:=by
 intro n
 induction n with
 |zero=>
  intro i s hn hi H
  have e:i=kds.length:=by omega
  subst e
  obtain ⟨o0,ho,e0⟩:=H.own _ (.tail _ (.tail _ (.head _)))
  rw [show o0=od from e0] at ho
  obtain ⟨kvs,hD,ha,_⟩:=St.dctAt (s:=s) hod ho
  obtain ⟨oI,hI,hI1,hI2⟩:=H.own _ (.head _)
  have hl:=ha.len
  refine jj F.entry_set_update_loop ?_
  rw [jc vm _]
  show wpAny _ A.in1 (jY (.ref I)>>=_) _ _ s
  refine qc (wpAny_pyNext_dict_end (knd:=qJ pw w) (i:=kds.length) (ep:=epOf od) (d:=d) (kvs:=kvs) hh ⟨oI,hI,hI1,by rw [hI2,hl]⟩ hD (by rw [←hl];simp) fun h' hx=> ?_)
  have H':=H.gone hx s.toks
  rw [zh] at H'
  exact qf ⟨rfl,H'⟩
 |succ n ih=>
  intro i s hn hi H
  have hlt:i<kds.length:=by omega
  obtain ⟨o0,ho,e0⟩:=H.own _ (.tail _ (.tail _ (.head _)))
  rw [show o0=od from e0] at ho
  obtain ⟨kvs,hD,ha,_⟩:=St.dctAt (s:=s) hod ho
  obtain ⟨oI,hI,hI1,hI2⟩:=H.own _ (.head _)
  have hl:=ha.len
  obtain ⟨⟨k',v⟩,hv,e1,hT⟩:=ha.get (qd hlt)
  dsimp only at e1
  refine jj F.entry_set_update_loop ?_
  rw [jc vm _]
  show wpAny _ A.in1 (jY (.ref I)>>=_) _ _ s
  refine qc (wpAny_pyNext_dict_item (knd:=qJ pw w) (i:=i) (ep:=epOf od) (d:=d) (kvs:=kvs) ⟨oI,hI,hI1,by rw [hI2,hl]⟩ hD hv fun key h' hk hit hs=> ?_)
  obtain ⟨t,rfl⟩: ∃t,key= .str kds[i].1 t:=by
   cases key with
   |str y u=>
    have:k'=y:=(qJ pw w).inj _ _ _ hk (vM pw w y u)
    exact ⟨u,by rw [e1,this]⟩
   |_=>exact absurd hk (by simp [qJ,Value.isStrOf])
  have H1:=H.same (P':=fun o=>o.cls= .type "dict_keyiterator"∧o.data= .fields #[.ref d,.int ((i+1:Nat)) 0,.int kds.length 0,.int (epOf od) 0]) .head hs (by
   obtain ⟨o,h1,h2,h3⟩:=hit
   exact ⟨o,h1,h2,by rw [h3,hl]⟩) s.toks
  have n3:W b w A.in1 ((I,fun o=>o.cls= .type "dict_keyiterator"∧o.data= .fields #[.ref d,.int ((i+1:Nat)) 0,.int kds.length 0,.int (epOf od) 0])::(S,isSt w (addAll ks ((kds.take i).map (·.1))))::(d,exO od)::L) (PySem.setAdd S (.str kds[i].1 t)) fun fz L2=>L2=(I,fun o=>o.cls= .type "dict_keyiterator"∧o.data= .fields #[.ref d,.int ((i+1:Nat)) 0,.int kds.length 0,.int (epOf od) 0])::(S,isSt w (withS (addAll ks ((kds.take i).map (·.1))) kds[i].1))::(d,exO od)::L:=
   W.setAdd (.tail .head) (by have:=addAll_len (ks:=ks) (qs:=(kds.take i).map (·.1));rw [qh,qI] at this;exact qF (qg this (qX (vd _ _) _)) hz) fun fz=>rfl
  refine qc (qC (n3.then H1 fun c s2 L2 H2 e=> ?_))
  subst e
  rw [←addAll_take hlt] at H2
  exact qf ⟨plainId_quiet vm _,ih (i+1) s2 (by omega) (by omega) H2⟩
theorem starDict{k:Str}(hh:A.handled=none)(hod:isD w T kds od)(hz:kds.length<50)(q:R .none ((S,isSt w (addAll [k] (kds.map (·.1))))::(d,exO od)::L)):
  W b w A ((S,isSt w [k])::(d,exO od)::L) (setDisplayStar S (.ref d)) fun fz L'=>R .none L':=W.mk fun s H=>by
 obtain ⟨o0,ho,e0⟩:=H.own _ (.tail _ (.head _))
 rw [show o0=od from e0] at ho
 obtain ⟨kvs,hD,ha,_⟩:=St.dctAt (s:=s) hod ho
 obtain ⟨es,ep,hed,hes,hent⟩:=entriesOf hod
 have hT:=hD.dictOf.typeIs
 have hl:=ha.len
 have hns:(d==sysModules)=false:=H.notSys (.tail .head)
 unfold setDisplayStar
 refine qc (jo (b:=false) hT (by rw [jP];kernel_rfl) ?_)
 simp-iota only [qT,if_false]
 refine qc (jo (b:=false) hT (by rw [jP];kernel_rfl) ?_)
 refine qc (jn ?_)
 cases hf:w.params.followText "set-display-star-reads-storage" with
 |true=>
  show wpAny _ _ (match (if w.params.followText "set-display-star-reads-storage"=true then Value.none else .ref d) with| .ref a=>_|_=>_) _ _ s
  rw [hf]
  simp-iota only [if_true]
  refine qc (wpAny_pyIter_dict hns hD ?_)
  have H1:=H.alloc (P:=fun o=>o.cls= .type "dict_keyiterator"∧o.data= .fields #[.ref d,.int (0:Nat) 0,.int kds.length 0,.int (epOf od) 0]) {cls:= .type "dict_keyiterator",data:= .fields #[.ref d,.int 0 0,.int kvs.length 0,.int (epOf od) 0]} rfl ⟨rfl,by rw [hl];rfl⟩
  refine qc (wpAny_runValue (vP (updLoop (ks:= [k]) hh hod (by simp;exact ql (QE hz 1) (Ar.d rfl)) _ 0 _ rfl (vh _) H1) fun r s' ⟨e,H'⟩=> ?_))
  subst e
  exact qf ⟨_,H',q⟩
 |false=>
  show wpAny _ _ (match (if w.params.followText "set-display-star-reads-storage"=true then Value.none else .ref d) with| .ref a=>_|_=>_) _ _ s
  rw [hf]
  simp-iota only [qT,if_false]
  refine qc (jx hT ?_)
  rw [if_pos (show (Value.type "dict"==Value.type "dict")=true by rfl)]
  refine qc (jI ?_)
  rw [if_neg (by rw [hns];simp)]
  refine qc (wpAny_dictEpoch ho hed ?_)
  refine qc (wpAny_dictEntries ho hed ?_)
  refine qc (setRoom_one (by omega) H fun s1 H1=> ?_)
  rw [Std.Legacy.Range.forIn_eq_forIn_range']
  have hr:([:es.size]:Std.Legacy.Range).size=kds.length:=by simp [Std.Legacy.Range.size,hes]
  refine qc (fold_list (fun i s'=>St b s' ((S,isSt w (addAll [k] ((kds.take i).map (·.1))))::(d,exO od)::L)) _ 0 s1 H1 ?_ fun s' H'=> ?_)
  ·intro j x s' hx H'
   have hx':x=j∧j<kds.length:=by
    obtain ⟨h1,h2⟩:=qr.mp hx
    rw [List.getElem_range'] at h2
    have h3:=h1
    rw [List.length_range',hr] at h3
    refine ⟨?_,h3⟩
    have h4:0+1*j=x:=h2
    omega
   obtain ⟨rfl,hj⟩:=hx'
   rw [Nat.zero_add] at H' ⊢
   obtain ⟨o1,ho1,e1⟩:=H'.own _ (.tail _ (.head _))
   rw [show o1=od from e1] at ho1
   obtain ⟨e,t,g1,g2,g3⟩:=hent _ hj
   refine qc (wpAny_dictEntries ho1 hed ?_)
   rw [g1]
   dsimp only
   rw [g2,g3]
   have n3:W b w A ((S,isSt w (addAll [k] ((kds.take x).map (·.1))))::(d,exO od)::L) (setAddHashed S (.str kds[x].1 t) (hashStr w kds[x].1)) fun fz L2=>L2=(S,isSt w (withS (addAll [k] ((kds.take x).map (·.1))) kds[x].1))::(d,exO od)::L:=
    W.addHashed .head (by have:=addAll_len (ks:= [k]) (qs:=(kds.take x).map (·.1));rw [qh,qI] at this;simp-iota only [qy,qP] at this;exact qF (qg this (qX (vd _ _) _)) (ql (QE hz _) (Ar.d rfl))) fun fz=>rfl
   refine qc (qC (qc (n3.then H' fun c s2 L2 H2 e=>qf ?_)))
   subst e
   rw [←addAll_take hj] at H2
   obtain ⟨o2,ho2,e2⟩:=H2.own _ (.tail _ (.head _))
   rw [show o2=od from e2] at ho2
   refine qc (wpAny_dictEpoch ho2 hed ?_)
   rw [if_neg (by simp)]
   exact qf ⟨rfl,H2⟩
  ·refine qf ⟨_,?_,q⟩
   rw [List.length_range',Nat.zero_add,hr,zh] at H'
   exact H'
theorem W.setStar{e1 e2:Expr}{p2:Pos}{k:Str}(hh:A.handled=none)(he:env.code= .ref 242)(hod:isD w T kds od)(hz:kds.length<50)
  (hs:zB [e1,.Starred e2 p2] env= [(false,eval e1 env),(true,eval e2 env)])
  (h1: ∀S P,W b w A ((S,P)::(d,exO od)::L) (eval e1 env) fun v L1=>(∃t,v= .str k t)∧L1=(S,P)::(d,exO od)::L)
  (h2: ∀S P,W b w A ((S,P)::(d,exO od)::L) (eval e2 env) fun v L1=>v= .ref d∧L1=(S,P)::(d,exO od)::L)
  (q: ∀S,R (.ref S) ((S,isSt w (addAll [k] (kds.map (·.1))))::(d,exO od)::L)):W b w A ((d,exO od)::L) (eval (.Set [e1,.Starred e2 p2] 0 pos) env) R:=by
 rw [arm_eval_Set,hs]
 refine W.bind (W.stand ?_)
 have main: ∀(P:Bool→Led→Prop),(∀c,P c ((d,exO od)::L))→W b w A ((d,exO od)::L) (inMainModule env) P:=fun P h=>W.mk fun s H=>by
  obtain ⟨ps,⟨o,vs,_,_,_,_,_,_,_,_,ho,hd,_⟩,_⟩:=H.tabs 242 240 (by decide)
  unfold inMainModule
  dsimp only
  rw [he]
  split
  ·exact qf ⟨_,H,h _⟩
  ·refine qc (wpAny_fieldsOf ho hd ?_)
   split
   ·exact qc (jn (qf ⟨_,H,h _⟩))
   ·exact qf ⟨_,H,h _⟩
 refine W.bind (main _ fun c=> ?_)
 have hroad:displayRoad 0 [e1,.Starred e2 p2]= .oneByOne:=rfl
 rw [hroad]
 show W b w A _ (setDisplay .oneByOne c [(false,do let v ←eval e1 env;jS pos;qj v),(true,do let v ←eval e2 env;jS pos;qj v)]) R
 unfold setDisplay
 dsimp only
 rw [if_neg (by decide)]
 refine W.bind (W.newSt fun S=> ?_)
 dsimp only
 have hn:(if ([(false,(do let v ←eval e1 env;jS pos;qj v:Sem Value)),(true,do let v ←eval e2 env;jS pos;qj v)]:List (Bool×Sem Value)).length>30 then 0 else (([(false,(do let v ←eval e1 env;jS pos;qj v:Sem Value)),(true,do let v ←eval e2 env;jS pos;qj v)]:List (Bool×Sem Value)).findIdx? (·.1)).getD ([(false,(do let v ←eval e1 env;jS pos;qj v:Sem Value)),(true,do let v ←eval e2 env;jS pos;qj v)]:List (Bool×Sem Value)).length)=1:=rfl
 rw [hn]
 refine W.bind (W.holding ?_)
 refine W.bind ?_
 show W b w A _ (evalAll [(do let v ←eval e1 env;jS pos;qj v)]) _
 refine W.ea (W.bind ((h1 S _).mono fun v L1 ⟨⟨t,e⟩,e'⟩=> ?_))
 subst e e'
 refine W.bind (W.stand (W.pure (W.ea0 ?_)))
 refine W.bind (W.holding ?_)
 refine W.bind ?_
 rw [Qb]
 refine W.bind (W.bind (W.setAdd (ks:= []) .head (by simp) fun c=>W.pure ?_))
 have hk:withS [] k= [k]:=by simp [withS]
 rw [hk]
 show W b w A _ (forIn ([]:List Value) PUnit.unit _) _
 rw [List.forIn_nil]
 refine W.pure ?_
 rw [if_neg (by decide)]
 refine W.pure ?_
 show W b w A _ (do
  forIn [(true,(do let v ←eval e2 env;jS pos;qj v:Sem Value))] PUnit.unit _
  qj ()) _
 refine W.bind ?_
 rw [Qb]
 refine W.bind ?_
 refine W.bind (W.bind ((h2 S _).mono fun v L1 ⟨e,e'⟩=> ?_))
 subst e e'
 refine W.bind (W.stand (W.pure ?_))
 rw [if_pos rfl]
 refine W.bind (W.holding (starDict (R:=fun v L'=>v= .none∧L'=(S,isSt w (addAll [k] (kds.map (·.1))))::(d,exO od)::L) hh hod hz ⟨rfl,rfl⟩|>.mono fun fz L1 ⟨_,e⟩=> ?_))
 subst e
 refine W.pure ?_
 show W b w A _ (forIn ([]:List (Bool×Sem Value)) PUnit.unit _) _
 rw [List.forIn_nil]
 exact W.pure (W.pure (W.pure (q S)))
end
end
section
structure Kq(F:Frag):Prop where
 fn:typeIn F (.ref 207)=some (.type "function")
 get:specialIn F (.ref 207) "__get__"=some (some (.builtin "function.__get__"))
 takes:takesIn F (.ref 207)=some false
noncomputable abbrev mthO(x:Addr):Obj:={cls:= .type "method",data:= .fields #[.ref 207,.ref x]}
section
variable{b:qe}{w:World}{A:qq}{L L':Led}{R:Value→Led→Prop}{F:Frag}{x dx m:Addr}{kvs:List (Str×Value)}
theorem W.bndQ{ex:Bool}(KC:Kc F b)(KQ:Kq F)(hx:Mm (x,isC dx) L)(hd:Mm (dx,isAt kvs) L)(hs:kvs.lookup (qb "_qname")=none)(h: ∀m,R (.ref m) ((m,exO (mthO x))::L)):W b w A L (getAttr (.ref x) "_qname" ex) R:=W.mk fun s H=>by
 have K:=KC.can
 have X:=KC.at H
 obtain ⟨ox,es,n,I,hdx,hA,_⟩:=H.inst hx hd
 obtain ⟨cd,cod,sl,h1,h2,h3,h4,h5⟩:=K.cd
 refine get_bind X I (K.find (qb "__getattribute__",some (.builtin "object.__getattribute__")) (by decide+kernel)) (findObj_fn (f:=207) ?_ (K.find (qb "_qname",some (.ref 207)) (by decide+kernel)) KQ.get KQ.takes (by decide+kernel) ?_) (K.find (qb "__getattr__",none) (by decide+kernel)) ?_
 ·unfold hasDictIn clsIn;rw [h1];exact h3
 ·show lookIn _ (dictOf es n)=_
  rw [lookIn_dict,ae_look hA,hs]
 ·exact zL (fn_get (s:={s with toks:=s.toks+1}) X KQ.fn (handed_on rfl ⟨_,(H.tok (s.toks+1)).alloc (P:=exO (mthO x)) _ rfl rfl,h _⟩))
theorem KprL.mth(K:Kn b)(hm:Mm (m,exO (mthO x)) L):KprL b w L (.ref m):=fun s H A Q E q=>by
 obtain ⟨o,ho,e⟩:=H.own _ hm.mem
 rw [show o=mthO x from e] at ho
 unfold keeperOf
 refine qc (Qk ho ?_)
 show wpAny _ _ (do return match (←load 207).data with| .func _=>Keeper.boundFrame|_=> .caller) Q E s
 exact qc (Qk (H.base (K.fn (207,fd207) (show Mm ((207:Addr),fd207) fns by tb_rel).mem) (by intro e;cases e)) (qf (q _)))
theorem W.callMth{args:List Value}(hm:Mm (m,exO (mthO x)) L)(h:WD b w A L (.call (.ref 207) ⟨.ref x::args,[]⟩) R):W b w A L (call (.ref m) args) R:=W.mk fun s H=>by
 obtain ⟨o,ho,e⟩:=H.own _ hm.mem
 rw [show o=mthO x from e] at ho
 exact zL (method_call ho (h.run s H))
theorem ba_sig: ∃sig,vB "list.append"=some sig∧ ∀x v:Value,Bind.checkArgs "list.append" {sig with full:=s!"{Bind.lastOf "list"}.{Bind.lastOf "list.append"}"} ⟨[x,v],[]⟩=qj ():=
 ⟨(vB "list.append").get (by decide+kernel),(Option.some_get _).symm,fun x v=>by kernel_rfl⟩
theorem ba_kind:builtinKind "list.append"=some .method:=by decide+kernel
theorem bc_app{A':qq}{E:Value→qe→Prop}{Q:Unit→qe→Prop}{s:qe}{l:Addr}{vs:List Value}{n:Nat}{v:Value}(hl:s.heap.get? l=some (listO vs n))(q:Q () s):wpAny (model pw w) A' (vW "list.append" ⟨[.ref l,v],[]⟩) Q E s:=by
 obtain ⟨sig,h1,h2⟩:=ba_sig
 have hv:Manifest.varargsMethods.contains "list.append"=false:=by decide+kernel
 have hT:s.TypeIs (.ref l) "list":=⟨_,hl,rfl⟩
 unfold vW
 rw [h1,ba_kind]
 dsimp only
 rw [if_neg (by decide)]
 refine qc (jo (b:=false) hT (by rw [jP];kernel_rfl) ?_)
 rw [hv,if_neg (by decide)]
 obtain ⟨hp,g,d,t,os⟩:=s
 refine qc (ks_wpAny_isType_inst hl (fun fz e=>by cases e) ?_)
 rw [if_neg (by decide)]
 refine qc (jx hT ?_)
 dsimp only
 rw [h2]
 exact qf q
theorem W.bndApp{α:Type}{T:α→Value→Prop}{ds:List α}{d:α}{v:Value}{bo l:Addr}(hb:Mm (bo,(· =bndO "builtin_function_or_method" "list.append" l)) L)(hu:Upd L l (isL T ds) (isL T (ds++ [d])) L')(hz:ds.length≤100000)(hd:T d v)(q:R .none L'):W b w A L (call (.ref bo) [v]) R:=W.mk fun s H=>by
 obtain ⟨_,ho,rfl⟩:=H.own _ hb.mem
 obtain ⟨vs,n,ha,e⟩:=H.lst (mem_mm hu.mem)
 obtain ⟨hp,g,dr,t,os⟩:=s
 refine zL (bnd_call ho (by decide) (by decide) (fun A'=>bc_app e (bi_code PySem.F.entry_list_append (by decide+kernel) ?_)) (jD _ (by decide+kernel)))
 have hlen:=ha.len
 show wpAny _ _ (updateSeq l (·.push v)>>=fun fz=>PySem.ret .none) _ _ _
 refine qc (wpAny_updateSeq e rfl (qf ⟨_,rfl,L',H.same hu (qK ..) ⟨_,jX e fun a=>a.push v,?_⟩ t,q⟩) (by rw [qo,qu];omega) (by rw [Array.size_push,qo,qu];omega))
 refine ⟨vs++ [v],if ((vs++ [v]).toArray.size==vs.toArray.size)=true then n else n+1,ha.app (.one hd),?_⟩
 rw [show vs.toArray.push v=(vs++ [v]).toArray by simp]
end
end
section
theorem sOf_nocc{l:List Nat}{c:Nat}(h:c∉l):(zp (sOf l) (sOf [c]) 0 (sOf l).length 1).isEmpty=true:=by
 rcases StrLaws.occ_head (sOf l) (sOf [c]) 1 (zg _) with ⟨e,_⟩|⟨i,r,e,hA,_⟩
 ·rw [e];rfl
 ·exact absurd (qk ((sOf_at1 l c i).mp hA)) h
section
variable{b:qe}{w:World}{A:qq}{L L':Led}{R:Value→Led→Prop}{F:Frag}{env:Env}{pos:Pos}{Q:Flow→Led→Prop}{rest body:List Stmt}
theorem W.jpNil{out:Str}(hz:out.length≤ji)(h: ∀t,R (.str out t) L):W b w A L (joinParts out []) R:=W.mk fun s H=>joinParts_nil ⟨L,H.tok _,h _⟩ hz
theorem W.jp{out:Str}{x:Sem Value}{rest:List (Sem Value)}(h:W b w A L x fun v L1=> ∃y t,v= .str y t∧(out++y).length≤ji∧W b w A L1 (joinParts (out++y) rest) R):W b w A L (joinParts out (x::rest)) R:=
 W.mk fun s H=>joinParts_cons (h.then H fun v s1 L1 H1 ⟨y,t,e,hz,h1⟩=>by subst e;exact ⟨hz,h1.run s1 H1⟩)
theorem W.fval{value:Expr}(h:W b w A L (eval value env) fun v L1=> ∃y t,v= .str y t∧y.length≤ji∧ ∀t',R (.str y t') L1):W b w A L (eval (.FormattedValue value (-1) none pos) env) R:=
 W.mk fun s H=>FormattedValue_plain (h.then H fun v s1 L1 H1 ⟨y,t,e,hz,h1⟩=>by
  subst e
  exact formatField_str (fun t' tk=>⟨L1,H1.tok _,h1 t'⟩) hz)
theorem W.try_{h₀:ExceptHandler}{hs:List ExceptHandler}(h:W b w A L (execs body env) (SQ b w A env rest Q)):W b w A L (execs (.Try body (h₀::hs) [] [] pos::rest) env) Q:=
 W.seq<|W.mk fun s H=>wpAny_Try_except (h.then H fun f s1 L1 H1 h1=>by
  cases f with
  |next=>exact qf ⟨L1,H1,h1⟩
  |brk=>exact ⟨L1,H1,h1⟩
  |cont=>exact ⟨L1,H1,h1⟩
  |ret v=>exact ⟨L1,H1,h1⟩)
theorem W.inStr{x y:Str}{t u:Tok}(h:R (.bool !(zp x y 0 x.length 1).isEmpty) L):W b w A L (jd .In (.str y u) (.str x t)) R:=W.mk fun s H=>PySem.P.in_str ⟨L,H,h⟩
theorem W.inStr0{l:List Nat}{c:Nat}{y:Str}{t u:Tok}(hy:y=sOf [c])(hl:c∉l)(h:R (.bool false) L):W b w A L (jd .In (.str y u) (.str (sOf l) t)) R:=by
 subst hy
 refine W.inStr ?_
 rw [sOf_nocc hl]
 exact h
theorem esc_ok{l:List Nat}{t:Tok}(K:Kn b)(hA:Rm 1 A)(hl:38∉l∧60∉l∧34∉l∧9∉l∧10∉l∧13∉l)(q:R (.str (sOf l) t) L):W b w A L (call (.ref 285) [.str (sOf l) t]) R:=by
 revert b w A L R l t K hA hl q
 funext b w A L R l t K hA hl q
 refine hkX (hl) ?_
 funext ⟨h1,h2,h3,h4,h5,h6⟩
 refine W.fn (fd:=fd0 19 etree 284) 1 [(qb "text",some (.str (sOf l) t))] K (by tb_rel) hA rfl (fun fz fz=>zc (by kernel_rfl)) (by kernel_rfl) (by kernel_rfl) ?_
 funext La A' hA
 refine W.try_ ?_
 refine W.ifs ?_
 repeat tb_start
 refine W.inStr0 (c:=38) (by kernel_rfl) h1 ?_
 repeat tb_start
 refine W.inStr0 (c:=60) (by kernel_rfl) h2 ?_
 repeat tb_start
 refine W.inStr0 (c:=34) (by kernel_rfl) h3 ?_
 repeat tb_start
 refine W.inStr0 (c:=9) (by kernel_rfl) h4 ?_
 repeat tb_start
 refine W.inStr0 (c:=10) (by kernel_rfl) h5 ?_
 repeat tb_start
 refine W.inStr0 (c:=13) (by kernel_rfl) h6 ?_
 repeat tb_start
 exact ⟨_,.skip .all,q⟩
end
end
section
theorem map_inj{α β:Type}{f:α→β}: ∀{l:List α} {p q:α},(l.map f).Nodup→p∈l→q∈l→f p=f q→p=q
 |x::r,p,q,hn,hp,hq,e=>by
  rw [qR,zu] at hn
  rcases qH.mp hp with e1|h1<;>rcases qH.mp hq with e2|h2
  ·rw [e1,e2]
  ·have:=qA (f:=f) h2
   rw [←e,e1] at this
   exact absurd this hn.1
  ·have:=qA (f:=f) h1
   rw [e,e2] at this
   exact absurd this hn.1
  ·exact map_inj hn.2 h1 h2 e
noncomputable def tupL(tt:List (Addr×Str×Str)):Led:=tt.map fun p=>(p.1,isT VS [p.2.1,p.2.2])
theorem runP_congr{α:Type}{n:Nat}{lt lt':Nat→Nat→Bool}(h: ∀i j,i<n→j<n→lt i j=lt' i j): ∀t:KasT α,runP n lt t=runP n lt' t
 | .ret _=>rfl
 | .ask i j k=>by
  show (if (decide (i<n)&&decide (j<n))=true then runP n lt (k (lt i j)) else none)=if (decide (i<n)&&decide (j<n))=true then runP n lt' (k (lt' i j)) else none
  by_cases hc:(decide (i<n)&&decide (j<n))=true
  ·rw [if_pos hc,if_pos hc]
   simp-iota only [qt,decide_eq_true_eq] at hc
   rw [h i j hc.1 hc.2]
   exact runP_congr h _
  ·rw [if_neg hc,if_neg hc]
theorem sortP_congr{n:Nat}{lt lt':Nat→Nat→Bool}(h: ∀i j,i<n→j<n→lt i j=lt' i j):sortP n lt=sortP n lt':=by
 unfold sortP
 rw [runP_congr h]
theorem sortP_rev: ∀n<7,sortP n (fun i j=>decide (j<i))=some (zo n).reverse:=by decide+kernel
theorem sortP_id: ∀n<7,sortP n (fun i j=>decide (i<j))=some (zo n):=by decide+kernel
section
variable{b:qe}{w:World}{A:qq}{L L':Led}{R:Value→Led→Prop}{vw d:Addr}{kds:List (Str×Str)}{od:Obj}
theorem tupMem{tt:List (Addr×Str×Str)}{p:Addr×Str×Str}(h:p∈tt):(p.1,isT VS [p.2.1,p.2.2])∈tupL tt:=qA (f:=fun p=>(p.1,isT VS [p.2.1,p.2.2])) h
theorem St.tupAt{s:qe}{a:Addr}{k x:Str}(H:St b s L)(hm:Mm (a,isT VS [k,x]) L): ∃t u n,s.heap.get? a=some (tupO [.str k t,.str x u] n):=by
 revert b L s a k x H hm
 funext b L s a k x H hm
 refine hkX (H.tup hm) ?_
 funext ⟨vs,n,ha,e⟩
 cases ha with
 |cons h1 h2=>
  cases h2 with
  |cons h3 h4=>
   cases h4
   refine hkX (h1) ?_
   funext ⟨t,rfl⟩
   refine hkX (h3) ?_
   funext ⟨u,rfl⟩
   exact ⟨t,u,n,e⟩
noncomputable def keyAt(tt:List (Addr×Str×Str))(a:Addr):Str:=((tt.find? fun p=>p.1==a).map (·.2.1)).getD ⟨#[]⟩
theorem keyAt_mem: ∀{tt:List (Addr×Str×Str)} {p:Addr×Str×Str},(tt.map (·.1)).Nodup→p∈tt→keyAt tt p.1=p.2.1
 |q::r,p,hn,hp=>by
  rw [qR,zu] at hn
  unfold keyAt
  rw [List.find?_cons]
  rcases qH.mp hp with rfl|hp
  ·simp
  ·have:(q.1==p.1)=false:=by
    rw [beq_eq_false_iff_ne]
    intro e
    exact hn.1 (e▸qA (f:=(·.1)) hp)
   rw [this]
   exact keyAt_mem hn.2 hp
theorem tupKind{tt:List (Addr×Str×Str)}:KindW b w A (tupL tt++L) (tuples' true) VR (tt.map (·.1)):=⟨fun e vs s ha h2 H=>by
 have main: ∀(us:List Value) (ts:List (Addr×Str×Str)),(∀p∈ts,p∈tt)→All2 VR (ts.map (·.1)) us→ ∃fs,KatTups s.heap us fs∧fs.length=us.length∧ ∀v∈fs,∃k t,v= .str k t:=by
  intro us ts
  induction ts generalizing us with
  |nil=>intro _ h;cases h;exact ⟨[],.nil,rfl,fun fz h=>nomatch h⟩
  |cons p r ih=>
   intro hp h
   cases h with
   |cons h1 h2=>
    obtain ⟨fs,f1,f2,f3⟩:=ih _ (fun q hq=>hp q (.tail _ hq)) h2
    obtain ⟨t,u,n,e⟩:=H.tupAt (Mm.inr (.inl (mem_mm (tupMem (hp p (.head _))))))
    rw [show _=Value.ref p.1 from h1]
    refine ⟨.str p.2.1 t::fs,.cons e rfl rfl rfl f1,by simp [f2],fun v hv=> ?_⟩
    rcases qH.mp hv with rfl|hv
    ·exact ⟨_,_,rfl⟩
    ·exact f3 v hv
 obtain ⟨fs,f1,f2,f3⟩:=main vs tt (fun fz h=>h) ha
 exact kat_kind (T:= .type "str") f1 (by exact qU (ql Nat.zero_lt_two h2) f2.symm) (fun v hv=>by
  obtain ⟨k,t,rfl⟩:=f3 v hv
  exact Looks.of_pure rfl) (by decide) ⟨rfl,H⟩⟩
theorem tupCmp{tt:List (Addr×Str×Str)}(hn:(tt.map (·.1)).Nodup)(hk:(tt.map (·.2.1)).Nodup):CmpW b w A (tupL tt++L) (tuples' true) VR (tt.map (·.1)) (fun x y=>ltS (keyAt tt x) (keyAt tt y)):=⟨fun e x y u v s C hx hy hu hv H hC=>by
 obtain ⟨p,hp,rfl⟩:=qw.mp hx
 obtain ⟨q,hq,rfl⟩:=qw.mp hy
 rw [show u=Value.ref p.1 from hu,show v=Value.ref q.1 from hv]
 obtain ⟨t1,u1,n1,e1⟩:=H.tupAt (Mm.inr (.inl (mem_mm (tupMem hp))))
 obtain ⟨t2,u2,n2,e2⟩:=H.tupAt (Mm.inr (.inl (mem_mm (tupMem hq))))
 rw [keyAt_mem hn hp,keyAt_mem hn hq] at hC
 refine kat_lt e1 rfl e2 rfl ?_
 refine kat_cons (wpAny_eqBool_str ?_)
 by_cases he:p.2.1=q.2.1
 ·have hpq:p=q:=map_inj (f:=fun p:Addr×Str×Str=>p.2.1) hk hp hq he
  subst hpq
  rw [decide_eq_true he]
  refine kat_yes (kat_cons (wpAny_eqBool_str ?_))
  rw [decide_eq_true rfl]
  refine kat_yes (kat_nil ?_)
  have hf:ltS p.2.1 p.2.1=false:=by
   unfold ltS
   rw [decide_eq_false_iff_not]
   exact List.lt_irrefl _
  have:=hC s H
  rw [hf] at this
  exact this
 ·rw [decide_eq_false he]
  refine kat_no ?_
  rw [show (true&&(0:Nat)==0)=true from rfl,←keyLt'_oneType]
  exact kas_lt_str (hC s H)⟩
theorem W.sortedTup(hh:A.handled=none)(hod:isD w VS kds od)(hv:Mm (vw,isIV d) L)(hd:Mm (d,exO od) L)(h7:kds.length<7)(hf: ∀i j,i<kds.length→j<kds.length→ltS (kds.getD i zb).1 (kds.getD j zb).1=decide (j<i))
  (q: ∀D tt,tt.map (·.2)=kds→R (.ref D) ((D,isL (α:=Addr) VR (tt.map (·.1)).reverse)::(tupL tt++L))):W b w A L (call (.builtin "sorted") [.ref vw]) R:=W.mk fun s H=>by
 obtain ⟨o0,ho0,e0⟩:=H.own _ hd.mem
 rw [show o0=od from e0] at ho0
 obtain ⟨kvs,hDa,hall,hz⟩:=St.dctAt (s:=s) hod ho0
 obtain ⟨ov,hov,hov2⟩:=H.own _ hv.mem
 have hl:=hall.len
 refine Calls.call_function_entry kind_sorted plain_sorted entry_sorted (args_sorted1 _) ?_
 unfold Builtin.«sorted»
 refine qc (m:=checkCount "sorted" 1 1 _) (qf ?_)
 refine qc (kdx_collect hh ⟨ov,hov,by rw [show ov=_ from hov2],by rw [show ov=_ from hov2]⟩ hDa (by rw [qu];exact Ar.d2 hl (qg (qv h7) (Ar.d rfl))) fun h' tk as hk hal G=> ?_)
 have hnd:kds.map (·.1)=kvs.map (·.1):=by
  have: ∀(ks:List (Str×Str)) (vs:List (Str×Value)),All2 (fun d (kv:Str×Value)=>d.1=kv.1∧VS d.2 kv.2) ks vs→ks.map (·.1)=vs.map (·.1):=by
   intro ks vs h
   induction h with
   |nil=>rfl
   |cons h1 _ ih=>rw [qR,qR,ih,h1.1]
  exact this _ _ hall
 have hkn:(kds.map (·.1)).Nodup:=by rw [hnd];exact hDa.nodup
 obtain ⟨tt,ht1,ht2⟩: ∃tt:List (Addr×Str×Str),tt.map (·.1)=as∧tt.map (·.2)=kds:=⟨as.zip kds,by rw [List.map_fst_zip];exact qN (hal.trans hl),by rw [List.map_snd_zip];omega⟩
 have hlen:tt.length=kds.length:=by rw [←ht2,qh]
 have hasn:(tt.map (·.1)).Nodup:=by
  rw [ht1]
  exact G.rise.imp fun h=>qS h
 have htk:(tt.map (·.2.1)).Nodup:=by
  have:tt.map (·.2.1)=(tt.map (·.2)).map (·.1):=by rw [zf];rfl
  rw [this,ht2];exact hkn
 have own: ∀p∈tupL tt,∃o,h'.get? p.1=some o∧p.2 o:=fun p hp=>by
  obtain ⟨r,hr,rfl⟩:=qw.mp hp
  obtain ⟨j,hj,e⟩:=QH hr
  have ha:as[j]? =some r.1:=by rw [←ht1,qp,qd hj,e];rfl
  have hkd:kds[j]? =some r.2:=by rw [←ht2,qp,qd hj,e];rfl
  obtain ⟨key,k,x,g1,g2,g3⟩:=G.pairs j r.1 ha
  obtain ⟨⟨k',v⟩,f1,f2,f3⟩:=hall.get hkd
  rw [g1] at f1
  cases f1
  dsimp only at f2 f3
  refine ⟨_,g3,[key,x],0,.cons ?_ (.one f3),rfl⟩
  cases key with
  |str y u=>
   have:k=y:=(qJ pw w).inj _ _ _ g2 (vM pw w y u)
   exact ⟨u,by rw [f2,this]⟩
  |_=>exact absurd g2 (by simp [qJ,Value.isStrOf])
 have hfr: ∀p∈tupL tt,s.heap.objs.size≤p.1:=fun p hp=>by
  obtain ⟨r,hr,rfl⟩:=qw.mp hp
  exact qv (G.above _ (by rw [←ht1];exact qA (f:=(·.1)) hr))
 have hkeys:(tupL tt).map (·.1)=tt.map (·.1):=by unfold tupL;rw [zf];rfl
 have H1:=H.exts (t:=tk) hk (tupL tt) hfr own (by rw [hkeys];exact hasn)
 refine qc (wpAny_newList ?_ (by rw [qh,qu];exact Ar.d2 (hal.trans hl) (qg (qv h7) (Ar.d rfl))))
 have H2:=H1.alloc (P:=isL (α:=Addr) VR (tt.map (·.1))) (vo "list" (as.map Value.ref).toArray 0) rfl ⟨as.map Value.ref,0,by
  rw [ht1]
  clear H1 own hfr hkeys ht1 G hal
  induction as with
  |nil=>exact .nil
  |cons a r ih=>exact .cons rfl ih,rfl⟩
 refine qc (qC (zr slot_list_sort (tyL H2 .head) entry_list_sort ?_ (args_list_sort _)))
 have gk: ∀i,i<tt.length→keyAt tt ((tt.map (·.1)).getD i zb)=(kds.getD i zb).1:=fun i hi=>by
  have e1:(tt.map (·.1)).getD i zb=tt[i].1:=by rw [qi,qp,qd hi];rfl
  have e2:kds.getD i zb=tt[i].2:=by rw [←ht2,qi,qp,qd hi];rfl
  rw [e1,e2]
  exact keyAt_mem hasn (vN hi)
 have hsort:sortP (tt.map (·.1)).length (ltAt (fun x y=>ltS (keyAt tt x) (keyAt tt y)) (tt.map (·.1)))=some (zo (tt.map (·.1)).length).reverse:=by
  rw [qh]
  rw [←sortP_rev tt.length (by exact Ar.d1 hlen h7)]
  refine sortP_congr fun i j hi hj=> ?_
  show ltS (keyAt tt _) (keyAt tt _)=_
  rw [gk i hi,gk j hj]
  exact hf i j (by omega) (by omega)
 refine listSort H2 (by rw [qh];exact Ar.d1 hlen (zq h7 (Ar.d rfl))) tupKind (tupCmp hasn htk) hsort (fun i hi=>by simpa using hi) (by simp;exact Ar.d1 hlen (zq h7 (Ar.d rfl))) fun s' H'=>⟨_,rfl,qf ⟨_,rfl,_,H',?_⟩⟩
 have hrev:((zo (tt.map (·.1)).length).reverse.map fun i=>(tt.map (·.1)).getD i zb)=(tt.map (·.1)).reverse:=by
  rw [Qj]
  congr 1
  apply List.ext_getElem
  ·simp
  ·intro i h1 h2
   simp at h1
   simp [h1]
 rw [hrev]
 exact q _ tt ht2
end
end
section
noncomputable abbrev wrG(w:World)(c:WrC)(letter other:Str)(ds:List Addr)(n1 n2:Nat)(written:List Str)(rs rd:Bool)(ig:Int)(ti:Tok)(M:Led):Led:=
 (c.x,isC c.dx)::(c.dx,isAt (wrAt c rs rd (.int ig ti)))::(c.bo,(· =bndO "builtin_function_or_method" "list.append" c.wl))::(c.wl,isL VS written)::(c.dl,isL VR ([]:List Addr))::(c.ea,isMs w [other])::(c.et,isMs w [letter])::(c.nsd,isL VR (c.d0::ds))::(c.d0,isL VR [c.t0])::(c.t0,xmlT c.u1 c.u2)::
  (c.nss,isL VU (zk n1 ()))::(c.ps,isL VB (zk n2 false))::(nsL ds++M)
noncomputable abbrev kdsOf(hst:Nat→List Nat)(ps:List Nat):List (Str×Str):=ps.map fun p=>(sOf [97+p],sOf (hst p))
section
variable{b:qe}{w:World}{A:qq}{L L':Led}{R:Value→Led→Prop}{F:Frag}{env:Env}{pos:Pos}{Q:Flow→Led→Prop}{α:Type}{T:α→Value→Prop}{kds:List (Str×α)}{od:Obj}{d:Addr}
theorem W.tgtT3{β:Type}{T:β→Value→Prop}{d1 d2 d3:β}{a:Addr}{y z x:Str}{p1 p2 p3 tp:Pos}{k:Nat}{Q:Unit→Led→Prop}(hh:A.handled=none)(hm:Mm (a,isT T [d1,d2,d3]) L)
  (h: ∀v1 v2 v3,T d1 v1→T d2 v2→T d3 v3→W b w A L (Qi env y v1) fun fz L1=>W b w A L1 (Qi env z v2) fun fz L2=>W b w A L2 (Qi env x v3) Q):W b w A L (QS (.Tuple [.Name y p1,.Name z p2,.Name x p3] k tp) env (.ref a)) Q:=W.mk fun s H=>by
 obtain ⟨vs,n,ha,e⟩:=H.tup hm
 obtain ⟨v1,v2,v3,rfl,e1,e2,e3⟩:=ha.inv3
 refine wpAny_assign_Tuple (items:=#[v1,v2,v3]) hh ⟨_,e,rfl,n,rfl⟩ rfl rfl fun h' hx=> ?_
 have H':St b {s with heap:=h',toks:=s.toks} L:=H.grow (Heap.extFresh hx)
 show wpAny _ _ (do zv [v2,v3] (QS (.Name y p1) env v1);do zv [v3] (QS (.Name z p2) env v2);do zv [] (QS (.Name x p3) env v3);qj ()) _ _ _
 refine qc (qC (jK ((h v1 v2 v3 e1 e2 e3).then H' fun fz s1 L1 H1 h1=> ?_)))
 refine qc (qC (jK (h1.then H1 fun fz s2 L2 H2 h2=> ?_)))
 exact qc (qC (jK (h2.then H2 fun fz s3 L3 H3 h3=>qf ⟨L3,H3,h3⟩)))
theorem W.truDx{TT:Bool→Led→Prop}(hod:isD w T kds od)(hm:Mm (d,exO od) L)(h:TT (!kds.isEmpty) L):W b w A L (truthy (.ref d)) TT:=W.mk fun s H=>by
 obtain ⟨o0,ho0,e0⟩:=H.own _ hm.mem
 rw [show o0=od from e0] at ho0
 obtain ⟨kvs,hDa,hall,hz⟩:=St.dctAt (s:=s) hod ho0
 have:=hall.len
 refine wpAny_truthy_dict (H.notSys hm) hDa.dictOf (by exact Ar.i6 (Ar.d1 this hz) rfl) ⟨L,H.tok _,?_⟩
 have:kvs.isEmpty=kds.isEmpty:=by cases hall<;>rfl
 rw [this];exact h
theorem W.getNox{k:Str}{u:Tok}(hod:isD w T kds od)(hm:Mm (d,exO od) L)(hn:k∉kds.map (·.1))(h:R .none L):W b w A L (call (.builtin "dict.get") [.ref d,.str k u]) R:=W.mk fun s H=>by
 obtain ⟨o0,ho0,e0⟩:=H.own _ hm.mem
 rw [show o0=od from e0] at ho0
 obtain ⟨kvs,hDa,ha,hz⟩:=St.dctAt (s:=s) hod ho0
 have hD:=hDa.dictOf
 refine call_meetsIn PySem.F.slot_dict_get hD.typeIs PySem.F.entry_dict_get (PySem.F.args_dict_get_2 _ _) (meets_dict_get (qJ pw w) d (vM pw w k u) (H.notSys hm)) ⟨_,hD.mapOf,?_⟩
 rw [valueAt_none (by rw [kd_keys ha];exact hn)]
 exact ⟨L,H.tok _,h⟩
end
end
section
section
variable{b:qe}{w:World}{A:qq}{L L':Led}{R:Value→Led→Prop}
theorem strsAre{ls:List Str}: ∀{vs:List Value},All2 VS ls vs→StrsAre vs ls:=by
 induction ls with
 |nil=>intro vs h;cases h;exact .nil
 |cons x r ih=>
  intro vs h
  cases h with
  |cons h1 h2=>
   obtain ⟨t,rfl⟩:=h1
   exact .cons _ _ (ih h2)
theorem W.joinL{l:Addr}{ls:List (List Nat)}{t:Tok}(hm:Mm (l,isL VS (ls.map sOf)) L)(hz:(ls.map (·.length)).sum≤16000000)(h: ∀t,R (.str (sOf ls.flatten) t) L):W b w A L (call (.builtin "str.join") [.str "" t,.ref l]) R:=W.mk fun s H=>by
 obtain ⟨vs,n,ha,e⟩:=H.lst hm
 refine join_list (items:=vs.toArray) (ys:=ls.map sOf) (listO_is e) (by simpa using strsAre ha) ?_ fun t' k=>⟨L,H.tok _,by rw [join_nil];exact h t'⟩
 rw [zf]
 have:(List.map (Str.length∘sOf) ls)=ls.map (·.length):=jr fun x fz=>sOf_len x
 rw [this,show ("":Str).length=0 from rfl]
 exact qg hz (Ar.d rfl)
end
end
section
noncomputable def atT(hst:Nat→List Nat)(ps:List Nat):List (List Nat):=ps.map fun p=> [32,97+p,61,34]++hst p++ [34]
section
variable{b:qe}{w:World}{A:qq}{L L' M:Led}{R:Value→Led→Prop}{F:Frag}{c:WrC}{letter other:Str}{rs:Bool}{ds:List Addr}{n1 n2 k:Nat}{written:List Str}{rd:Bool}{ig:Int}{ti:Tok}{hst:Nat→List Nat}
noncomputable abbrev stF(tag attrs nn qn rn qa pq al sp wr:Option Value)(ks:List (Str×Option Value)):List (Str×Option Value):=
 (qb "tag",tag)::(qb "attrs",attrs)::(qb "new_namespaces",nn)::(qb "qname_text",some .none)::(qb "qnames",qn)::(qb "resolved_names",rn)::(qb "qattrs",qa)::
  (qb "parsed_qnames",pq)::(qb "attr_list",al)::(qb "space_behaviour",sp)::(qb "write",wr)::ks
noncomputable abbrev stK(k v an u aq:Option Value):List (Str×Option Value):= [(qb "k",k),(qb "v",v),(qb "attr_name",an),(qb "uri",u),(qb "attr_qname",aq),(qb "qname",none),(qb "value",none)]
theorem W.isnN(h:R (.bool false) L):W b w A L (jd .IsNot .none .none) R:=W.isnP (by rfl) (by rw [show (!(Value.none==Value.none))=false by rfl];exact h)
theorem W.isnR{a:Addr}(h:R (.bool true) L):W b w A L (jd .IsNot (.ref a) .none) R:=W.isnP (by rfl) (by rw [show (!(Value.ref a==Value.none))=true by rfl];exact h)
theorem sum_le{c:Nat}: ∀{l:List Nat},(∀x∈l,x≤c)→l.sum≤l.length*c
 | [],_=>by simp
 |x::r,h=>by
  have h1:=h x (.head _)
  have h2:=sum_le (l:=r) fun y hy=>h y (.tail _ hy)
  rw [List.sum_cons,qy,Nat.add_mul]
  exact qg (qN (vO _ _)) (jQ h2 (qg h1 (qN (Nat.one_mul _).symm)))
theorem W.fstrS{env:Env}{pos:Pos}{v1 v2:Expr}{r:List Expr}(h:W b w A L (joinParts (sOf []) (eval v1 env::eval v2 env::evalEach r env)) R):W b w A L (eval (.JoinedStr (v1::v2::r) pos) env) R:=h
theorem W.jpS{l:List Nat}{x:Sem Value}{rest:List (Sem Value)}(h:W b w A L x fun v L1=> ∃m t,v= .str (sOf m) t∧l.length+m.length≤1000000∧W b w A L1 (joinParts (sOf (l++m)) rest) R):W b w A L (joinParts (sOf l) (x::rest)) R:=
 W.jp (h.mono fun v L1 ⟨m,t,e,hz,h1⟩=>⟨sOf m,t,e,by rw [sOf_app,sOf_len,qm,qu];omega,by rw [sOf_app];exact h1⟩)
theorem W.jpE{l:List Nat}(hz:l.length≤1000000)(h: ∀t,R (.str (sOf l) t) L):W b w A L (joinParts (sOf l) []) R:=W.jpNil (by rw [sOf_len,qu];omega) h
theorem W.fvS{env:Env}{pos:Pos}{value:Expr}(h:W b w A L (eval value env) fun v L1=> ∃m t,v= .str (sOf m) t∧m.length≤1000000∧ ∀t',R (.str (sOf m) t') L1):W b w A L (eval (.FormattedValue value (-1) none pos) env) R:=
 W.fval (h.mono fun v L1 ⟨m,t,e,hz,h1⟩=>⟨sOf m,t,e,by rw [sOf_len,qu];omega,h1⟩)
theorem W.abs{β:Type}{t:Sem β}{Q:β→Led→Prop}(h: ∀L0,L0=L→W b w A L0 t Q):W b w A L t Q:=h L rfl
theorem wrG_in{M:Led}{p:Addr×Asn}(h:Mm p M):Mm p (wrG w c letter other ds n1 n2 written rs rd ig ti M):= .tail (.tail (.tail (.tail (.tail (.tail (.tail (.tail (.tail (.tail (.tail (.tail (.inr h))))))))))))
theorem wrG_ns{M:Led}{p:Addr×Asn}(h:Mm p (nsL ds)):Mm p (wrG w c letter other ds n1 n2 written rs rd ig ti M):= .tail (.tail (.tail (.tail (.tail (.tail (.tail (.tail (.tail (.tail (.tail (.tail (.inl h))))))))))))
noncomputable def tqL(tq:List (Nat×Addr)):Led:=tq.map fun p=>(p.2,isT VS [sOf [97+p.1],sOf [97+p.1],sOf []])
noncomputable abbrev pqD(w:World)(tq:List (Nat×Addr)):Asn:=isD w VR (tq.map fun p=>(sOf [97+p.1],p.2))
noncomputable def prL(hst:Nat→List Nat)(ap:List (Nat×Addr)):Led:=ap.map fun p=>(p.2,isT VS [sOf [97+p.1],sOf (hst p.1)])
set_option maxHeartbeats 4000000 in
set_option tactic.hygienic true in
theorem start_t4{La C1 C2 pq:Addr}{kt:Tok}{sp al kk vv an u aq attrs nn qn rn:Option Value}{M':Led}(K:Kn b)(KC:Kc F b)(hA:Rm 2 A)(hw:written.length<1000)(hn1:n1<1000)(hM:Take M' M):
  W b w A ((La,loc (stF (some (.str (sOf [97+k]) kt)) attrs nn qn rn (some .none) (some (.ref pq)) al sp (some (.ref c.bo)) (stK kk vv an u aq)))::(C1,isCell (some (.ref c.x)))::(wrG w c letter other ds n1 n2 written rs rd ig ti M'))
   (execs ((bodyOf (meth 17 8)).drop 14) (envF fd243 La 243 [(qb "parse_qname",C2),(qb "self",C1)])) fun fl L'=>fl= .next∧Take L' (wrG w c letter other ds (n1+1) n2 (written++ [sOf [62]]) true rd ig ti M):=by
 refine W.exprS ⟨by kernel_rfl,by kernel_rfl⟩ ?_
 repeat tb_start
 rename_i t0
 refine ⟨KprL.bnd (bt:="builtin_function_or_method") (id:="list.append") (x:=c.wl) (by decide) (by tb_rel),?_⟩
 refine W.bndApp (T:=VS) (ds:=written) (d:=sOf [62]) (by tb_rel) (by tb_rel) (by omega) ⟨t0,by kernel_rfl⟩ ?_
 refine W.ifs ?_
 repeat tb_start
 refine W.isnN ?_
 repeat tb_start
 refine W.list0 (T:=VR) (α:=Addr) fun fz=> ?_
 repeat tb_start
 refine W.append (T:=VU) (d:=()) (by tb_rel) (by simp;omega) trivial ?_
 refine W.nil ⟨rfl,?_⟩
 rw [show zk n1 ()++ [()]=zk (n1+1) () from vV.symm]
 refine .skip (.skip (.skip ?_))
 iterate 12 refine .cons .head ?_
 exact hM.appL
set_option maxHeartbeats 4000000 in
theorem start_t3{La C1 C2 pq al:Addr}{sp:Option Value}{kt:Tok}{kk vv an u aq attrs nn qn rn c2:Option Value}{tq ap:List (Nat×Addr)}(K:Kn b)(KC:Kc F b)(hA:Rm 2 A)(hk:k<7)(hAf:A.frames.isSome=true)
  (htq:k∈tq.map (·.1)) (hap: ∀p∈ap,p.1<7) (hh: ∀p∈ap,38∉hst p.1∧60∉hst p.1∧34∉hst p.1∧9∉hst p.1∧10∉hst p.1∧13∉hst p.1) (hz: ∀p∈ap,(hst p.1).length<1000) (hl:ap.length<7) (hw:written.length<900) (hn1:n1<1000):
  W b w A ((La,loc (stF (some (.str (sOf [97+k]) kt)) attrs nn qn rn (some .none) (some (.ref pq)) (some (.ref al)) sp none (stK kk vv an u aq)))::(C1,isCell (some (.ref c.x)))::(pq,pqD w tq)::(al,isL (α:=Addr) VR (ap.map (·.2)))::(wrG w c letter other ds n1 n2 written rs rd ig ti (tqL tq++(prL hst ap++M))))
   (execs ((bodyOf (meth 17 8)).drop 11) (envF fd243 La 243 [(qb "parse_qname",C2),(qb "self",C1)])) fun fl L'=>fl= .next∧Take L' (wrG w c letter other ds (n1+1) n2 (written++ [sOf [60,97+k]]++(if ap.isEmpty then [] else [sOf (atT hst (ap.map (·.1))).flatten])++ [sOf [62]]) true rd ig ti M):=by
 revert b w A M F c letter other rs ds n1 n2 k written rd ig ti hst La C1 C2 pq al sp kt kk vv an u aq attrs nn qn rn c2 tq ap K KC hA hk hAf htq hap hh hz hl hw hn1
 funext b w A M F c letter other rs ds n1 n2 k written rd ig ti hst La C1 C2 pq al sp kt kk vv an u aq attrs nn qn rn c2 tq ap K KC hA hk hAf htq hap hh hz hl hw hn1
 refine W.asg (by kernel_rfl!) ?_
 repeat tb_start
 have hZ: ∃(i:Nat) (a:Addr),tq[i]? =some (k,a):=by
  refine hkX (qw.mp htq) ?_
  funext ⟨p,hp,e⟩
  refine hkX (QH hp) ?_
  funext ⟨i,hi,e2⟩
  exact ⟨i,p.2,by rw [qd hi,e2,←e]⟩
 revert hZ;funext ⟨i,a,hi⟩
 have hta:Mm (a,isT VS [sOf [97+k],sOf [97+k],sOf []]) (tqL tq):=mem_mm (qA (f:=fun p:Nat×Addr=>(p.2,isT VS [sOf [97+p.1],sOf [97+p.1],sOf []])) (qk hi))
 refine W.itemD (T:=VR) (kds:=tq.map fun p=>(sOf [97+p.1],p.2)) (i:=i) (x:=a) (by tb_rel) (by rw [qp,hi];rfl) ⟨[.ref pq,.str (sOf [97+k]) kt],by kernel_rfl⟩ ?_
 funext _ rfl
 repeat tb_start
 refine W.itemT (T:=VS) (ds:= [sOf [97+k],sOf [97+k],sOf []]) (i:=0) (.tail (.tail (.tail (.tail (wrG_in (.inl hta)))))) (by decide) rfl (fun fz=>by kernel_rfl) ?_
 funext _ ⟨t2,rfl⟩
 refine W.addS (by rw [qu,sOf_len];show 1+1≤_;decide) ?_
 funext _
 have elt:(qb "<"++sOf [97+k])=sOf [60,97+k]:=by
  rw [show qb "<"=sOf [60] by kernel_rfl,sOf_app];rfl
 rw [elt]
 refine ⟨KprL.bnd (bt:="builtin_function_or_method") (id:="list.append") (x:=c.wl) (by decide) (by tb_rel),?_⟩
 refine W.bndApp (T:=VS) (ds:=written) (d:=sOf [60,97+k]) (by tb_rel) (by tb_rel) (by omega) ⟨_,rfl⟩ ?_
 refine W.ifs ?_
 repeat tb_start
 refine W.truL (T:=VR) (ds:=ap.map (·.2)) (by tb_rel) (by simp;omega) ?_
 refine ⟨fun e=> ?_,fun e=> ?_⟩
 ·refine W.exprS ⟨by kernel_rfl,by kernel_rfl⟩ ?_
  repeat tb_start
  refine W.abs ?_
  funext L0 hL0
  have m1:Mm (al,isL (α:=Addr) VR (ap.map (·.2))) L0:=by rw [hL0];tb_rel
  have m2: ∀p∈ap,Mm (p.2,isT VS [sOf [97+p.1],sOf (hst p.1)]) L0:=fun p hp=>by
   rw [hL0]
   exact .tail (.tail (.tail (.tail (wrG_in (.inr (.inl (mem_mm (qA (f:=fun p:Nat×Addr=>(p.2,isT VS [sOf [97+p.1],sOf (hst p.1)])) hp))))))))
  have hAl:ap.length=(atT hst (ap.map (·.1))).length:=by simp [atT]
  refine W.compL [] [qb ".0",qb "k",qb "v"] (fun fz=>by kernel_rfl) (by kernel_rfl) (by kernel_rfl) ?_
  refine W.ld (by kernel_rfl) (by rw [hL0];exact .head) (by tb_rel) ?_
  refine ⟨fun acc i L2=>L2=(acc,isL VS (((atT hst (ap.map (·.1))).take i).map sOf))::L0,_,⟨_,_,Walk.list (T:=VR) hA.handled m1,⟨Str,VS,fun acc=>⟨_,.all,rfl⟩⟩,fun acc i L2 e=>by rw [e];exact .tail m1,?_⟩,?_⟩
  ·funext acc C it P i v L2 fr hi ⟨d,hd,rfl⟩ hfr rfl
   refine hkX (names3 hfr) ?_
   funext ⟨u1,u2,u3,rfl⟩
   have hi':i<ap.length:=by simpa using hi
   have hd':d=ap[i].2:=by
    rw [qp,qd hi'] at hd
    cases hd;rfl
   subst hd'
   have hp:=vN hi'
   have hz1:=hz _ hp
   refine W.tgtT2 (T:=VS) hA.handled (.tail (.tail (.tail (m2 _ hp)))) ?_
   funext _ _ ⟨t1,rfl⟩ ⟨t2,rfl⟩
   repeat tb_start
   refine W.fstrS (W.jpS (W.cstr ?_))
   funext t3
   refine ⟨[32],t3,by kernel_rfl,by decide,?_⟩
   refine W.jpS (W.fvS ?_)
   repeat tb_start
   refine ⟨[97+ap[i].1],t1,rfl,by simp,?_⟩
   funext t4
   refine ⟨_,t4,rfl,by simp,?_⟩
   refine W.jpS (W.cstr ?_)
   funext t5
   refine ⟨[61,34],t5,by kernel_rfl,by simp,?_⟩
   refine W.jpS (W.fvS ?_)
   repeat tb_start
   refine esc_ok K hA.le (hh _ hp) ⟨_,t2,rfl,by omega,?_⟩
   funext t6
   refine ⟨_,t6,rfl,by simp;omega,?_⟩
   refine W.jpS (W.cstr ?_)
   funext t7
   refine ⟨[34],t7,by kernel_rfl,by simp;omega,?_⟩
   refine W.jpE (by simp;omega) ?_
   funext t8
   have hget:(atT hst (ap.map (·.1)))[i]? =some ([32,97+ap[i].1,61,34]++hst ap[i].1++ [34]):=by
    unfold atT
    rw [zf,qp,qd hi'];rfl
   refine W.append (T:=VS) (d:=sOf ([32,97+ap[i].1,61,34]++hst ap[i].1++ [34])) (by tb_rel) (by simp [atT];exact Ar.m1 (qv hl) (Ar.d rfl)) ⟨t8,by simp⟩ ?_
   refine ⟨[(qb ".0",u1),(qb "k",some (.str (sOf [97+ap[i].1]) t1)),(qb "v",some (.str (sOf (hst ap[i].1)) t2))],_,rfl,.all,?_⟩
   dsimp only
   rw [qV,hget]
   simp
  ·funext acc L2 rfl
   rw [qh,hAl,zh]
   have hne:ap.isEmpty=false:=by
    cases ap with
    |nil=>cases e
    |cons=>rfl
   have hsum:((atT hst (ap.map (·.1))).map (·.length)).sum≤16000000:=by
    have h1:((atT hst (ap.map (·.1))).map (·.length)).sum≤((atT hst (ap.map (·.1))).map (·.length)).length*1005:=by
     refine sum_le ?_
     funext x hx
     unfold atT at hx
     rw [zf,zf] at hx
     refine hkX (qw.mp hx) ?_
     funext ⟨p,hp,rfl⟩
     have:=hz p hp
     simp;omega
    rw [qh,←hAl] at h1
    exact Ar.l1 (qv hl) h1 rfl
   repeat tb_start
   refine W.joinL .head hsum ?_
   funext t9
   subst hL0
   refine ⟨KprL.bnd (bt:="builtin_function_or_method") (id:="list.append") (x:=c.wl) (by decide) (by tb_rel),?_⟩
   refine W.bndApp (T:=VS) (ds:=written++ [sOf [60,97+k]]) (d:=sOf (atT hst (ap.map (·.1))).flatten) (by tb_rel) (by tb_rel) (by simp;omega) ⟨_,rfl⟩ ?_
   refine W.nil ?_
   rw [hne]
   refine W.take (start_t4 (La:=La) (C1:=C1) (C2:=C2) (pq:=pq) (rs:=rs) (k:=k) (kt:=kt) (sp:=sp) (al:=some (.ref al)) (kk:=kk) (vv:=vv) (an:=an) (u:=u) (aq:=aq) (attrs:=attrs) (nn:=nn) (qn:=qn) (rn:=rn) (M':=tqL tq++(prL hst ap++M)) (written:=written++ [sOf [60,97+k]]++ [sOf (atT hst (ap.map (·.1))).flatten]) K KC hA (by simp;omega) hn1 (.last (.skip (.skip .all)))) ?_
   exact .skip (.cons .head (.cons .head (.skip (.skip .all))))
 ·have hne:ap.isEmpty=true:=by
   cases ap with
   |nil=>rfl
   |cons=>cases e
  rw [hne,if_pos rfl,za]
  refine W.take (start_t4 (La:=La) (C1:=C1) (C2:=C2) (pq:=pq) (rs:=rs) (k:=k) (kt:=kt) (sp:=sp) (al:=some (.ref al)) (kk:=kk) (vv:=vv) (an:=an) (u:=u) (aq:=aq) (attrs:=attrs) (nn:=nn) (qn:=qn) (rn:=rn) (M':=tqL tq++(prL hst ap++M)) (written:=written++ [sOf [60,97+k]]) K KC hA (by simp;omega) hn1 (.last (.skip (.skip .all)))) ?_
  exact .cons .head (.cons .head (.skip (.skip .all)))
end
end
section
section
variable{b:qe}{w:World}{A:qq}{L L' M:Led}{R:Value→Led→Prop}{F:Frag}{c:WrC}{letter other:Str}{rs:Bool}{ds:List Addr}{n1 n2 k:Nat}{written:List Str}{rd:Bool}{ig:Int}{ti:Tok}{hst:Nat→List Nat}
theorem not_space{hst:Nat→List Nat}{ps:List Nat}:qb "{http://www.w3.org/XML/1998/namespace}space"∉(kdsOf hst ps).map (·.1):=by
 intro h
 rw [zf] at h
 obtain ⟨p,_,e⟩:=qw.mp h
 have:=congrArg Str.length e
 rw [show (((fun x:Str×Str=>x.1)∘fun p=>(sOf [97+p],sOf (hst p))) p).length=1 from rfl] at this
 revert this
 decide+kernel
set_option maxHeartbeats 4000000 in
theorem start_t2b{La C1 C2 pq al d:Addr}{od:Obj}{kt:Tok}{sp0 kk vv an u aq nn qn rn:Option Value}{tq ap:List (Nat×Addr)}{ps:List Nat}(K:Kn b)(KC:Kc F b)(hA:Rm 2 A)(hod:isD w VS (kdsOf hst ps) od)(hk:k<7)
  (htq:k∈tq.map (·.1)) (hap: ∀p∈ap,p.1<7) (hh: ∀p∈ap,38∉hst p.1∧60∉hst p.1∧34∉hst p.1∧9∉hst p.1∧10∉hst p.1∧13∉hst p.1) (hz: ∀p∈ap,(hst p.1).length<1000) (hl:ap.length<7) (hw:written.length<900) (hn1:n1<1000) (hn2:n2<1000):
  W b w A ((La,loc (stF (some (.str (sOf [97+k]) kt)) (some (.ref d)) nn qn rn (some .none) (some (.ref pq)) (some (.ref al)) sp0 none (stK kk vv an u aq)))::(C1,isCell (some (.ref c.x)))::(pq,pqD w tq)::(al,isL (α:=Addr) VR (ap.map (·.2)))::(d,exO od)::(wrG w c letter other ds n1 (n2+1) written rs rd ig ti (tqL tq++(prL hst ap++M))))
   (execs ((bodyOf (meth 17 8)).drop 9) (envF fd243 La 243 [(qb "parse_qname",C2),(qb "self",C1)])) fun fl L'=>fl= .next∧Take L' (wrG w c letter other ds (n1+1) (n2+2) (written++ [sOf [60,97+k]]++(if ap.isEmpty then [] else [sOf (atT hst (ap.map (·.1))).flatten])++ [sOf [62]]) true rd ig ti M):=by
 revert b w A M F c letter other rs ds n1 n2 k written rd ig ti hst La C1 C2 pq al d od kt sp0 kk vv an u aq nn qn rn tq ap ps K KC hA hod hk htq hap hh hz hl hw hn1 hn2
 funext b w A M F c letter other rs ds n1 n2 k written rd ig ti hst La C1 C2 pq al d od kt sp0 kk vv an u aq nn qn rn tq ap ps K KC hA hod hk htq hap hh hz hl hw hn1 hn2
 refine W.asg (by kernel_rfl!) ?_
 repeat tb_start
 refine W.gmDx hod PySem.F.slot_dict_get PySem.F.type_dict_get (by tb_rel) ?_
 repeat tb_start
 refine W.getNox hod (by tb_rel) not_space ?_
 repeat tb_start
 have e1:zk (n2+1) false=zk n2 false++ [false]:=vV
 have e2:zk (n2+1) false++ [false]=zk (n2+2) false:=vV.symm
 refine W.itemLast (T:=VB) (ds:=zk n2 false) (d:=false) (by rw [←e1];tb_rel) (by simp;omega) (fun fz=>by kernel_rfl) ?_
 funext _ rfl
 repeat tb_start
 refine W.append (T:=VB) (ds:=zk (n2+1) false) (d:=false) (by tb_rel) (by simp;omega) rfl ?_
 rw [e2]
 refine W.take (start_t3 (La:=La) (C1:=C1) (C2:=C2) (pq:=pq) (rs:=rs) (al:=al) (n2:=n2+2) (sp:=some .none) (kt:=kt) (kk:=kk) (vv:=vv) (an:=an) (u:=u) (aq:=aq) (attrs:=some (.ref d)) (nn:=nn) (qn:=qn) (rn:=rn) (c2:=none) K KC hA hk hA.frames htq hap hh hz hl hw hn1) ?_
 exact .cons .head (.cons .head (.cons .head (.cons .head (.skip .all))))
theorem W.exact_{β:Type}{t:Sem β}{v:β}{X:Led}(h:W b w A L t fun fl L'=>fl=v∧Take L' X):W b w A L t fun fl L'=>fl=v∧L'=X:=
 W.post (h.mono fun fz fz ⟨h1,h2⟩=>⟨X,h2,h1,rfl⟩)
theorem prL_snoc{ap:List (Nat×Addr)}{p:Nat}{a:Addr}:prL hst (ap++ [(p,a)])=prL hst ap++ [(a,isT VS [sOf [97+p],sOf (hst p)])]:=by
 unfold prL
 rw [qB];rfl
theorem ltS_letters{a b:Nat}:ltS (sOf [a]) (sOf [b])=decide (a<b):=by
 revert a b
 funext a b
 show decide ([a]< [b])=_
 rw [decide_eq_decide]
 constructor
 ·funext h
  cases h with
  |rel h=>
   exact h
  |cons h=>
   cases h
 ·exact fun h=>List.Lex.rel h
theorem fall_lt{ps:List Nat}(h:ps.Pairwise (· > ·)){i j:Nat}(hi:i<ps.length)(hj:j<ps.length):decide (ps[i]<ps[j])=decide (j<i):=by
 rw [decide_eq_decide]
 rcases Nat.lt_trichotomy i j with h1|h1|h1
 ·have:=List.pairwise_iff_getElem.mp h i j hi hj h1
  exact ⟨fun k=>absurd this (Nat.lt_asymm k),fun k=>absurd h1 (Nat.lt_asymm k)⟩
 ·subst h1
  constructor<;>omega
 ·have:=List.pairwise_iff_getElem.mp h j i hj hi h1
  constructor<;>omega
theorem fall_kds{ps:List Nat}(h:ps.Pairwise (· > ·)): ∀i j,i<(kdsOf hst ps).length→j<(kdsOf hst ps).length→ltS ((kdsOf hst ps).getD i zb).1 ((kdsOf hst ps).getD j zb).1=decide (j<i):=fun i j hi hj=>by
 rw [qh] at hi hj
 have e: ∀i (h:i<ps.length),((kdsOf hst ps).getD i zb).1=sOf [97+ps[i]]:=fun i h=>by
  rw [qi,qp,qd h];rfl
 rw [e i hi,e j hj,ltS_letters,←fall_lt h hi hj]
 rw [decide_eq_decide];exact Nat.add_lt_add_iff_left
inductive StI(hst:Nat→List Nat)(ps:List Nat)(q1:Addr×Asn)(La:Addr)(fr:List (Str×Option Value)→Asn)(q2 q3:Addr×Asn)(al:Addr)(q4:Addr×Asn)(G:Led→Led)(M:Led)(i:Nat):Led→Prop
 |mk (ap:List (Nat×Addr)) (kk vv an u aq:Option Value) (h1:ap.length=i) (h2:ap.map (·.1)=ps.reverse.take i):StI hst ps q1 La fr q2 q3 al q4 G M i (q1::(La,fr (stK kk vv an u aq))::q2::q3::(al,isL (α:=Addr) VR (ap.map (·.2)))::q4::G (prL hst ap++M))
set_option maxHeartbeats 8000000 in
theorem start_t2{La C1 C2 pq d nn:Addr}{od:Obj}{kt:Tok}{sp0 qn rn:Option Value}{tq:List (Nat×Addr)}{ps:List Nat}(K:Kn b)(KC:Kc F b)(hA:Rm 2 A)(hod:isD w VS (kdsOf hst ps) od)(hk:k<7)(hnn:nn∈ds)
  (htq:k∈tq.map (·.1)) (hps: ∀p∈ps,p∈tq.map (·.1)) (hfall:ps.Pairwise (· > ·)) (hp7: ∀p∈ps,p<7) (hh: ∀p∈ps,38∉hst p∧60∉hst p∧34∉hst p∧9∉hst p∧10∉hst p∧13∉hst p) (hz: ∀p∈ps,(hst p).length<1000) (hl:ps.length<7) (hw:written.length<900) (hn1:n1<1000) (hn2:n2<1000):
  W b w A ((La,loc (stF (some (.str (sOf [97+k]) kt)) (some (.ref d)) (some (.ref nn)) qn rn (some .none) (some (.ref pq)) none sp0 none (stK none none none none none)))::(C1,isCell (some (.ref c.x)))::(pq,pqD w tq)::(d,exO od)::(wrG w c letter other ds n1 (n2+1) written rs rd ig ti (tqL tq++M)))
   (execs ((bodyOf (meth 17 8)).drop 7) (envF fd243 La 243 [(qb "parse_qname",C2),(qb "self",C1)])) fun fl L'=>fl= .next∧Take L' (wrG w c letter other ds (n1+1) (n2+2) (written++ [sOf [60,97+k]]++(if ps.isEmpty then [] else [sOf (atT hst ps.reverse).flatten])++ [sOf [62]]) true rd ig ti M):=by
 revert b w A M F c letter other rs ds n1 n2 k written rd ig ti hst La C1 C2 pq d nn od kt sp0 qn rn tq ps K KC hA hod hk hnn htq hps hfall hp7 hh hz hl hw hn1 hn2
 funext b w A M F c letter other rs ds n1 n2 k written rd ig ti hst La C1 C2 pq d nn od kt sp0 qn rn tq ps K KC hA hod hk hnn htq hps hfall hp7 hh hz hl hw hn1 hn2
 refine W.iffF ?_
 repeat tb_start
 refine W.truL (T:=VR) (ds:=([]:List Addr)) (.tail (.tail (.tail (.tail (wrG_ns (mem_mm (qA (f:=fun a=>(a,isL VR ([]:List Addr))) hnn))))))) (by simp) ?_
 refine ⟨rfl,?_⟩
 repeat tb_start
 refine W.list0 (T:=VR) (α:=Addr) ?_
 funext al
 repeat tb_start
 refine W.nil ?_
 refine W.ifs ?_
 repeat tb_start
 refine W.truDx hod (by tb_rel) ?_
 refine ⟨fun e=> ?_,fun e=> ?_⟩
 ·refine W.forG (fun fz=>by kernel_rfl) ?_
  repeat tb_start
  refine W.gmDx hod vY PySem.F.type_dict_items (by tb_rel) ?_
  repeat tb_start
  refine W.itemsx hod (by tb_rel) ?_
  funext vw
  repeat tb_start
  refine W.sortedTup hA.handled hod (by tb_rel) (by tb_rel) (by rw [qh];exact hl) (fall_kds hfall) ?_
  funext D tt htt
  have hlen:tt.length=ps.length:=by have:=congrArg Qy htt;simpa using this
  refine ⟨StI hst ps (D,isL (α:=Addr) VR (tt.map (·.1)).reverse) La (fun ks=>loc (stF (some (.str (sOf [97+k]) kt)) (some (.ref d)) (some (.ref nn)) qn rn (some .none) (some (.ref pq)) (some (.ref al)) sp0 none ks)) (C1,isCell (some (.ref c.x))) (pq,pqD w tq) al (d,exO od) (fun X=>wrG w c letter other ds n1 (n2+1) written rs rd ig ti (tqL tq++X)) (tupL tt++M),_,_,_,Walk.list (T:=VR) hA.handled .head,⟨_,?_,.mk [] none none none none none rfl (by simp)⟩,?_,?_,?_⟩
  ·refine .cons .head ?_
   rewrite [show prL hst []= [] from rfl,zV,List.map_nil]
   iterate 5 refine .cons (by tb_rel) ?_
   iterate 12 refine .cons (by tb_rel) ?_
   dl_keep
  ·funext i L2 ⟨ap,kk,vv,an,u,aq,_,_⟩
   exact .head
  ·funext i v L2 it P hi ⟨a,ha,rfl⟩ ⟨ap,kk,vv,an,u,aq,h1,h2⟩
   have hi':i<ps.length:=by
    rw [qZ,qh,hlen] at hi
    exact hi
   have hit:i<tt.reverse.length:=by rw [qZ];omega
   have hir:i<ps.reverse.length:=by rw [qZ];exact hi'
   have ha':a=tt.reverse[i].1:=by
    rw [←Qj,qp,qd hit] at ha
    cases ha;rfl
   have hkd:tt.reverse[i].2=(sOf [97+ps.reverse[i]],sOf (hst ps.reverse[i])):=by
    have h3:(tt.reverse.map (·.2))[i]? =(kdsOf hst ps).reverse[i]? :=by rw [Qj,htt]
    rw [qp,qd hit,←Qj,qp,qd hir] at h3
    exact vE h3
   have hmem:tt.reverse[i]∈tt:=zN.mp (vN hit)
   have hta:Mm (a,isT VS [sOf [97+ps.reverse[i]],sOf (hst ps.reverse[i])]) (tupL tt):=by
    have:=tupMem hmem
    rw [←ha',hkd] at this
    exact mem_mm this
   have hpm:ps.reverse[i]∈ps:=zN.mp (vN hir)
   generalize hpe:ps.reverse[i]=p at hta hpm hkd
   have hZ: ∃(j:Nat) (aj:Addr),tq[j]? =some (p,aj):=by
    refine hkX (qw.mp (hps p hpm)) ?_
    funext ⟨q,hq,e⟩
    refine hkX (QH hq) ?_
    funext ⟨j,hj,e2⟩
    exact ⟨j,q.2,by rw [qd hj,e2,←e]⟩
   revert hZ;funext ⟨j,aj,hj⟩
   have htj:Mm (aj,isT VS [sOf [97+p],sOf [97+p],sOf []]) (tqL tq):=mem_mm (qA (f:=fun p:Nat×Addr=>(p.2,isT VS [sOf [97+p.1],sOf [97+p.1],sOf []])) (qk hj))
   refine W.tgtT2 (T:=VS) hA.handled (.tail (.tail (.tail (.tail (.tail (.tail (.tail (wrG_in (.inr (.inr (.inl hta))))))))))) ?_
   funext _ _ ⟨t1,rfl⟩ ⟨t2,rfl⟩
   repeat tb_start
   refine W.isnN ?_
   repeat tb_start
   refine W.asgT (by kernel_rfl) (by kernel_rfl) ?_
   repeat tb_start
   refine W.itemD (T:=VR) (kds:=tq.map fun p=>(sOf [97+p.1],p.2)) (i:=j) (x:=aj) (by tb_rel) (by rw [qp,hj];rfl) ⟨[.ref pq,.str (sOf [97+p]) t1],by kernel_rfl⟩ ?_
   funext _ rfl
   refine W.tgtT3 (T:=VS) (d1:=sOf [97+p]) (d2:=sOf [97+p]) (d3:=sOf []) hA.handled (.tail (.tail (.tail (.tail (.tail (.tail (.tail (wrG_in (.inl htj))))))))) ?_
   funext _ _ _ ⟨t3,rfl⟩ ⟨t4,rfl⟩ ⟨t5,rfl⟩
   repeat tb_start
   refine W.truS ?_
   refine ⟨fun e=>absurd e (by decide),?_⟩
   funext _
   repeat tb_start
   refine W.newT (T:=VS) (ds:= [sOf [97+p],sOf (hst p)]) (.cons ⟨_,rfl⟩ (.one ⟨_,rfl⟩)) (by simp) ?_
   funext nt
   repeat tb_start
   refine W.append (T:=VR) (ds:=ap.map (·.2)) (d:=nt) (by tb_rel) (by simp;exact Ar.d2 h1 (qg (qv (zq hi' hl)) (Ar.d rfl))) rfl ?_
   refine W.nil ⟨_,?_,.mk (ap++ [(p,nt)]) (some (.str (sOf [97+p]) t1)) (some (.str (sOf (hst p)) t2)) (some (.str (sOf [97+p]) t4)) (some (.str (sOf []) t5)) (some (.str (sOf [97+p]) t3)) (by simp [h1]) ?_⟩
   rotate_left
   ·rw [qV,qB,h2,qd hir,hpe];rfl
   ·rw [prL_snoc,qB,show List.map (fun x:Nat×Addr=>x.2) [(p,nt)]= [nt] from rfl]
    refine .cons (by tb_rel) ?_
    iterate 6 refine .cons (by tb_rel) ?_
    iterate 12 refine .cons (by tb_rel) ?_
    refine .perm ?_ .all
    have:=(vf (a:=(nt,isT VS [sOf [97+p],sOf (hst p)])) (l₁:=nsL ds++(tqL tq++prL hst ap)) (l₂:=tupL tt++M)).symm
    simpa using this
  ·funext L2 ⟨ap,kk,vv,an,u,aq,h1,h2⟩
   rw [qZ,qh,hlen] at h1 h2
   rw [Qe (by simp)] at h2
   have hm: ∀p∈ap,p.1∈ps:=fun p hp=>by
    have:=qA (f:=(·.1)) hp
    rw [h2] at this
    exact zN.mp this
   have he:ap.isEmpty=ps.isEmpty:=by
    cases ap<;>cases ps<;>first|rfl|(simp at h1)
   have t:=start_t2b (La:=La) (C1:=C1) (C2:=C2) (pq:=pq) (d:=d) (al:=al) (rs:=rs) (sp0:=sp0) (kt:=kt) (kk:=kk) (vv:=vv) (an:=an) (u:=u) (aq:=aq) (nn:=some (.ref nn)) (qn:=qn) (rn:=rn) (tq:=tq) (ap:=ap) (c:=c) (letter:=letter) (other:=other) (ds:=ds) (n1:=n1) (n2:=n2) (written:=written) (rd:=rd) (ig:=ig) (ti:=ti) (M:=tupL tt++M) K KC hA hod hk htq (fun p hp=>hp7 _ (hm p hp)) (fun p hp=>hh _ (hm p hp)) (fun p hp=>hz _ (hm p hp)) (by omega) hw hn1 hn2
   rw [he,h2] at t
   refine W.nil ?_
   refine W.take ((W.exact_ t).mono ?_) (.skip .all)
   funext fl L2 h12
   refine hkX (h12) ?_
   funext ⟨h1',h2'⟩
   refine ⟨h1',?_⟩
   rw [h2']
   iterate 12 refine .cons .head ?_
   exact Take.appL (.last (.skip .all))
 ·have hps0:ps= []:=by
   cases ps with
   |nil=>rfl
   |cons=>cases e
  subst hps0
  have t:=start_t2b (La:=La) (C1:=C1) (C2:=C2) (pq:=pq) (d:=d) (al:=al) (rs:=rs) (sp0:=sp0) (kt:=kt) (kk:=none) (vv:=none) (an:=none) (u:=none) (aq:=none) (nn:=some (.ref nn)) (qn:=qn) (rn:=rn) (tq:=tq) (ap:= []) (c:=c) (letter:=letter) (other:=other) (ds:=ds) (n1:=n1) (n2:=n2) (written:=written) (rd:=rd) (ig:=ig) (ti:=ti) (M:=M) K KC hA hod hk htq (fun p hp=>nomatch hp) (fun p hp=>nomatch hp) (fun p hp=>nomatch hp) (by simp) hw hn1 hn2
  refine W.take t ?_
  exact .cons (.tail .head) (.cons (.tail .head) (.cons (.tail .head) (.cons .head .all)))
end
end
section
theorem nodup_len: ∀(n:Nat) (l:List Nat),l.Nodup→(∀x∈l,x<n)→l.length≤n
 |0,l,_,h=>by
  cases l with
  |nil=>simp
  |cons x r=>exact absurd (h x (.head _)) (by omega)
 |n+1,l,hn,h=>by
  by_cases hm:n∈l
  ·have h1:=nodup_len n (l.erase n) (hn.erase n) fun x hx=>by
    have:=(hn.mem_erase_iff).mp hx
    have:=h x this.2
    omega
   rw [List.length_erase_of_mem hm] at h1
   omega
  ·have:=nodup_len n l hn fun x hx=>by
    have h2:=h x hx
    have:x≠n:=fun e=>hm (e▸hx)
    omega
   omega
noncomputable abbrev ltr(p:Nat):Str:=sOf [97+p]
theorem ltr_inj{p q:Nat}(h:ltr p=ltr q):p=q:=by
 have:=sOf_inj h
 simp at this
 exact this
theorem addAll_letters: ∀(ps ks:List Nat),ks.Nodup→ ∃qn:List Nat,addAll (ks.map ltr) (ps.map ltr)=qn.map ltr∧qn.Nodup∧ ∀x,x∈qn↔x∈ks∨x∈ps
 | [],ks,h=>⟨ks,rfl,h,fun x=>by simp⟩
 |p::ps,ks,h=>by
  have e:addAll (ks.map ltr) ((p::ps).map ltr)=addAll (withS (ks.map ltr) (ltr p)) (ps.map ltr):=rfl
  by_cases hp:p∈ks
  ·obtain ⟨qn,h1,h2,h3⟩:=addAll_letters ps ks h
   refine ⟨qn,?_,h2,fun x=> ?_⟩
   ·rw [e]
    unfold withS
    rw [if_pos (qA (f:=ltr) hp)]
    exact h1
   ·rw [h3,qH]
    constructor
    ·rintro (h|h)
     ·exact .inl h
     ·exact .inr (.inr h)
    ·rintro (h|rfl|h)
     ·exact .inl h
     ·exact .inl hp
     ·exact .inr h
  ·obtain ⟨qn,h1,h2,h3⟩:=addAll_letters ps (ks++ [p]) (List.nodup_append.mpr ⟨h,by simp,fun x hx y hy e=>hp (by simp at hy;rw [←hy,←e];exact hx)⟩)
   refine ⟨qn,?_,h2,fun x=> ?_⟩
   ·rw [e]
    unfold withS
    rw [if_neg (fun hm=>by
     obtain ⟨q,hq,e⟩:=qw.mp hm
     exact hp (ltr_inj e▸hq))]
    rw [qB] at h1
    exact h1
   ·rw [h3];simp-iota only [qO,qH,List.not_mem_nil,or_false,or_assoc]
noncomputable def decL(s:Str):Nat:=(s.cps[0]?.getD 0)-97
theorem decL_ltr(p:Nat):decL (ltr p)=p:=by
 show (97+p)-97=p
 omega
theorem perm_letters{qs:List Str}{qn:List Nat}(h:qs.Perm (qn.map ltr)): ∃qs':List Nat,qs=qs'.map ltr∧qs'.Perm qn:=by
 refine ⟨qs.map decL,?_,?_⟩
 ·rw [zf]
  have:qs.map (ltr∘decL)=qs.map id:=jr fun x hx=>by
   obtain ⟨p,_,rfl⟩:=qw.mp (h.mem_iff.mp hx)
   show ltr (decL (ltr p))=ltr p
   rw [decL_ltr]
  rw [this,List.map_id]
 ·have:=h.map decL
  rw [zf] at this
  have e:qn.map (decL∘ltr)=qn.map id:=jr fun p fz=>decL_ltr p
  rw [e,List.map_id] at this
  exact this
theorem ltr_brace: ∀k<7,(decide ((ltr k).length<Str.length "}")||decide (jJ (ltr k)<jJ "}"))=false∧(zp (ltr k) "}" 0 (ltr k).length (PySem.limitOf (ltr k) 1)).isEmpty=true:=by decide+kernel
section
variable{b:qe}{w:World}{A:qq}{L L' M:Led}{R:Value→Led→Prop}{F:Frag}{c:WrC}{letter other:Str}{rs:Bool}{ds:List Addr}{n1 n2 k:Nat}{written:List Str}{rd:Bool}{ig:Int}{ti:Tok}{hst:Nat→List Nat}
theorem tqL_snoc{tq:List (Nat×Addr)}{p:Nat}{a:Addr}:tqL (tq++ [(p,a)])=tqL tq++ [(a,isT VS [sOf [97+p],sOf [97+p],sOf []])]:=by
 unfold tqL
 rw [qB];rfl
set_option maxHeartbeats 8000000 in
theorem start_t1{La C1 C2 d nn:Addr}{od:Obj}{kt:Tok}{ps:List Nat}(K:Kn b)(KC:Kc F b)(KB:Kb b)(KQ:Kq F)(hA:Rm 4 A)(hod:isD w VS (kdsOf hst ps) od)(hk:k<6)(hnn:nn∈ds)
  (hfall:ps.Pairwise (· > ·)) (hp7: ∀p∈ps,p<6) (hh: ∀p∈ps,38∉hst p∧60∉hst p∧34∉hst p∧9∉hst p∧10∉hst p∧13∉hst p) (hz: ∀p∈ps,(hst p).length<1000) (hw:written.length<900) (hn1:n1<1000) (hn2:n2<1000) (hds:ds.length<1000):
  W b w A ((La,loc (stF (some (.str (sOf [97+k]) kt)) (some (.ref d)) (some (.ref nn)) none none none none none none none (stK none none none none none)))::(C1,isCell (some (.ref c.x)))::(C2,isCell none)::(d,exO od)::(wrG w c letter other ds n1 (n2+1) written rs rd ig ti M))
   (execs ((bodyOf (meth 17 8)).drop 1) (envF fd243 La 243 [(qb "parse_qname",C2),(qb "self",C1)])) fun fl L'=>fl= .next∧Take L' (wrG w c letter other ds (n1+1) (n2+2) (written++ [sOf [60,97+k]]++(if ps.isEmpty then [] else [sOf (atT hst ps.reverse).flatten])++ [sOf [62]]) true rd ig ti M):=by
 revert b w A M F c letter other rs ds n1 n2 k written rd ig ti hst La C1 C2 d nn od kt ps K KC KB KQ hA hod hk hnn hfall hp7 hh hz hw hn1 hn2 hds
 funext b w A M F c letter other rs ds n1 n2 k written rd ig ti hst La C1 C2 d nn od kt ps K KC KB KQ hA hod hk hnn hfall hp7 hh hz hw hn1 hn2 hds
 have hpl:ps.length≤6:=nodup_len 6 ps (hfall.imp fun h=>Nat.ne_of_gt h) hp7
 refine W.asg (by kernel_rfl!) ?_
 refine W.take ?_ (.cons (p:=(d,exO od)) (by tb_rel) .all)
 refine W.setStar (k:=ltr k) hA.handled (by kernel_rfl) hod (by rw [qh];omega) (by kernel_rfl) (fun S P=>W.ld (by kernel_rfl) (.tail (.tail .head)) (by tb_rel) ⟨⟨_,rfl⟩,rfl⟩) (fun S P=>W.ld (by kernel_rfl) (.tail (.tail .head)) (by tb_rel) ⟨rfl,rfl⟩) ?_
 funext S
 have hkeys:(kdsOf hst ps).map (·.1)=ps.map ltr:=by rw [zf];rfl
 refine hkX (addAll_letters ps [k] (by simp)) ?_
 funext ⟨qn,hq1,hq2,hq3⟩
 rw [hkeys,show [ltr k]= [k].map ltr from rfl,hq1]
 repeat tb_start
 refine W.newD (T:=VU) (α:=Unit) ?_
 funext rn
 repeat tb_start
 refine W.isnN ?_
 repeat tb_start
 refine W.iffF ?_
 repeat tb_start
 refine W.isnN ?_
 repeat tb_start
 refine ⟨rfl,?_⟩
 repeat tb_start
 refine W.nil ?_
 refine W.asg (by kernel_rfl!) ?_
 repeat tb_start
 refine W.bndQ KC KQ (by tb_rel) (by tb_rel) (by rfl) ?_
 funext m
 repeat tb_start
 have hqz:qn.length≤6:=nodup_len 6 qn hq2 fun x hx=>by
  refine Or.elim ((hq3 x).mp hx) ?_ ?_
  ·funext h
   simp at h;omega
  ·funext h
   exact hp7 x h
 have hq7: ∀x∈qn,x<7:=fun x hx=>by
  refine Or.elim ((hq3 x).mp hx) ?_ ?_
  ·funext h
   simp at h;omega
  ·funext h
   have:=hp7 x h;omega
 refine W.abs ?_
 funext L0 hL0
 have mS:Mm (S,isSt w (qn.map ltr)) L0:=by rw [hL0];tb_rel
 have mm:Mm (m,exO (mthO c.x)) L0:=by rw [hL0];tb_rel
 have m1:Mm (c.x,isC c.dx) L0:=by rw [hL0];tb_rel
 have m2:Mm (c.dx,isAt (wrAt c rs rd (.int ig ti))) L0:=by rw [hL0];tb_rel
 have m3:Mm (c.nsd,isL VR (c.d0::ds)) L0:=by rw [hL0];tb_rel
 have m4:Mm (c.d0,isL VR [c.t0]) L0:=by rw [hL0];tb_rel
 have m5:Mm (c.t0,xmlT c.u1 c.u2) L0:=by rw [hL0];tb_rel
 have m6: ∀a∈ds,Mm (a,isL VR ([]:List Addr)) L0:=fun a ha=>by
  rw [hL0]
  exact .tail (.tail (.tail (.tail (.tail (.tail (.tail (wrG_ns (mem_mm (qA (f:=fun a=>(a,isL VR ([]:List Addr))) ha)))))))))
 have mC:Mm (C2,isCell (some (.ref m))) L0:=by rw [hL0];tb_rel
 refine W.asgCD [(qb "parse_qname",C2)] [qb ".0",qb "n"] (by kernel_rfl) (fun fz=>by kernel_rfl) (by kernel_rfl) (by kernel_rfl) ?_
 refine W.sortedBrace (S:=S) (ds:=qn.map ltr) KB hA.le (by kernel_rfl) (by kernel_rfl) (by kernel_rfl) (by kernel_rfl) (by kernel_rfl) (by kernel_rfl) (by kernel_rfl) (by kernel_rfl) (by kernel_rfl) (fun x t fd hfd hfd2 hfd3=> ?_) (by kernel_rfl) ?_ ?_ mS ?_ (by rw [qh];omega) ?_ ?_ ?_
 ·cases fd
  dsimp only at hfd hfd2 hfd3
  subst hfd hfd2 hfd3
  rfl
 ·exact W.ldb K (by kernel_rfl) (by tb_rel) ⟨rfl,rfl⟩
 ·refine W.ld (by kernel_rfl) (by rw [hL0];tb_rel) (by tb_rel) ⟨rfl,rfl⟩
 ·funext e
  have:k∈qn:=(hq3 k).mpr (.inl (by simp))
  rw [List.map_eq_nil_iff.mp e] at this
  cases this
 ·funext x hx
  refine hkX (qw.mp hx) ?_
  funext ⟨p,hp,rfl⟩
  exact (ltr_brace p (hq7 p hp)).1
 ·funext x hx
  refine hkX (qw.mp hx) ?_
  funext ⟨p,hp,rfl⟩
  exact (ltr_brace p (hq7 p hp)).2
 ·funext D qs hqs
  refine hkX (perm_letters hqs) ?_
  funext ⟨qs',rfl,hqp⟩
  have hql:qs'.length≤6:=by have:=hqp.length_eq;omega
  refine ⟨fun acc i L2=> ∃tq:List (Nat×Addr),tq.map (·.1)=qs'.take i∧L2=(acc,pqD w tq)::(tqL tq++((D,isL VS (qs'.map ltr))::L0)),_,⟨_,_,Walk.list (T:=VS) (ds:=qs'.map ltr) hA.handled .head,⟨Addr,VR,fun acc=>⟨_,.all,[],rfl,rfl⟩⟩,?_,?_⟩,?_⟩
  ·funext acc i L2 ⟨tq,_,rfl⟩
   exact .tail (.inr .head)
  ·funext acc C it P i v L2 fr hi ⟨x,hx,t1,rfl⟩ hfr ⟨tq,h1,rfl⟩
   refine hkX (names2 hfr) ?_
   funext ⟨u1,u2,rfl⟩
   have hi':i<qs'.length:=by simpa using hi
   have hx':x=ltr qs'[i]:=by
    rw [qp,qd hi'] at hx
    cases hx;rfl
   subst hx'
   have hmem:qs'[i]∈qn:=hqp.mem_iff.mp (vN hi')
   have hnew:ltr qs'[i]∉(tq.map fun p=>(sOf [97+p.1],p.2)).map (·.1):=by
    rw [zf]
    funext hm
    refine hkX (qw.mp hm) ?_
    funext ⟨r,hr,e⟩
    have e:r.1=qs'[i]:=ltr_inj e
    have h2:r.1∈qs'.take i:=by rw [←h1];exact qA (f:=(·.1)) hr
    rw [e] at h2
    refine hkX (QH h2) ?_
    funext ⟨j,hj,e2⟩
    rw [qI] at hj
    rw [List.getElem_take] at e2
    have hnd:qs'.Nodup:=hqp.nodup_iff.mpr hq2
    have:=(List.getElem_inj hnd).mp e2
    exact qS (ql hj (zU _ _)) this
   have htl:tq.length=i:=by
    have:=congrArg Qy h1
    rw [qh,qI] at this
    exact this.trans (jR (qv hi'))
   repeat tb_start
   refine ⟨KprL.mth K (by tb_rel),?_⟩
   refine W.callMth (by tb_rel) ?_
   refine qname_wd (c:=c) (k:=qs'[i]) (ds:=ds) (rs:=rs) (rd:=rd) (ig:= .int ig ti) K KC hA.le (hq7 _ hmem) (by tb_rel) (by tb_rel) (by tb_rel) (by tb_rel) (by tb_rel) (fun a ha=> .tail (.tail (.tail (.inr (.tail (m6 a ha)))))) hds ?_
   funext a
   refine W.putD (T:=VR) (kds:=tq.map fun p=>(sOf [97+p.1],p.2)) (k:=ltr qs'[i]) (x:=a) (by tb_rel) hnew (by rw [qh];exact Ar.d1 htl (ql hi' (qg hql (Ar.d rfl)))) rfl ?_
   refine ⟨[(qb ".0",u1),(qb "n",some (.str (ltr qs'[i]) t1))],_,rfl,?_,tq++ [(qs'[i],a)],?_,rfl⟩
   rotate_left
   ·rw [qB,h1,qV,qd hi'];rfl
   ·unfold pqD
    rw [tqL_snoc,qB,show List.map (fun p:Nat×Addr=>(sOf [97+p.1],p.2)) [(qs'[i],a)]= [(ltr qs'[i],a)] from rfl]
    refine .cons (by tb_rel) (.cons (by tb_rel) (.cons (by tb_rel) (.perm ?_ .all)))
    have:=(vf (a:=(a,isT VS [sOf [97+qs'[i]],sOf [97+qs'[i]],sOf []])) (l₁:=tqL tq) (l₂:=(D,isL VS (qs'.map ltr))::L0)).symm
    simpa using this
  ·funext acc C fr L2 hfr ⟨tq,h1,rfl⟩
   have h1':tq.map (·.1)=qs':=by
    rw [h1,qh,zh]
   have hin: ∀x,x∈qn→x∈tq.map (·.1):=fun x hx=>by rw [h1'];exact hqp.mem_iff.mpr hx
   subst hL0
   repeat tb_start
   refine ⟨fr,_,.all,?_⟩
   have t:=start_t2 (La:=La) (C1:=C1) (C2:=C2) (pq:=acc) (d:=d) (nn:=nn) (od:=od) (rs:=rs) (sp0:=none) (kt:=kt) (qn:=some (.ref S)) (rn:=some (.ref rn)) (tq:=tq) (ps:=ps) (c:=c) (letter:=letter) (other:=other) (ds:=ds) (n1:=n1) (n2:=n2) (k:=k) (written:=written) (rd:=rd) (ig:=ig) (ti:=ti) (M:=M) K KC hA.le hod (by omega) hnn (hin k ((hq3 k).mpr (.inl (by simp)))) (fun p hp=>hin p ((hq3 p).mpr (.inr hp))) hfall (fun p hp=>by have:=hp7 p hp;omega) hh hz (by omega) hw hn1 hn2
   refine W.take t ?_
   iterate 4 refine .cons (by tb_rel) ?_
   iterate 12 refine .cons (by tb_rel) ?_
   dl_keep
end
end
section
theorem kdsOf_notin{hst:Nat→List Nat}{ps:List Nat}{p:Nat}(h:p∉ps):ltr p∉(kdsOf hst ps).map (·.1):=by
 rw [zf]
 intro hm
 obtain ⟨q,hq,e⟩:=qw.mp hm
 exact h (ltr_inj e▸hq)
section
variable{b:qe}{w:World}{A:qq}{L L' M:Led}{R:Value→Led→Prop}{F:Frag}{c:WrC}{letter:Str}{o:Nat}{rs:Bool}{ds:List Addr}{n1 n2 k:Nat}{written:List Str}{rd:Bool}{ig:Int}{ti:Tok}{hst:Nat→List Nat}
set_option maxHeartbeats 8000000 in
theorem pstart_ok{d nn:Addr}{kt:Tok}{ps:List Nat}(K:Kn b)(KC:Kc F b)(KB:Kb b)(KQ:Kq F)(hA:Rm 5 A)(hk:k<6)(hnn:nn∈ds)
  (hfall:ps.Pairwise (· > ·)) (hp7: ∀p∈ps,p<6) (hh: ∀p∈ps,38∉hst p∧60∉hst p∧34∉hst p∧9∉hst p∧10∉hst p∧13∉hst p) (hz: ∀p∈ps,(hst p).length<1000) (hw:written.length<900) (hn1:n1<1000) (hn2:n2<1000) (hds:ds.length<1000)
  (q:R .none (wrG w c letter (ltr o) ds (n1+1) (n2+2) (written++ [sOf [60,97+k]]++(if (ps.filter (· !=o)).isEmpty then [] else [sOf (atT hst (ps.filter (· !=o)).reverse).flatten])++ [sOf [62]]) true rd ig ti M)):
  W b w A ((d,isD w VS (kdsOf hst ps))::(wrG w c letter (ltr o) ds n1 (n2+1) written rs rd ig ti M)) (call (.ref 243) [.ref c.x,.str (ltr k) kt,.ref d,.ref nn]) R:=by
 revert b w A M R F c letter o rs ds n1 n2 k written rd ig ti hst d nn kt ps K KC KB KQ hA hk hnn hfall hp7 hh hz hw hn1 hn2 hds q
 funext b w A M R F c letter o rs ds n1 n2 k written rd ig ti hst d nn kt ps K KC KB KQ hA hk hnn hfall hp7 hh hz hw hn1 hn2 hds q
 refine hkX (KC.d238) ?_
 funext ⟨n,e⟩
 have hpl:ps.length≤6:=nodup_len 6 ps (hfall.imp fun h=>Nat.ne_of_gt h) hp7
 refine W.fnC (fd:=fd243) [(qb "self",.ref c.x),(qb "tag",.str (ltr k) kt),(qb "attrs",.ref d),(qb "new_namespaces",.ref nn),(qb "qname_text",.none)] [(qb "tag",.str (ltr k) kt),(qb "attrs",.ref d),(qb "new_namespaces",.ref nn),(qb "qname_text",.none)] [(qb "self",.ref c.x)]
  [qb "qnames",qb "resolved_names",qb "qattrs",qb "parsed_qnames",qb "attr_list",qb "space_behaviour",qb "write",qb "k",qb "v",qb "attr_name",qb "uri",qb "attr_qname",qb "qname",qb "value"]
  (stF (some (.str (ltr k) kt)) (some (.ref d)) (some (.ref nn)) none none none none none none none (stK none none none none none))
  (fun k=> [(qb "parse_qname",k+1+1),(qb "self",k+1)]) (fun k M=>(k+1+1,isCell none)::(k+1,isCell (some (.ref c.x)))::M) K (by tb_rel) hA rfl (fun fz H=>by exact kp_binds (frag1 H e (by intro h;cases h)) fun S=>by kernel_rfl) (by kernel_rfl) (by kernel_rfl) (by kernel_rfl) (fun fz=>by rfl) (fun fz fz=>by rfl) (fun fz=>by rfl) (fun k=>by simp [List.lookup,show (qb "self"==qb "parse_qname")=false from by decide]) (by kernel_rfl) ?_
 funext La A' hA
 generalize hC1:La+1=C1 at hA ⊢
 generalize hC2:C1+1=C2 at hA ⊢
 refine W.ifs ?_
 repeat tb_start
 refine W.isnR ?_
 repeat tb_start
 refine W.truD (T:=VS) (kds:=kdsOf hst ps) (by tb_rel) ?_
 refine ⟨fun e=> ?_,fun e=> ?_⟩
 ·repeat tb_start
  refine W.fixP (a:=d) (P:=isD w VS (kdsOf hst ps)) (by tb_rel) ?_
  funext od hod
  refine W.abs ?_
  funext L0 hL0
  have md:Mm (d,exO od) L0:=by rw [hL0];tb_rel
  have me:Mm (c.ea,isMs w [ltr o]) L0:=by rw [hL0];tb_rel
  have m1:Mm (c.x,isC c.dx) L0:=by rw [hL0];tb_rel
  have m2:Mm (c.dx,isAt (wrAt c rs rd (.int ig ti))) L0:=by rw [hL0];tb_rel
  have mC:Mm (C1,isCell (some (.ref c.x))) L0:=by rw [hL0];tb_rel
  refine W.asgDI (T:=VS) (kds:=kdsOf hst ps) (od:=od) (d:=d) [(qb "self",C1)] [qb ".0",qb "k",qb "v"] hod hA.handled (by kernel_rfl) (fun fz=>by kernel_rfl) (by kernel_rfl) (by kernel_rfl) ?_
  refine W.callM0 (by kernel_rfl) (by kernel_rfl) ?_
  refine W.ld (by kernel_rfl) (by rw [hL0];tb_rel) (by tb_rel) ?_
  refine W.gmDx hod vY PySem.F.type_dict_items md ?_
  refine ⟨KprL.bi,?_⟩
  refine W.itemsx hod md ?_
  funext vw
  refine ⟨fun acc i L2=> ∃X,L2=(acc,isD w VS (kdsOf hst ((ps.take i).filter (· !=o))))::(X++L0),_,⟨rfl,vw,rfl,.head,.tail md,⟨Str,VS,fun acc=>⟨_,.all,[(vw,isIV d)],rfl⟩⟩,?_,?_⟩,?_⟩
  ·funext acc i L2 ⟨X,rfl⟩
   exact .tail (.inr md)
  ·funext acc C it P i kk x v a t L2 fr hi ⟨u,rfl⟩ hfr ⟨X,rfl⟩
   refine hkX (names3 hfr) ?_
   funext ⟨u1,u2,u3,rfl⟩
   have hi':i<ps.length:=by
    refine Or.elim (Nat.lt_or_ge i ps.length) ?_ ?_
    ·funext h
     exact h
    ·funext h
     rw [jO (by rw [qh];exact h)] at hi;cases hi
   rw [qp,qd hi'] at hi
   refine hkX (Prod.mk.inj (vE hi)) ?_
   funext ⟨e1,e2⟩
   subst e1 e2
   have htake:ps.take (i+1)=ps.take i++ [ps[i]]:=by rw [qV,qd hi'];rfl
   have hnd:ps.Nodup:=hfall.imp fun h=>Nat.ne_of_gt h
   have hnot:ps[i]∉(ps.take i).filter (· !=o):=fun hm=>by
    refine hkX (QH (Qt.mp hm).1) ?_
    funext ⟨j,hj,e3⟩
    rw [qI] at hj
    rw [List.getElem_take] at e3
    have:=(List.getElem_inj hnd).mp e3
    exact qS (ql hj (zU _ _)) this
   have hle:((ps.take i).filter (· !=o)).length≤6:=by
    have h1:=jN (· !=o) (ps.take i)
    rw [qI] at h1
    exact qg h1 (qg (vd _ _) hpl)
   refine W.tgtT2 (T:=VV) hA.handled (.tail (.tail .head)) ?_
   funext _ _ rfl rfl
   repeat tb_start
   refine W.ninMs (ks:= [ltr o]) (by tb_rel) ?_
   repeat tb_start
   refine ⟨fun h=> ?_,fun h=> ?_⟩
   ·have hne:(ps[i] !=o)=true:=by
     simp-iota only [zY,decide_eq_false_iff_not,vc] at h
     exact bne_iff_ne.mpr fun e=>h (by rw [e])
    repeat tb_start
    refine W.putD (T:=VS) (kds:=kdsOf hst ((ps.take i).filter (· !=o))) (k:=ltr ps[i]) (x:=sOf (hst ps[i])) (by tb_rel) (kdsOf_notin hnot) (by rw [qh];omega) ⟨u,rfl⟩ ?_
    refine ⟨_,_,rfl,.cons .head (.cons .head (.skip .all)),X,?_⟩
    rw [htake,vH,jl,hne]
    simp [kdsOf]
   ·have hne:(ps[i] !=o)=false:=by
     simp-iota only [Bool.not_eq_false',decide_eq_true_eq,vc] at h
     have:=ltr_inj h
     rw [this];simp
    refine ⟨_,_,rfl,.cons .head (.cons .head (.skip .all)),X,?_⟩
    rw [htake,vH,jl,hne]
    simp [kdsOf]
  ·funext acc C fr L2 hfr ⟨X,rfl⟩
   rw [qh,zh]
   subst hL0
   repeat tb_start
   refine ⟨fr,_,.all,W.nil ?_⟩
   refine W.fixP (a:=acc) (P:=isD w VS (kdsOf hst (ps.filter (· !=o)))) (by tb_rel) ?_
   funext od2 hod2
   have hsub: ∀p∈ps.filter (· !=o),p∈ps:=fun p hp=>(Qt.mp hp).1
   have t:=start_t1 (La:=La) (C1:=C1) (C2:=C2) (d:=acc) (nn:=nn) (od:=od2) (rs:=rs) (kt:=kt) (ps:=ps.filter (· !=o)) (c:=c) (letter:=letter) (other:=ltr o) (ds:=ds) (n1:=n1) (n2:=n2) (k:=k) (written:=written) (rd:=rd) (ig:=ig) (ti:=ti) (M:=M) K KC KB KQ hA.le hod2 hk hnn (hfall.filter _) (fun p hp=>hp7 p (hsub p hp)) (fun p hp=>hh p (hsub p hp)) (fun p hp=>hz p (hsub p hp)) hw hn1 hn2 hds
   refine W.take (t.mono fun fl L2 h12=> ?_) ?_
   ·refine hkX (h12) ?_
    funext ⟨rfl,h2⟩
    exact ⟨_,h2,q⟩
   ·iterate 4 refine .cons (by tb_rel) ?_
    iterate 12 refine .cons (by tb_rel) ?_
    exact .last (.skip (.tail .all))
 ·have hps0:ps= []:=by
   cases ps with
   |nil=>rfl
   |cons=>cases e
  subst hps0
  refine W.no ?_
  refine W.fixP (a:=d) (P:=isD w VS (kdsOf hst [])) (by tb_rel) ?_
  funext od2 hod2
  have t:=start_t1 (La:=La) (C1:=C1) (C2:=C2) (d:=d) (nn:=nn) (od:=od2) (rs:=rs) (kt:=kt) (ps:= []) (c:=c) (letter:=letter) (other:=ltr o) (ds:=ds) (n1:=n1) (n2:=n2) (k:=k) (written:=written) (rd:=rd) (ig:=ig) (ti:=ti) (M:=M) K KC KB KQ hA.le hod2 hk hnn .nil (fun p hp=>nomatch hp) (fun p hp=>nomatch hp) (fun p hp=>nomatch hp) hw hn1 hn2 hds
  refine W.take (t.mono fun fl L2 h12=> ?_) ?_
  ·refine hkX (h12) ?_
   funext ⟨rfl,h2⟩
   exact ⟨_,h2,q⟩
  ·iterate 4 refine .cons (by tb_rel) ?_
   exact .all
end
end
section
section
variable{b:qe}{w:World}{A:qq}{L L' M:Led}{R:Value→Led→Prop}{F:Frag}{c:WrC}{l o:Nat}{rs:Bool}{ds:List Addr}{n1 n2 k:Nat}{written:List Str}{rd:Bool}{ig:Int}{ti:Tok}{hst:Nat→List Nat}
theorem W.truI{i:Int}{t:Tok}{TT:Bool→Led→Prop}(h:TT (i !=0) L):W b w A L (truthy (.int i t)) TT:=W.mk fun s H=>PySem.P.truthy_int ⟨L,H,h⟩
theorem W.ret0{env:Env}{pos:Pos}{rest:List Stmt}{Q:Flow→Led→Prop}(h:Q (.ret .none) L):W b w A L (execs (.Return none pos::rest) env) Q:=W.seq<|W.mk fun s H=>wpAny_Return_none ⟨L,H,h⟩
theorem W.gmOwn{x dx:Addr}{kvs:List (Str×Value)}{name:Str}{v:Value}{pl:Sem Bool}{P:Value×List Value→Led→Prop}(KC:Kc F b)(hn:Mm (name,none) canTab)(hx:Mm (x,isC dx) L)(hd:Mm (dx,isAt kvs) L)(hl:Lk kvs name v)(hv:handedIn v=true)(h:P (v,[]) L):W b w A L (vg (.ref x) name pl) P:=W.mk fun s H=>by
 have K:=KC.can
 have X:=KC.at H
 obtain ⟨ox,es,n,I,hdx,hA,_⟩:=H.inst hx hd
 unfold vg specialOf
 refine qc (qc (I.type.here ((jw X (K.find (qb "__getattribute__",some (.builtin "object.__getattribute__")) (by decide+kernel))).here ?_)))
 dsimp only
 rw [show (Manifest.canonical "object.__getattribute__" !="object.__getattribute__")=false by decide+kernel,if_neg qx]
 refine qc (qc (I.type.here ((jw X (K.find (qb "__getattr__",none) (by decide+kernel))).here ?_)))
 refine qc (qc (I.type.here ((jw X (K.find _ hn.mem)).here ?_)))
 exact qc ((W.getC (R:=fun u L'=>u=v∧L'=L) KC hn hx hd hl hv ⟨rfl,rfl⟩).then H fun u s' L' H' ⟨e1,e2⟩=>by subst e1 e2;exact qf ⟨_,H',h⟩)
theorem W.callM1o{env:Env}{pos:Pos}{o:Expr}{e1:Expr}{name:Str}{apos:Pos}(hline:(apos.endLine==pos.line)=true)(hb:jE o name env (eval o env)=eval o env)(hs:zB [e1] env= [(false,eval e1 env)])
  (h:W b w A L (eval o env) fun ov L1=>W b w A L1 (vg ov name (do return (←importBound o env).getD true)) (fun fm L2=> ∃f,fm=(f,[])∧W b w A L2 (eval e1 env) fun v1 L3=>KprL b w L3 f∧W b w A L3 (call f [v1]) R)):
  W b w A L (eval (.Call (.Attribute o name apos) [e1] [] pos) env) R:=
 W.callM (trees:= [(false,eval e1 env)]) hline rfl (by rw [hs];rfl) rfl (by rw [hb];exact h.mono fun fz fz h1=>h1.mono fun fz fz ⟨_,e,h2⟩=>by subst e;exact W.sp (h2.mono fun fz fz h3=>W.sp0 h3))
theorem nsL_snoc{nn:Addr}:nsL (ds++ [nn])=nsL ds++ [(nn,isL VR ([]:List Addr))]:=by
 unfold nsL
 rw [qB];rfl
set_option maxHeartbeats 4000000 in
theorem start_ig{d:Addr}{kt:Tok}{P:Asn}(K:Kn b)(KC:Kc F b)(hA:Rm 1 A)(hk:ig≠0∨k=l)(hig:0≤ig∧ig<1000)
  (q: ∀ti',R .none (wrG w c (ltr l) (ltr o) ds n1 n2 written rs rd (ig+1) ti' M)):
  W b w A ((d,P)::(wrG w c (ltr l) (ltr o) ds n1 n2 written rs rd ig ti M)) (call (.ref 237) [.ref c.x,.str (ltr k) kt,.ref d]) R:=by
 revert b w A M R F c l o rs ds n1 n2 k written rd ig ti d kt P K KC hA hk hig q
 funext b w A M R F c l o rs ds n1 n2 k written rd ig ti d kt P K KC hA hk hig q
 refine W.fn (fd:=fd237) 3 [(qb "self",some (.ref c.x)),(qb "tag",some (.str (ltr k) kt)),(qb "attrs",some (.ref d)),(qb "new_namespaces",none)] K (by tb_rel) hA rfl (fun fz fz=>zc (by kernel_rfl)) (by kernel_rfl) (by kernel_rfl) ?_
 funext La A' hA
 refine W.ifs ?_
 repeat tb_start
 refine W.isnR ?_
 repeat tb_start
 refine W.truI ?_
 by_cases h0:ig=0
 ·subst h0
  have hkl:k=l:=hk.resolve_left (fun h=>h rfl)
  subst hkl
  refine W.no ?_
  repeat tb_start
  refine W.inMs (ks:= [ltr k]) (by tb_rel) ?_
  rw [show decide (ltr k∈ [ltr k])=true by simp]
  repeat tb_start
  exact W.ret0 ⟨_,.skip (.skip .all),q _⟩
 ·rw [show (ig !=0)=true by simpa using h0]
  repeat tb_start
  exact W.ret0 ⟨_,.skip (.skip .all),q _⟩
set_option maxHeartbeats 4000000 in
theorem start_go{d:Addr}{kt:Tok}{ps:List Nat}(K:Kn b)(KC:Kc F b)(KB:Kb b)(KQ:Kq F)(hA:Rm 6 A)(hk:k<6)(hkl:k≠l)
  (hfall:ps.Pairwise (· > ·)) (hp7: ∀p∈ps,p<6) (hh: ∀p∈ps,38∉hst p∧60∉hst p∧34∉hst p∧9∉hst p∧10∉hst p∧13∉hst p) (hz: ∀p∈ps,(hst p).length<1000) (hw:written.length<900) (hn1:n1<1000) (hn2:n2<1000) (hds:ds.length<999)
  (q: ∀nn,R .none (wrG w c (ltr l) (ltr o) (ds++ [nn]) (n1+1) (n2+2) (written++ [sOf [60,97+k]]++(if (ps.filter (· !=o)).isEmpty then [] else [sOf (atT hst (ps.filter (· !=o)).reverse).flatten])++ [sOf [62]]) true rd 0 ti M)):
  W b w A ((d,isD w VS (kdsOf hst ps))::(wrG w c (ltr l) (ltr o) ds n1 (n2+1) written rs rd 0 ti M)) (call (.ref 237) [.ref c.x,.str (ltr k) kt,.ref d]) R:=by
 refine W.fn (fd:=fd237) 3 [(qb "self",some (.ref c.x)),(qb "tag",some (.str (ltr k) kt)),(qb "attrs",some (.ref d)),(qb "new_namespaces",none)] K (by tb_rel) hA rfl (fun fz fz=>zc (by kernel_rfl)) (by kernel_rfl) (by kernel_rfl) ?_
 intro La A' hA
 refine W.ifs ?_
 repeat tb_start
 refine W.isnR ?_
 repeat tb_start
 refine W.truI ?_
 refine W.no ?_
 repeat tb_start
 refine W.inMs (ks:= [ltr l]) (by tb_rel) ?_
 rw [show decide (ltr k∈ [ltr l])=false by
  rw [decide_eq_false_iff_not,vc]
  exact fun e=>hkl (ltr_inj e)]
 repeat tb_start
 refine W.truL (T:=VR) (ds:=([]:List Addr)) (by tb_rel) (by simp) ?_
 refine W.no ?_
 repeat tb_start
 refine W.list0 (T:=VR) (α:=Addr) fun nn=> ?_
 repeat tb_start
 refine W.append (T:=VR) (ds:=c.d0::ds) (d:=nn) (by tb_rel) (by simp;omega) rfl ?_
 repeat tb_start
 refine W.isnN ?_
 repeat tb_start
 refine W.gmC K KC (f:=243) (fd:=fd243) (by tb_rel) (by tb_rel) (by tb_rel) (by tb_rel) rfl ?_
 repeat tb_start
 refine W.take (pstart_ok (d:=d) (nn:=nn) (kt:=kt) (ps:=ps) (c:=c) (letter:=ltr l) (o:=o) (rs:=rs) (ds:=ds++ [nn]) (n1:=n1) (n2:=n2) (k:=k) (written:=written) (rd:=rd) (ig:=0) (ti:=ti) (hst:=hst) (M:=M) K KC KB KQ hA.le hk (by simp) hfall hp7 hh hz hw hn1 hn2 (by simp;omega) (W.nil ⟨_,.all,q nn⟩)) ?_
 refine .cons (by tb_rel) ?_
 iterate 7 refine .cons (by tb_rel) ?_
 refine .cons (p:=(c.nsd,isL VR (c.d0::ds++ [nn]))) (by tb_rel) ?_
 iterate 4 refine .cons (by tb_rel) ?_
 rw [nsL_snoc]
 refine .perm (L1:=(La,loc [(qb "self",some (Value.ref c.x)),(qb "tag",some (Value.str (ltr k) kt)),(qb "attrs",some (Value.ref d)),(qb "new_namespaces",some (Value.ref nn))])::((nsL ds++ [(nn,isL VR ([]:List Addr))])++M)) ?_ (.skip .all)
 refine (zA ..).trans (QJ _ ?_)
 have:=(vf (a:=(nn,isL VR ([]:List Addr))) (l₁:=nsL ds) (l₂:=M)).symm
 simpa using this
set_option maxHeartbeats 4000000 in
theorem end_ig{kt:Tok}(K:Kn b)(KC:Kc F b)(hA:Rm 1 A)(hk:ig≠0)
  (q: ∀ti',R .none (wrG w c (ltr l) (ltr o) ds n1 n2 written rs rd (ig-1) ti' M)):
  W b w A (wrG w c (ltr l) (ltr o) ds n1 n2 written rs rd ig ti M) (call (.ref 250) [.ref c.x,.str (ltr k) kt]) R:=by
 revert b w A M R F c l o rs ds n1 n2 k written rd ig ti kt K KC hA hk q
 funext b w A M R F c l o rs ds n1 n2 k written rd ig ti kt K KC hA hk q
 refine W.fn (fd:=fd250) 2 [(qb "self",some (.ref c.x)),(qb "tag",some (.str (ltr k) kt))] K (by tb_rel) hA rfl (fun fz fz=>zc (by kernel_rfl)) (by kernel_rfl) (by kernel_rfl) ?_
 funext La A' hA
 refine W.ifs ?_
 repeat tb_start
 refine W.truI ?_
 rw [show (ig !=0)=true by simpa using hk]
 repeat tb_start
 exact W.ret0 ⟨_,.skip .all,q _⟩
set_option maxHeartbeats 4000000 in
theorem end_go{kt:Tok}{nn:Addr}(K:Kn b)(KC:Kc F b)(hA:Rm 4 A)(hk:k<6)(hw:written.length<900)(hn1:n1<1000)(hn2:n2<1000)(hds:ds.length<999)
  (q: ∀rd',R .none (wrG w c (ltr l) (ltr o) ds n1 n2 (written++ [sOf [60,47,97+k,62]]) rs rd' 0 ti M)):
  W b w A (wrG w c (ltr l) (ltr o) (ds++ [nn]) (n1+1) (n2+1) written rs rd 0 ti M) (call (.ref 250) [.ref c.x,.str (ltr k) kt]) R:=by
 revert b w A M R F c l o rs ds n1 n2 k written rd ti kt nn K KC hA hk hw hn1 hn2 hds q
 funext b w A M R F c l o rs ds n1 n2 k written rd ti kt nn K KC hA hk hw hn1 hn2 hds q
 refine W.fn (fd:=fd250) 2 [(qb "self",some (.ref c.x)),(qb "tag",some (.str (ltr k) kt))] K (by tb_rel) hA rfl (fun fz fz=>zc (by kernel_rfl)) (by kernel_rfl) (by kernel_rfl) ?_
 funext La A' hA
 refine W.ifs ?_
 repeat tb_start
 refine W.truI ?_
 refine W.no ?_
 repeat tb_start
 refine W.truL (T:=VR) (ds:=([]:List Addr)) (by tb_rel) (by simp) ?_
 refine W.no ?_
 refine W.exprS ⟨by kernel_rfl,by kernel_rfl⟩ ?_
 refine W.callM1o (by kernel_rfl) (by kernel_rfl) (by kernel_rfl) ?_
 repeat tb_start
 refine W.gmOwn (v:= .ref c.bo) KC (by tb_rel) (by tb_rel) (by tb_rel) (by dict_fit) rfl ⟨_,rfl,?_⟩
 refine W.fstrS (W.jpS (W.cstr ?_))
 funext t3
 refine ⟨[60,47],t3,by kernel_rfl,by decide,?_⟩
 refine W.jpS (W.fvS ?_)
 repeat tb_start
 refine W.gmC K KC (f:=207) (fd:=fd207) (by tb_rel) (by tb_rel) (by tb_rel) (by tb_rel) rfl ?_
 repeat tb_start
 refine qname_ok (c:=c) (k:=k) (ds:=ds++ [nn]) (rs:=rs) (rd:=rd) (ig:= .int 0 ti) K KC hA.le (by omega) (by tb_rel) (by tb_rel) (by tb_rel) (by tb_rel) (by tb_rel) (fun a ha=> .tail (wrG_ns (mem_mm (qA (f:=fun a=>(a,isL VR ([]:List Addr))) ha)))) (by simp;omega) ?_
 funext qa
 repeat tb_start
 refine W.itemT (T:=VS) (ds:= [sOf [97+k],sOf [97+k],sOf []]) (i:=0) .head (by decide) rfl (fun fz=>by kernel_rfl) ?_
 funext _ ⟨t2,rfl⟩
 refine ⟨[97+k],t2,rfl,by simp,?_⟩
 funext t4
 refine ⟨_,t4,rfl,by simp,?_⟩
 refine W.jpS (W.cstr ?_)
 funext t5
 refine ⟨[62],t5,by kernel_rfl,by simp,?_⟩
 refine W.jpE (by simp) ?_
 funext t6
 refine ⟨KprL.bnd (bt:="builtin_function_or_method") (id:="list.append") (x:=c.wl) (by decide) (by tb_rel),?_⟩
 refine W.bndApp (T:=VS) (ds:=written) (d:=sOf [60,47,97+k,62]) (by tb_rel) (by tb_rel) (by omega) ⟨t6,rfl⟩ ?_
 repeat tb_start
 rw [show zk (n2+1) false=zk n2 false++ [false] from vV,show zk (n1+1) ()=zk n1 ()++ [()] from vV]
 refine W.pop (T:=VB) (ds:=zk n2 false) (d:=false) (by tb_rel) (by simp;omega) ?_
 funext _ _
 repeat tb_start
 refine W.lenL (T:=VB) (ds:=zk n2 false) (by tb_rel) (by simp;omega) ?_
 funext v1
 repeat tb_start
 rw [show c.d0::(ds++ [nn])=(c.d0::ds)++ [nn] from rfl]
 refine W.pop (T:=VR) (ds:=c.d0::ds) (d:=nn) (by tb_rel) (by simp;omega) ?_
 funext _ _
 repeat tb_start
 refine W.pop (T:=VU) (ds:=zk n1 ()) (d:=()) (by tb_rel) (by simp;omega) ?_
 funext _ _
 refine W.nil ⟨_,?_,q (((zk n2 false).length:Int)==1)⟩
 refine .skip (.skip ?_)
 iterate 12 refine .cons .head ?_
 rw [nsL_snoc]
 refine .perm (L1:=(nn,isL VR ([]:List Addr))::(nsL ds++M)) ?_ (.skip .all)
 have:=(vf (a:=(nn,isL VR ([]:List Addr))) (l₁:=nsL ds) (l₂:=M))
 simpa using this
end
end
section
structure EqE(b:qe)(w:World)(L:Led){α:Type}[DecidableEq α](T:α→Value→Prop):Prop where
 run: ∀(A:qq) s x y u v,A.units<cLine→St b s L→T x u→T y v→SeqAt.EqAt A s u v (decide (x=y))
section
variable{b:qe}{w:World}{A:qq}{L L':Led}{R:Value→Led→Prop}{α:Type}{T:α→Value→Prop}{l m:Addr}
theorem eqeS:EqE b w L VS:=⟨fun A s x y u v fz fz ⟨t,hu⟩ ⟨t',hv⟩=>by
 subst hu hv
 rw [show decide (x=y)=(x==y) by simp [BEq.beq]]
 exact SeqAt.EqAt.str_str _ _ _ _⟩
theorem eqeI:EqE b w L VI:=⟨fun A s x y u v fz fz ⟨t,hu⟩ ⟨t',hv⟩=>by
 subst hu hv
 rw [show decide (x=y)=(x==y) by simp [BEq.beq]]
 exact SeqAt.EqAt.int_int _ _ _ _⟩
theorem all_eq [DecidableEq α]{ds es:List α}(h:ds.length=es.length):((zo ds.length).all fun j=>decide (ds[j]? =es[j]?))=decide (ds=es):=by
 rw [vZ,qz,decide_eq_true_eq]
 constructor
 ·intro h1
  apply List.ext_getElem?
  intro j
  rcases Nat.lt_or_ge j ds.length with hj|hj
  ·have:=h1 j (zW.mpr hj)
   simpa using this
  ·rw [jO hj,jO (by exact qg (qN h.symm) hj)]
 ·rintro rfl j _
  simp
theorem W.neL [DecidableEq α]{ds es:List α}(E:EqE b w L T)(hA:A.units<9000)(hl:Mm (l,isL T ds) L)(hm:Mm (m,isL T es) L)(h:R (.bool (!decide (ds=es))) L):W b w A L (jd .NotEq (.ref l) (.ref m)) R:=W.mk fun s H=>by
 have ec:cLine=9900:=by decide
 obtain ⟨vs,n,ha,e1⟩:=H.lst hl
 obtain ⟨us,n2,hb,e2⟩:=H.lst hm
 have la:=ha.len
 have lb:=hb.len
 by_cases hz:ds.length=es.length
 ·refine (SeqAt.RcNeAt.lists (items:=vs.toArray) (items2:=us.toArray) (e:=fun j=>decide (ds[j]? =es[j]?)) (listO_is e1) (listO_is e2) (by simp;omega) (by rw [ec];omega) fun j h1 h2=> ?_) pw w _ _ ⟨L,H,?_⟩
  ·rw [qo] at h1 h2
   obtain ⟨v,hv,hT⟩:=ha.get (qd (show j<ds.length by omega))
   obtain ⟨u,hu,hU⟩:=hb.get (qd (show j<es.length by exact qU h1 (la.trans hz)))
   rw [qd h1] at hv
   rw [qd h2] at hu
   cases hv
   cases hu
   have:=E.run A.in1 s _ _ _ _ (by show A.units+1<cLine;rw [ec];omega) H hT hU
   rw [qd (show j<ds.length by omega),qd (show j<es.length by exact qU h1 (la.trans hz))]
   simpa using this
  ·rw [qo,la,all_eq hz];exact h
 ·refine (SeqAt.RcNeAt.lists_lengths (listO_is e1) (listO_is e2) (by simp;omega) (by rw [ec];omega)) pw w _ _ ⟨L,H,?_⟩
  have:decide (ds=es)=false:=decide_eq_false fun e=>hz (by rw [e])
  rw [this] at h;exact h
theorem W.neT{ds es:List Str}(hA:A.units<9000)(hl:Mm (l,isT VS ds) L)(hm:Mm (m,isT VS es) L)(hz:ds.length=es.length)(h:R (.bool (!decide (ds=es))) L):W b w A L (jd .NotEq (.ref l) (.ref m)) R:=W.mk fun s H=>by
 have ec:cLine=9900:=by decide
 obtain ⟨vs,n,ha,e1⟩:=H.tup hl
 obtain ⟨us,n2,hb,e2⟩:=H.tup hm
 have la:=ha.len
 have lb:=hb.len
 refine (SeqAt.RcNeAt.tuples (items:=vs.toArray) (items2:=us.toArray) (e:=fun j=>decide (ds[j]? =es[j]?)) ⟨_,e1,rfl,_,rfl⟩ ⟨_,e2,rfl,_,rfl⟩ (by rw [ec];omega) fun j h1 h2=> ?_) pw w _ _ ⟨L,H,?_⟩
 ·rw [qo] at h1 h2
  obtain ⟨v,hv,hT⟩:=ha.get (qd (show j<ds.length by omega))
  obtain ⟨u,hu,hU⟩:=hb.get (qd (show j<es.length by omega))
  rw [qd h1] at hv
  rw [qd h2] at hu
  cases hv
  cases hu
  have:=(eqeS (b:=b) (w:=w) (L:=L)).run A.in1 s _ _ _ _ (by show A.units+1<cLine;rw [ec];omega) H hT hU
  rw [qd (show j<ds.length by omega),qd (show j<es.length by omega)]
  simpa using this
 ·rw [qo,qo,la,lb,←hz,Nat.min_self,all_eq hz]
  simpa using h
theorem W.sindex{x y:Str}{t u:Tok}{i:Nat}{r:List Nat}(ho:zp x y 0 x.length 1=i::r)(h: ∀t,R (.int i t) L):W b w A L (call (.builtin "str.index") [.str x t,.str y u]) R:=W.mk fun s H=>by with_reducible exact SC.index ho ⟨L,H.tok _,h _⟩
end
end
section
noncomputable def igN(l:Nat):List Nat→Nat
 | []=>0
 |k::st=>if igN l st≠0∨k=l then igN l st+1 else 0
noncomputable def dsN(l:Nat):List Nat→Nat
 | []=>0
 |k::st=>if igN l (k::st)=0 then dsN l st+1 else dsN l st
theorem igN_c{l k:Nat}{st:List Nat}:igN l (k::st)=if igN l st≠0∨k=l then igN l st+1 else 0:=rfl
theorem dsN_c{l k:Nat}{st:List Nat}:dsN l (k::st)=if igN l (k::st)=0 then dsN l st+1 else dsN l st:=rfl
noncomputable def evP(l:Nat)(o:Bool)(k:Nat)(st:List Nat):List (Bool×Nat):=if igN l (k::st)=0 then [(o,k)] else []
noncomputable def popE(l:Nat)(c:List Nat):List Nat→List (Bool×Nat)×List Nat
 | []=>([],[])
 |k::st=>if (k::st).reverse.isPrefixOf c then ([],k::st) else (evP l false k st++(popE l c st).1,(popE l c st).2)
noncomputable def closeE(l:Nat):List Nat→List (Bool×Nat)
 | []=> []
 |k::st=>evP l false k st++closeE l st
noncomputable def lastN(c:List Nat):Nat:=c.getLast?.getD 0
noncomputable def pageE(l:Nat):List (List Nat)→List Nat→List (Bool×Nat)
 | [],st=>closeE l st
 |c::cs,st=>(popE l c st).1++(evP l true (lastN c) (popE l c st).2++pageE l cs (lastN c::(popE l c st).2))
noncomputable def attL(hst:Nat→List Nat)(qs:List Nat):List Nat:=(atT hst qs).flatten
noncomputable def evT(hst:Nat→List Nat)(row:Nat→List Nat)(o:Nat):Bool×Nat→List (List Nat)
 |(true,k)=> [[60,97+k]]++(if ((row k).reverse.filter (· !=o)).isEmpty then [] else [attL hst ((row k).reverse.filter (· !=o)).reverse])++ [[62]]
 |(false,k)=> [[60,47,97+k,62]]
noncomputable def outT(hst:Nat→List Nat)(row:Nat→List Nat)(o:Nat)(evs:List (Bool×Nat)):List (List Nat):=(evs.map (evT hst row o)).flatten
theorem outT_app(hst row o)(e1 e2:List (Bool×Nat)):outT hst row o (e1++e2)=outT hst row o e1++outT hst row o e2:=by
 unfold outT
 rw [qB,QG]
theorem outT_len(hst row o): ∀es:List (Bool×Nat),(outT hst row o es).length≤3*es.length
 | []=>by simp [outT]
 |e::r=>by
  have ih:=outT_len hst row o r
  have h1:(evT hst row o e).length≤3:=by
   match e with
   |(true,k)=>simp only [evT];split<;>simp
   |(false,k)=>simp [evT]
  show (outT hst row o ([e]++r)).length≤_
  rw [outT_app,qm]
  have:(outT hst row o [e]).length=(evT hst row o e).length:=by simp [outT]
  simp only [qy];exact qg (qN (vO _ _)) (jQ ih (this▸h1))
theorem evP_len(l o k st):(evP l o k st).length≤1:=by unfold evP;split<;>simp
noncomputable def pth(c:List Nat):List Nat:=(c.map fun u=> [46,97+u]).flatten
theorem pth_snoc(c:List Nat)(k:Nat):pth (c++ [k])=pth c++ [46,97+k]:=by simp [pth]
theorem pth_len: ∀c:List Nat,(pth c).length=2*c.length
 | []=>rfl
 |x::r=>by
  have ih:=pth_len r
  show ([46,97+x]++pth r).length=_
  simp only [qm,qy,qP,ih];omega
theorem pth_pre: ∀c d:List Nat,(pth c).isPrefixOf (pth d)=c.isPrefixOf d
 | [],d=>by simp [pth]
 |x::r,[]=>rfl
 |x::r,y::q=>by
  show ([46,97+x]++pth r).isPrefixOf ([46,97+y]++pth q)=_
  simp only [vj,zV,List.isPrefixOf,pth_pre r q]
  have:(97+x==97+y)=(x==y):=by rw [vZ,beq_iff_eq,beq_iff_eq];omega
  rw [this];simp
theorem pth_mem{c:List Nat}(hc: ∀x∈c,x<6): ∀y∈pth c,y≠10∧y≠58:=by
 intro y hy
 obtain ⟨l,hl,hy⟩:=List.mem_flatten.mp hy
 obtain ⟨u,hu,rfl⟩:=qw.mp hl
 have:=hc u hu
 simp at hy
 exact hy.elim (fun e=>⟨fun k=>absurd (e.symm.trans k) (by decide),fun k=>absurd (e.symm.trans k) (by decide)⟩) fun e=>⟨fun k=>absurd (qg (jk 97 _) (qN (e.symm.trans k))) (by decide),fun k=>absurd (qg (jk 97 _) (qN (e.symm.trans k))) (by decide)⟩
theorem takeW_app{l r:List Nat}{p:Nat→Bool}(h: ∀x∈l,p x=true):(l++r).takeWhile p=l++r.takeWhile p:=by
 induction l with
 |nil=>rfl
 |cons x l ih=>
  rw [vj,List.takeWhile_cons,h x (.head _),if_pos rfl,ih fun y hy=>h y (.tail _ hy)];rfl
theorem strip_way{c:List Nat}{k:Nat}(hc: ∀x∈c,x<6)(hk:k<6):stripL (pth (c++ [k])++ [58,32,98,46,120,58,32,99,10,100,46,121])= [97+k]:=by
 have hm:=pth_mem (c:=c++ [k]) (fun x hx=>by
  rcases qO.mp hx with h|h
  ·exact hc x h
  ·simp at h;omega)
 unfold stripL
 rw [takeW_app (fun x hx=>by simpa using (hm x hx).1),takeW_app (fun x hx=>by simpa using (hm x hx).2)]
 rw [show (List.takeWhile (· !=58) (List.takeWhile (· !=10) [58,32,98,46,120,58,32,99,10,100,46,121]):List Nat)= [] by decide,za,pth_snoc]
 exact behind_at (by simp;omega)
theorem strip_path{c:List Nat}{k:Nat}(hc: ∀x∈c,x<6)(hk:k<6):stripL (pth (c++ [k])++ [10,98,46,120,58,32,99])= [97+k]:=by
 have hm:=pth_mem (c:=c++ [k]) (fun x hx=>by
  rcases qO.mp hx with h|h
  ·exact hc x h
  ·simp at h;omega)
 unfold stripL
 rw [takeW_app (fun x hx=>by simpa using (hm x hx).1)]
 rw [show (List.takeWhile (· !=10) [10,98,46,120,58,32,99]:List Nat)= [] by decide,za]
 rw [show pth (c++ [k])=pth (c++ [k])++ [] by simp,takeW_app (fun x hx=>by simpa using (hm x hx).2)]
 rw [List.takeWhile_nil,za,pth_snoc]
 exact behind_at (by simp;omega)
theorem strip_bare{c:List Nat}{k:Nat}(hc: ∀x∈c,x<6)(hk:k<6):stripL (pth (c++ [k]))= [97+k]:=by
 have hm:=pth_mem (c:=c++ [k]) (fun x hx=>by
  rcases qO.mp hx with h|h
  ·exact hc x h
  ·simp at h;omega)
 unfold stripL
 rw [show pth (c++ [k])=pth (c++ [k])++ [] by simp,takeW_app (fun x hx=>by simpa using (hm x hx).1),List.takeWhile_nil,takeW_app (fun x hx=>by simpa using (hm x hx).2),List.takeWhile_nil,za,pth_snoc]
 exact behind_at (by simp;omega)
theorem strip_e1:stripL [58,32,98,46,120,58,32,99,10,100,46,121]= []:=by decide
theorem strip_e2:stripL [10,98,46,120,58,32,99]= []:=by decide
theorem lit_b1:qb ": b.x: c\nd.y"=sOf [58,32,98,46,120,58,32,99,10,100,46,121]:=by decide+kernel
theorem lit_b2:qb "\nb.x: c"=sOf [10,98,46,120,58,32,99]:=by decide+kernel
theorem prs_flat(c:List Nat):((c.map fun u=>(([46],[97+u]):List Nat×List Nat)).map fun d=>d.1++d.2).flatten=pth c:=by
 unfold pth
 rw [zf];rfl
theorem Pairs.tups{L:Led}{as:List Addr}{c:List Nat}(h1:as.length=c.length)(h2:c.length<900)(hm: ∀(j:Nat) a u,as[j]? =some a→c[j]? =some u→Mm (a,isT VS [sOf [46],sOf [97+u]]) L):Pairs L as (c.map fun u=>([46],[97+u])) where
 len:=by simpa using h1
 at_:=fun j a d ha hd=>by
  rw [qp] at hd
  cases h3:c[j]? with
  |none=>rw [h3] at hd;cases hd
  |some u=>rw [h3] at hd;cases hd;exact hm j a u ha h3
 small:=fun d hd=>by
  obtain ⟨u,_,rfl⟩:=qw.mp hd
  simp
 few:=by simp;omega
theorem igN_le(l:Nat): ∀st,igN l st≤st.length
 | []=>zg _
 |k::st=>by
  have:=igN_le l st
  simp only [igN_c,qy]
  split<;>omega
theorem dsN_le(l:Nat): ∀st,dsN l st≤st.length
 | []=>zg _
 |k::st=>by
  have:=dsN_le l st
  simp only [dsN_c,qy]
  split<;>first|exact jm this|exact Qu this
theorem abc_occ: ∀k<6,zp (qb "abcdef") (sOf [97+k]) 0 (qb "abcdef").length 1= [k]:=by decide+kernel
end
section
theorem pth_lt: ∀c d:List Nat,decide (pth c<pth d)=decide (c<d)
 | [],[]=>rfl
 | [],y::q=>by
  rw [decide_eq_true (show pth []<pth (y::q) from by simp [pth]),decide_eq_true (show ([]:List Nat)<y::q from by simp)]
 |x::r,[]=>by
  rw [decide_eq_false (show ¬pth (x::r)<pth [] from by simp [pth]),decide_eq_false (show ¬(x::r:List Nat)< [] from by simp)]
 |x::r,y::q=>by
  have ih:=pth_lt r q
  rw [decide_eq_decide] at ih ⊢
  show [46,97+x]++pth r< [46,97+y]++pth q↔_
  simp only [vj,zV,List.cons_lt_cons_iff,ih]
  constructor
  ·rintro (h|⟨_,h|⟨h,h2⟩⟩)
   ·omega
   ·exact .inl (by exact Nat.lt_of_add_lt_add_left h)
   ·exact .inr ⟨by omega,h2⟩
  ·rintro (h|⟨h,h2⟩)
   ·exact .inr ⟨trivial,.inl (by omega)⟩
   ·exact .inr ⟨trivial,.inr ⟨by omega,h2⟩⟩
noncomputable def ltN(c d:List Nat):Bool:=decide (c<d)
theorem ltS_pth(c d:List Nat):ltS (sOf (pth c)) (sOf (pth d))=ltN c d:=pth_lt c d
section
variable{b:qe}{w:World}{A:qq}{L L':Led}{R:Value→Led→Prop}{F:Frag}
theorem Rm.u1{n:Nat}(h:Rm n A):A.units<9000:=by have:=h.units;omega
theorem Pairs.mono{L L':Led}{as:List Addr}{ds:List (List Nat×List Nat)}(h:Pairs L as ds)(k: ∀{m:Addr×Asn},Mm m L→Mm m L'):Pairs L' as ds:=⟨h.len,fun j a d h1 h2=>k (h.at_ j a d h1 h2),h.small,h.few⟩
theorem W.callNK2{env:Env}{pos xp:Pos}{x k1 k2:Str}{e1 v1 v2:Expr}{p1 p2:Pos}
  (he:eval (.Call (.Name x xp) [e1] [⟨some k1,v1,p1⟩,⟨some k2,v2,p2⟩] pos) env=(do callWith pos (←eval (.Name x xp) env) [] [(false,eval e1 env)] [(some k1,do let v ←eval v1 env;jS pos;qj v),(some k2,do let v ←eval v2 env;jS pos;qj v)]))
  (h:W b w A L (eval (.Name x xp) env) fun f L1=>W b w A L1 (eval e1 env) fun a L2=>W b w A L2 (eval v1 env) fun y1 L3=>W b w A L3 (eval v2 env) fun y2 L4=>KprL b w L4 f∧W b w A L4 (call f [a] [(k1,y1),(k2,y2)]) R):
  W b w A L (eval (.Call (.Name x xp) [e1] [⟨some k1,v1,p1⟩,⟨some k2,v2,p2⟩] pos) env) R:=by
 revert b w A L R env pos xp x k1 k2 e1 v1 v2 p1 p2 he h
 funext b w A L R env pos xp x k1 k2 e1 v1 v2 p1 p2 he h
 rw [he]
 refine W.bind (h.mono fun f L1 h1=>W.callW rfl rfl (W.sp (h1.mono fun a L2 h2=>W.sp0 ?_)))
 exact W.ea (W.bind (h2.mono fun y1 L3 h3=>W.bind (W.stand (W.pure (W.ea (W.bind (h3.mono fun y2 L4 h4=>W.bind (W.stand (W.pure (W.ea0 h4))))))))))
noncomputable abbrev hstF(z:List Nat)(D:List (List Nat))(p:Nat):List Nat:=hostL z (D.getD p [])
theorem outT_one(hst row o e):outT hst row o [e]=evT hst row o e:=by simp [outT]
variable{M:Led}{c:WrC}{l o k:Nat}{rs rd:Bool}{ds:List Addr}{ti kt:Tok}{hst:Nat→List Nat}{row:Nat→List Nat}{evs:List (Bool×Nat)}{st:List Nat}
theorem end_any(K:Kn b)(KC:Kc F b)(hA:Rm 4 A)(hk:k<6)(he:evs.length+(k::st).length≤12)(hd:ds.length=dsN l (k::st))
  (q: ∀ds' rd' ti',ds'.length=dsN l st→R .none (wrG w c (ltr l) (ltr o) ds' (ds'.length+2) (ds'.length+1) ((outT hst row o (evs++evP l false k st)).map sOf) rs rd' (igN l st:Nat) ti' M)):
  W b w A (wrG w c (ltr l) (ltr o) ds (ds.length+2) (ds.length+1) ((outT hst row o evs).map sOf) rs rd (igN l (k::st):Nat) ti M) (call (.ref 250) [.ref c.x,.str (ltr k) kt]) R:=by
 have hw:((outT hst row o evs).map sOf).length<900:=by
  have:=outT_len hst row o evs
  rw [qh]
  simp only [qy] at he;exact Ar.z4 he this
 have hdl:=dsN_le l (k::st)
 by_cases h0:igN l (k::st)=0
 ·rw [h0]
  have e1:dsN l (k::st)=dsN l st+1:=by simp only [dsN_c];rw [if_pos h0]
  have e2:igN l st=0:=by
   simp only [igN_c] at h0
   by_cases h:igN l st=0
   ·exact h
   ·rw [if_pos (.inl h)] at h0;omega
  obtain ⟨ds0,nn,rfl⟩: ∃ds0 nn,ds=ds0++ [nn]:=by
   rcases jM ds with rfl|⟨p,y,rfl⟩
   ·simp at hd;omega
   ·exact ⟨p,y,by simp⟩
  simp only [qm,qy,qP] at hd he hdl ⊢
  rw [show ds0.length+(0+1)+2=(ds0.length+2)+1 by omega,show ds0.length+(0+1)+1=(ds0.length+1)+1 by omega]
  refine end_go K KC hA hk hw (by exact qF (jm (qg (Ar.d2 hd hdl) (qg (zy _ _) he))) (Ar.d rfl)) (by exact qF (qg (Ar.d2 hd hdl) (qg (zy _ _) he)) (Ar.d rfl)) (by omega) fun rd'=> ?_
  have:=q ds0 rd' ti (by exact Nat.succ.inj (hd.trans e1))
  rw [e2,outT_app,show evP l false k st= [(false,k)] by unfold evP;rw [if_pos h0],outT_one,qB] at this
  exact this
 ·have e1:dsN l (k::st)=dsN l st:=by simp only [dsN_c];rw [if_neg h0]
  have e2:igN l (k::st)=igN l st+1:=by
   simp only [igN_c] at h0 ⊢
   by_cases h:igN l st≠0∨k=l
   ·rw [if_pos h]
   ·rw [if_neg h] at h0;exact absurd rfl h0
  refine end_ig (k:=k) K KC hA.le (by rw [e2];omega) fun ti'=> ?_
  have:=q ds rd ti' (by omega)
  rw [show evP l false k st= [] by unfold evP;rw [if_neg h0],za] at this
  rw [e2,show (((igN l st+1:Nat):Int)-1)=(igN l st:Nat) by exact Int.sub_eq_iff_eq_add.mpr rfl]
  exact this
theorem start_any{d:Addr}(K:Kn b)(KC:Kc F b)(KB:Kb b)(KQ:Kq F)(hA:Rm 6 A)(hk:k<6)(hrow:(row k).Pairwise (· < ·)∧ ∀p∈row k,p<6)
  (hh: ∀p∈row k,(38∉hst p∧60∉hst p∧34∉hst p∧9∉hst p∧10∉hst p∧13∉hst p)∧(hst p).length<1000) (he:evs.length+st.length≤12) (hd:ds.length=dsN l st)
  (q: ∀ds' rs' ti',ds'.length=dsN l (k::st)→R .none (wrG w c (ltr l) (ltr o) ds' (ds'.length+2) (ds'.length+1) ((outT hst row o (evs++evP l true k st)).map sOf) rs' rd (igN l (k::st):Nat) ti' M)):
  W b w A ((d,isD w VS (kdsOf hst (row k).reverse))::wrG w c (ltr l) (ltr o) ds (ds.length+2) (ds.length+1) ((outT hst row o evs).map sOf) rs rd (igN l st:Nat) ti M) (call (.ref 237) [.ref c.x,.str (ltr k) kt,.ref d]) R:=by
 have hw:((outT hst row o evs).map sOf).length<900:=by
  have:=outT_len hst row o evs
  rw [qh]
  exact Ar.z4 he this
 have hdl:=dsN_le l st
 have hil:=igN_le l st
 by_cases h0:igN l st≠0∨k=l
 ·have e2:igN l (k::st)=igN l st+1:=by simp only [igN_c];rw [if_pos h0]
  have e1:dsN l (k::st)=dsN l st:=by simp only [dsN_c];rw [if_neg (by exact fun e=>Nat.succ_ne_zero _ (e2.symm.trans e))]
  have h0':((igN l st:Nat):Int)≠0∨k=l:=by
   rcases h0 with h|h
   ·exact .inl (by exact fun e=>h (Int.ofNat.inj e))
   ·exact .inr h
  refine start_ig (k:=k) K KC hA.le h0' ⟨by omega,by exact zT.mpr (qF (qg hil (qg (zy _ _) he)) (Ar.d rfl))⟩ fun ti'=> ?_
  have:=q ds rs ti' (by omega)
  rw [show evP l true k st= [] by unfold evP;rw [if_neg (by exact fun e=>Nat.succ_ne_zero _ (e2.symm.trans e))],za,e2] at this
  exact this
 ·have e2:igN l (k::st)=0:=by simp only [igN_c];rw [if_neg h0]
  have e1:dsN l (k::st)=dsN l st+1:=by simp only [dsN_c];rw [if_pos e2]
  have e3:igN l st=0:=by
   by_cases h:igN l st=0
   ·exact h
   ·exact absurd (.inl h) h0
  rw [e3]
  refine start_go (ps:=(row k).reverse) K KC KB KQ hA hk (fun h=>h0 (.inr h)) (List.pairwise_reverse.mpr hrow.1) (fun p hp=>hrow.2 p (zN.mp hp)) (fun p hp=>(hh p (zN.mp hp)).1) (fun p hp=>(hh p (zN.mp hp)).2) hw (by exact qF (qG (qg (Ar.d2 hd hdl) (qg (zy _ _) he)) 2) (Ar.d rfl)) (by exact qF (qg (Ar.d2 hd hdl) (qg (zy _ _) he)) (Ar.d rfl)) (by exact qF (qg (Ar.d2 hd hdl) (qg (zy _ _) he)) (Ar.d rfl)) fun nn=> ?_
  have:=q (ds++ [nn]) true ti (by simp;exact (congrArg Nat.succ hd).trans e1.symm)
  rw [e2,outT_app,show evP l true k st= [(true,k)] by unfold evP;rw [if_pos e2],outT_one,qB] at this
  simp only [qm,qy,qP] at this
  have htx: ∀X:List Str,X++(evT hst row o (true,k)).map sOf=X++ [sOf [60,97+k]]++(if ((row k).reverse.filter (· !=o)).isEmpty then [] else [sOf (atT hst ((row k).reverse.filter (· !=o)).reverse).flatten])++ [sOf [62]]:=by
   intro X
   simp only [evT,attL]
   split<;>simp
  rw [htx] at this
  exact this
end
end
section
section
variable{b:qe}{w:World}{A:qq}{L L':Led}{R:Value→Led→Prop}{F:Frag}
noncomputable abbrev env25(La C:Addr):Env:=envF (fd0 25 lawm 313) La 314 [(qb "names",C)]
noncomputable abbrev loc25(aw tp:Addr)(l o:Nat)(t1 t2:Tok)(wc:WrC)(xw:Addr)(op on ov ot:Option Value):Asn:=loc [(qb "ways",some (.ref aw)),(qb "piles",some (.ref tp)),(qb "letter",some (.str (ltr l) t1)),(qb "other",some (.str (ltr o) t2)),(qb "written",some (.ref wc.wl)),(qb "writer",some (.ref wc.x)),(qb "way",some (.ref xw)),(qb "path",op),(qb "name",on),(qb "v",ov),(qb "told",ot)]
structure PageH(L:Led)(aw an tp:Addr)(ra:List Addr)(row:Nat→List Nat)(D:List (List Nat))(ps:List Pile)(z:List Nat)(size:Int)(tz:Tok)(p:List Nat):Prop where
 hL:Mm (aw,isL VR ra) L
 hr: ∀v<6,∃a,ra[v]? =some a∧Mm (a,isL VI ((row v).map fun (p:Nat)=>(p:Int))) L
 hrow: ∀v<6,(row v).Pairwise (· < ·)∧ ∀p∈row v,p<6
 hD:D.length=6
 hDc: ∀c∈D,c∈chains
 hz:z∈zones
 hn:Mm (an,isL VS (D.map fun c=>sOf (hostL z c))) L
 hps:ps.length=6
 hp:Mm (tp,isL VR (ps.map (·.x))) L
 hpile: ∀(j:Nat) p c,ps[j]? =some p→D[j]? =some c→Mm (p.x,isA p.dx VR p.as) L∧Mm (p.dx,isAt (szAt (.int size tz))) L∧Pairs L p.as (c.map fun u=>([46],[97+u]))
 hs:sortP 6 (ltAt ltN D)=some p
 hp6: ∀i∈p,i<6
 hpl:p.length=6
variable{aw an tp:Addr}{ra:List Addr}{row:Nat→List Nat}{D:List (List Nat)}{ps:List Pile}{z:List Nat}{size:Int}{tz t1 t2:Tok}{l o:Nat}{p:List Nat}
noncomputable def okAtt(z c:List Nat):Bool:=(hostL z c).all (fun x=>x !=38&&x !=60&&x !=34&&x !=9&&x !=10&&x !=13)&&decide ((hostL z c).length<1000)
theorem okAtts: ∀z∈zones,∀c∈chains,okAtt z c=true:=by decide+kernel
theorem att_of{z c:List Nat}(h:okAtt z c=true):(38∉hostL z c∧60∉hostL z c∧34∉hostL z c∧9∉hostL z c∧10∉hostL z c∧13∉hostL z c)∧(hostL z c).length<1000:=by
 unfold okAtt at h
 simp-iota only [qt,qz,decide_eq_true_eq,bne_iff_ne] at h
 obtain ⟨h1,h2⟩:=h
 refine ⟨⟨?_,?_,?_,?_,?_,?_⟩,h2⟩<;>intro hx<;>have:=h1 _ hx<;>(first|exact this.1.2 rfl|exact this.1.1.1.1.1 rfl|exact this.1.1.1.1.2 rfl|exact this.1.1.1.2 rfl|exact this.1.1.2 rfl|exact this.2 rfl)
theorem chain_mem: ∀c∈chains,∀x∈c,x<6:=by decide+kernel
theorem chain_last: ∀c∈chains,c=c.dropLast++ [lastN c]∧lastN c<6:=by decide+kernel
noncomputable abbrev pageL(w:World)(wc:WrC)(z:List Nat)(D:List (List Nat))(row:Nat→List Nat)(l o:Nat)(aw tp an La C xw dw:Addr)(t1 t2 tq:Tok)(st:List Nat)(evs:List (Bool×Nat))(as ds:List Addr)(rd rs:Bool)(ti:Tok)(op on ov ot:Option Value)(L:Led):Led:=
 wrG w wc (ltr l) (ltr o) ds (ds.length+2) (ds.length+1) ((outT (hstF z D) row o evs).map sOf) rs rd (igN l st:Nat) ti ((La,loc25 aw tp l o t1 t2 wc xw op on ov ot)::(xw,isA dw VR as)::(dw,isAt (szAt (.int 0 tq)))::(C,isCell (some (.ref an)))::(tupsL as st.reverse++L))
noncomputable def forBody:List Stmt→List Stmt| .For _ _ bd _ _::_=>bd|_=> []
set_option maxHeartbeats 8000000 in
theorem page_open{Q:Flow→Led→Prop}{wc:WrC}{La C xw dw:Addr}{tq t4:Tok}{st:List Nat}{evs:List (Bool×Nat)}{as ds:List Addr}{rd rs:Bool}{ti:Tok}{on ov ot:Option Value}{X1 X2:Addr×Asn}{c0:List Nat}{k i:Nat}(KE:Ke F b)(KB:Kb b)(KQ:Kq F)(hA:Rm 8 A)(P:PageH L aw an tp ra row D ps z size tz p)
  (hi:i<6) (hc0: ∀x∈c0,x<6) (hk:k<6) (hcl:c0.length≤5) (h1:as.length=st.length) (h2:ds.length=dsN l st) (h3: ∀x∈st,x<6) (h4:evs.length+st.length≤2*i)
  (q: ∀evs1 as1 ds1 rd1 rs1 ti1 on1 ov1 ot1,as1.length=st.length+1→ds1.length=dsN l (k::st)→(∀x∈k::st,x<6)→evs1.length+(st.length+1)≤2*(i+1)→evs1=evs++evP l true k st→
   Q .next (X1::X2::pageL w wc z D row l o aw tp an La C xw dw t1 t2 tq (k::st) evs1 as1 ds1 rd1 rs1 ti1 (some (.str (sOf (pth (c0++ [k]))) t4)) on1 ov1 ot1 L)):
  W b w A (X1::X2::pageL w wc z D row l o aw tp an La C xw dw t1 t2 tq st evs as ds rd rs ti (some (.str (sOf (pth (c0++ [k]))) t4)) on ov ot L) (execs ((forBody ((bodyOf (stm 25)).drop 3)).drop 1) (env25 La C)) Q:=by
 revert b w A L F aw an tp ra row D ps z size tz t1 t2 l o p Q wc La C xw dw tq t4 st evs as ds rd rs ti on ov ot X1 X2 c0 k i KE KB KQ hA P hi hc0 hk hcl h1 h2 h3 h4 q
 funext b w A L F aw an tp ra row D ps z size tz t1 t2 l o p Q wc La C xw dw tq t4 st evs as ds rd rs ti on ov ot X1 X2 c0 k i KE KB KQ hA P hi hc0 hk hcl h1 h2 h3 h4 q
 have K:=KE.n
 have KC:=KE.c
 refine hkX (P.hr k hk) ?_
 funext ⟨ar,har,hmr⟩
 refine W.asg (by kernel_rfl!) ?_
 repeat tb_start
 rw [lit_b2]
 refine W.addS ?_ ?_
 ·rw [sOf_len,sOf_len,pth_len,qm,qu]
  simp-iota only [qy,qP];exact qg (qG (qW 2 (jm hcl)) _) (Ar.d rfl)
 funext t7
 rw [sOf_app]
 repeat tb_start
 refine strip_ok (l:=pth (c0++ [k])++ [10,98,46,120,58,32,99]) K hA.le ?_ ?_
 ·simp-iota only [pth_len,qm,qy,qP];exact qF (qG (qW 2 (jm hcl)) _) (Ar.d rfl)
 funext t8
 rw [strip_path hc0 hk]
 repeat tb_start
 refine W.sindex (abc_occ k hk) ?_
 funext t9
 repeat tb_start
 refine W.gmC K KC (f:=237) (fd:=fd237) (by tb_rel) (by tb_rel) (by tb_rel) (by tb_rel) rfl ?_
 repeat tb_start
 refine W.abs ?_
 funext G hG
 have mw:Mm (aw,isL VR ra) G:=by rw [hG];have:=P.hL;tb_rel
 have mr:Mm (ar,isL VI ((row k).map fun (p:Nat)=>(p:Int))) G:=by rw [hG];tb_rel
 have mn:Mm (an,isL VS (D.map fun c=>sOf (hostL z c))) G:=by rw [hG];have:=P.hn;tb_rel
 have mLa:Mm (La,loc25 aw tp l o t1 t2 wc xw (some (.str (sOf (pth (c0++ [k]))) t4)) (some (.str (sOf [97+k]) t8)) (some (.int (k:Nat) t9)) ot) G:=by rw [hG];tb_rel
 have mC:Mm (C,isCell (some (.ref an))) G:=by rw [hG];tb_rel
 have hlen6:(row k).length≤6:=nodup_len 6 (row k) ((P.hrow k hk).1.imp fun h=>qS h) (P.hrow k hk).2
 refine W.compD [(qb "names",C)] [qb ".0",qb "p"] (fun fz=>by kernel_rfl) (by kernel_rfl) (by kernel_rfl) ?_
 repeat tb_start
 refine W.itemL (T:=VR) (ds:=ra) (d:=ar) (by tb_rel) (by omega) har (fun fz=>by kernel_rfl) ?_
 funext _ rfl
 repeat tb_start
 funext sl
 refine W.partL (T:=VI) (ds:=(row k).map fun (p:Nat)=>(p:Int)) (ds':=(row k).reverse.map fun (p:Nat)=>(p:Int)) (by tb_rel) .head .none .none (.int _ _) (by simp) (by rw [qh];omega) (fun vs hv=>by rw [Qj];exact pick_rev hv) ⟨_,rfl⟩ ?_
 funext al
 refine ⟨fun acc j L2=>L2=(acc,isD w VS (kdsOf (hstF z D) ((row k).reverse.take j)))::(al,isL VI ((row k).reverse.map fun (p:Nat)=>(p:Int)))::G,((row k).reverse.map fun (p:Nat)=>(p:Int)).length,⟨_,_,Walk.list (T:=VI) (ds:=(row k).reverse.map fun (p:Nat)=>(p:Int)) hA.handled .head,⟨_,VS,fun acc=>⟨_,.cons .head (.skip .all),rfl⟩⟩,?_,?_⟩,?_⟩
 ·funext acc j L2 rfl
  tb_rel
 ·funext acc C2 it P2 j v L2 fr hj ⟨d,hd,t10,rfl⟩ hfr rfl
  refine hkX (names2 hfr) ?_
  funext ⟨u1,u2,rfl⟩
  have hZ: ∃x,(row k).reverse[j]? =some x∧(x:Int)=d:=by
   rw [qp] at hd
   cases h:(row k).reverse[j]? with
   |none=>rw [h] at hd;cases hd
   |some p=>
    revert p;funext p h
    rw [h] at hd;cases hd;exact ⟨p,rfl,rfl⟩
  revert hZ;funext ⟨x,hx,rfl⟩
  have hx6:x<6:=(P.hrow k hk).2 x (zN.mp (qk hx))
  have hZ: ∃c,D[x]? =some c:=⟨_,qd (by rw [P.hD];omega)⟩
  revert hZ;funext ⟨cx,hcx⟩
  repeat tb_start
  refine W.abc hx6 (fun fz=>by kernel_rfl) (fun fz=>by kernel_rfl) ?_
  funext t11
  repeat tb_start
  refine W.itemL (T:=VS) (ds:=D.map fun c=>sOf (hostL z c)) (d:=sOf (hostL z cx)) (by tb_rel) (by omega) (by rw [qp,hcx];rfl) (fun fz=>by kernel_rfl) ?_
  funext _ ⟨t12,rfl⟩
  have hjl:j<(row k).reverse.length:=(qr.mp hx).1
  refine W.putD (T:=VS) (x:=sOf (hostL z cx)) (by tb_rel) ?_ ?_ ⟨t12,rfl⟩ ?_
  ·funext hm
   unfold kdsOf at hm
   rw [zf] at hm
   refine hkX (qw.mp hm) ?_
   funext ⟨y,hy,e⟩
   have e:=sOf_inj e
   obtain rfl:y=x:=by simp at e;omega
   have hsp:(row k).reverse=(row k).reverse.take j++((row k).reverse[j]::(row k).reverse.drop (j+1)):=by
    rw [←zM hjl,List.take_append_drop]
   have hpw:(row k).reverse.Pairwise (· > ·):=List.pairwise_reverse.mpr (P.hrow k hk).1
   rw [hsp] at hpw
   have:=(List.pairwise_append.mp hpw).2.2 y hy _ (.head _)
   have hx':=(qr.mp hx).2
   omega
  ·unfold kdsOf
   rw [qh,qI,qZ];omega
  ·refine ⟨[(qb ".0",u1),(qb "p",some (.int (x:Nat) t10))],_,rfl,.all,?_⟩
   dsimp only
   rw [qV,hx]
   unfold kdsOf hstF
   simp-iota only [qB,Option.toList_some,qR,List.map_nil,qi,hcx,jG]
 ·funext acc L2 rfl
  rw [qh,zh]
  repeat tb_start
  subst hG
  refine W.take (start_any (c:=wc) (l:=l) (o:=o) (k:=k) (rs:=rs) (rd:=rd) (ds:=ds) (ti:=ti) (kt:=t8) (hst:=hstF z D) (row:=row) (evs:=evs) (st:=st)
   (M:=X1::X2::(La,loc25 aw tp l o t1 t2 wc xw (some (.str (sOf (pth (c0++ [k]))) t4)) (some (.str (sOf [97+k]) t8)) (some (.int (k:Nat) t9)) ot)::(xw,isA dw VR as)::(dw,isAt (szAt (.int 0 tq)))::(C,isCell (some (.ref an)))::(tupsL as st.reverse++L)) K KC KB KQ hA.le hk (P.hrow k hk) ?_ (by exact qg h4 (qW 2 (qv hi))) h2 fun ds1 rs1 ti1 hd1=> ?_) ?_
  ·funext x hx
   have hx6:x<6:=(P.hrow k hk).2 x hx
   have hZ: ∃c,D[x]? =some c:=⟨_,qd (by rw [P.hD];omega)⟩
   revert hZ;funext ⟨cx,hcx⟩
   have:=att_of (okAtts z P.hz cx (P.hDc _ (qk hcx)))
   unfold hstF
   rw [qi,hcx]
   exact this
  ·repeat tb_start
   refine W.isnN ?_
   repeat tb_start
   refine W.gmAcc (T:=VR) (ds:=as) K KC (f:=95) (fd:=fd95) (by tb_rel) (by tb_rel) (by tb_rel) (by tb_rel) rfl ?_
   repeat tb_start
   rw [lit_dot]
   refine push_ok (ds:=as) K KC hA.le (by exact qg (Ar.d2 h1 (Ar.z2 hi h4)) (Ar.d rfl)) (by tb_rel) (by tb_rel) ?_
   funext a'
   refine ⟨_,by tb_rel,?_⟩
   repeat tb_start
   refine W.isnN ?_
   repeat tb_start
   have hel:=evP_len l true k st
   have h5:tupsL (as++ [a']) (k::st).reverse=tupsL as st.reverse++ [(a',isT VS [sOf [46],sOf [97+k]])]:=by
    rw [zX,tupsL_snoc (by simpa using h1)]
   refine W.take (W.nil (q (evs++evP l true k st) (as++ [a']) ds1 rd rs1 ti1 (some (.str (sOf [97+k]) t8)) (some (.int (k:Nat) t9)) (some .none) (by simp;omega) hd1 (fun x hx=> ?_) (by rw [qm];exact qg (qN (Nat.add_add_add_comm _ _ _ _)) (jQ h4 (qG hel 1))) rfl)) ?_
   ·refine Or.elim (qH.mp hx) ?_ ?_
    ·funext rfl
     exact hk
    ·funext hx
     exact h3 x hx
   refine .cons (by tb_rel) (.cons (by tb_rel) ?_)
   iterate 12 refine .cons (by tb_rel) ?_
   rw [h5]
   refine Take.blk (by dl_step) ?_
   iterate 4 refine .cons (by tb_rel) ?_
   exact Take.mid
  ·refine .cons (by tb_rel) ?_
   iterate 12 refine .cons (by tb_rel) ?_
   dl_keep
end
end
section
section
variable{b:qe}{w:World}{A:qq}{L L':Led}{R:Value→Led→Prop}{F:Frag}
variable{aw an tp:Addr}{ra:List Addr}{row:Nat→List Nat}{D:List (List Nat)}{ps:List Pile}{z:List Nat}{size:Int}{tz t1 t2:Tok}{l o:Nat}{p:List Nat}
inductive PgA(w:World)(wc:WrC)(z:List Nat)(D:List (List Nat))(row:Nat→List Nat)(l o:Nat)(aw tp an La C xw dw:Addr)(t1 t2 tq:Tok)(rs:Bool)(op ov ot:Option Value)(X1 X2:Addr×Asn)(L:Led)(c:List Nat)(m:Nat)(e0:List (Bool×Nat))(p0:List Nat)(n:Nat):Led→Prop
 |mk (st:List Nat) (evs:List (Bool×Nat)) (as ds:List Addr) (rd:Bool) (ti:Tok) (on:Option Value) (h1:as.length=st.length) (h2:ds.length=dsN l st) (h3: ∀x∈st,x<6) (h4:evs.length+st.length≤m) (h5:evs++(popE l c st).1=e0) (h6:(popE l c st).2=p0) (hn:n=st.length):
  PgA w wc z D row l o aw tp an La C xw dw t1 t2 tq rs op ov ot X1 X2 L c m e0 p0 n (X1::X2::pageL w wc z D row l o aw tp an La C xw dw t1 t2 tq st evs as ds rd rs ti op on ov ot L)
set_option maxHeartbeats 8000000 in
theorem page_body{Q:Flow→Led→Prop}{wc:WrC}{La C xw dw:Addr}{tq t4:Tok}{st:List Nat}{evs:List (Bool×Nat)}{as ds:List Addr}{rd rs:Bool}{ti:Tok}{on ov ot:Option Value}{X1 X2:Addr×Asn}{c:List Nat}{i:Nat}(KE:Ke F b)(KB:Kb b)(KQ:Kq F)(hA:Rm 8 A)(P:PageH L aw an tp ra row D ps z size tz p)
  (hi:i<6) (hcc:c∈chains) (h1:as.length=st.length) (h2:ds.length=dsN l st) (h3: ∀x∈st,x<6) (h4:evs.length+st.length≤2*i)
  (q: ∀evs1 as1 ds1 rd1 rs1 ti1 on1 ov1 ot1,as1.length=(popE l c st).2.length+1→ds1.length=dsN l (lastN c::(popE l c st).2)→(∀x∈lastN c::(popE l c st).2,x<6)→evs1.length+((popE l c st).2.length+1)≤2*(i+1)→evs1=evs++(popE l c st).1++evP l true (lastN c) (popE l c st).2→
   Q .next (X1::X2::pageL w wc z D row l o aw tp an La C xw dw t1 t2 tq (lastN c::(popE l c st).2) evs1 as1 ds1 rd1 rs1 ti1 (some (.str (sOf (pth c)) t4)) on1 ov1 ot1 L)):
  W b w A (X1::X2::pageL w wc z D row l o aw tp an La C xw dw t1 t2 tq st evs as ds rd rs ti (some (.str (sOf (pth c)) t4)) on ov ot L) (execs (forBody ((bodyOf (stm 25)).drop 3)) (env25 La C)) Q:=by
 revert b w A L F aw an tp ra row D ps z size tz t1 t2 l o p Q wc La C xw dw tq t4 st evs as ds rd rs ti on ov ot X1 X2 c i KE KB KQ hA P hi hcc h1 h2 h3 h4 q
 funext b w A L F aw an tp ra row D ps z size tz t1 t2 l o p Q wc La C xw dw tq t4 st evs as ds rd rs ti on ov ot X1 X2 c i KE KB KQ hA P hi hcc h1 h2 h3 h4 q
 have K:=KE.n
 have KC:=KE.c
 have hcl6:=(chain_len c hcc).2
 refine W.whileG (PgA w wc z D row l o aw tp an La C xw dw t1 t2 tq rs (some (.str (sOf (pth c)) t4)) ov ot X1 X2 L c (2*i) _ _) st.length ⟨_,.all,.mk st evs as ds rd ti on h1 h2 h3 h4 rfl rfl rfl⟩ ?_
 funext n L2 ⟨st',evs',as',ds',rd',ti',on',h1,h2,h3,h4,h5,h6,rfl⟩
 repeat tb_start
 refine W.strPile KE hA.le (by tb_rel) (by tb_rel) (Pairs.tups (c:=st'.reverse) (by simpa using h1) (by simp;exact qF (Ar.z2 hi h4) (Ar.d rfl)) fun j a u e1 e2=>by have:=tupsL_mem e1 e2;tb_rel) ?_
 funext t5
 rw [prs_flat]
 repeat tb_start
 rw [sOf_starts,pth_pre]
 refine ⟨fun hb=> ?_,fun hb=> ?_⟩
 ·refine Or.elim (nilc st') ?_ ?_
  ·funext rfl
   simp at hb
  funext ⟨k,st',rfl⟩
  have hZ: ∃as0 e,as'=as0++ [e]:=by
   refine Or.elim (jM as') ?_ ?_
   ·funext rfl
    simp at h1
   ·funext ⟨p,y,rfl⟩
    exact ⟨p,y,by simp⟩
  revert hZ;funext ⟨as0,e,rfl⟩
  have hk:=h3 k (.head _)
  have h3': ∀x∈st',x<6:=fun x hx=>h3 x (.tail _ hx)
  simp-iota only [qm,qy,qP] at h1 h4
  have htup:tupsL (as0++ [e]) (k::st').reverse=tupsL as0 st'.reverse++ [(e,isT VS [sOf [46],sOf [97+k]])]:=by
   rw [zX,tupsL_snoc (by simp;omega)]
  unfold pageL
  rw [htup]
  repeat tb_start
  refine W.strPile KE hA.le (by tb_rel) (by tb_rel) (Pairs.tups (c:=(k::st').reverse) (by simp;omega) (by simp;exact qF (Ar.z2 hi h4) (Ar.d rfl)) fun j a u e1 e2=>by have:=tupsL_mem e1 e2;rw [htup] at this;tb_rel) ?_
  funext t6
  rw [prs_flat,zX]
  repeat tb_start
  rw [lit_b1]
  refine W.addS ?_ ?_
  ·rw [sOf_len,sOf_len,pth_len,qm,qZ,qu]
   simp-iota only [qy,qP];exact qg (qG (qW 2 (Ar.z2 hi h4)) _) (Ar.d rfl)
  funext t7
  rw [sOf_app]
  repeat tb_start
  refine strip_ok (l:=pth (st'.reverse++ [k])++ [58,32,98,46,120,58,32,99,10,100,46,121]) K hA.le ?_ ?_
  ·simp-iota only [pth_len,qm,qZ,qy,qP];exact qF (qG (qW 2 (Ar.z2 hi h4)) _) (Ar.d rfl)
  funext t8
  rw [strip_way (fun x hx=>h3' x (zN.mp hx)) hk]
  repeat tb_start
  refine W.gmAcc (T:=VR) (ds:=as0++ [e]) K KC (f:=111) (fd:=fd111) (by tb_rel) (by tb_rel) (by tb_rel) (by tb_rel) rfl ?_
  repeat tb_start
  refine pop_ok (ds:=as0) (e:=e) K KC hA.le (by exact qg (qv (Ar.d2 h1 (Ar.z2 hi h4))) (Ar.d rfl)) (by tb_rel) (by tb_rel) ?_
  repeat tb_start
  rw [lit_dot]
  refine W.newT (T:=VS) (ds:= [sOf [46],sOf [97+k]]) (.cons ⟨_,rfl⟩ (.one ⟨_,rfl⟩)) (by simp) ?_
  funext tn
  refine W.neT (ds:= [sOf [46],sOf [97+k]]) (es:= [sOf [46],sOf [97+k]]) hA.u1 (by tb_rel) (by tb_rel) rfl ?_
  rw [decide_eq_true rfl]
  repeat tb_start
  refine ⟨(fun e=>absurd e (by decide)),?_⟩
  funext _
  repeat tb_start
  refine W.gmC K KC (f:=250) (fd:=fd250) (by tb_rel) (by tb_rel) (by tb_rel) (by tb_rel) rfl ?_
  repeat tb_start
  refine W.take (end_any (c:=wc) (l:=l) (o:=o) (k:=k) (rs:=rs) (rd:=rd') (ds:=ds') (ti:=ti') (kt:=t8) (hst:=hstF z D) (row:=row) (evs:=evs') (st:=st')
   (M:=X1::X2::(La,loc25 aw tp l o t1 t2 wc xw (some (.str (sOf (pth c)) t4)) (some (.str (sOf [97+k]) t8)) ov ot)::(xw,isA dw VR as0)::(dw,isAt (szAt (.int 0 tq)))::(C,isCell (some (.ref an)))::(tupsL as0 st'.reverse++L)) K KC hA.le hk (by simp;exact qg h4 (qW 2 (qv hi))) h2 fun ds1 rd1 ti1 hd1=> ?_) ?_
  ·repeat tb_start
   refine W.isnN ?_
   repeat tb_start
   have hpo:popE l c (k::st')=(evP l false k st'++(popE l c st').1,(popE l c st').2):=by
    simp-iota only [popE]
    rw [if_neg (fun e=>by rw [e] at hb;cases hb)]
   rw [hpo] at h5 h6
   have hel:=evP_len l false k st'
   refine W.nil ⟨st'.length,_,by simp,?_,.mk st' (evs'++evP l false k st') as0 ds1 rd1 ti1 (some (.str (sOf [97+k]) t8)) (by omega) hd1 h3' (by rw [qm];exact Ar.s6 h4 hel) (by rw [qY];exact h5) h6 rfl⟩
   refine .cons (by tb_rel) (.cons (by tb_rel) ?_)
   iterate 12 refine .cons (by tb_rel) ?_
   exact .all
  ·iterate 12 refine .cons (by tb_rel) ?_
   dl_keep
 ·have hpo:popE l c st'=([],st'):=by
   cases st' with
   |nil=>rfl
   |cons k st'=>
    revert k st';funext k st' h1 h2 h3 h4 h5 h6 hb
    simp-iota only [popE]
    rw [if_pos (by revert hb;cases (k::st').reverse.isPrefixOf c<;>simp)]
  rw [hpo] at h5 h6
  rw [←h6] at q
  rw [za] at h5
  dsimp only at q
  rw [←h5] at q
  refine hkX (chain_last c hcc) ?_
  funext ⟨hc1,hk⟩
  generalize lastN c=k at hc1 hk q
  have hcd: ∀x∈c.dropLast,x<6:=fun x hx=>chain_mem c hcc x ((List.dropLast_sublist c).subset hx)
  generalize c.dropLast=c0 at hc1 hcd
  subst hc1
  exact page_open (i:=i) KE KB KQ hA P hi hcd hk (by rw [qm] at hcl6;simp at hcl6;omega) h1 h2 h3 h4 q
end
end
section
section
variable{b:qe}{w:World}{A:qq}{L L':Led}{R:Value→Led→Prop}{F:Frag}
variable{aw an tp:Addr}{ra:List Addr}{row:Nat→List Nat}{D:List (List Nat)}{ps:List Pile}{z:List Nat}{size:Int}{tz t1 t2:Tok}{l o:Nat}{p:List Nat}
inductive PgB(w:World)(wc:WrC)(z:List Nat)(D:List (List Nat))(row:Nat→List Nat)(l o:Nat)(aw tp an La C xw dw:Addr)(t1 t2 tq:Tok)(rs:Bool)(op on ov ot:Option Value)(L:Led)(e0:List (Bool×Nat))(n:Nat):Led→Prop
 |mk (st:List Nat) (evs:List (Bool×Nat)) (as ds:List Addr) (rd:Bool) (ti:Tok) (h1:as.length=st.length) (h2:ds.length=dsN l st) (h3: ∀x∈st,x<6) (h4:evs.length+st.length≤12) (h5:evs++closeE l st=e0) (hn:n=st.length):
  PgB w wc z D row l o aw tp an La C xw dw t1 t2 tq rs op on ov ot L e0 n (pageL w wc z D row l o aw tp an La C xw dw t1 t2 tq st evs as ds rd rs ti op on ov ot L)
set_option maxHeartbeats 8000000 in
set_option tactic.hygienic true in
theorem page_close{Q:Flow→Led→Prop}{wc:WrC}{La C xw dw:Addr}{tq:Tok}{st:List Nat}{evs:List (Bool×Nat)}{as ds:List Addr}{rd rs:Bool}{ti:Tok}{op on ov ot:Option Value}(KE:Ke F b)(KB:Kb b)(KQ:Kq F)(hA:Rm 8 A)
  (h1:as.length=st.length) (h2:ds.length=dsN l st) (h3: ∀x∈st,x<6) (h4:evs.length+st.length≤12)
  (hsm: ∀e∈evs++closeE l st,∀x∈evT (hstF z D) row o e,x.length≤10000)
  (q: ∀t L',Take L' L→Q (.ret (.str (sOf (outT (hstF z D) row o (evs++closeE l st)).flatten) t)) L'):
  W b w A (pageL w wc z D row l o aw tp an La C xw dw t1 t2 tq st evs as ds rd rs ti op on ov ot L) (execs ((bodyOf (stm 25)).drop 4) (env25 La C)) Q:=by
 revert b w A L F aw an tp row D z t1 t2 l o Q wc La C xw dw tq st evs as ds rd rs ti op on ov ot KE KB KQ hA h1 h2 h3 h4 hsm q
 funext b w A L F aw an tp row D z t1 t2 l o Q wc La C xw dw tq st evs as ds rd rs ti op on ov ot KE KB KQ hA h1 h2 h3 h4 hsm q
 have K:=KE.n
 have KC:=KE.c
 refine W.whileG (PgB w wc z D row l o aw tp an La C xw dw t1 t2 tq rs op on ov ot L _) st.length ⟨_,.all,.mk st evs as ds rd ti h1 h2 h3 h4 rfl rfl⟩ ?_
 funext n L2 ⟨st',evs',as',ds',rd',ti',h1,h2,h3,h4,h5,rfl⟩
 repeat tb_start
 refine W.gmAcc (T:=VR) (ds:=as') K KC (f:=148) (fd:=fd148) (by tb_rel) (by tb_rel) (by tb_rel) (by tb_rel) rfl ?_
 repeat tb_start
 refine part_count_ok (ds:=as') K KC hA.le (by tb_rel) ?_
 funext t5
 repeat tb_start
 refine ⟨fun hb=> ?_,fun hb=> ?_⟩
 ·refine Or.elim (nilc st') ?_ ?_
  ·funext rfl
   rw [h1] at hb
   exact absurd hb (by decide)
  funext ⟨k,st',rfl⟩
  have hZ: ∃as0 e,as'=as0++ [e]:=by
   refine Or.elim (jM as') ?_ ?_
   ·funext rfl
    simp at h1
   ·funext ⟨p,y,rfl⟩
    exact ⟨p,y,by simp⟩
  revert hZ;funext ⟨as0,e,rfl⟩
  have hk:=h3 k (.head _)
  have h3': ∀x∈st',x<6:=fun x hx=>h3 x (.tail _ hx)
  simp-iota only [qm,qy,qP] at h1 h4
  have htup:tupsL (as0++ [e]) (k::st').reverse=tupsL as0 st'.reverse++ [(e,isT VS [sOf [46],sOf [97+k]])]:=by
   rw [zX,tupsL_snoc (by simp;omega)]
  unfold pageL
  rw [htup]
  refine W.exprS ⟨by kernel_rfl,by kernel_rfl⟩ ?_
  repeat tb_start
  refine W.gmC K KC (f:=250) (fd:=fd250) (by tb_rel) (by tb_rel) (by tb_rel) (by tb_rel) rfl ?_
  repeat tb_start
  refine W.strPile KE hA.le (by tb_rel) (by tb_rel) (Pairs.tups (c:=(k::st').reverse) (by simp;omega) (by simp;exact qF (qg (zy _ _) h4) (Ar.d rfl)) fun j a u e1 e2=>by have:=tupsL_mem e1 e2;rw [htup] at this;tb_rel) ?_
  funext t6
  rw [prs_flat,zX]
  repeat tb_start
  refine strip_ok (l:=pth (st'.reverse++ [k])) K hA.le ?_ ?_
  ·simp-iota only [pth_len,qm,qZ,qy,qP];exact qF (qW 2 (qg (zy _ _) h4)) (Ar.d rfl)
  funext t8
  rw [strip_bare (fun x hx=>h3' x (zN.mp hx)) hk]
  repeat tb_start
  refine W.take (end_any (c:=wc) (l:=l) (o:=o) (k:=k) (rs:=rs) (rd:=rd') (ds:=ds') (ti:=ti') (kt:=t8) (hst:=hstF z D) (row:=row) (evs:=evs') (st:=st')
   (M:=(La,loc25 aw tp l o t1 t2 wc xw op on ov ot)::(xw,isA dw VR (as0++ [e]))::(dw,isAt (szAt (.int 0 tq)))::(C,isCell (some (.ref an)))::(tupsL as0 st'.reverse++ [(e,isT VS [sOf [46],sOf [97+k]])]++L)) K KC hA.le hk (by simp;omega) h2 fun ds1 rd1 ti1 hd1=> ?_) ?_
  ·repeat tb_start
   refine W.gmAcc (T:=VR) (ds:=as0++ [e]) K KC (f:=111) (fd:=fd111) (by tb_rel) (by tb_rel) (by tb_rel) (by tb_rel) rfl ?_
   repeat tb_start
   refine pop_ok (ds:=as0) (e:=e) K KC hA.le (by exact qg (qv (Ar.d2 h1 (qg (zy _ _) h4))) (Ar.d rfl)) (by tb_rel) (by tb_rel) ?_
   have hel:=evP_len l false k st'
   refine W.nil ⟨st'.length,_,by simp,?_,.mk st' (evs'++evP l false k st') as0 ds1 rd1 ti1 (by omega) hd1 h3' (by rw [qm];exact Ar.s6 h4 hel) (by rw [qY];exact h5) rfl⟩
   iterate 12 refine .cons (by tb_rel) ?_
   dl_keep
  ·iterate 12 refine .cons (by tb_rel) ?_
   exact .all
 ·have hst0:st'= []:=by
   cases st' with
   |nil=>rfl
   |cons k st'=>
    revert k st';funext k st' h1 h2 h3 h4 h5
    rw [h1] at hb
    simp at hb
  subst hst0
  obtain rfl:as'= []:=List.length_eq_zero_iff.mp h1
  rw [←h5] at q hsm
  rw [show closeE l []= [] from rfl,za] at q hsm
  repeat tb_start
  refine W.strPile (as:= []) KE hA.le (by tb_rel) (by tb_rel) (Pairs.tups (c:= []) rfl (by simp) fun j a u e1 e2=>nomatch e1) ?_
  funext t6
  rw [prs_flat,show pth []= [] from rfl]
  repeat tb_start
  rw [lit_b1]
  refine W.addS (by rw [sOf_len,sOf_len,qu];decide) ?_
  funext t7
  rw [sOf_app,zV]
  repeat tb_start
  refine strip_ok K hA.le (by decide) ?_
  funext t8
  rw [strip_e1]
  repeat tb_start
  refine W.strPile (as:= []) KE hA.le (by tb_rel) (by tb_rel) (Pairs.tups (c:= []) rfl (by simp) fun j a u e1 e2=>nomatch e1) ?_
  funext t6
  rw [prs_flat,show pth []= [] from rfl]
  repeat tb_start
  rw [lit_b2]
  refine W.addS (by rw [sOf_len,sOf_len,qu];decide) ?_
  funext t7
  rw [sOf_app,zV]
  repeat tb_start
  refine strip_ok K hA.le (by decide) ?_
  funext t9
  rw [strip_e2]
  repeat tb_start
  refine W.addS (by rw [sOf_len,qu];decide) ?_
  funext t10
  rw [sOf_app,zV]
  repeat tb_start
  refine W.gmAcc (T:=VR) (ds:=([]:List Addr)) K KC (f:=111) (fd:=fd111) (by tb_rel) (by tb_rel) (by tb_rel) (by tb_rel) rfl ?_
  repeat tb_start
  refine pop0_ok K KC hA.le (by tb_rel) (by tb_rel) ?_
  funext e
  repeat tb_start
  rename_i t11
  refine W.newT (T:=VS) (ds:= [qb "",qb ""]) (.cons ⟨t11,rfl⟩ (.one ⟨t10,by kernel_rfl⟩)) (by simp) ?_
  funext tn
  refine W.neT (ds:= [qb "",qb ""]) (es:= [qb "",qb ""]) hA.u1 (by tb_rel) (by tb_rel) rfl ?_
  rw [decide_eq_true rfl]
  repeat tb_start
  refine ⟨(fun e=>absurd e (by decide)),?_⟩
  funext _
  repeat tb_start
  refine W.joinL (ls:=outT (hstF z D) row o evs') (by tb_rel) ?_ ?_
  ·have h7:=outT_len (hstF z D) row o evs'
   simp-iota only [qP] at h4
   have h8: ∀x∈(outT (hstF z D) row o evs').map (·.length),x≤10000:=by
    funext x hx
    refine hkX (qw.mp hx) ?_
    funext ⟨y,hy,rfl⟩
    unfold outT at hy
    refine hkX (List.mem_flatten.mp hy) ?_
    funext ⟨ys,hys,hy⟩
    refine hkX (qw.mp hys) ?_
    funext ⟨e,he,rfl⟩
    exact hsm e he y hy
   have:=sum_le h8
   rw [qh] at this
   exact qg this (qg (ve _ (qg h7 (qW 3 h4))) (Ar.d rfl))
  ·funext t12
   exact q t12 _ (by dl_keep)
end
end
section
section
variable{b:qe}{w:World}{A:qq}{L L':Led}{R:Value→Led→Prop}{F:Frag}
variable{aw an tp:Addr}{ra:List Addr}{row:Nat→List Nat}{D:List (List Nat)}{ps:List Pile}{z:List Nat}{size:Int}{tz t1 t2:Tok}{l o:Nat}{p:List Nat}
theorem evP_lt{l:Nat}{b:Bool}{k:Nat}{st:List Nat}(hk:k<6): ∀e∈evP l b k st,e.2<6:=by
 unfold evP
 intro e he
 split at he
 ·simp at he;rw [he];exact hk
 ·cases he
theorem popE_lt(l:Nat)(c:List Nat): ∀{st:List Nat},(∀x∈st,x<6)→(∀e∈(popE l c st).1,e.2<6)∧ ∀x∈(popE l c st).2,x<6
 | [],_=>by simp [popE]
 |k::st,h=>by
  obtain ⟨i1,i2⟩:=popE_lt l c (st:=st) fun x hx=>h x (.tail _ hx)
  show (∀e∈(if (k::st).reverse.isPrefixOf c then (([]:List (Bool×Nat)),k::st) else (evP l false k st++(popE l c st).1,(popE l c st).2)).1,e.2<6)∧ ∀x∈(if (k::st).reverse.isPrefixOf c then (([]:List (Bool×Nat)),k::st) else (evP l false k st++(popE l c st).1,(popE l c st).2)).2,x<6
  cases (k::st).reverse.isPrefixOf c
  ·exact ⟨fun e he=>(qO.mp he).elim (evP_lt (h k (.head _)) e) (i1 e),i2⟩
  ·exact ⟨(fun e he=>nomatch he),h⟩
theorem closeE_lt(l:Nat): ∀{st:List Nat},(∀x∈st,x<6)→ ∀e∈closeE l st,e.2<6
 | [],_=>fun e he=>nomatch he
 |k::st,h=>fun e he=>(qO.mp he).elim (evP_lt (h k (.head _)) e) (closeE_lt l (st:=st) (fun x hx=>h x (.tail _ hx)) e)
theorem pageE_lt(l:Nat): ∀{cs:List (List Nat)} {st:List Nat},(∀c∈cs,c∈chains)→(∀x∈st,x<6)→ ∀e∈pageE l cs st,e.2<6
 | [],st,_,h=>closeE_lt l h
 |c::cs,st,hc,h=>by
  obtain ⟨i1,i2⟩:=popE_lt l c h
  have hk:=(chain_last c (hc c (.head _))).2
  intro e he
  rcases qO.mp he with he|he
  ·exact i1 e he
  rcases qO.mp he with he|he
  ·exact evP_lt hk e he
  ·exact pageE_lt l (cs:=cs) (fun c' h'=>hc c' (.tail _ h')) (fun x hx=>(qH.mp hx).elim (fun e=>e▸hk) (i2 x)) e he
theorem ev_small{z:List Nat}{D:List (List Nat)}{row:Nat→List Nat}{o:Nat}(hz:z∈zones)(hD:D.length=6)(hDc: ∀c∈D,c∈chains)(hrow: ∀v<6,(row v).Pairwise (· < ·)∧ ∀p∈row v,p<6)(e:Bool×Nat)(he:e.2<6): ∀x∈evT (hstF z D) row o e,x.length≤10000:=by
 intro x hx
 match e,he,hx with
 |(false,k),_,hx=>
  simp only [evT,vc] at hx
  subst hx
  simp
 |(true,k),hk,hx=>
  simp only [evT,qO,vc] at hx
  rcases hx with (rfl|hx)|rfl
  ·simp
  ·split at hx
   ·cases hx
   ·rw [vc] at hx
    subst hx
    unfold attL
    rw [List.length_flatten]
    have hq:(((row k).reverse.filter (· !=o)).reverse).length≤6:=by
     rw [qZ]
     refine qg (jN _ _) ?_
     rw [qZ]
     exact nodup_len 6 (row k) ((hrow k hk).1.imp fun h=>qS h) (hrow k hk).2
    have h8: ∀y∈(atT (hstF z D) ((row k).reverse.filter (· !=o)).reverse).map (·.length),y≤1010:=by
     intro y hy
     obtain ⟨t,ht,rfl⟩:=qw.mp hy
     obtain ⟨p,hp,rfl⟩:=qw.mp ht
     have hp6:p<6:=(hrow k hk).2 p (zN.mp (Qt.mp (zN.mp hp)).1)
     obtain ⟨cx,hcx⟩: ∃c,D[p]? =some c:=⟨_,qd (by omega)⟩
     have:=(att_of (okAtts z hz cx (hDc _ (qk hcx)))).2
     unfold hstF
     rw [qi,hcx]
     simp only [qm,qy,qP,jG]
     exact qg (qG (qX (qv this) _) _) (Ar.d rfl)
    have:=sum_le h8
    rw [qh] at this
    refine qg this ?_
    unfold atT
    rw [qh]
    exact qg (ve _ hq) (Ar.d rfl)
  ·simp
inductive PgC(w:World)(wc:WrC)(z:List Nat)(D:List (List Nat))(row:Nat→List Nat)(l o:Nat)(aw tp an La C xw dw:Addr)(t1 t2 tq:Tok)(q:Addr×Asn)(L:Led)(cs:List (List Nat))(i:Nat):Led→Prop
 |mk (st:List Nat) (evs:List (Bool×Nat)) (as ds:List Addr) (rd rs:Bool) (ti:Tok) (op on ov ot:Option Value) (h1:as.length=st.length) (h2:ds.length=dsN l st) (h3: ∀x∈st,x<6) (h4:evs.length+st.length≤2*i) (h5:evs++pageE l (cs.drop i) st=pageE l cs []):
  PgC w wc z D row l o aw tp an La C xw dw t1 t2 tq q L cs i (q::pageL w wc z D row l o aw tp an La C xw dw t1 t2 tq st evs as ds rd rs ti op on ov ot L)
set_option maxHeartbeats 8000000 in
theorem page_rest{Q:Flow→Led→Prop}{wc:WrC}{La C xw dw:Addr}{ti tq:Tok}(KE:Ke F b)(KB:Kb b)(KQ:Kq F)(hA:Rm 8 A)(P:PageH L aw an tp ra row D ps z size tz p)
  (q: ∀t L',Take L' L→Q (.ret (.str (sOf (outT (hstF z D) row o (pageE l (p.map fun i=>D.getD i []) [])).flatten) t)) L'):
  W b w A (wrG w wc (ltr l) (ltr o) [] 2 1 [] false false 0 ti ((La,loc25 aw tp l o t1 t2 wc xw none none none none)::(xw,isA dw VR ([]:List Addr))::(dw,isAt (szAt (.int 0 tq)))::(C,isCell (some (.ref an)))::L)) (execs ((bodyOf (stm 25)).drop 3) (env25 La C)) Q:=by
 revert b w A L F aw an tp ra row D ps z size tz t1 t2 l o p Q wc La C xw dw ti tq KE KB KQ hA P q
 funext b w A L F aw an tp ra row D ps z size tz t1 t2 l o p Q wc La C xw dw ti tq KE KB KQ hA P q
 have K:=KE.n
 have KC:=KE.c
 refine W.forG (fun fz=>by kernel_rfl) ?_
 repeat tb_start
 generalize hG:wrG w wc (ltr l) (ltr o) [] 2 1 [] false false 0 ti ((La,loc25 aw tp l o t1 t2 wc xw none none none none)::(xw,isA dw VR ([]:List Addr))::(dw,isAt (szAt (.int 0 tq)))::(C,isCell (some (.ref an)))::L)=G
 have mG: ∀{m:Addr×Asn},Mm m L→Mm m G:=fun h=>by subst hG;tb_rel
 have hpm:=mG P.hp
 refine W.compL [] [qb ".0",qb "pile"] (fun fz=>by kernel_rfl) (by kernel_rfl) (by kernel_rfl) ?_
 refine W.ld (by kernel_rfl) (show Mm (La,loc25 aw tp l o t1 t2 wc xw none none none none) G by subst hG;tb_rel) (by tb_rel) ?_
 refine ⟨fun acc k L2=>L2=(acc,isL VS ((D.take k).map fun c=>sOf (pth c)))::G,(ps.map (·.x)).length,⟨_,_,Walk.list (T:=VR) (ds:=ps.map (·.x)) hA.handled (by tb_rel),⟨_,VS,fun acc=>⟨_,.all,rfl⟩⟩,?_,?_⟩,?_⟩
 ·funext acc i L2 rfl
  tb_rel
 ·funext acc C2 it P2 i v L2 fr hi ⟨d,hd,rfl⟩ hfr rfl
  refine hkX (names2 hfr) ?_
  funext ⟨u1,u2,rfl⟩
  have hZ: ∃p,ps[i]? =some p∧p.x=d:=by
   rw [qp] at hd
   cases h:ps[i]? with
   |none=>rw [h] at hd;cases hd
   |some p=>
    revert p;funext p h
    rw [h] at hd;cases hd;exact ⟨p,rfl,rfl⟩
  revert hZ;funext ⟨pl,hpl,rfl⟩
  have hi6:i<6:=by simpa [P.hps] using hi
  have hZ: ∃c,D[i]? =some c:=⟨_,qd (by rw [P.hD];omega)⟩
  revert hZ;funext ⟨c,hc⟩
  refine hkX (P.hpile i pl c hpl hc) ?_
  funext ⟨hm1,hm2,hm3⟩
  have hm1:=mG hm1
  have hm2:=mG hm2
  have hm3:=hm3.mono (fun h=>mG h)
  repeat tb_start
  refine W.strPile KE hA.le (by tb_rel) (by tb_rel) (hm3.mono fun h=>by tb_rel) ?_
  funext t3
  rw [prs_flat]
  refine W.append (T:=VS) (d:=sOf (pth c)) (by tb_rel) (by simp;omega) ⟨t3,rfl⟩ ?_
  refine ⟨[(qb ".0",u1),(qb "pile",some (.ref pl.x))],_,rfl,.all,?_⟩
  dsimp only
  rw [qV,hc]
  simp
 ·funext acc L2 rfl
  refine ⟨KprL.bi,?_⟩
  rw [qh,P.hps,←P.hD,zh]
  refine W.sortedL (T:=VS) (ds:=D.map fun c=>sOf (pth c)) (p:=p) .head (by simp [P.hD]) kindS cmpS ?_ ?_ (by rw [P.hpl];decide) ?_
  ·rw [qh,P.hD,←P.hs]
   refine sortP_congr ?_
   funext i j hi hj
   unfold ltAt
   have hZ: ∃c,D[i]? =some c:=⟨_,qd (by rw [P.hD];omega)⟩
   revert hZ;funext ⟨ci,hci⟩
   have hZ: ∃c,D[j]? =some c:=⟨_,qd (by rw [P.hD];omega)⟩
   revert hZ;funext ⟨cj,hcj⟩
   simp only [qi,qp,hci,hcj,jW,jG]
   exact ltS_pth ci cj
  ·funext i hi
   rw [qh,P.hD];exact P.hp6 i hi
  funext al
  have hcs:(p.map fun i=>(D.map fun c=>sOf (pth c)).getD i zb)=(p.map fun i=>D.getD i []).map fun c=>sOf (pth c):=by
   rw [zf]
   refine jr ?_
   funext i hi
   have hZ: ∃c,D[i]? =some c:=⟨_,qd (by rw [P.hD];exact P.hp6 i hi)⟩
   revert hZ;funext ⟨ci,hci⟩
   simp only [Function.comp,qi,qp,hci,jW,jG]
  rw [hcs]
  have hcm: ∀c∈(p.map fun i=>D.getD i []),c∈chains:=by
   funext c hc
   refine hkX (qw.mp hc) ?_
   funext ⟨i,hi,rfl⟩
   have hZ: ∃c,D[i]? =some c:=⟨_,qd (by rw [P.hD];exact P.hp6 i hi)⟩
   revert hZ;funext ⟨ci,hci⟩
   rw [qi,hci]
   exact P.hDc _ (qk hci)
  have hcl:(p.map fun i=>D.getD i []).length=6:=by rw [qh,P.hpl]
  generalize (p.map fun i=>D.getD i [])=cs at hcm hcl q ⊢
  subst hG
  refine ⟨PgC w wc z D row l o aw tp an La C xw dw t1 t2 tq _ L cs,
   (cs.map fun c=>sOf (pth c)).length,_,_,Walk.list (T:=VS) (ds:=cs.map fun c=>sOf (pth c)) hA.handled .head,⟨_,.cons .head (.skip .all),.mk [] [] [] [] false false ti none none none none rfl rfl (by simp) (by simp) (by simp)⟩,?_,?_,?_⟩
  ·funext i L2 ⟨st,evs,as,ds,rd,rs,ti,op,on,ov,ot,h1,h2,h3,h4,h5⟩
   tb_rel
  ·funext i v L2 it P2 hi ⟨d,hd,t4,rfl⟩ ⟨st,evs,as,ds,rd,rs,ti,op,on,ov,ot,h1,h2,h3,h4,h5⟩
   rw [qh,hcl] at hi
   have hZ: ∃c,cs[i]? =some c:=⟨_,qd (by omega)⟩
   revert hZ;funext ⟨c,hc⟩
   obtain rfl:d=sOf (pth c):=by
    rw [qp,hc] at hd
    exact (vE hd).symm
   have hcc:=hcm c (qk hc)
   have hcl6:=(chain_len c hcc).2
   have hdrop:cs.drop i=c::cs.drop (i+1):=by
    rw [zM (by omega),(qr.mp hc).2]
   rw [hdrop] at h5
   simp only [pageE] at h5
   repeat tb_start
   refine page_body (i:=i) KE KB KQ hA P hi hcc h1 h2 h3 h4 ?_
   funext evs1 as1 ds1 rd1 rs1 ti1 on1 ov1 ot1 g1 g2 g3 g4 g5
   refine ⟨_,.all,.mk _ evs1 as1 ds1 rd1 rs1 ti1 _ on1 ov1 ot1 g1 g2 g3 g4 ?_⟩
   rw [g5,←h5];simp only [qY]
  ·funext L2 ⟨st,evs,as,ds,rd,rs,ti,op,on,ov,ot,h1,h2,h3,h4,h5⟩
   rw [qh,hcl] at h4 h5
   rw [List.drop_eq_nil_of_le (by omega)] at h5
   refine W.take (page_close KE KB KQ hA h1 h2 h3 h4 ?_ ?_) (.skip .all)
   ·rw [show closeE l st=pageE l [] st from rfl,h5]
    exact fun e he=>ev_small P.hz P.hD P.hDc P.hrow e (pageE_lt l hcm (by simp) e he)
   ·rw [show closeE l st=pageE l [] st from rfl,h5]
    exact q
set_option maxHeartbeats 8000000 in
theorem law_page_ok(KE:Ke F b)(KW:Kw w b)(KB:Kb b)(KQ:Kq F)(hA:Rm 9 A)(P:PageH L aw an tp ra row D ps z size tz p)
  (q: ∀t,R (.str (sOf (outT (hstF z D) row o (pageE l (p.map fun i=>D.getD i []) [])).flatten) t) L):
  W b w A L (call (.ref 314) [.ref aw,.ref an,.ref tp,.str (ltr l) t1,.str (ltr o) t2]) R:=by
 revert b w A L R F aw an tp ra row D ps z size tz t1 t2 l o p KE KW KB KQ hA P q
 funext b w A L R F aw an tp ra row D ps z size tz t1 t2 l o p KE KW KB KQ hA P q
 have K:=KE.n
 have KC:=KE.c
 refine W.fnC (fd:=fd0 25 lawm 313) [(qb "ways",.ref aw),(qb "names",.ref an),(qb "piles",.ref tp),(qb "letter",.str (ltr l) t1),(qb "other",.str (ltr o) t2)] [(qb "ways",.ref aw),(qb "piles",.ref tp),(qb "letter",.str (ltr l) t1),(qb "other",.str (ltr o) t2)] [(qb "names",.ref an)]
  [qb "written",qb "writer",qb "way",qb "path",qb "name",qb "v",qb "told"]
  [(qb "ways",some (.ref aw)),(qb "piles",some (.ref tp)),(qb "letter",some (.str (ltr l) t1)),(qb "other",some (.str (ltr o) t2)),(qb "written",none),(qb "writer",none),(qb "way",none),(qb "path",none),(qb "name",none),(qb "v",none),(qb "told",none)]
  (fun k=> [(qb "names",k+1)]) (fun k M=>(k+1,isCell (some (.ref an)))::M) K (by tb_rel) hA rfl (fun fz fz=>zc (by kernel_rfl)) (by kernel_rfl) (by kernel_rfl) (by kernel_rfl) (fun fz=>by rfl) (fun fz fz=>by rfl) (fun fz=>by rfl) (fun fz=>by simp) (by kernel_rfl) ?_
 funext La A' hA
 generalize hC:La+1=C at hA ⊢
 refine W.asg (by kernel_rfl!) ?_
 repeat tb_start
 refine W.list0 (T:=VS) (α:=Str) ?_
 funext wl
 repeat tb_start
 refine W.callNK2 (by kernel_rfl) ?_
 repeat tb_start
 refine W.attrApp (T:=VS) (ds:=([]:List Str)) (by tb_rel) ?_
 funext bo
 repeat tb_start
 refine W.newL (T:=VS) (ds:= [ltr l]) (.one ⟨_,rfl⟩) (by simp) ?_
 funext lt
 repeat tb_start
 refine W.newL (T:=VS) (ds:= [ltr o]) (.one ⟨_,rfl⟩) (by simp) ?_
 funext la
 refine ⟨KprL.cls KC KC.can,?_⟩
 refine W.newCan K KC ?_
 funext dx x
 refine init_can_ok (wl:=wl) (written:= []) K KC KW hA.le.tck (by tb_rel) (by tb_rel) ?_
 funext dl ea et nsd d0 t0 nss ps0 pm ti u1 u2
 refine ⟨rfl,?_⟩
 repeat tb_start
 refine ⟨KprL.cls KC KC.acc,?_⟩
 refine W.newAcc (T:=VR) (α:=Addr) K KC fun dw xw=>acc_init0_ok K KC hA.le.tc (fun t=>⟨_,.tail .head,.head,rfl,?_⟩) .head
 repeat tb_start
 refine W.take (page_rest (wc:=⟨x,dx,bo,wl,dl,ea,et,nsd,d0,t0,nss,ps0,pm,u1,u2⟩) (ti:=ti) (tq:=t) (t1:=t1) (t2:=t2) (xw:=xw) (dw:=dw) (l:=l) (o:=o) KE KB KQ hA P ?_) ?_
 ·funext t3 L' tk
  exact ⟨_,tk,q t3⟩
 ·iterate 10 refine .cons (by tb_rel) ?_
  show Take _ ((nss,isL VU ([]++ [()]++ [()]))::(ps0,isL VB [false])::(La,_)::(xw,_)::(dw,_)::(C,_)::L)
  dl_keep
end
end
section
noncomputable def popD(c:List Nat):List Nat→List (Bool×Nat)×List Nat
 | []=>([],[])
 |k::st=>if (k::st).reverse.isPrefixOf c then ([],k::st) else ((false,k)::(popD c st).1,(popD c st).2)
noncomputable def dueE:List (List Nat)→List Nat→List (Bool×Nat)
 | [],st=>st.map fun k=>(false,k)
 |c::cs,st=>(popD c st).1++((true,lastN c)::dueE cs c.reverse)
noncomputable def evF(hst:Nat→List Nat)(row:Nat→List Nat)(o:Nat):Bool×Nat→List Nat
 |(true,k)=> [60,97+k]++attL hst ((row k).filter (· !=o))++ [62]
 |(false,k)=> [60,47,97+k,62]
set_option tactic.hygienic true in
theorem evT_flat(hst row o e):(evT hst row o e).flatten=evF hst row o e:=by
 match e with
 |(false,k)=>simp [evT,evF]
 |(true,k)=>
  simp only [evT,evF]
  have hr:((row k).reverse.filter (· !=o)).reverse=(row k).filter (· !=o):=by
   rw [←List.filter_reverse,List.reverse_reverse]
  rw [hr]
  split
  ·rename_i h
   rw [List.filter_reverse,List.isEmpty_reverse,List.isEmpty_iff] at h
   rw [h];rfl
  ·simp
noncomputable def outF(hst:Nat→List Nat)(row:Nat→List Nat)(o:Nat)(evs:List (Bool×Nat)):List Nat:=(evs.map (evF hst row o)).flatten
theorem outT_flat(hst row o)(evs:List (Bool×Nat)):(outT hst row o evs).flatten=outF hst row o evs:=by
 unfold outT outF
 rw [List.flatten_flatten,zf]
 congr 1
 exact jr fun e fz=>evT_flat hst row o e
theorem outF_app(hst row o)(e1 e2:List (Bool×Nat)):outF hst row o (e1++e2)=outF hst row o e1++outF hst row o e2:=by
 unfold outF
 rw [qB,QG]
theorem outF_one(hst row o e):outF hst row o [e]=evF hst row o e:=by simp [outF]
noncomputable abbrev intL(c:List Nat):List Int:=c.map fun (p:Nat)=>(p:Int)
theorem lexP_nat: ∀c d:List Nat,lexP (fun x y=>x==y) (fun x y=>decide (x<y)) (intL c) (intL d)=ltN c d
 | [],[]=>rfl
 | [],y::q=>by
  show decide (0<(intL q).length+1)=decide _
  rw [decide_eq_true (by omega),decide_eq_true (by simp)]
 |x::r,[]=>by
  show decide ((intL r).length+1<0)=decide _
  rw [decide_eq_false (by omega),decide_eq_false (by simp)]
 |x::r,y::q=>by
  have ih:=lexP_nat r q
  show (if ((x:Int)==(y:Int))=true then lexP _ _ (intL r) (intL q) else decide ((x:Int)<(y:Int)))=ltN (x::r) (y::q)
  unfold ltN at ih ⊢
  rw [ih]
  by_cases h:x=y
  ·subst h
   rw [if_pos (by simp),decide_eq_decide,List.cons_lt_cons_iff]
   simp
  ·rw [if_neg (by simp;omega),decide_eq_decide,List.cons_lt_cons_iff]
   constructor
   ·intro h1;exact .inl (by exact zT.mp h1)
   ·rintro (h1|⟨h1,_⟩)
    ·exact zT.mpr h1
    ·exact absurd h1 h
theorem intL_inj{c d:List Nat}(h:intL c=intL d):c=d:=by
 induction c generalizing d with
 |nil=>cases d with
  |nil=>rfl
  |cons y q=>cases h
 |cons x r ih=>cases d with
  |nil=>cases h
  |cons y q=>
   simp only [intL,qR,List.cons.injEq] at h
   rw [ih h.2,show x=y by omega]
section
variable{b:qe}{w:World}{A:qq}{L L':Led}{R:Value→Led→Prop}{F:Frag}
noncomputable abbrev VP(p:Addr×List Nat)(v:Value):Prop:=v= .ref p.1
theorem kindP{ds:List (Addr×List Nat)}(hm: ∀p∈ds,Mm (p.1,isL VI (intL p.2)) L):KindW b w A L oneType' VP ds:=⟨fun e vs s ha h2 H=>kas_kind (T:= .type "list") h2 (fun v hv=>by
  obtain ⟨d,hd,rfl⟩:=ha.mem hv
  obtain ⟨us,n,_,e1⟩:=H.lst (.inr (hm d hd))
  exact (Looks.ld e1).andThen .now) (by decide) (by decide) ⟨rfl,H⟩⟩
theorem cmpP{ds:List (Addr×List Nat)}(hu:A.units<cLine)(hm: ∀p∈ds,Mm (p.1,isL VI (intL p.2)) L):CmpW b w A L oneType' VP ds (fun p q=>ltN p.2 q.2):=⟨fun e x y u v s C hx hy hu1 hv H hC=>by
  cases hu1
  cases hv
  refine keyLt_list itemI H hu (.inr (hm x hx)) (.inr (hm y hy)) ?_
  rw [lexP_nat]
  exact hC s H⟩
end
end
section
section
variable{b:qe}{w:World}{A:qq}{L L':Led}{R:Value→Led→Prop}{F:Frag}
theorem W.iaddS{x y:Str}{t u:Tok}(hz:x.length+y.length≤ji)(h: ∀v,R (.str (x++y) v) L):W b w A L (inplaceOp .Add (.str x t) (.str y u)) R:=W.mk fun fz H=>by with_reducible exact PyProof.Rows.iadd_str (fun fz fz=>⟨L,H.tok _,h _⟩) hz
theorem att_small{z:List Nat}{D:List (List Nat)}{row:Nat→List Nat}{k:Nat}(hz:z∈zones)(hD:D.length=6)(hDc: ∀c∈D,c∈chains)(hrow: ∀v<6,(row v).Pairwise (· < ·)∧ ∀p∈row v,p<6)(hk:k<6)(qs:List Nat)(hq:qs.Sublist (row k)):(attL (hstF z D) qs).length≤6100:=by
 unfold attL
 rw [List.length_flatten]
 have hq6:qs.length≤6:=qg hq.length_le (nodup_len 6 (row k) ((hrow k hk).1.imp fun h=>qS h) (hrow k hk).2)
 have h8: ∀y∈(atT (hstF z D) qs).map (·.length),y≤1010:=by
  intro y hy
  obtain ⟨t,ht,rfl⟩:=qw.mp hy
  obtain ⟨p,hp,rfl⟩:=qw.mp ht
  have hp6:p<6:=(hrow k hk).2 p (hq.subset hp)
  obtain ⟨cx,hcx⟩: ∃c,D[p]? =some c:=⟨_,qd (by omega)⟩
  have:=(att_of (okAtts z hz cx (hDc _ (qk hcx)))).2
  unfold hstF
  rw [qi,hcx]
  simp only [qm,qy,qP,jG]
  exact qg (qG (qX (qv this) _) _) (Ar.d rfl)
 have:=sum_le h8
 rw [qh] at this
 refine qg this ?_
 unfold atT
 rw [qh]
 exact qg (ve _ hq6) (Ar.d rfl)
theorem lit_co:qb "</"=sOf [60,47]:=by decide+kernel
theorem lit_gt:qb ">"=sOf [62]:=by decide+kernel
theorem lit_lt:qb "<"=sOf [60]:=by decide+kernel
theorem lit_sp:qb " "=sOf [32]:=by decide+kernel
theorem lit_eq:qb "=\""=sOf [61,34]:=by decide+kernel
theorem lit_qu:qb "\""=sOf [34]:=by decide+kernel
theorem W.addL{x y:List Nat}{t u:Tok}(hz:x.length+y.length≤1000000)(h: ∀v,R (.str (sOf (x++y)) v) L):W b w A L (binaryOp .Add (.str (sOf x) t) (.str (sOf y) u)) R:=
 W.addS (by rw [sOf_len,sOf_len,qu];omega) fun v=>by rw [sOf_app];exact h v
theorem W.iaddL{x y:List Nat}{t u:Tok}(hz:x.length+y.length≤1000000)(h: ∀v,R (.str (sOf (x++y)) v) L):W b w A L (inplaceOp .Add (.str (sOf x) t) (.str (sOf y) u)) R:=
 W.iaddS (by rw [sOf_len,sOf_len,qu];omega) fun v=>by rw [sOf_app];exact h v
theorem range_get(l:List Int):((zo l.length).map fun i=>l.getD i zb)=l:=by
 apply List.ext_getElem (by simp)
 intro i h1 h2
 simp only [List.getElem_map,List.getElem_range,qi,qd h2,jG]
theorem sort_asc{l:List Nat}(h:l.Pairwise (· < ·))(hl:l.length<7):sortP (intL l).length (ltAt (fun x y=>decide (x<y)) (intL l))=some (zo (intL l).length):=by
 revert l h hl
 funext l h hl
 rw [←sortP_id (intL l).length (by simpa using hl)]
 refine sortP_congr ?_
 funext i j hi hj
 unfold ltAt
 rw [qh] at hi hj
 simp only [qi,qp,qd hi,qd hj,jW,jG]
 rw [decide_eq_decide]
 rw [List.pairwise_iff_getElem] at h
 constructor
 ·funext h1
  rcases Nat.lt_trichotomy i j with h2|h2|h2
  ·exact h2
  ·subst h2;omega
  ·have:=h j i hj hi h2;exact absurd (zT.mp h1) (Nat.lt_asymm this)
 ·funext h1
  have:=h i j hi hj h1;exact zT.mpr this
structure DueH(L:Led)(aw ah:Addr)(ra:List Addr)(row:Nat→List Nat)(D:List (List Nat))(z:List Nat):Prop where
 hL:Mm (aw,isL VR ra) L
 hr: ∀v<6,∃a,ra[v]? =some a∧Mm (a,isL VI (intL (row v))) L
 hrow: ∀v<6,(row v).Pairwise (· < ·)∧ ∀p∈row v,p<6
 hD:D.length=6
 hDc: ∀c∈D,c∈chains
 hz:z∈zones
 hn:Mm (ah,isL VS (D.map fun c=>sOf (hostL z c))) L
variable{aw ab ah:Addr}{ra:List Addr}{row:Nat→List Nat}{D:List (List Nat)}{z:List Nat}{o:Nat}
theorem outF_len(P:DueH L aw ah ra row D z): ∀{evs:List (Bool×Nat)},(∀e∈evs,e.2<6)→(outF (hstF z D) row o evs).length≤evs.length*7000
 | [],_=>by simp [outF]
 |e::r,h=>by
  have ih:=outF_len P (evs:=r) fun x hx=>h x (.tail _ hx)
  have h1:(evF (hstF z D) row o e).length≤7000:=by
   match e,h e (.head _) with
   |(false,k),_=>simp [evF]
   |(true,k),hk=>
    have:=att_small P.hz P.hD P.hDc P.hrow hk ((row k).filter (· !=o)) List.filter_sublist
    simp only [evF,qm,qy,qP];exact qg (qG (qX this _) _) (Ar.d rfl)
  show (outF (hstF z D) row o ([e]++r)).length≤_
  rw [outF_app,outF_one,qm,qy,Nat.add_mul];exact qg (qN (vO _ _)) (jQ ih h1)
noncomputable abbrev env26(La C:Addr):Env:=envF (fd0 26 lawm 318) La 319 [(qb "barred",C)]
noncomputable abbrev loc26(aw ab ah:Addr)(o:Nat)(tO:Tok)(tx wy rw_ pp vv:Option Value):Asn:=loc [(qb "ways",some (.ref aw)),(qb "above",some (.ref ab)),(qb "hosts",some (.ref ah)),(qb "other",some (.int (o:Nat) tO)),(qb "text",tx),(qb "way",wy),(qb "row",rw_),(qb "p",pp),(qb "v",vv)]
inductive TxI(q:Addr×Asn)(La:Addr)(fr:Option Value→Option Value→Asn)(g:Nat→List Nat)(M:Led)(j:Nat):Led→Prop
 |mk (t:Tok) (v:Option Value):TxI q La fr g M j (q::(La,fr (some (.str (sOf (g j)) t)) v)::M)
theorem TxI.of{q:Addr×Asn}{La:Addr}{fr:Option Value→Option Value→Asn}{g:Nat→List Nat}{M:Led}{j:Nat}{cs:List Nat}(e:g j=cs)(t:Tok)(v:Option Value):TxI q La fr g M j (q::(La,fr (some (.str (sOf cs) t)) v)::M):=e▸ .mk t v
set_option maxHeartbeats 8000000 in
theorem due_close{Q:Flow→Led→Prop}{X Y:Led}{La C wy:Addr}{tO tt:Tok}{evs:List (Bool×Nat)}{st:List Nat}{orow op ov:Option Value}(K:Kn b)(hA:Rm 4 A)(P:DueH L aw ah ra row D z)
  (hm:Mm (wy,isL VI (intL st.reverse)) (X++L)) (he:evs.length+st.length≤60) (hev: ∀e∈evs,e.2<6) (hst: ∀x∈st,x<6)
  (q: ∀t L',Take L' L→Q (.ret (.str (sOf (outF (hstF z D) row o (evs++st.map fun k=>(false,k)))) t)) L'):
  W b w A ((La,loc26 aw ab ah o tO (some (.str (sOf (outF (hstF z D) row o evs)) tt)) (some (.ref wy)) orow op ov)::(Y++(X++L))) (execs ((bodyOf (stm 26)).drop 3) (env26 La C)) Q:=by
 revert b w A L aw ab ah ra row D z o Q X Y La C wy tO tt evs st orow op ov K hA P hm he hev hst q
 funext b w A L aw ab ah ra row D z o Q X Y La C wy tO tt evs st orow op ov K hA P hm he hev hst q
 refine W.forG (fun fz=>by kernel_rfl) ?_
 repeat tb_start
 funext sl
 refine W.partL (T:=VI) (ds:=intL st.reverse) (ds':=intL st) (by tb_rel) .head .none .none (.int _ _) (by simp) (by rw [qh,qZ];omega) (fun vs hv=>by rw [show intL st=(intL st.reverse).reverse by rw [←Qj,List.reverse_reverse]];exact pick_rev hv) ⟨_,rfl⟩ ?_
 funext al
 refine ⟨TxI (al,isL VI (intL st)) La (fun tx ov=>loc26 aw ab ah o tO tx (some (.ref wy)) orow op ov) (fun j=>outF (hstF z D) row o (evs++(st.take j).map fun k=>(false,k))) (Y++(X++L)),(intL st).length,_,_,Walk.list (T:=VI) (ds:=intL st) hA.handled .head,⟨_,.cons .head (.skip .all),.of (by simp) tt ov⟩,?_,?_,?_⟩
 ·funext j L2 ⟨t,ov⟩
  tb_rel
 ·funext j v L2 it P2 hj ⟨d,hd,t4,rfl⟩ ⟨t,ov⟩
  have hZ: ∃k,st[j]? =some k∧(k:Int)=d:=by
   rw [qp] at hd
   cases h:st[j]? with
   |none=>rw [h] at hd;cases hd
   |some p=>
    revert p;funext p h
    rw [h] at hd;cases hd;exact ⟨p,rfl,rfl⟩
  revert hZ;funext ⟨k,hk,rfl⟩
  have hk6:k<6:=hst k (qk hk)
  have hlen:=outF_len (o:=o) P (evs:=evs++(st.take j).map fun k=>(false,k)) (fun e he=>by
   refine Or.elim (qO.mp he) ?_ ?_
   ·funext he
    exact hev e he
   ·funext he
    refine hkX (qw.mp he) ?_
    funext ⟨x,hx,rfl⟩
    exact hst x ((List.take_sublist _ _).subset hx))
  have hle:(evs++(st.take j).map fun k=>(false,k)).length≤60:=by
   rw [qm,qh,qI];exact qg (qX (vd _ _) _) he
  repeat tb_start
  refine W.abc hk6 (fun fz=>by kernel_rfl) (fun fz=>by kernel_rfl) ?_
  funext t5
  rw [lit_co]
  refine W.addL (by simp) ?_
  funext t6
  repeat tb_start
  rw [lit_gt]
  refine W.addL (by simp) ?_
  funext t7
  refine W.iaddL (by simp only [qm,qy,qP];exact qg (qG (Ar.l1 hle hlen rfl:_≤420000) _) (Ar.d rfl)) ?_
  funext t8
  repeat tb_start
  have e1:outF (hstF z D) row o (evs++(st.take (j+1)).map fun k=>(false,k))=outF (hstF z D) row o (evs++(st.take j).map fun k=>(false,k))++([60,47]++ [97+k]++ [62]):=by
   rw [qV,hk,qB]
   simp only [Option.toList_some,qR,List.map_nil,outF_one,evF,outF_app,qY,vj,zV]
  exact W.nil ⟨_,.all,.of e1 t8 (some (.int (k:Nat) t4))⟩
 ·funext L2 ⟨t,ov⟩
  rw [qh,zh]
  repeat tb_start
  exact q t _ (by dl_keep)
inductive DuB(aw ab ah La ac:Addr)(row:Nat→List Nat)(D:List (List Nat))(z:List Nat)(o:Nat)(tO:Tok)(op ov:Option Value)(Y L:Led)(c:List Nat)(i:Nat)(e0:List (Bool×Nat))(p0:List Nat)(n:Nat):Led→Prop
 |mk (st:List Nat) (evs:List (Bool×Nat)) (wy:Addr) (t:Tok) (X:Led) (hm:Mm (wy,isL VI (intL st.reverse)) (X++L)) (hev: ∀e∈evs,e.2<6) (hst: ∀x∈st,x<6) (h4:evs.length+st.length≤7*i+6) (h5:evs++(popD c st).1=e0) (h6:(popD c st).2=p0) (hn:n=st.length):
  DuB aw ab ah La ac row D z o tO op ov Y L c i e0 p0 n ((La,loc26 aw ab ah o tO (some (.str (sOf (outF (hstF z D) row o evs)) t)) (some (.ref wy)) (some (.ref ac)) op ov)::(Y++(X++L)))
set_option maxHeartbeats 8000000 in
theorem due_row{Q:Flow→Led→Prop}{X Y:Led}{La C wy ac:Addr}{tO tt:Tok}{evs:List (Bool×Nat)}{st c:List Nat}{op ov:Option Value}{i:Nat}(K:Kn b)(hA:Rm 4 A)(P:DueH L aw ah ra row D z)
  (hm:Mm (wy,isL VI (intL st.reverse)) (X++L)) (hc:Mm (ac,isL VI (intL c)) L) (hcc:c∈chains) (hi:i<6) (he:evs.length≤7*i) (hsl:st.length≤6) (hev: ∀e∈evs,e.2<6) (hst: ∀x∈st,x<6)
  (q: ∀evs' t op',evs'=evs++(popD c st).1++ [(true,lastN c)]→evs'.length≤7*(i+1)→(∀e∈evs',e.2<6)→
   Q .next ((La,loc26 aw ab ah o tO (some (.str (sOf (outF (hstF z D) row o evs')) t)) (some (.ref ac)) (some (.ref ac)) op' ov)::(Y++L))):
  W b w A ((La,loc26 aw ab ah o tO (some (.str (sOf (outF (hstF z D) row o evs)) tt)) (some (.ref wy)) (some (.ref ac)) op ov)::(Y++(X++L))) (execs (forBody ((bodyOf (stm 26)).drop 2)) (env26 La C)) Q:=by
 revert b w A L aw ab ah ra row D z o Q X Y La C wy ac tO tt evs st c op ov i K hA P hm hc hcc hi he hsl hev hst q
 funext b w A L aw ab ah ra row D z o Q X Y La C wy ac tO tt evs st c op ov i K hA P hm hc hcc hi he hsl hev hst q
 refine W.whileG (DuB aw ab ah La ac row D z o tO op ov Y L c i _ _) st.length ⟨_,.all,.mk st evs wy tt X hm hev hst (by exact jQ he hsl) rfl rfl rfl⟩ ?_
 funext n L2 ⟨st',evs',wy',t,X',hm,hev,hst,h4,h5,h6,rfl⟩
 repeat tb_start
 refine W.lenL (T:=VI) (ds:=intL st'.reverse) (by tb_rel) (by rw [qh,qZ];exact qg (Ar.z3 hi h4) (Ar.d rfl)) ?_
 funext t2
 funext sl
 refine W.partL (T:=VI) (ds:=intL c) (ds':=(intL c).take (intL st'.reverse).length) (by tb_rel) .head .none (.int _ _) .none (by simp) (by rw [qh];have:=(chain_len c hcc).2;omega) (fun vs hv=>pick_upto hv _) ⟨_,rfl⟩ ?_
 funext al
 repeat tb_start
 refine W.neL (T:=VI) (ds:=(intL c).take (intL st'.reverse).length) (es:=intL st'.reverse) eqeI hA.u1 (by tb_rel) (by tb_rel) ?_
 repeat tb_start
 have hpre:decide ((intL c).take (intL st'.reverse).length=intL st'.reverse)=st'.reverse.isPrefixOf c:=by
  rw [vZ,decide_eq_true_eq,zH,List.prefix_iff_eq_take,qh,←List.map_take]
  exact ⟨fun h=>(intL_inj h).symm,fun h=>by rw [←h]⟩
 rw [hpre]
 refine ⟨fun hb=> ?_,fun hb=> ?_⟩
 ·refine Or.elim (nilc st') ?_ ?_
  ·funext rfl
   simp at hb
  funext ⟨k,st',rfl⟩
  have hk:=hst k (.head _)
  have hst': ∀x∈st',x<6:=fun x hx=>hst x (.tail _ hx)
  have hlen:=outF_len (o:=o) P (evs:=evs') hev
  simp only [qy] at h4
  have hm':Mm (wy',isL VI (intL st'.reverse++ [(k:Int)])) (X'++L):=by
   rw [show intL (k::st').reverse=intL st'.reverse++ [(k:Int)] by simp] at hm
   exact hm
  clear hm
  repeat tb_start
  refine W.itemLast (T:=VI) (ds:=intL st'.reverse) (d:=(k:Int)) (by tb_rel) (by rw [qh,qZ];exact ql (Ar.z3 hi h4) (Ar.d rfl)) (fun fz=>by kernel_rfl) ?_
  funext _ ⟨t3,rfl⟩
  refine W.abc hk (fun fz=>by kernel_rfl) (fun fz=>by kernel_rfl) ?_
  funext t5
  rw [lit_co]
  refine W.addL (by simp) ?_
  funext t6
  repeat tb_start
  rw [lit_gt]
  refine W.addL (by simp) ?_
  funext t7
  refine W.iaddL (by simp only [qm,qy,qP];exact qg (qG (Ar.z1 hi h4 hlen) _) (Ar.d rfl)) ?_
  funext t8
  repeat tb_start
  funext sl2
  refine W.partL (T:=VI) (ds:=intL st'.reverse++ [(k:Int)]) (ds':=intL st'.reverse) (by tb_rel) .head .none (.int _ _) .none (by simp) (by rw [qm,qh,qZ];simp;omega) (fun vs hv=>by have:=pick_butLast hv;rwa [List.dropLast_concat] at this) ⟨_,rfl⟩ ?_
  funext al2
  repeat tb_start
  have hpo:popD c (k::st')=((false,k)::(popD c st').1,(popD c st').2):=by
   rw [show popD c (k::st')=if (k::st').reverse.isPrefixOf c then ([],k::st') else ((false,k)::(popD c st').1,(popD c st').2) from rfl]
   rw [if_neg (fun e=>by rw [e] at hb;cases hb)]
  rw [hpo] at h5 h6
  have e1:outF (hstF z D) row o (evs'++ [(false,k)])=outF (hstF z D) row o evs'++([60,47]++ [97+k]++ [62]):=by
   simp only [outF_one,evF,outF_app,qY,vj,zV]
  refine W.nil ⟨st'.length,_,by simp,?_,.mk st' (evs'++ [(false,k)]) al2 t8 ((al2,isL VI (intL st'.reverse))::X') .head ?_ hst' (by rw [qm];simp;exact qg (qN (zG _ _ _)) h4) (by rw [qY];exact h5) h6 rfl⟩
  ·rw [e1]
   refine .cons (by tb_rel) ?_
   show Take _ (Y++(_::(X'++L)))
   exact .blk (by dl_step) (.cons .head (.skip (.skip (.skip .all))))
  ·funext e he
   refine Or.elim (qO.mp he) ?_ ?_
   ·funext he
    exact hev e he
   ·funext he
    simp at he;rw [he];exact hk
 ·have hpo:popD c st'=([],st'):=by
   cases st' with
   |nil=>rfl
   |cons k st'=>
    revert k st';funext k st' hm hst h4 h5 h6 hpre hb
    rw [show popD c (k::st')=if (k::st').reverse.isPrefixOf c then ([],k::st') else ((false,k)::(popD c st').1,(popD c st').2) from rfl]
    rw [if_pos (by revert hb;cases (k::st').reverse.isPrefixOf c<;>simp)]
  rw [hpo] at h5 h6
  dsimp only at h6
  rw [za] at h5
  rw [←h5] at q
  refine hkX (chain_last c hcc) ?_
  funext ⟨hc1,hk⟩
  generalize lastN c=k at hc1 hk q
  generalize c.dropLast=c0 at hc1
  have hcl:=(chain_len c hcc).2
  have hc':Mm (ac,isL VI (intL c0++ [(k:Int)])) L:=by
   rw [show intL c0++ [(k:Int)]=intL c by rw [hc1];simp]
   exact hc
  refine hkX (P.hr k hk) ?_
  funext ⟨ar,har,hmr⟩
  have hPL:=P.hL
  have hPn:=P.hn
  have hr6:(row k).length≤6:=nodup_len 6 (row k) ((P.hrow k hk).1.imp fun h=>qS h) (P.hrow k hk).2
  have hlen:=outF_len (o:=o) P (evs:=evs') hev
  repeat tb_start
  refine W.itemLast (T:=VI) (ds:=intL c0) (d:=(k:Int)) (by tb_rel) (by rw [qh];rw [hc1] at hcl;simp at hcl;omega) (fun fz=>by kernel_rfl) ?_
  funext _ ⟨t3,rfl⟩
  refine W.abc hk (fun fz=>by kernel_rfl) (fun fz=>by kernel_rfl) ?_
  funext t5
  rw [lit_lt]
  refine W.addL (by simp) ?_
  funext t6
  refine W.iaddL (by simp only [qm,qy,qP];exact qg (qG (Ar.z1 hi h4 hlen) _) (Ar.d rfl)) ?_
  funext t8
  repeat tb_start
  refine W.forG (fun fz=>by kernel_rfl) ?_
  repeat tb_start
  refine W.itemLast (T:=VI) (ds:=intL c0) (d:=(k:Int)) (by tb_rel) (by rw [qh];rw [hc1] at hcl;simp at hcl;omega) (fun fz=>by kernel_rfl) ?_
  funext _ ⟨t9,rfl⟩
  refine W.itemL (T:=VR) (ds:=ra) (d:=ar) (by tb_rel) (by omega) har (fun fz=>by kernel_rfl) ?_
  funext _ rfl
  repeat tb_start
  refine W.sortedL (T:=VI) (ds:=intL (row k)) (by tb_rel) (by rw [qh];omega) kindI cmpI (sort_asc (P.hrow k hk).1 (by omega)) (fun i hi=>zW.mp hi) (by simp;omega) ?_
  funext srt
  rw [range_get]
  refine ⟨TxI (srt,isL VI (intL (row k))) La (fun tx op=>loc26 aw ab ah o tO tx (some (.ref ac)) (some (.ref ac)) op ov) (fun j=>outF (hstF z D) row o evs'++([60]++ [97+k])++attL (hstF z D) (((row k).take j).filter (· !=o))) (Y++L),(intL (row k)).length,_,_,Walk.list (T:=VI) (ds:=intL (row k)) hA.handled .head,⟨(srt,isL VI (intL (row k)))::(La,loc26 aw ab ah o tO (some (.str (sOf (outF (hstF z D) row o evs'++([60]++ [97+k]))) t8)) (some (.ref ac)) (some (.ref ac)) op ov)::(Y++L),.cons .head (.cons (by tb_rel) ?_),.of (by simp [attL,atT]) t8 op⟩,?_,?_,?_⟩
  ·exact .skip (.skip (.blk (by dl_step) (.last (by dl_step))))
  ·funext j L2 ⟨t,op⟩
   tb_rel
  ·funext j v L2 it P2 hj ⟨d,hd,t4,rfl⟩ ⟨t,op⟩
   have hZ: ∃x,(row k)[j]? =some x∧(x:Int)=d:=by
    rw [qp] at hd
    cases h:(row k)[j]? with
    |none=>rw [h] at hd;cases hd
    |some p=>
     revert p;funext p h
     rw [h] at hd;cases hd;exact ⟨p,rfl,rfl⟩
   revert hZ;funext ⟨x,hx,rfl⟩
   have hx6:x<6:=(P.hrow k hk).2 x (qk hx)
   have hZ: ∃c,D[x]? =some c:=⟨_,qd (by rw [P.hD];omega)⟩
   revert hZ;funext ⟨cx,hcx⟩
   have ha6:=att_small P.hz P.hD P.hDc P.hrow hk (((row k).take j).filter (· !=o)) ((List.filter_sublist).trans (List.take_sublist _ _))
   have hc6:=(att_of (okAtts z P.hz cx (P.hDc _ (qk hcx)))).2
   have hstep:((row k).take (j+1)).filter (· !=o)=((row k).take j).filter (· !=o)++(if x !=o then [x] else []):=by
    rw [qV,hx,vH]
    by_cases h:x=o<;>simp [h]
   repeat tb_start
   refine ⟨fun hb=> ?_,fun hb=> ?_⟩
   ·as_aux_lemma=>
    have hxo:(x !=o)=true:=by
     have h:(x:Int)≠o:=by simpa using hb
     rw [bne_iff_ne];omega
    rw [if_pos hxo] at hstep
    repeat tb_start
    refine W.abc hx6 (fun fz=>by kernel_rfl) (fun fz=>by kernel_rfl) ?_
    funext t5
    rw [lit_sp]
    refine W.addL (by simp) ?_
    funext t6
    repeat tb_start
    rw [lit_eq]
    refine W.addL (by simp) ?_
    funext t7
    repeat tb_start
    refine W.itemL (T:=VS) (ds:=D.map fun c=>sOf (hostL z c)) (d:=sOf (hostL z cx)) (by tb_rel) (by omega) (by rw [qp,hcx];rfl) (fun fz=>by kernel_rfl) ?_
    funext _ ⟨t9,rfl⟩
    refine W.addL (by simp only [qm,qy,qP];omega) ?_
    funext t10
    repeat tb_start
    rw [lit_qu]
    refine W.addL (by simp only [qm,qy,qP];exact qg (qG (qX (qv hc6) _) _) (Ar.d rfl)) ?_
    funext t11
    refine W.iaddL (by simp only [qm,qy,qP];exact qg (jQ (jQ (qG (Ar.z1 hi h4 hlen) _) ha6) (qG (qX (qv hc6) _) _)) (Ar.d rfl)) ?_
    funext t12
    repeat tb_start
    have e1:attL (hstF z D) (((row k).take (j+1)).filter (· !=o))=attL (hstF z D) (((row k).take j).filter (· !=o))++([32]++ [97+x]++ [61,34]++hostL z cx++ [34]):=by
     rw [hstep]
     unfold attL atT hstF
     rw [qB,QG]
     simp [qi,hcx]
    exact W.nil (W.nil ⟨_,.all,.of (by rw [e1];simp only [qY]) t12 (some (.int (x:Nat) t4))⟩)
   ·have hxo:(x !=o)=false:=by
     have h:(x:Int)=o:=by simpa using hb
     obtain rfl:x=o:=by omega
     simp
    rw [hxo,if_neg (by decide),za] at hstep
    exact W.nil ⟨_,.all,.of (by rw [hstep]) t (some (.int (x:Nat) t4))⟩
  ·funext L2 ⟨t,op⟩
   rw [qh,zh]
   have ha6:=att_small P.hz P.hD P.hDc P.hrow hk ((row k).filter (· !=o)) List.filter_sublist
   repeat tb_start
   rw [lit_gt]
   refine W.iaddL (by simp only [qm,qy,qP];exact qg (qG (jQ (qG (Ar.z1 hi h4 hlen) _) ha6) _) (Ar.d rfl)) ?_
   funext t12
   repeat tb_start
   have e1:outF (hstF z D) row o (evs'++ [(true,k)])=outF (hstF z D) row o evs'++([60]++ [97+k])++attL (hstF z D) ((row k).filter (· !=o))++ [62]:=by
    simp only [outF_one,evF,outF_app,qY,vj,zV]
   rw [←e1]
   refine W.take (W.nil (q (evs'++ [(true,k)]) t12 op rfl (by rw [qm];simp;exact jm (qg (jk _ _) h4)) ?_)) (.skip .all)
   funext e he
   refine Or.elim (qO.mp he) ?_ ?_
   ·funext he
    exact hev e he
   ·funext he
    simp at he;rw [he];exact hk
end
end
section
section
variable{b:qe}{w:World}{A:qq}{L L':Led}{R:Value→Led→Prop}{F:Frag}
variable{aw ab ah:Addr}{ra:List Addr}{row:Nat→List Nat}{D:List (List Nat)}{z:List Nat}{o:Nat}
theorem any_int(c:List Nat)(k:Nat):(intL c).any (· ==(k:Int))=c.contains k:=by
 rw [vZ,List.any_eq_true,zS]
 constructor
 ·rintro ⟨x,hx,e⟩
  obtain ⟨y,hy,rfl⟩:=qw.mp hx
  have:y=k:=by have:=beq_iff_eq.mp e;omega
  exact this▸hy
 ·intro h
  exact ⟨k,qw.mpr ⟨k,h,rfl⟩,by simp⟩
noncomputable abbrev keptP(bd:Nat)(p:Addr×List Nat):Bool:= !p.2.contains bd
theorem zip_snd{aas:List Addr}{D:List (List Nat)}(h:aas.length=D.length):(aas.zip D).map (·.2)=D:=by
 rw [show (fun x:Addr×List Nat=>x.2)=Prod.snd from rfl,List.map_snd_zip];omega
theorem filter_snd(bd:Nat): ∀l:List (Addr×List Nat),(l.filter (keptP bd)).map (·.2)=(l.map (·.2)).filter (fun c=> !c.contains bd)
 | []=>rfl
 |x::r=>by
  have ih:=filter_snd bd r
  rw [qR,jl,jl,←ih]
  show List.map _ (if (!x.2.contains bd)=true then _ else _)=_
  cases x.2.contains bd<;>rfl
theorem keptP_snd{aas:List Addr}{D:List (List Nat)}(bd:Nat)(h:aas.length=D.length):((aas.zip D).filter (keptP bd)).map (·.2)=D.filter (fun c=> !c.contains bd):=by
 rw [filter_snd,zip_snd h]
inductive DuD(aw ab ah La:Addr)(row:Nat→List Nat)(D:List (List Nat))(z:List Nat)(o:Nat)(tO:Tok)(q:Addr×Asn)(L:Led)(S:List (Addr×List Nat))(j:Nat):Led→Prop
 |mk (evs:List (Bool×Nat)) (st:List Nat) (wy:Addr) (t:Tok) (orow op ov:Option Value) (X:Led) (hm:Mm (wy,isL VI (intL st.reverse)) (X++L)) (h1:evs.length≤7*j) (h2:st.length≤6) (h3: ∀e∈evs,e.2<6) (h4: ∀x∈st,x<6) (h5:evs++dueE ((S.map (·.2)).drop j) st=dueE (S.map (·.2)) []):
  DuD aw ab ah La row D z o tO q L S j (q::(La,loc26 aw ab ah o tO (some (.str (sOf (outF (hstF z D) row o evs)) t)) (some (.ref wy)) orow op ov)::(X++L))
set_option maxHeartbeats 8000000 in
set_option tactic.hygienic true in
theorem law_due_ok{aas:List Addr}{bd:Nat}{tB tO:Tok}{p:List Nat}(K:Kn b)(hA:Rm 5 A)(P:DueH L aw ah ra row D z)(hab:Mm (ab,isL VR aas) L)(hal:aas.length=6)(haa: ∀(j:Nat) a c,aas[j]? =some a→D[j]? =some c→Mm (a,isL VI (intL c)) L)
  (hs:sortP (D.filter (fun c=> !c.contains bd)).length (ltAt ltN (D.filter (fun c=> !c.contains bd)))=some p) (hp: ∀i∈p,i<(D.filter (fun c=> !c.contains bd)).length) (hpl:p.length≤6)
  (q: ∀t,R (.str (sOf (outF (hstF z D) row o (dueE (p.map fun i=>(D.filter (fun c=> !c.contains bd)).getD i []) []))) t) L):
  W b w A L (call (.ref 319) [.ref aw,.ref ab,.ref ah,.int (bd:Nat) tB,.int (o:Nat) tO]) R:=by
 revert b w A L R aw ab ah ra row D z o aas bd tB tO p K hA P hab hal haa hs hp hpl q
 funext b w A L R aw ab ah ra row D z o aas bd tB tO p K hA P hab hal haa hs hp hpl q
 refine W.fnC (fd:=fd0 26 lawm 318) [(qb "ways",.ref aw),(qb "above",.ref ab),(qb "hosts",.ref ah),(qb "barred",.int (bd:Nat) tB),(qb "other",.int (o:Nat) tO)] [(qb "ways",.ref aw),(qb "above",.ref ab),(qb "hosts",.ref ah),(qb "other",.int (o:Nat) tO)] [(qb "barred",.int (bd:Nat) tB)]
  [qb "text",qb "way",qb "row",qb "p",qb "v"]
  [(qb "ways",some (.ref aw)),(qb "above",some (.ref ab)),(qb "hosts",some (.ref ah)),(qb "other",some (.int (o:Nat) tO)),(qb "text",none),(qb "way",none),(qb "row",none),(qb "p",none),(qb "v",none)]
  (fun k=> [(qb "barred",k+1)]) (fun k M=>(k+1,isCell (some (.int (bd:Nat) tB)))::M) K (by tb_rel) hA rfl (fun fz fz=>zc (by kernel_rfl)) (by kernel_rfl) (by kernel_rfl) (by kernel_rfl) (fun fz=>by rfl) (fun fz fz=>by rfl) (fun fz=>by rfl) (fun fz=>by simp) (by kernel_rfl) ?_
 funext La A' hA
 generalize hC:La+1=C at hA ⊢
 refine W.asg (by kernel_rfl!) ?_
 repeat tb_start
 rename_i tt
 rw [show qb ""=sOf (outF (hstF z D) row o []) from rfl]
 refine W.list0 (T:=VI) (α:=Int) ?_
 funext wy
 repeat tb_start
 refine W.abs ?_
 funext G hG
 have mab:Mm (ab,isL VR aas) G:=by rw [hG];tb_rel
 have mC:Mm (C,isCell (some (.int (bd:Nat) tB))) G:=by rw [hG];tb_rel
 have mLa:Mm (La,loc26 aw ab ah o tO (some (.str (sOf (outF (hstF z D) row o [])) tt)) (some (.ref wy)) none none none) G:=by rw [hG];tb_rel
 refine W.forG (fun fz=>by kernel_rfl) ?_
 repeat tb_start
 refine W.compL [(qb "barred",C)] [qb ".0",qb "kept"] (fun fz=>by kernel_rfl) (by kernel_rfl) (by kernel_rfl) ?_
 repeat tb_start
 refine ⟨fun acc j L2=>L2=(acc,isL VP (((aas.zip D).take j).filter (keptP bd)))::G,aas.length,⟨_,_,Walk.list (T:=VR) (ds:=aas) hA.handled (by tb_rel),⟨_,VP,fun acc=>⟨_,.all,rfl⟩⟩,?_,?_⟩,?_⟩
 ·funext acc j L2 rfl
  tb_rel
 ·funext acc C2 it P2 j v L2 fr hj ⟨a,ha,rfl⟩ hfr rfl
  refine hkX (names2 hfr) ?_
  funext ⟨u1,u2,rfl⟩
  have hZ: ∃c,D[j]? =some c:=⟨_,qd (by rw [P.hD];omega)⟩
  revert hZ;funext ⟨c,hc⟩
  have hac:=haa j a c ha hc
  have hac:Mm (a,isL VI (intL c)) G:=by rw [hG];tb_rel
  have hzj:(aas.zip D)[j]? =some (a,c):=by rw [List.getElem?_zip_eq_some];exact ⟨ha,hc⟩
  have hstep:((aas.zip D).take (j+1)).filter (keptP bd)=((aas.zip D).take j).filter (keptP bd)++(if c.contains bd then [] else [(a,c)]):=by
   rw [qV,hzj,vH]
   rw [show (some (a,c)).toList= [(a,c)] from rfl,jl,List.filter_nil]
   show _++(if (!c.contains bd)=true then _ else _)=_
   cases c.contains bd<;>rfl
  have hsm:(((aas.zip D).take j).filter (keptP bd)).length≤100:=by
   refine qg (jN _ _) ?_
   rw [qI];exact Ar.m9 hal hj rfl
  repeat tb_start
  rw [any_int]
  refine ⟨fun hb=> ?_,fun hb=> ?_⟩
  ·rw [if_neg (by revert hb;cases c.contains bd<;>simp)] at hstep
   repeat tb_start
   refine W.append (T:=VP) (d:=(a,c)) (by tb_rel) (by omega) rfl ?_
   exact ⟨[(qb ".0",u1),(qb "kept",some (.ref a))],_,rfl,.all,by dsimp only;rw [hstep]⟩
  ·rw [if_pos (by revert hb;cases c.contains bd<;>simp),za] at hstep
   exact ⟨[(qb ".0",u1),(qb "kept",some (.ref a))],_,rfl,.all,by dsimp only;rw [hstep]⟩
 ·funext acc L2 rfl
  rw [Qe (by rw [List.length_zip];exact zU _ _)]
  repeat tb_start
  have hKs:=keptP_snd (D:=D) bd (show aas.length=D.length by rw [hal,P.hD])
  have hmem: ∀x∈(aas.zip D).filter (keptP bd),Mm (x.1,isL VI (intL x.2)) L∧x.2∈D:=by
   funext x hx
   refine hkX (List.getElem?_of_mem (Qt.mp hx).1) ?_
   funext ⟨j,hj⟩
   rw [List.getElem?_zip_eq_some] at hj
   exact ⟨haa j _ _ hj.1 hj.2,qk hj.2⟩
  have hlz:((aas.zip D).filter (keptP bd)).length=(D.filter (fun c=> !c.contains bd)).length:=by rw [←hKs,qh]
  have hl6:((aas.zip D).filter (keptP bd)).length≤6:=by
   refine qg (jN _ _) ?_
   rw [List.length_zip];exact qg (zU _ _) (qN hal)
  have hget: ∀i,i<((aas.zip D).filter (keptP bd)).length→(D.filter (fun c=> !c.contains bd)).getD i []=(((aas.zip D).filter (keptP bd)).getD i zb).2:=by
   funext i hi
   rw [←hKs]
   simp-iota only [qi,qp,qd hi,jW,jG]
  generalize (aas.zip D).filter (keptP bd)=Z at hKs hmem hlz hl6 hget
  have mG: ∀{m:Addr×Asn},Mm m L→Mm m ((acc,isL VP Z)::G):=fun h=>by rw [hG];tb_rel
  refine W.sortedL (T:=VP) (ds:=Z) (p:=p) (lt:=fun p q=>ltN p.2 q.2) .head (by omega) (kindP fun x hx=>mG (hmem x hx).1) (cmpP (by
   have h1:=hA.u1
   show A'.units+1+1<cLine
   have:cLine=9900:=by decide
   exact qU (qF (jm h1) (Ar.d rfl)) this.symm) fun x hx=>mG (hmem x hx).1) ?_ (fun i hi=>by rw [hlz];exact hp i hi) (by omega) ?_
  ·rw [hlz,←hs]
   refine sortP_congr ?_
   funext i j hi hj
   unfold ltAt
   rw [show (D.filter (fun c=> !c.contains bd)).getD i zb=_ from hget i (by omega),show (D.filter (fun c=> !c.contains bd)).getD j zb=_ from hget j (by omega)]
  funext srt
  have hSs:(p.map fun i=>Z.getD i zb).map (·.2)=p.map fun i=>(D.filter (fun c=> !c.contains bd)).getD i []:=by
   rw [zf]
   refine jr ?_
   funext i hi
   exact (hget i (by rw [hlz];exact hp i hi)).symm
  have hSm: ∀x∈(p.map fun i=>Z.getD i zb),x∈Z:=by
   funext x hx
   refine hkX (qw.mp hx) ?_
   funext ⟨i,hi,rfl⟩
   have:=hp i hi
   rw [←hlz] at this
   rw [qi,qd this]
   exact vN _
  have hSl:(p.map fun i=>Z.getD i zb).length≤6:=by rw [qh];exact hpl
  rw [←hSs] at q
  generalize (p.map fun i=>Z.getD i zb)=S at hSs hSm hSl q
  subst hG
  refine ⟨DuD aw ab ah La row D z o tO _ L S,
   S.length,_,_,Walk.list (T:=VP) (ds:=S) hA.handled .head,⟨_,.cons .head (.cons (by tb_rel) ?_),.mk [] [] wy tt none none none [(wy,isL VI ([]:List Int))] .head (by simp) (by simp) (by simp) (by simp) (by simp)⟩,?_,?_,?_⟩
  ·exact .skip (.cons .head (.skip .all))
  ·funext j L2 ⟨evs,st,wy,t,orow,op,ov,X,hm,h1,h2,h3,h4,h5⟩
   tb_rel
  ·funext j v L2 it P2 hj ⟨d,hd,rfl⟩ ⟨evs,st,wy,t,orow,op,ov,X,hm,h1,h2,h3,h4,h5⟩
   have hdZ:=hSm d (qk hd)
   refine hkX (hmem d hdZ) ?_
   funext ⟨hdm,hdD⟩
   have hcc:=P.hDc _ hdD
   have hdrop:(S.map (·.2)).drop j=d.2::(S.map (·.2)).drop (j+1):=by
    rw [zM (by rw [qh];exact hj),List.getElem_map,(qr.mp hd).2]
   rw [hdrop] at h5
   rw [show dueE (d.2::(S.map (·.2)).drop (j+1)) st=(popD d.2 st).1++((true,lastN d.2)::dueE ((S.map (·.2)).drop (j+1)) d.2.reverse) from rfl] at h5
   repeat tb_start
   refine W.take (due_row (ab:=ab) (o:=o) (La:=La) (C:=C) (X:=X) (Y:= [(it,P2),(srt,isL VP S)]) (wy:=wy) (ac:=d.1) (evs:=evs) (st:=st) (c:=d.2) (op:=op) (ov:=ov) (i:=j) (tt:=t) (tO:=tO) K hA P hm hdm hcc (by omega) h1 h2 h3 h4 fun evs' t' op' g1 g2 g3=> ?_) ?_
   ·refine ⟨(srt,isL VP S)::(La,loc26 aw ab ah o tO (some (.str (sOf (outF (hstF z D) row o evs')) t')) (some (.ref d.1)) (some (.ref d.1)) op' ov)::([]++L),?_,.mk evs' d.2.reverse d.1 t' _ op' ov [] ?_ g2 ?_ g3 ?_ ?_⟩
    ·show Take (_::(it,P2)::(srt,isL VP S)::L) ((it,P2)::(srt,isL VP S)::_::L)
     exact .cons (by tb_rel) (.cons (by tb_rel) (.cons (by tb_rel) .all))
    ·rw [List.reverse_reverse];exact hdm
    ·rw [qZ];exact (chain_len _ hcc).2
    ·funext x hx
     exact chain_mem _ hcc x (zN.mp hx)
    ·rw [g1,←h5];simp-iota only [qY,vj,zV]
   ·show Take ((it,P2)::(srt,isL VP S)::_::(X++L)) (_::(it,P2)::(srt,isL VP S)::(X++L))
    exact .cons (by tb_rel) (.cons (by tb_rel) (.cons (by tb_rel) .all))
  ·funext L2 ⟨evs,st,wy,t,orow,op,ov,X,hm,h1,h2,h3,h4,h5⟩
   rw [List.drop_eq_nil_of_le (by rw [qh];exact zg _)] at h5
   refine W.take (due_close (ab:=ab) (o:=o) (La:=La) (C:=C) (X:=X) (Y:= []) (wy:=wy) (evs:=evs) (st:=st) (tt:=t) (tO:=tO) K hA P hm (by exact qg (jQ (qg h1 (qW 7 hSl)) h2) (Ar.d rfl)) h3 h4 fun t' L' tk=>⟨_,tk,?_⟩) (.skip .all)
   have:=q t'
   rw [←h5] at this
   exact this
end
end
section
noncomputable def trees:Nat→List (List (List Nat))
 |0=> [[[0]]]
 |n+1=>(trees n).flatMap fun D=>D.map fun c=>D++ [c++ [n+1]]
noncomputable def keptD(D:List (List Nat))(l:Nat):List (List Nat):=D.filter fun c=> !c.contains l
noncomputable def pageOk(D:List (List Nat))(l:Nat):Bool:=
 match sortP 6 (ltAt ltN D),sortP (keptD D l).length (ltAt ltN (keptD D l)) with
 |some p,some p'=>p.all (· <6)&&p.length==6&&p'.all (· <(keptD D l).length)&&decide (p'.length≤6)&&(pageE l (p.map fun i=>D.getD i []) []==dueE (p'.map fun i=>(keptD D l).getD i []) [])
 |_,_=>false
theorem pageOks: ∀D∈trees 5,∀l<7,pageOk D l=true:=by decide+kernel
noncomputable def treeOk(D:List (List Nat)):Bool:=
 D.length==6&&D[0]? ==some [0]&&D.all (fun c=>chains.contains c)&&(zo 6).all fun v=>(D.getD v []).getLast? ==some v&&(D.getD v []).all fun j=>(D.getD j []).isPrefixOf (D.getD v [])
theorem treeOks: ∀D∈trees 5,treeOk D=true:=by decide+kernel
noncomputable def lcpOk(D:List (List Nat)):Bool:=D.all fun c=>D.all fun q=>D.contains (lcp c q)
theorem lcpOks: ∀n<5,∀D∈trees n,lcpOk D=true:=by decide+kernel
end
section
noncomputable def isW{α:Type}(T:α→Value→Prop)(ds:List α):Asn:=fun o=> ∃vs n,All2 T ds vs∧o.cls= .type "list"∧o.data= .seq vs.toArray n
structure ScB(b:qe)(ds:List Int):Prop where
 at_: ∃vs o n,All2 VI ds vs∧b.heap.get? 325=some o∧o.cls= .type "list"∧o.data= .seq vs.toArray n
 few:ds.length≤63
section
variable{b:qe}{w:World}{A:qq}{L L':Led}{R:Value→Led→Prop}{env:Env}{pos:Pos}{α:Type}{T:α→Value→Prop}{ds es:List α}{l m:Addr}
theorem W.weak{β:Type}{a:Addr}{P P':Asn}{t:Sem β}{Q:β→Led→Prop}(u:Upd L a P P' L')(k: ∀o,P o→P' o)(h:W b w A L' t Q):W b w A L t Q:=W.mk fun s H=>h.run s (H.weak u k)
theorem isW_of{ds:List α}: ∀o,isL T ds o→isW T ds o:=fun o ⟨vs,n,h,e⟩=>⟨vs,n,h,by rw [e],by rw [e]⟩
theorem St.lw{s:qe}(H:St b s L)(hm:Mm (l,isW T ds) L): ∃vs,All2 T ds vs∧s.heap.IsList l vs.toArray:=by
 obtain ⟨o,ho,vs,n,h,e1,e2⟩:=H.own _ hm.mem
 exact ⟨vs,h,o,ho,e1,n,e2⟩
theorem W.getW{i:Nat}{d:α}{u:Tok}(hm:Mm (l,isW T ds) L)(hi:i<1000000)(hd:ds[i]? =some d)(h: ∀v,T d v→R v L):W b w A L (vn (.ref l) (.int i u)) R:=W.mk fun s H=>by
 obtain ⟨vs,ha,e⟩:=H.lw hm
 obtain ⟨v,hv,hT⟩:=ha.get hd
 exact wpAny_getItem_list e (by omega) (by exact Ar.i6 hi rfl) (x:=v) (by simpa using hv) ⟨L,H,h v hT⟩
theorem W.itemW{value slice:Expr}{i:Nat}{d:α}{u:Tok}(hm:Mm (l,isW T ds) L)(hi:i<1000000)(hd:ds[i]? =some d)
  (hs: ∀u,jq slice false (.ref l) (.int i u)=zZ [.ref l,.int i u] (vn (.ref l) (.int i u))) (h: ∀v,T d v→R v L):W b w A L (zC value slice (.ref l) (.int i u)) R:=
 W.tail (fun s H=>(H.lw hm).elim fun fz e=>e.2.typeIs) F.slot_list_getitem.lookup (hs u) (W.getW hm hi hd h)
theorem All2.setW{d:α}{v:Value}(hd:T d v): ∀{ds:List α} {vs:List Value} {i:Nat},All2 T ds vs→All2 T (ds.set i d) (vs.set i v)
 |_,_,_,.nil=> .nil
 |_,_,0,.cons _ h=> .cons hd h
 |_,_,i+1,.cons h0 h=> .cons h0 (All2.setW hd h)
theorem W.setW{i:Nat}{d:α}{v:Value}{u:Tok}{Q:Unit→Led→Prop}(hu:Upd L l (isW T ds) (isW T (ds.set i d)) L')(hi:i<ds.length)(hz:ds.length<1000000)(hd:T d v)(h:Q () L'):W b w A L (setItem (.ref l) (.int i u) v) Q:=W.mk fun s H=>by
 obtain ⟨vs,ha,e⟩: ∃vs,All2 T ds vs∧s.heap.IsList l vs.toArray:=by
  obtain ⟨o,ho,vs,n,h,e1,e2⟩:=H.own _ hu.mem
  exact ⟨vs,h,o,ho,e1,n,e2⟩
 have hl:=ha.len
 refine wpAny_setItem_list e (by omega) (by exact Ar.i6 (zq hi hz) rfl) (by rw [qo];exact zT.mpr (qU hi hl.symm)) fun h' e' hs=> ?_
 obtain ⟨o,ho,hc,n,hd'⟩:=e'
 refine ⟨L',H.same hu hs ⟨o,ho,vs.set i v,n,ha.setW hd,hc,?_⟩ s.toks,h⟩
 rw [hd',List.setIfInBounds_toArray,vt]
theorem ScB.is{ds:List Int}{s:qe}(S:ScB b ds)(H:St b s L): ∃vs,All2 VI ds vs∧s.heap.IsList 325 vs.toArray:=by
 obtain ⟨vs,o,n,ha,ho,hc,hd⟩:=S.at_
 exact ⟨vs,ha,o,H.base ho (by rw [hc];intro e;cases e),hc,n,hd⟩
theorem W.lenB{ds:List Int}(S:ScB b ds)(h: ∀v,R (.int ds.length v) L):W b w A L (call (.builtin "len") [.ref 325]) R:=W.mk fun s H=>by
 obtain ⟨vs,ha,e⟩:=S.is H
 have:=S.few
 have:=ha.len
 refine call_len_list e (by rw [qo];exact Ar.i6 (Qx (Ar.d2 this ‹_›)) rfl) ⟨L,H.tok _,?_⟩
 rw [qo,ha.len]
 exact h _
theorem W.itemB{ds:List Int}{value slice:Expr}{i:Nat}{d:Int}{u:Tok}(S:ScB b ds)(hi:i<1000000)(hd:ds[i]? =some d)
  (hs: ∀u,jq slice false (.ref 325) (.int i u)=zZ [.ref 325,.int i u] (vn (.ref 325) (.int i u))) (h: ∀t,R (.int d t) L):W b w A L (zC value slice (.ref 325) (.int i u)) R:=
 W.tail (fun s H=>(S.is H).elim fun fz e=>e.2.typeIs) F.slot_list_getitem.lookup (hs u) (W.mk fun s H=>by
  obtain ⟨vs,ha,e⟩:=S.is H
  obtain ⟨v,hv,t,rfl⟩:=ha.get hd
  exact wpAny_getItem_list e (by omega) (by exact Ar.i6 hi rfl) (x:= .int d t) (by simpa using hv) ⟨L,H,h t⟩)
theorem W.augSub{o i value:Expr}{p:Pos}{op:Operator}{rest:List Stmt}{Q:Flow→Led→Prop}
  (hi: ∀ov iv new,augStore i ov iv new=(do zv [new,ov,iv] (setItem ov iv new);release [new,ov,iv] [];qj .next))
  (h:W b w A L (eval o env) fun ov L1=>W b w A L1 (eval i env) fun iv L2=>W b w A L2 (vn ov iv) fun old L3=>W b w A L3 (eval value env) fun v L4=>W b w A L4 (inplaceOp op old v) fun r L5=>W b w A L5 (setItem ov iv r) fun fz L6=>W b w A L6 (execs rest env) Q):
  W b w A L (execs (.AugAssign (.Subscript o i p) op value pos::rest) env) Q:=
 W.seq<|W.mk fun s H=>wpAny_AugAssign_SubscriptAny (h.then H fun ov s1 L1 H1 h1=>h1.then H1 fun iv s2 L2 H2 h2=>h2.then H2 fun old s3 L3 H3 h3=>h3.then H3 fun v s4 L4 H4 h4=>h4.then H4 fun r s5 L5 H5 h5=>h5.then H5 fun fz s6 L6 H6 h6=>⟨L6,H6,h6⟩) hi
theorem W.neS{x y:List Nat}{t u:Tok}(h:R (.bool (x !=y)) L):W b w A L (jd .NotEq (.str (sOf x) t) (.str (sOf y) u)) R:=W.mk fun fz H=>PySem.P.ne_str ⟨L,H,h⟩
theorem W.eqL{x y:List Nat}{t u:Tok}(h:R (.bool (x==y)) L):W b w A L (jd .Eq (.str (sOf x) t) (.str (sOf y) u)) R:=W.eqS (by rw [sOf_eq];exact h)
theorem W.isnB{x y:Bool}(h:R (.bool (x !=y)) L):W b w A L (jd .IsNot (.bool x) (.bool y)) R:=W.isnP (by rfl) (by
 rw [show (!(Value.bool x==Value.bool y))=(x !=y) by cases x<;>cases y<;>rfl];exact h)
theorem W.catL(hl:Mm (l,isL T ds) L)(hm:Mm (m,isL T es) L)(hz:ds.length+es.length<1000000)(h: ∀a,R (.ref a) ((a,isL T (ds++es))::L)):W b w A L (binaryOp .Add (.ref l) (.ref m)) R:=W.mk fun s H=>by
 obtain ⟨vs,n,ha,e⟩:=H.lst hl
 obtain ⟨us,n2,hb,e2⟩:=H.lst hm
 have h1:=ha.len
 have h2:=hb.len
 refine PySem.P.add_list (items:=vs.toArray) (items2:=us.toArray) e e2 ⟨_,H.alloc (P:=isL T (ds++es)) _ rfl ⟨vs++us,0,ha.app hb,by simp [listO]⟩,h _⟩ (by rw [qo,qo,qu];exact h1▸h2▸qv (ql hz (Ar.d rfl)))
theorem W.supL{x:List Nat}{t:Tok}(hx: ∀c∈x,c<128)(hz:x.length<10000)(h: ∀v,R (.str (sOf (x.map up1)) v) L):W b w A L (call (.builtin "str.upper") [.str (sOf x) t]) R:=by
 refine W.supper ?_ fun v=> ?_
 ·rw [sOf_upper hx]
  unfold Qd;rw [sOf_len,qu];simp;omega
 ·rw [sOf_upper hx];exact h v
end
end
section
noncomputable def guests(z c:List Nat):List (List Nat×List Nat):=
 let h:=hostL z c
 [([46,119,46]++h,[46]++h),([119,46]++h++ [46],[46]++h),([119,46]++h++ [46,55,55],[46]++h),([119,46]++h++ [46,120],[46]++h++ [46]),([119,46]++h,h),([119,46]++h,[46]),([119,46]++h,z),(h,[46]++h)]
noncomputable def dmIs(x y:List Nat)(c:Bool):Bool:=x.all (· <128)&&y.all (· <128)&&decide (x.length<10000)&&decide (y.length<10000)&& !y.isEmpty&&dmL (x.map lo1) (y.map lo1)==some c
noncomputable def okStr(z c:List Nat):Bool:=
 (guests z c).all (fun p=>dmIs p.1 p.2 false)&&dmIs ([119,46,55,46]++hostL z c) ([46]++hostL z c) true&&dmIs ((hostL z c).map up1) (hostL z c) true&&reachL (hostL z c++ [46,55,55])==some (hostL z c++ [46,55,55])&&
  dmIs ([119,46]++hostL z c) (([46]++([103,46]++z)).map up1) false&&(hostL z c).all (· <128)&&decide ((hostL z c).length<100)
theorem okStrs: ∀z∈zones,∀c∈chains,okStr z c=true:=by decide+kernel
theorem okDom: ∀z∈zones,∀c∈chains,∀q∈chains,dmIs ([119,46]++hostL z q) (([46]++hostL z c).map up1) (c.isPrefixOf q)=true:=by decide+kernel
noncomputable def okZone(z:List Nat):Bool:=reachL z==some z&&reachL (hostL z [0])==some (if z==loc5 then 46::loc5 else hostL z [0])&&z.all (· <128)&&decide (z.length<100)
theorem okZones: ∀z∈zones,okZone z=true:=by decide+kernel
theorem okCut: ∀c∈chains,∀k<7,∀v<6,c.all (· <v)=true→(c.filter fun u=> !(c.take k++ [v]).contains u)=c.drop k:=by decide+kernel
section
variable{b:qe}{w:World}{A:qq}{L L':Led}{R:Value→Led→Prop}
theorem W.dm{x y:List Nat}{t u:Tok}{c:Bool}(K:Kn b)(hA:Rm 2 A)(h:dmIs x y c=true)(q:R (.bool c) L):W b w A L (call (.ref 57) [.str (sOf x) t,.str (sOf y) u]) R:=by
 unfold dmIs at h
 simp-iota only [qt,decide_eq_true_eq,qz,beq_iff_eq] at h
 obtain ⟨⟨⟨⟨⟨h1,h2⟩,h3⟩,h4⟩,h5⟩,h6⟩:=h
 exact dm_ok K hA h1 h2 h3 h4 (by rintro rfl;simp at h5) h6 q
end
end
section
structure TX where
 (sc ce k lo re cu bk st:Option Value)
 (bd o:Nat)
 (size:Int)
 (tB tO tz tZ:Tok)
 (aw an tp ab ah La C1 C2 C3:Addr)
 (z:List Nat)
noncomputable abbrev loc27(sc ce k lo re ba si ot wa na pi cu bk ab ho pa dm la gu ne:Option Value):Asn:=loc [(qb "script",sc),(qb "cells",ce),(qb "k",k),(qb "loops",lo),(qb "rest",re),(qb "barred",ba),(qb "size",si),(qb "other",ot),(qb "ways",wa),(qb "names",na),(qb "piles",pi),(qb "cuts",cu),(qb "back",bk),(qb "above",ab),(qb "hosts",ho),(qb "path",pa),(qb "domain",dm),(qb "last",la),(qb "guest",gu),(qb "near",ne)]
noncomputable abbrev locT(x:TX)(pa dm la gu ne:Option Value):Asn:=loc27 x.sc x.ce x.k x.lo x.re (some (.int (x.bd:Nat) x.tB)) (some (.int x.size x.tz)) (some (.int (x.o:Nat) x.tO)) (some (.ref x.aw)) (some (.ref x.an)) (some (.ref x.tp)) x.cu x.bk (some (.ref x.ab)) (some (.ref x.ah)) pa dm la gu ne
noncomputable abbrev ledT(x:TX)(v pa dm la gu ne:Option Value)(L:Led):Led:=(x.La,locT x pa dm la gu ne)::(x.C3,isCell v)::(x.C2,isCell x.st)::(x.C1,isCell (some (.str (sOf x.z) x.tZ)))::L
noncomputable abbrev envT(x:TX):Env:=envF (fd0 27 lawm 323) x.La 324 [(qb "v",x.C3),(qb "straight",x.C2),(qb "zone",x.C1)]
structure LawT(L:Led)(x:TX)(ra aas:List Addr)(row:Nat→List Nat)(D:List (List Nat))(ps:List Pile)(p:List Nat):Prop where
 P:PageH L x.aw x.an x.tp ra row D ps x.z x.size x.tz p
 hab:Mm (x.ab,isL VR aas) L
 hal:aas.length=6
 haa: ∀(j:Nat) a c,aas[j]? =some a→D[j]? =some c→Mm (a,isL VI (intL c)) L
 hah:Mm (x.ah,isL VS (D.map fun c=>sOf (hostL x.z c))) L
 tr:D∈trees 5
 hbd:x.bd<7
 ho:x.o<7
 hsz:0≤x.size∧x.size<1000
section
variable{b:qe}{w:World}{A:qq}{L L':Led}{R:Value→Led→Prop}{F:Frag}{x:TX}{ra aas:List Addr}{row:Nat→List Nat}{D:List (List Nat)}{ps:List Pile}{p:List Nat}{Q:Flow→Led→Prop}{v pa dm la gu ne:Option Value}
theorem lit_abg:qb "abcdefg"=sOf [97,98,99,100,101,102,103]:=by decide+kernel
theorem abg_at{v:Nat}(h:v<7): [97,98,99,100,101,102,103][v]? =some (97+v):=by
 exact (by decide: ∀v<7,[97,98,99,100,101,102,103][v]? =some (97+v)) v h
theorem W.abg{v:Nat}{value slice:Expr}{t u:Tok}(h:v<7)(hs: ∀u,jq slice false (.str "abcdefg" t) (.int (v:Int) u)=zZ [.str "abcdefg" t,.int (v:Int) u] (vn (.str "abcdefg" t) (.int (v:Int) u)))(ht: ∀r,Ql value (.str "abcdefg" t) r=qj ())
  (q: ∀t,R (.str (sOf [97+v]) t) L):W b w A L (zC value slice (.str "abcdefg" t) (.int (v:Int) u)) R:=
 W.itemS (i:=(v:Int)) (x:=qb "abcdefg") (by unfold fitsSsize;simp;omega) (by omega) (by rw [lit_abg,sOf_len];simp;exact zT.mpr h) hs ht fun t'=>by
  rw [lit_abg,sOf_item _ (abg_at h)]
  exact q t'
theorem page_due{D:List (List Nat)}{l:Nat}{p:List Nat}(hD:D∈trees 5)(hl:l<7)(hs:sortP 6 (ltAt ltN D)=some p): ∃p',sortP (keptD D l).length (ltAt ltN (keptD D l))=some p'∧(∀i∈p',i<(keptD D l).length)∧p'.length≤6∧pageE l (p.map fun i=>D.getD i []) []=dueE (p'.map fun i=>(keptD D l).getD i []) []:=by
 revert D l p hD hl hs
 funext D l p hD hl hs
 have h:=pageOks D hD l hl
 unfold pageOk at h
 rw [hs] at h
 cases h2:sortP (keptD D l).length (ltAt ltN (keptD D l)) with
 |none=>rw [h2] at h;cases h
 |some p'=>
  revert p';funext p' h2
  rw [h2] at h
  simp only [qt,qz,decide_eq_true_eq,beq_iff_eq] at h
  exact ⟨p',rfl,h.1.1.2,h.1.2,h.2⟩
theorem W.frzT{β:Type}{t:Sem β}{Q:β→Led→Prop}(h: ∀(L0:Led) (kv:List (Str×Option Value)),Mm (x.La,loc kv) L0→Mm (("path":Str),pa) kv→Mm (("domain":Str),dm) kv→Mm (("last":Str),la) kv→Mm (("guest":Str),gu) kv→Mm (("near":Str),ne) kv→Mm (("hosts":Str),some (.ref x.ah)) kv→Mm (("above":Str),some (.ref x.ab)) kv→Mm (("piles":Str),some (.ref x.tp)) kv→Mm (("names":Str),some (.ref x.an)) kv→Mm (("ways":Str),some (.ref x.aw)) kv→Mm (("other":Str),some (.int (x.o:Nat) x.tO)) kv→Mm (("size":Str),some (.int x.size x.tz)) kv→Mm (("barred":Str),some (.int (x.bd:Nat) x.tB)) kv→Mm (x.C3,isCell v) L0→Mm (x.C1,isCell (some (.str (sOf x.z) x.tZ))) L0→(∀{m:Addr×Asn},Mm m L→Mm m L0)→ledT x v pa dm la gu ne L=L0→W b w A L0 t Q):W b w A (ledT x v pa dm la gu ne L) t Q:=
 h _ _ .head (.tail (.tail (.tail (.tail (.tail (.tail .a9)))))) (.tail (.tail (.tail (.tail (.tail (.tail (.tail .a9))))))) (.tail (.tail (.tail (.tail (.tail (.tail (.tail (.tail .a9)))))))) (.tail (.tail (.tail (.tail (.tail (.tail (.tail (.tail (.tail .a9))))))))) (.tail (.tail (.tail (.tail (.tail (.tail (.tail (.tail (.tail (.tail .a9)))))))))) (.tail (.tail (.tail (.tail (.tail .a9))))) (.tail (.tail (.tail (.tail .a9)))) (.tail .a9) .a9 .a8 .a7 .a6 .a5 .a1 .a3 (fun h=> .tail (.tail (.tail (.tail h)))) rfl
theorem LawT.due(T:LawT L x ra aas row D ps p):DueH L x.aw x.ah ra row D x.z:=⟨T.P.hL,T.P.hr,T.P.hrow,T.P.hD,T.P.hDc,T.P.hz,T.hah⟩
theorem PageH.mono{aw an tp:Addr}{z:List Nat}{size:Int}{tz:Tok}(P:PageH L aw an tp ra row D ps z size tz p)(k: ∀{m:Addr×Asn},Mm m L→Mm m L'):PageH L' aw an tp ra row D ps z size tz p:=
 ⟨k P.hL,fun v hv=>(P.hr v hv).elim fun a h=>⟨a,h.1,k h.2⟩,P.hrow,P.hD,P.hDc,P.hz,k P.hn,P.hps,k P.hp,fun j p c h1 h2=>⟨k (P.hpile j p c h1 h2).1,k (P.hpile j p c h1 h2).2.1,(P.hpile j p c h1 h2).2.2.mono k⟩,P.hs,P.hp6,P.hpl⟩
theorem DueH.mono{aw ah:Addr}{z:List Nat}(P:DueH L aw ah ra row D z)(k: ∀{m:Addr×Asn},Mm m L→Mm m L'):DueH L' aw ah ra row D z:=
 ⟨k P.hL,fun v hv=>(P.hr v hv).elim fun a h=>⟨a,h.1,k h.2⟩,P.hrow,P.hD,P.hDc,P.hz,k P.hn⟩
set_option maxHeartbeats 8000000 in
theorem law_26(KE:Ke F b)(KW:Kw w b)(KB:Kb b)(KQ:Kq F)(hA:Rm 9 A)(T:LawT L x ra aas row D ps p)(q: ∀L',Q (.ret (.bool true)) L'):
  W b w A (ledT x v pa dm la gu ne L) (execs ((bodyOf (stm 27)).drop 26) (envT x)) Q:=by
 revert b w A L F x ra aas row D ps p Q v pa dm la gu ne KE KW KB KQ hA T q
 funext b w A L F x ra aas row D ps p Q v pa dm la gu ne KE KW KB KQ hA T q
 have K:=KE.n
 refine hkX (page_due T.tr T.hbd T.P.hs) ?_
 funext ⟨p',g1,g2,g3,g4⟩
 refine W.frzT ?_
 funext L0 kv _ _ _ _ _ _ _ _ _ _ _ _ _ _ _ _ mk eL
 refine W.ret ?_
 repeat tb_start
 refine W.abg T.hbd (fun fz=>by kernel_rfl) (fun fz=>by kernel_rfl) ?_
 funext t1
 repeat tb_start
 refine W.abg T.ho (fun fz=>by kernel_rfl) (fun fz=>by kernel_rfl) ?_
 funext t2
 repeat tb_start
 refine law_page_ok (row:=row) (D:=D) (l:=x.bd) (o:=x.o) KE KW KB KQ hA (T.P.mono mk) ?_
 funext t3
 repeat tb_start
 have mab:=mk T.hab
 refine law_due_ok (row:=row) (D:=D) (bd:=x.bd) (o:=x.o) K hA.le (T.due.mono mk) mab T.hal (fun j a c h1 h2=>mk (T.haa j a c h1 h2)) g1 g2 g3 ?_
 funext t4
 rw [outT_flat]
 refine W.eqL ?_
 rw [g4]
 unfold keptD
 rw [beq_self_eq_true]
 exact q _
end
end
section
section
variable{b:qe}{w:World}{A:qq}{L L':Led}{R:Value→Led→Prop}{F:Frag}{x:TX}{ra aas:List Addr}{row:Nat→List Nat}{D:List (List Nat)}{ps:List Pile}{p:List Nat}{Q:Flow→Led→Prop}{v pa dm la gu ne:Option Value}
structure TreeP(D:List (List Nat)):Prop where
 len:D.length=6
 zero:D[0]? =some [0]
 ch: ∀c∈D,c∈chains
 last: ∀(v:Nat) c,D[v]? =some c→c.getLast? =some v
 pre: ∀(v:Nat) c,D[v]? =some c→ ∀j∈c,∃cj,D[j]? =some cj∧cj<+:c
theorem treeP{D:List (List Nat)}(h:D∈trees 5):TreeP D:=by
 have h:=treeOks D h
 unfold treeOk at h
 simp-iota only [qt,beq_iff_eq,qz,zS,zW,zH] at h
 obtain ⟨⟨⟨h1,h2⟩,h3⟩,h4⟩:=h
 have hv: ∀{v:Nat} {c},D[v]? =some c→v<6∧D.getD v []=c:=fun {v c} hc=>⟨by have:=(qr.mp hc).1;omega,by rw [qi,hc];rfl⟩
 refine ⟨h1,h2,h3,fun v c hc=> ?_,fun v c hc j hj=> ?_⟩
 ·obtain ⟨e1,e2⟩:=hv hc
  have:=(h4 v e1).1
  rwa [e2] at this
 ·obtain ⟨e1,e2⟩:=hv hc
  have h5:=(h4 v e1).2
  rw [e2] at h5
  have hj6:=chain_mem c (h3 c (qk hc)) j hj
  obtain ⟨cj,hcj⟩: ∃cj,D[j]? =some cj:=⟨_,qd (by omega)⟩
  refine ⟨cj,hcj,?_⟩
  have:=h5 j hj
  rwa [(hv hcj).2] at this
theorem lit_dlocal:qb ".local"=sOf (46::loc5):=by decide+kernel
theorem str_ok{z c:List Nat}(hz:z∈zones)(hc:c∈chains):(hostL z c).length<100:=by
 have:=okStrs z hz c hc
 unfold okStr at this
 simp-iota only [qt,decide_eq_true_eq] at this
 exact this.2
theorem zone_ok{z:List Nat}(hz:z∈zones):reachL z=some z∧reachL (hostL z [0])=some (if z=loc5 then 46::loc5 else hostL z [0])∧z.length<100:=by
 have h:=okZones z hz
 unfold okZone at h
 simp-iota only [qt,decide_eq_true_eq,beq_iff_eq] at h
 exact ⟨h.1.1.1,h.1.1.2,h.2⟩
set_option maxHeartbeats 8000000 in
theorem law_25(KE:Ke F b)(hA:Rm 3 A)(T:LawT L x ra aas row D ps p)(q:W b w A (ledT x v pa dm la gu ne L) (execs ((bodyOf (stm 27)).drop 26) (envT x)) Q):
  W b w A (ledT x v pa dm la gu ne L) (execs ((bodyOf (stm 27)).drop 25) (envT x)) Q:=by
 revert b w A L F x ra aas row D ps p Q v pa dm la gu ne KE hA T q
 funext b w A L F x ra aas row D ps p Q v pa dm la gu ne KE hA T q
 have K:=KE.n
 have TP:=treeP T.tr
 refine hkX (zone_ok T.P.hz) ?_
 funext ⟨z1,z2,z3⟩
 have hd0:(D.map fun c=>sOf (hostL x.z c))[0]? =some (sOf (hostL x.z [0])):=by rw [qp,TP.zero];rfl
 have hl0:=str_ok T.P.hz (T.P.hDc _ (qk TP.zero))
 refine W.frzT ?_
 funext L0 kv _ _ _ _ _ _ _ _ _ _ _ _ _ _ _ _ mk eL
 have hah:=mk T.hah
 refine W.ifs ?_
 repeat tb_start
 refine W.itemL (T:=VS) (ds:=D.map fun c=>sOf (hostL x.z c)) (i:=0) (by tb_rel) (by omega) hd0 (fun fz=>by kernel_rfl) ?_
 funext _ ⟨t1,rfl⟩
 repeat tb_start
 refine reach_ok K hA.le (by omega) z2 ?_
 funext t2
 repeat tb_start
 rw [lit_local,sOf_eq]
 by_cases hz:x.z=loc5
 ·rw [if_pos hz,hz,beq_self_eq_true]
  refine ⟨?_,fun e=>nomatch e⟩
  funext _
  repeat tb_start
  rw [lit_dlocal]
  refine W.neS ?_
  rw [bne_self_eq_false]
  refine W.tb (W.no ?_)
  exact eL▸q
 ·rw [if_neg hz,show (x.z==loc5)=false by simpa using hz]
  refine W.no ?_
  repeat tb_start
  refine W.itemL (T:=VS) (ds:=D.map fun c=>sOf (hostL x.z c)) (i:=0) (by tb_rel) (by omega) hd0 (fun fz=>by kernel_rfl) ?_
  funext _ ⟨t3,rfl⟩
  refine W.neS ?_
  rw [bne_self_eq_false]
  refine W.tb (W.no ?_)
  exact eL▸q
theorem lit_77:qb ".77"=sOf [46,55,55]:=by decide+kernel
theorem lit_w7:qb "w.7."=sOf [119,46,55,46]:=by decide+kernel
theorem lit_w:qb "w."=sOf [119,46]:=by decide+kernel
theorem lit_dw:qb ".w."=sOf [46,119,46]:=by decide+kernel
theorem lit_x:qb ".x"=sOf [46,120]:=by decide+kernel
theorem lit_g:qb "g."=sOf [103,46]:=by decide+kernel
theorem str_77{z c:List Nat}(hz:z∈zones)(hc:c∈chains):reachL (hostL z c++ [46,55,55])=some (hostL z c++ [46,55,55]):=by
 have:=okStrs z hz c hc
 unfold okStr at this
 simp-iota only [qt,decide_eq_true_eq,beq_iff_eq] at this
 exact this.1.1.1.2
set_option maxHeartbeats 8000000 in
theorem law_24{c5:List Nat}{tl:Tok}(KE:Ke F b)(hA:Rm 3 A)(T:LawT L x ra aas row D ps p)(h5:D[5]? =some c5)(q:W b w A (ledT x v pa dm (some (.str (sOf (hostL x.z c5)) tl)) gu ne L) (execs ((bodyOf (stm 27)).drop 25) (envT x)) Q):
  W b w A (ledT x v pa dm (some (.str (sOf (hostL x.z c5)) tl)) gu ne L) (execs ((bodyOf (stm 27)).drop 24) (envT x)) Q:=by
 revert b w A L F x ra aas row D ps p Q v pa dm gu ne c5 tl KE hA T h5 q
 funext b w A L F x ra aas row D ps p Q v pa dm gu ne c5 tl KE hA T h5 q
 have K:=KE.n
 have TP:=treeP T.tr
 refine hkX (zone_ok T.P.hz) ?_
 funext ⟨z1,z2,z3⟩
 have hcc:=T.P.hDc _ (qk h5)
 have hl0:=str_ok T.P.hz hcc
 have h77:=str_77 T.P.hz hcc
 refine W.frzT ?_
 funext L0 kv _ _ _ _ _ _ _ _ _ _ _ _ _ _ _ _ mk eL
 refine W.ifs ?_
 repeat tb_start
 refine reach_ok K hA.le (by omega) z1 ?_
 funext t2
 repeat tb_start
 refine W.neS ?_
 rw [bne_self_eq_false]
 repeat tb_start
 rw [lit_77]
 refine W.addL (by simp;omega) ?_
 funext t3
 repeat tb_start
 refine reach_ok K hA.le (by simp;omega) h77 ?_
 funext t4
 repeat tb_start
 refine W.addL (by simp;omega) ?_
 funext t5
 refine W.neS ?_
 rw [bne_self_eq_false]
 refine W.tb (W.no (W.tor0 (W.no ?_)))
 exact eL▸q
set_option maxHeartbeats 8000000 in
theorem law_22{c5:List Nat}{tl:Tok}(KE:Ke F b)(hA:Rm 3 A)(T:LawT L x ra aas row D ps p)(h5:D[5]? =some c5)(q:W b w A (ledT x v pa dm (some (.str (sOf (hostL x.z c5)) tl)) gu ne L) (execs ((bodyOf (stm 27)).drop 23) (envT x)) Q):
  W b w A (ledT x v pa dm (some (.str (sOf (hostL x.z c5)) tl)) gu ne L) (execs ((bodyOf (stm 27)).drop 22) (envT x)) Q:=by
 revert b w A L F x ra aas row D ps p Q v pa dm gu ne c5 tl KE hA T h5 q
 funext b w A L F x ra aas row D ps p Q v pa dm gu ne c5 tl KE hA T h5 q
 have K:=KE.n
 have TP:=treeP T.tr
 have hcc:=T.P.hDc _ (qk h5)
 have hl0:=str_ok T.P.hz hcc
 have hok:=okStrs x.z T.P.hz c5 hcc
 unfold okStr at hok
 simp-iota only [qt,decide_eq_true_eq,beq_iff_eq,qz] at hok
 refine hkX (hok) ?_
 funext ⟨⟨⟨⟨⟨⟨o1,o2⟩,o3⟩,o4⟩,o5⟩,o6⟩,o7⟩
 refine W.frzT ?_
 funext L0 kv _ _ _ _ _ _ _ _ _ _ _ _ _ _ _ _ mk eL
 refine W.ifs ?_
 repeat tb_start
 rw [lit_w7]
 refine W.addL (by simp;omega) ?_
 funext t3
 repeat tb_start
 rw [lit_dot]
 refine W.addL (by simp;omega) ?_
 funext t4
 repeat tb_start
 refine W.dm K hA.le o2 ?_
 repeat tb_start
 refine W.isnB ?_
 rw [bne_self_eq_false]
 repeat tb_start
 refine W.supL (fun c hc=>by simpa using o6 c hc) (by omega) ?_
 funext t5
 repeat tb_start
 refine W.dm K hA.le o3 ?_
 repeat tb_start
 refine W.isnB ?_
 rw [bne_self_eq_false]
 refine W.tb (W.no (W.tor0 (W.no ?_)))
 exact eL▸q
set_option maxHeartbeats 8000000 in
theorem law_20{c5:List Nat}(KE:Ke F b)(hA:Rm 3 A)(T:LawT L x ra aas row D ps p)(h5:D[5]? =some c5)(q: ∀tl,W b w A (ledT x v pa dm (some (.str (sOf (hostL x.z c5)) tl)) gu ne L) (execs ((bodyOf (stm 27)).drop 21) (envT x)) Q):
  W b w A (ledT x v pa dm la gu ne L) (execs ((bodyOf (stm 27)).drop 20) (envT x)) Q:=by
 revert b w A L F x ra aas row D ps p Q v pa dm la gu ne c5 KE hA T h5 q
 funext b w A L F x ra aas row D ps p Q v pa dm la gu ne c5 KE hA T h5 q
 have hah:=T.hah
 refine W.asg (by kernel_rfl!) ?_
 repeat tb_start
 refine W.itemL (T:=VS) (ds:=D.map fun c=>sOf (hostL x.z c)) (i:=5) (by tb_rel) (by omega) (by rw [qp,h5];rfl) (fun fz=>by kernel_rfl) ?_
 funext _ ⟨t1,rfl⟩
 apply W.st
 ·kernel_rfl
 ·tb_rel
 ·tb_rel
 exact q t1
end
end
section
section
variable{b:qe}{w:World}{A:qq}{L L':Led}{R:Value→Led→Prop}{F:Frag}{x:TX}{ra aas:List Addr}{row:Nat→List Nat}{D:List (List Nat)}{ps:List Pile}{p:List Nat}{Q:Flow→Led→Prop}{v pa dm la gu ne:Option Value}
theorem chain_short: ∀c∈chains,c.length<2→c.getLast? =some 0:=by decide+kernel
theorem host_tail{z c:List Nat}(h:2≤c.length):(hostL z c).drop 1=46::hostL z c.dropLast:=by
 rcases jM c with rfl|⟨c0,k,rfl⟩
 ·simp at h
 ·rw [List.concat_eq_append,List.dropLast_concat,host_snoc];rfl
set_option maxHeartbeats 8000000 in
theorem law_23(KE:Ke F b)(hA:Rm 3 A)(T:LawT L x ra aas row D ps p)(q:W b w A (ledT x v pa dm la gu ne L) (execs ((bodyOf (stm 27)).drop 24) (envT x)) Q):
  W b w A (ledT x v pa dm la gu ne L) (execs ((bodyOf (stm 27)).drop 23) (envT x)) Q:=by
 revert b w A L F x ra aas row D ps p Q v pa dm la gu ne KE hA T q
 funext b w A L F x ra aas row D ps p Q v pa dm la gu ne KE hA T q
 have K:=KE.n
 have TP:=treeP T.tr
 have hn:=T.P.hn
 refine W.ifs ?_
 repeat tb_start
 refine W.compL [] [qb ".0",qb "name"] (fun fz=>by kernel_rfl) (by kernel_rfl) (by kernel_rfl) ?_
 repeat tb_start
 funext sl
 refine W.partL (T:=VS) (ds:=D.map fun c=>sOf (hostL x.z c)) (ds':=(D.map fun c=>sOf (hostL x.z c)).drop 1) (by tb_rel) .head (.int _ _) .none .none (by simp) (by rw [qh,TP.len];omega) (fun vs hv=>pick_from hv 1) ⟨_,rfl⟩ ?_
 funext al
 have hel: ∀{j:Nat} {s:Str},((D.map fun c=>sOf (hostL x.z c)).drop 1)[j]? =some s→ ∃c,D[j+1]? =some c∧s=sOf (hostL x.z c)∧c∈chains∧2≤c.length:=by
  funext j s hs
  rw [vK,qp,show 1+j=j+1 by omega] at hs
  cases h:D[j+1]? with
  |none=>rw [h] at hs;cases hs
  |some c=>
   revert c;funext c h
   rw [h] at hs;cases hs
   have hcc:=TP.ch c (qk h)
   refine ⟨c,rfl,rfl,hcc,?_⟩
   by_cases h2:c.length<2
   ·have h3:=chain_short c hcc h2
    rw [TP.last _ _ h] at h3
    simp at h3
   ·exact qQ h2
 have hlen:((D.map fun c=>sOf (hostL x.z c)).drop 1).length=5:=by rw [zt,qh,TP.len]
 refine ⟨fun acc k L2=>L2=(acc,isL VS (((D.drop 1).take k).map fun c=>sOf (46::hostL x.z c.dropLast)))::(al,isL VS ((D.map fun c=>sOf (hostL x.z c)).drop 1))::ledT x v pa dm la gu ne L,((D.map fun c=>sOf (hostL x.z c)).drop 1).length,⟨_,_,Walk.list (T:=VS) (ds:=(D.map fun c=>sOf (hostL x.z c)).drop 1) hA.handled .head,⟨_,VS,fun acc=>⟨_,.cons .head (.skip .all),rfl⟩⟩,?_,?_⟩,?_⟩
 ·funext acc j L2 rfl
  tb_rel
 ·funext acc C2 it P2 j v' L2 fr hj ⟨d,hd,t1,rfl⟩ hfr rfl
  refine hkX (names2 hfr) ?_
  funext ⟨u1,u2,rfl⟩
  refine hkX (hel hd) ?_
  funext ⟨c,hc,rfl,hcc,hc2⟩
  have hl0:=str_ok T.P.hz hcc
  have okr:=okReachs x.z T.P.hz c hcc
  unfold okReach at okr
  simp-iota only [Bool.or_eq_true,qt,decide_eq_true_eq,beq_iff_eq,zS] at okr
  have okr:=okr.resolve_left (by omega)
  repeat tb_start
  refine reach_ok K hA.le (by omega) okr.1 ?_
  funext t2
  refine W.append (T:=VS) (d:=sOf (46::hostL x.z c.dropLast)) (by tb_rel) (by rw [qh,qI];exact Ar.m9 hlen hj rfl) ⟨t2,rfl⟩ ?_
  refine ⟨[(qb ".0",u1),(qb "name",some (.str (sOf (hostL x.z c)) t1))],_,rfl,.all,?_⟩
  dsimp only
  rw [qV,vK,show 1+j=j+1 by omega,hc,qB]
  rfl
 ·funext acc L2 rfl
  rw [Qe (by rw [hlen,zt,TP.len];omega)]
  repeat tb_start
  refine W.compL [] [qb ".0",qb "name"] (fun fz=>by kernel_rfl) (by kernel_rfl) (by kernel_rfl) ?_
  repeat tb_start
  funext sl
  refine W.partL (T:=VS) (ds:=D.map fun c=>sOf (hostL x.z c)) (ds':=(D.map fun c=>sOf (hostL x.z c)).drop 1) (by tb_rel) .head (.int _ _) .none .none (by simp) (by rw [qh,TP.len];omega) (fun vs hv=>pick_from hv 1) ⟨_,rfl⟩ ?_
  funext al
  refine ⟨fun acc2 k L2=>L2=(acc2,isL VS (((D.drop 1).take k).map fun c=>sOf (46::hostL x.z c.dropLast)))::(al,isL VS ((D.map fun c=>sOf (hostL x.z c)).drop 1))::(acc,isL VS ((D.drop 1).map fun c=>sOf (46::hostL x.z c.dropLast)))::ledT x v pa dm la gu ne L,((D.map fun c=>sOf (hostL x.z c)).drop 1).length,⟨_,_,Walk.list (T:=VS) (ds:=(D.map fun c=>sOf (hostL x.z c)).drop 1) hA.handled .head,⟨_,VS,fun acc=>⟨_,.cons .head (.skip (.cons .head (.skip .all))),rfl⟩⟩,?_,?_⟩,?_⟩
  ·funext acc j L2 rfl
   tb_rel
  ·funext acc C2 it P2 j v' L2 fr hj ⟨d,hd,t1,rfl⟩ hfr rfl
   refine hkX (names2 hfr) ?_
   funext ⟨u1,u2,rfl⟩
   refine hkX (hel hd) ?_
   funext ⟨c,hc,rfl,hcc,hc2⟩
   have hl0:=str_ok T.P.hz hcc
   repeat tb_start
   funext sl2
   refine W.partS (i:=1) (by rw [sOf_len,qu];omega) .head (by kernel_rfl) (fun fz=>by kernel_rfl) ?_
   funext t2
   have hsl:=sOf_from (hostL x.z c) (k:=1) (by
    have:=congrArg Qy (host_tail (z:=x.z) hc2)
    rw [zt,qy] at this;exact qv (Nat.lt_of_sub_eq_succ this))
   rw [show ((1:Nat):Int)=1 from rfl] at hsl
   rw [hsl,host_tail hc2]
   refine W.append (T:=VS) (d:=sOf (46::hostL x.z c.dropLast)) (by tb_rel) (by rw [qh,qI];exact Ar.m9 hlen hj rfl) ⟨t2,rfl⟩ ?_
   refine ⟨[(qb ".0",u1),(qb "name",some (.str (sOf (hostL x.z c)) t1))],_,rfl,.cons (by tb_rel) (.cons (by tb_rel) (.skip .all)),?_⟩
   dsimp only
   rw [qV,vK,show 1+j=j+1 by omega,hc,qB]
   rfl
  ·funext acc2 L2 rfl
   rw [Qe (by rw [hlen,zt,TP.len];omega)]
   refine W.neL (T:=VS) (ds:=(D.drop 1).map fun c=>sOf (46::hostL x.z c.dropLast)) (es:=(D.drop 1).map fun c=>sOf (46::hostL x.z c.dropLast)) eqeS hA.u1 (by tb_rel) (by tb_rel) ?_
   rw [decide_eq_true rfl]
   refine W.tb (W.no ?_)
   exact W.take q (.skip (.skip (.skip .all)))
end
end
section
section
variable{b:qe}{w:World}{A:qq}{L L':Led}{R:Value→Led→Prop}{F:Frag}{x:TX}{ra aas:List Addr}{row:Nat→List Nat}{D:List (List Nat)}{ps:List Pile}{p:List Nat}{Q:Flow→Led→Prop}{v pa dm la gu ne:Option Value}{env:Env}{pos:Pos}
theorem W.list8{e1 e2 e3 e4 e5 e6 e7 e8:Expr}(hs:zB [e1,e2,e3,e4,e5,e6,e7,e8] env= [(false,eval e1 env),(false,eval e2 env),(false,eval e3 env),(false,eval e4 env),(false,eval e5 env),(false,eval e6 env),(false,eval e7 env),(false,eval e8 env)])
  (h:W b w A L (eval e1 env) fun v1 L1=>W b w A L1 (eval e2 env) fun v2 L2=>W b w A L2 (eval e3 env) fun v3 L3=>W b w A L3 (eval e4 env) fun v4 L4=>W b w A L4 (eval e5 env) fun v5 L5=>W b w A L5 (eval e6 env) fun v6 L6=>W b w A L6 (eval e7 env) fun v7 L7=>W b w A L7 (eval e8 env) fun v8 L8=>W b w A L8 (newList [v1,v2,v3,v4,v5,v6,v7,v8]) R):W b w A L (eval (.List [e1,e2,e3,e4,e5,e6,e7,e8] pos) env) R:=
 W.dispL (trees:= [(false,eval e1 env),(false,eval e2 env),(false,eval e3 env),(false,eval e4 env),(false,eval e5 env),(false,eval e6 env),(false,eval e7 env),(false,eval e8 env)]) (by rw [hs];rfl) (W.sp (h.mono fun fz fz h1=>W.sp (h1.mono fun fz fz h2=>W.sp (h2.mono fun fz fz h3=>W.sp (h3.mono fun fz fz h4=>W.sp (h4.mono fun fz fz h5=>W.sp (h5.mono fun fz fz h6=>W.sp (h6.mono fun fz fz h7=>W.sp (h7.mono fun fz fz h8=>W.sp0 h8)))))))))
set_option maxHeartbeats 8000000 in
theorem law_21{c5:List Nat}{tl:Tok}(KE:Ke F b)(hA:Rm 3 A)(T:LawT L x ra aas row D ps p)(h5:D[5]? =some c5)(q: ∀gu ne,W b w A (ledT x v pa dm (some (.str (sOf (hostL x.z c5)) tl)) gu ne L) (execs ((bodyOf (stm 27)).drop 22) (envT x)) Q):
  W b w A (ledT x v pa dm (some (.str (sOf (hostL x.z c5)) tl)) gu ne L) (execs ((bodyOf (stm 27)).drop 21) (envT x)) Q:=by
 revert b w A L F x ra aas row D ps p Q v pa dm gu ne c5 tl KE hA T h5 q
 funext b w A L F x ra aas row D ps p Q v pa dm gu ne c5 tl KE hA T h5 q
 have K:=KE.n
 have TP:=treeP T.tr
 have hcc:=T.P.hDc _ (qk h5)
 have hl0:=str_ok T.P.hz hcc
 refine hkX (zone_ok T.P.hz) ?_
 funext ⟨z1,z2,z3⟩
 have hok:=okStrs x.z T.P.hz c5 hcc
 unfold okStr at hok
 simp-iota only [qt,decide_eq_true_eq,beq_iff_eq,qz] at hok
 refine hkX (hok) ?_
 funext ⟨⟨⟨⟨⟨⟨o1,o2⟩,o3⟩,o4⟩,o5⟩,o6⟩,o7⟩
 refine W.forG (fun fz=>by kernel_rfl) ?_
 refine W.frzT ?_
 funext L0 kv _ _ _ _ _ _ _ _ _ _ _ _ _ _ _ _ mk eL
 refine W.list8 (by kernel_rfl) ?_
 repeat tb_start
 rw [lit_dot,lit_w,lit_dw,lit_x,lit_77]
 refine W.addL (by simp;try omega) ?_
 funext _
 repeat tb_start
 refine W.addL (by simp;try omega) ?_
 funext _
 repeat tb_start
 refine W.newT (T:=VS) (ds:= [sOf ([46,119,46]++hostL x.z c5),sOf ([46]++hostL x.z c5)]) (.cons ⟨_,rfl⟩ (.one ⟨_,rfl⟩)) (by simp) ?_
 funext a1
 repeat tb_start
 refine W.addL (by simp;try omega) ?_
 funext _
 repeat tb_start
 refine W.addL (by simp;try omega) ?_
 funext _
 repeat tb_start
 refine W.addL (by simp;try omega) ?_
 funext _
 repeat tb_start
 refine W.newT (T:=VS) (ds:= [sOf ([119,46]++hostL x.z c5++ [46]),sOf ([46]++hostL x.z c5)]) (.cons ⟨_,rfl⟩ (.one ⟨_,rfl⟩)) (by simp) ?_
 funext a2
 repeat tb_start
 refine W.addL (by simp;try omega) ?_
 funext _
 repeat tb_start
 refine W.addL (by simp;try omega) ?_
 funext _
 repeat tb_start
 refine W.addL (by simp;try omega) ?_
 funext _
 repeat tb_start
 refine W.newT (T:=VS) (ds:= [sOf ([119,46]++hostL x.z c5++ [46,55,55]),sOf ([46]++hostL x.z c5)]) (.cons ⟨_,rfl⟩ (.one ⟨_,rfl⟩)) (by simp) ?_
 funext a3
 repeat tb_start
 refine W.addL (by simp;try omega) ?_
 funext _
 repeat tb_start
 refine W.addL (by simp;try omega) ?_
 funext _
 repeat tb_start
 refine W.addL (by simp;try omega) ?_
 funext _
 repeat tb_start
 refine W.addL (by simp;try omega) ?_
 funext _
 repeat tb_start
 refine W.newT (T:=VS) (ds:= [sOf ([119,46]++hostL x.z c5++ [46,120]),sOf ([46]++hostL x.z c5++ [46])]) (.cons ⟨_,rfl⟩ (.one ⟨_,rfl⟩)) (by simp) ?_
 funext a4
 repeat tb_start
 refine W.addL (by simp;try omega) ?_
 funext _
 repeat tb_start
 refine W.newT (T:=VS) (ds:= [sOf ([119,46]++hostL x.z c5),sOf (hostL x.z c5)]) (.cons ⟨_,rfl⟩ (.one ⟨_,rfl⟩)) (by simp) ?_
 funext a5
 repeat tb_start
 refine W.addL (by simp;try omega) ?_
 funext _
 repeat tb_start
 refine W.newT (T:=VS) (ds:= [sOf ([119,46]++hostL x.z c5),sOf ([46])]) (.cons ⟨_,rfl⟩ (.one ⟨_,rfl⟩)) (by simp) ?_
 funext a6
 repeat tb_start
 refine W.addL (by simp;try omega) ?_
 funext _
 repeat tb_start
 refine W.newT (T:=VS) (ds:= [sOf ([119,46]++hostL x.z c5),sOf (x.z)]) (.cons ⟨_,rfl⟩ (.one ⟨_,rfl⟩)) (by simp) ?_
 funext a7
 repeat tb_start
 refine W.addL (by simp;try omega) ?_
 funext _
 repeat tb_start
 refine W.newT (T:=VS) (ds:= [sOf (hostL x.z c5),sOf ([46]++hostL x.z c5)]) (.cons ⟨_,rfl⟩ (.one ⟨_,rfl⟩)) (by simp) ?_
 funext a8
 repeat tb_start
 refine W.newL (T:=VR) (ds:= [a1,a2,a3,a4,a5,a6,a7,a8]) (.cons rfl (.cons rfl (.cons rfl (.cons rfl (.cons rfl (.cons rfl (.cons rfl (.one rfl)))))))) (by simp) ?_
 funext gl
 subst eL
 have hZ: ∃TT:Led,TT= [(a8,isT VS [sOf (hostL x.z c5),sOf ([46]++hostL x.z c5)]),(a7,isT VS [sOf ([119,46]++hostL x.z c5),sOf x.z]),(a6,isT VS [sOf ([119,46]++hostL x.z c5),sOf [46]]),(a5,isT VS [sOf ([119,46]++hostL x.z c5),sOf (hostL x.z c5)]),(a4,isT VS [sOf ([119,46]++hostL x.z c5++ [46,120]),sOf ([46]++hostL x.z c5++ [46])]),(a3,isT VS [sOf ([119,46]++hostL x.z c5++ [46,55,55]),sOf ([46]++hostL x.z c5)]),(a2,isT VS [sOf ([119,46]++hostL x.z c5++ [46]),sOf ([46]++hostL x.z c5)]),(a1,isT VS [sOf ([46,119,46]++hostL x.z c5),sOf ([46]++hostL x.z c5)])]:=⟨_,rfl⟩
 revert hZ;funext ⟨TT,hTT⟩
 have hg: ∀(i:Nat) a,[a1,a2,a3,a4,a5,a6,a7,a8][i]? =some a→ ∃g n,Mm (a,isT VS [sOf g,sOf n]) TT∧dmIs g n false=true:=by
  rw [hTT]
  funext i a ha
  match i,ha with
  |0,ha=>cases ha;exact ⟨_,_,by tb_rel,o1 _ (.head _)⟩
  |1,ha=>cases ha;exact ⟨_,_,by tb_rel,o1 _ (.tail _ (.head _))⟩
  |2,ha=>cases ha;exact ⟨_,_,by tb_rel,o1 _ (.tail _ (.tail _ (.head _)))⟩
  |3,ha=>cases ha;exact ⟨_,_,by tb_rel,o1 _ (.tail _ (.tail _ (.tail _ (.head _))))⟩
  |4,ha=>cases ha;exact ⟨_,_,by tb_rel,o1 _ (.tail _ (.tail _ (.tail _ (.tail _ (.head _)))))⟩
  |5,ha=>cases ha;exact ⟨_,_,by tb_rel,o1 _ (.tail _ (.tail _ (.tail _ (.tail _ (.tail _ (.head _))))))⟩
  |6,ha=>cases ha;exact ⟨_,_,by tb_rel,o1 _ (.tail _ (.tail _ (.tail _ (.tail _ (.tail _ (.tail _ (.head _)))))))⟩
  |7,ha=>cases ha;exact ⟨_,_,by tb_rel,o1 _ (.tail _ (.tail _ (.tail _ (.tail _ (.tail _ (.tail _ (.tail _ (.head _))))))))⟩
  |i+8,ha=>simp at ha
 refine ⟨fun i L2=> ∃gu ne,L2=(gl,isL VR [a1,a2,a3,a4,a5,a6,a7,a8])::(TT++ledT x v pa dm (some (.str (sOf (hostL x.z c5)) tl)) gu ne L),8,_,_,Walk.list (T:=VR) (ds:= [a1,a2,a3,a4,a5,a6,a7,a8]) hA.handled .head,⟨_,.all,gu,ne,by rw [hTT];rfl⟩,?_,?_,?_⟩
 ·funext i L2 ⟨gu,ne,rfl⟩
  tb_rel
 ·funext i v' L2 it P2 hi ⟨a,ha,rfl⟩ ⟨gu,ne,rfl⟩
  refine hkX (hg i a ha) ?_
  funext ⟨g,n,hm,hd⟩
  refine W.tgtT2 (T:=VS) hA.handled (by tb_rel) ?_
  funext _ _ ⟨u1,rfl⟩ ⟨u2,rfl⟩
  repeat tb_start
  refine W.dm K hA.le hd ?_
  repeat tb_start
  refine W.isnB ?_
  rw [bne_self_eq_false]
  refine W.tb (W.no ?_)
  exact W.nil ⟨_,.all,_,_,rfl⟩
 ·funext L2 ⟨gu,ne,rfl⟩
  refine W.take (q gu ne) (.skip ?_)
  exact .last (.skip .all)
end
end
section
noncomputable def dnF(z:List Nat)(D:List (List Nat))(bd:Nat):List Nat:=((D.map (hostL z))++ [[103,46]++z]).getD bd []
section
variable{b:qe}{w:World}{A:qq}{L L':Led}{R:Value→Led→Prop}{F:Frag}{x:TX}{ra aas:List Addr}{row:Nat→List Nat}{D:List (List Nat)}{ps:List Pile}{p:List Nat}{Q:Flow→Led→Prop}{v pa dm la gu ne:Option Value}{env:Env}{pos:Pos}
theorem dom_is{z:List Nat}(hz:z∈zones)(TP:TreeP D){bd:Nat}(hb:bd<7){i:Nat}{c:List Nat}(hc:D[i]? =some c):dmIs ([119,46]++hostL z c) (([46]++dnF z D bd).map up1) (c.contains bd)=true:=by
 revert D z hz TP bd hb i c hc
 funext D z hz TP bd hb i c hc
 have hcc:=TP.ch c (qk hc)
 unfold dnF
 by_cases h6:bd<6
 ·have hZ: ∃cb,D[bd]? =some cb:=⟨_,qd (by rw [TP.len];omega)⟩
  revert hZ;funext ⟨cb,hcb⟩
  have hbb:=TP.ch cb (qk hcb)
  have e:((D.map (hostL z))++ [[103,46]++z]).getD bd []=hostL z cb:=by
   rw [qi,qE (by rw [qh,TP.len];exact h6),qp,hcb];rfl
  rw [e]
  have h1:=okDom z hz cb hbb c hcc
  have h2:c.contains bd=cb.isPrefixOf c:=by
   rw [vZ,zS,zH]
   constructor
   ·funext hm
    refine hkX (TP.pre i c hc bd hm) ?_
    funext ⟨cj,e1,e2⟩
    rw [hcb] at e1;cases e1;exact e2
   ·funext hm
    exact hm.subset (List.mem_of_getLast? (TP.last _ _ hcb))
  rw [h2];exact h1
 ·obtain rfl:bd=6:=by exact vC (jt hb) (qQ h6)
  have e:((D.map (hostL z))++ [[103,46]++z]).getD 6 []= [103,46]++z:=by
   rw [qi,zd (by rw [qh,TP.len];omega),qh,TP.len];rfl
  rw [e]
  have hok:=okStrs z hz c hcc
  unfold okStr at hok
  simp-iota only [qt,decide_eq_true_eq,beq_iff_eq,qz] at hok
  have h2:c.contains 6=false:=by
   rw [Bool.eq_false_iff]
   funext hm
   have:=chain_mem c hcc 6 (zS.mp hm)
   omega
  rw [h2]
  exact hok.1.1.2
theorem dn_len{z:List Nat}(hz:z∈zones)(TP:TreeP D){bd:Nat}(hb:bd<7){i:Nat}{c:List Nat}(hc:D[i]? =some c):(dnF z D bd).length<9000∧ ∀k∈ [46]++dnF z D bd,k<128:=by
 revert D z hz TP bd hb i c hc
 funext D z hz TP bd hb i c hc
 unfold dnF
 by_cases h6:bd<6
 ·have hZ: ∃cb,D[bd]? =some cb:=⟨_,qd (by rw [TP.len];omega)⟩
  revert hZ;funext ⟨cb,hcb⟩
  have hbb:=TP.ch cb (qk hcb)
  have e:((D.map (hostL z))++ [[103,46]++z]).getD bd []=hostL z cb:=by
   rw [qi,qE (by rw [qh,TP.len];exact h6),qp,hcb];rfl
  rw [e]
  have hok:=okStrs z hz cb hbb
  unfold okStr at hok
  simp-iota only [qt,decide_eq_true_eq,beq_iff_eq,qz] at hok
  refine ⟨by omega,?_⟩
  funext k hk
  refine Or.elim (qO.mp hk) ?_ ?_
  ·funext hk
   simp at hk;omega
  ·funext hk
   exact hok.1.2 k hk
 ·obtain rfl:bd=6:=by exact vC (jt hb) (qQ h6)
  have e:((D.map (hostL z))++ [[103,46]++z]).getD 6 []= [103,46]++z:=by
   rw [qi,zd (by rw [qh,TP.len];omega),qh,TP.len];rfl
  rw [e]
  have h:=okZones z hz
  unfold okZone at h
  simp-iota only [qt,decide_eq_true_eq,beq_iff_eq,qz] at h
  refine ⟨by rw [qm];simp;omega,?_⟩
  funext k hk
  refine Or.elim (qO.mp hk) ?_ ?_
  ·funext hk
   simp at hk;omega
  ·funext hk
   refine Or.elim (qO.mp hk) ?_ ?_
   ·funext hk
    simp at hk;exact hk.elim (fun e=>Ar.d1 e (Ar.d rfl)) fun e=>Ar.d1 e (Ar.d rfl)
   ·funext hk
    exact h.1.2 k hk
set_option maxHeartbeats 8000000 in
theorem law_19{td:Tok}(KE:Ke F b)(hA:Rm 3 A)(T:LawT L x ra aas row D ps p)(q: ∀v,W b w A (ledT x v pa (some (.str (sOf ([46]++dnF x.z D x.bd)) td)) la gu ne L) (execs ((bodyOf (stm 27)).drop 20) (envT x)) Q):
  W b w A (ledT x v pa (some (.str (sOf ([46]++dnF x.z D x.bd)) td)) la gu ne L) (execs ((bodyOf (stm 27)).drop 19) (envT x)) Q:=by
 revert b w A L F x ra aas row D ps p Q v pa la gu ne td KE hA T q
 funext b w A L F x ra aas row D ps p Q v pa la gu ne td KE hA T q
 have K:=KE.n
 have TP:=treeP T.tr
 have hn:=T.P.hn
 have hab:=T.hab
 refine W.forG (fun fz=>by kernel_rfl) ?_
 repeat tb_start
 refine ⟨fun i L2=> ∃v,L2=ledT x v pa (some (.str (sOf ([46]++dnF x.z D x.bd)) td)) la gu ne L,6,_,_,Walk.range hA.handled (by decide) (by decide) (by decide) .head,⟨_,.skip .all,v,rfl⟩,fun fz fz fz=>trivial,?_,?_⟩
 ·funext i v' L2 it P2 hi ⟨t1,rfl⟩ ⟨v,rfl⟩
  rw [show (0+(i:Int))=i by omega]
  have hZ: ∃c,D[i]? =some c:=⟨_,qd (by rw [TP.len];omega)⟩
  revert hZ;funext ⟨c,hc⟩
  have hZ: ∃a,aas[i]? =some a:=⟨_,qd (by rw [T.hal];omega)⟩
  revert hZ;funext ⟨a,ha⟩
  have hac:=T.haa i a c ha hc
  have hcc:=TP.ch c (qk hc)
  have hl0:=str_ok T.P.hz hcc
  refine hkX (dn_len T.P.hz TP T.hbd hc) ?_
  funext ⟨d1,d2⟩
  repeat tb_start
  refine W.itemL (T:=VS) (ds:=D.map fun c=>sOf (hostL x.z c)) (d:=sOf (hostL x.z c)) (by tb_rel) (by omega) (by rw [qp,hc];rfl) (fun fz=>by kernel_rfl) ?_
  funext _ ⟨t2,rfl⟩
  rw [lit_w]
  refine W.addL (by simp;omega) ?_
  funext t3
  repeat tb_start
  refine W.supL d2 (by rw [qm];simp;omega) ?_
  funext t4
  repeat tb_start
  refine W.dm K hA.le (dom_is T.P.hz TP T.hbd hc) ?_
  repeat tb_start
  refine W.itemL (T:=VR) (ds:=aas) (d:=a) (by tb_rel) (by omega) ha (fun fz=>by kernel_rfl) ?_
  funext _ rfl
  repeat tb_start
  rw [any_int]
  refine W.isnB ?_
  rw [bne_self_eq_false]
  refine W.tb (W.no ?_)
  exact W.nil ⟨_,.all,_,rfl⟩
 ·funext L2 ⟨v,rfl⟩
  exact q v
set_option maxHeartbeats 8000000 in
theorem law_18(KE:Ke F b)(hA:Rm 3 A)(T:LawT L x ra aas row D ps p)(q: ∀td,W b w A (ledT x v pa (some (.str (sOf ([46]++dnF x.z D x.bd)) td)) la gu ne L) (execs ((bodyOf (stm 27)).drop 19) (envT x)) Q):
  W b w A (ledT x v pa dm la gu ne L) (execs ((bodyOf (stm 27)).drop 18) (envT x)) Q:=by
 revert b w A L F x ra aas row D ps p Q v pa dm la gu ne KE hA T q
 funext b w A L F x ra aas row D ps p Q v pa dm la gu ne KE hA T q
 have K:=KE.n
 have TP:=treeP T.tr
 have hah:=T.hah
 refine hkX (zone_ok T.P.hz) ?_
 funext ⟨z1,z2,z3⟩
 have hbd:=T.hbd
 have hdn:((D.map fun c=>sOf (hostL x.z c))++ [sOf ([103,46]++x.z)])[x.bd]? =some (sOf (dnF x.z D x.bd)):=by
  rw [show (D.map fun c=>sOf (hostL x.z c))++ [sOf ([103,46]++x.z)]=((D.map (hostL x.z))++ [[103,46]++x.z]).map sOf by rw [qB,zf];rfl,qp]
  unfold dnF
  rw [qi]
  have hlt:x.bd<((D.map (hostL x.z))++ [[103,46]++x.z]).length:=by rw [qm,qh,TP.len];simp;omega
  rw [qd hlt];rfl
 have hZ: ∃c,D[0]? =some c:=⟨_,TP.zero⟩
 revert hZ;funext ⟨c0,hc0⟩
 refine hkX (dn_len T.P.hz TP T.hbd hc0) ?_
 funext ⟨d1,d2⟩
 refine W.asg (by kernel_rfl!) ?_
 repeat tb_start
 rw [lit_g]
 refine W.addL (by simp;omega) ?_
 funext t3
 refine W.newL (T:=VS) (ds:= [sOf ([103,46]++x.z)]) (.one ⟨_,rfl⟩) (by simp) ?_
 funext gl
 refine W.catL (T:=VS) (ds:=D.map fun c=>sOf (hostL x.z c)) (es:= [sOf ([103,46]++x.z)]) (by tb_rel) (by tb_rel) (by rw [qh,TP.len];simp) ?_
 funext hl
 repeat tb_start
 refine W.itemL (T:=VS) (ds:=(D.map fun c=>sOf (hostL x.z c))++ [sOf ([103,46]++x.z)]) (d:=sOf (dnF x.z D x.bd)) (by tb_rel) (by omega) hdn (fun fz=>by kernel_rfl) ?_
 funext _ ⟨t2,rfl⟩
 rw [lit_dot]
 refine W.addL (by simp;omega) ?_
 funext t4
 apply W.st
 ·kernel_rfl
 ·tb_rel
 ·tb_rel
 exact W.take (q t4) (.skip (.skip .all))
set_option maxHeartbeats 8000000 in
theorem law_16(KE:Ke F b)(hA:Rm 3 A)(T:LawT L x ra aas row D ps p)(q:W b w A (ledT x v pa dm la gu ne L) (execs ((bodyOf (stm 27)).drop 17) (envT x)) Q):
  W b w A (ledT x v pa dm la gu ne L) (execs ((bodyOf (stm 27)).drop 16) (envT x)) Q:=by
 refine W.frzT fun L0 kv fz fz fz fz fz fz fz fz fz fz fz fz fz fz fz fz mk eL=> ?_
 have hah:=mk T.hah
 have hn:=mk T.P.hn
 refine W.ifs ?_
 repeat tb_start
 refine W.neL (T:=VS) (ds:=D.map fun c=>sOf (hostL x.z c)) (es:=D.map fun c=>sOf (hostL x.z c)) eqeS hA.u1 (by tb_rel) (by tb_rel) ?_
 rw [decide_eq_true rfl]
 refine W.tb (W.no ?_)
 exact eL▸q
set_option maxHeartbeats 8000000 in
theorem law_17(KE:Ke F b)(hA:Rm 6 A)(T:LawT L x ra aas row D ps p)(q: ∀v pa,W b w A (ledT x v pa dm la gu ne L) (execs ((bodyOf (stm 27)).drop 18) (envT x)) Q):
  W b w A (ledT x v pa dm la gu ne L) (execs ((bodyOf (stm 27)).drop 17) (envT x)) Q:=by
 revert b w A L F x ra aas row D ps p Q v pa dm la gu ne KE hA T q
 funext b w A L F x ra aas row D ps p Q v pa dm la gu ne KE hA T q
 have K:=KE.n
 have KC:=KE.c
 have TP:=treeP T.tr
 have hab:=T.hab
 have hp:=T.P.hp
 have hsz:=T.hsz
 refine W.forG (fun fz=>by kernel_rfl) ?_
 repeat tb_start
 refine ⟨fun i L2=> ∃v pa,L2=ledT x v pa dm la gu ne L,6,_,_,Walk.range hA.handled (by decide) (by decide) (by decide) .head,⟨_,.skip .all,v,pa,rfl⟩,fun fz fz fz=>trivial,?_,?_⟩
 ·funext i v' L2 it P2 hi ⟨t1,rfl⟩ ⟨v,pa,rfl⟩
  rw [show (0+(i:Int))=i by omega]
  have hZ: ∃c,D[i]? =some c:=⟨_,qd (by rw [TP.len];omega)⟩
  revert hZ;funext ⟨c,hc⟩
  have hZ: ∃a,aas[i]? =some a:=⟨_,qd (by rw [T.hal];omega)⟩
  revert hZ;funext ⟨a,ha⟩
  have hZ: ∃q,ps[i]? =some q:=⟨_,qd (by rw [T.P.hps];omega)⟩
  revert hZ;funext ⟨pl,hpl⟩
  have hac:=T.haa i a c ha hc
  have hcc:=TP.ch c (qk hc)
  have hcl:=(chain_len c hcc).2
  have hcm:=chain_mem c hcc
  refine hkX (T.P.hpile i pl c hpl hc) ?_
  funext ⟨m1,m2,m3⟩
  have hpls:(ps.map (·.x))[i]? =some pl.x:=by rw [qp,hpl];rfl
  repeat tb_start
  refine W.compL [] [qb ".0",qb "u"] (fun fz=>by kernel_rfl) (by kernel_rfl) (by kernel_rfl) ?_
  repeat tb_start
  refine W.itemL (T:=VR) (ds:=aas) (d:=a) (by tb_rel) (by omega) ha (fun fz=>by kernel_rfl) ?_
  funext _ rfl
  refine ⟨fun acc k L2=>L2=(acc,isL VS (((c.take k).map fun u=> [46,97+u]).map sOf))::(it,P2)::ledT x (some (.int (i:Nat) t1)) pa dm la gu ne L,(intL c).length,⟨_,_,Walk.list (T:=VI) (ds:=intL c) hA.handled (by tb_rel),⟨_,VS,fun acc=>⟨_,.all,rfl⟩⟩,?_,?_⟩,?_⟩
  ·funext acc j L2 rfl
   tb_rel
  ·funext acc C2 it2 P3 j v' L2 fr hj ⟨d,hd,t2,rfl⟩ hfr rfl
   refine hkX (names2 hfr) ?_
   funext ⟨u1,u2,rfl⟩
   have hZ: ∃k,c[j]? =some k∧(k:Int)=d:=by
    rw [qp] at hd
    cases h:c[j]? with
    |none=>rw [h] at hd;cases hd
    |some p=>
     revert p;funext p h
     rw [h] at hd;cases hd;exact ⟨p,rfl,rfl⟩
   revert hZ;funext ⟨k,hk,rfl⟩
   have hk6:=hcm k (qk hk)
   repeat tb_start
   refine W.abc hk6 (fun fz=>by kernel_rfl) (fun fz=>by kernel_rfl) ?_
   funext t5
   rw [lit_dot]
   refine W.addL (by simp) ?_
   funext t6
   refine W.append (T:=VS) (d:=sOf ([46]++ [97+k])) (by tb_rel) (by rw [qh,qh,qI];omega) ⟨t6,rfl⟩ ?_
   refine ⟨[(qb ".0",u1),(qb "u",some (.int (k:Nat) t2))],_,rfl,.all,?_⟩
   dsimp only
   rw [qV,hk,qB,qB]
   rfl
  ·funext acc L2 rfl
   rw [qh,zh]
   repeat tb_start
   refine W.joinL (ls:=c.map fun u=> [46,97+u]) (by tb_rel) ?_ ?_
   ·have:((c.map fun u=> [46,97+u]).map (·.length)).sum≤((c.map fun u=> [46,97+u]).map (·.length)).length*2:=sum_le fun y hy=>by
     refine hkX (qw.mp hy) ?_
     funext ⟨l,hl,rfl⟩
     refine hkX (qw.mp hl) ?_
     funext ⟨u,_,rfl⟩
     simp
    rw [qh,qh] at this
    exact Ar.l1 hcl this rfl
   funext t3
   rw [show (c.map fun u=> [46,97+u]).flatten=pth c from rfl]
   have hsum:(((c.map fun u=>(([46],[97+u]):List Nat×List Nat)).map fun d=>d.1.length+d.2.length).sum:Nat)=(pth c).length:=by
    unfold pth
    rw [List.length_flatten,zf,zf];rfl
   have hpc:pl.as.length=c.length:=by have:=m3.len;rwa [qh] at this
   have hpn:=pth_len c
   repeat tb_start
   refine W.itemL (T:=VR) (ds:=ps.map (·.x)) (d:=pl.x) (by tb_rel) (by omega) hpls (fun fz=>by kernel_rfl) ?_
   funext _ rfl
   refine ⟨KprL.strT,?_⟩
   refine W.strPile KE hA.le (by tb_rel) (by tb_rel) (m3.mono fun h=>by tb_rel) ?_
   funext t4
   rw [prs_flat]
   repeat tb_start
   refine W.neS ?_
   rw [bne_self_eq_false]
   repeat tb_start
   refine W.itemL (T:=VR) (ds:=ps.map (·.x)) (d:=pl.x) (by tb_rel) (by omega) hpls (fun fz=>by kernel_rfl) ?_
   funext _ rfl
   repeat tb_start
   refine W.lenPile KE hA.le (by tb_rel) (by tb_rel) (m3.mono fun h=>by tb_rel) hsz ?_
   funext t5
   rw [hsum]
   repeat tb_start
   refine W.ltlen (by rw [sOf_len];exact Ar.i6 (Qx (Ar.d2 hpn (qW 2 hcl))) rfl) ?_
   funext t6
   rw [sOf_len]
   repeat tb_start
   rw [bne_self_eq_false]
   repeat tb_start
   refine W.itemL (T:=VR) (ds:=ps.map (·.x)) (d:=pl.x) (by tb_rel) (by omega) hpls (fun fz=>by kernel_rfl) ?_
   funext _ rfl
   refine W.gmAcc (T:=VR) (ds:=pl.as) K KC (f:=148) (fd:=fd148) (by tb_rel) (by tb_rel) (by tb_rel) (by tb_rel) rfl ?_
   repeat tb_start
   refine part_count_ok (ds:=pl.as) K KC hA.le (by tb_rel) ?_
   funext t7
   repeat tb_start
   refine W.itemL (T:=VR) (ds:=aas) (d:=a) (by tb_rel) (by omega) ha (fun fz=>by kernel_rfl) ?_
   funext _ rfl
   repeat tb_start
   refine W.lenL (T:=VI) (ds:=intL c) (by tb_rel) (by rw [qh];omega) ?_
   funext t8
   rw [hpc,qh]
   refine W.neI ?_
   rw [bne_self_eq_false]
   refine W.tb (W.no (W.tor0 (W.no ?_)))
   exact W.nil ⟨_,.skip .all,_,_,rfl⟩
 ·funext L2 ⟨v,pa,rfl⟩
  exact q v pa
end
end
section
theorem lcp_pre1: ∀c q:List Nat,lcp c q<+:c
 | [],[]=>QL _
 | [],_::_=>QL _
 |x::xs,[]=>List.nil_prefix
 |x::xs,y::ys=>by
  show (if x==y then x::lcp xs ys else [])<+:_
  by_cases h:x=y
  ·rw [if_pos (by simpa using h)]
   exact (List.prefix_cons_inj x).mpr (lcp_pre1 xs ys)
  ·rw [if_neg (by simpa using h)]
   exact List.nil_prefix
theorem lcp_pre2: ∀c q:List Nat,lcp c q<+:q
 | [],[]=>QL _
 | [],_::_=>List.nil_prefix
 |x::xs,[]=>List.nil_prefix
 |x::xs,y::ys=>by
  show (if x==y then x::lcp xs ys else [])<+:_
  by_cases h:x=y
  ·rw [if_pos (by simpa using h),h]
   exact (List.prefix_cons_inj y).mpr (lcp_pre2 xs ys)
  ·rw [if_neg (by simpa using h)]
   exact List.nil_prefix
theorem lcp_max: ∀(d c q:List Nat),d<+:c→d<+:q→d<+:lcp c q
 | [],_,_,_,_=>List.nil_prefix
 |z::zs,[],_,h,_=>by simp at h
 |z::zs,_::_,[],_,h=>by simp at h
 |z::zs,x::xs,y::ys,h1,h2=>by
  have g1:=List.cons_prefix_cons.mp h1
  have g2:=List.cons_prefix_cons.mp h2
  show _<+:(if x==y then x::lcp xs ys else [])
  rw [if_pos (by rw [←g1.1,←g2.1];simp),←g1.1]
  exact (List.prefix_cons_inj z).mpr (lcp_max zs xs ys g1.2 g2.2)
noncomputable def preOk(D:List (List Nat)):Bool:=(zo D.length).all fun v=>(D.getD v []).getLast? ==some v&&(D.getD v []).all fun j=>decide (j<D.length)&&(D.getD j []).isPrefixOf (D.getD v [])
theorem preOks: ∀n<6,∀D∈trees n,(D.length==n+1&&preOk D)=true:=by decide+kernel
structure TreeN(D:List (List Nat))(n:Nat):Prop where
 mem:D∈trees n
 len:D.length=n+1
 last: ∀(v:Nat) c,D[v]? =some c→c.getLast? =some v
 pre: ∀(v:Nat) c,D[v]? =some c→ ∀j∈c,∃cj,D[j]? =some cj∧cj<+:c
theorem treeN{D:List (List Nat)}{n:Nat}(hn:n<6)(h:D∈trees n):TreeN D n:=by
 have h1:=preOks n hn D h
 simp-iota only [qt,beq_iff_eq] at h1
 obtain ⟨hl,h1⟩:=h1
 unfold preOk at h1
 simp-iota only [qt,beq_iff_eq,qz,zW,zH,decide_eq_true_eq] at h1
 have hv: ∀{v:Nat} {c},D[v]? =some c→v<D.length∧D.getD v []=c:=fun {v c} hc=>⟨(qr.mp hc).1,by rw [qi,hc];rfl⟩
 refine ⟨h,hl,fun v c hc=> ?_,fun v c hc j hj=> ?_⟩
 ·obtain ⟨e1,e2⟩:=hv hc
  have:=(h1 v e1).1
  rwa [e2] at this
 ·obtain ⟨e1,e2⟩:=hv hc
  have h5:=(h1 v e1).2
  rw [e2] at h5
  obtain ⟨h6,h7⟩:=h5 j hj
  obtain ⟨cj,hcj⟩: ∃cj,D[j]? =some cj:=⟨_,qd h6⟩
  refine ⟨cj,hcj,?_⟩
  rwa [(hv hcj).2] at h7
theorem fold_near{D:List (List Nat)}{n:Nat}(hn:n<5)(TN:TreeN D n): ∀(ps:List Int) (c:List Nat),c∈D→(∀p∈ps,0≤p∧p<n+1)→
  (ps.foldl (fun c (p:Int)=>lcp c (D.getD p.toNat [])) c)∈D∧(ps.foldl (fun c (p:Int)=>lcp c (D.getD p.toNat [])) c)<+:c∧(∀p∈ps,(ps.foldl (fun c (p:Int)=>lcp c (D.getD p.toNat [])) c)<+:D.getD p.toNat [])∧
   ∀d,d<+:c→(∀p∈ps,d<+:D.getD p.toNat [])→d<+:ps.foldl (fun c (p:Int)=>lcp c (D.getD p.toNat [])) c
 | [],c,hc,_=>⟨hc,QL _,(fun p hp=>nomatch hp),fun d hd fz=>hd⟩
 |p::ps,c,hc,hp=>by
  have hp0:=hp p (.head _)
  obtain ⟨q,hq⟩: ∃q,D[p.toNat]? =some q:=⟨_,qd (by rw [TN.len];exact Ar.t1 hp0)⟩
  have hqe:D.getD p.toNat []=q:=by rw [qi,hq];rfl
  have hqm:=qk hq
  have hl:lcp c q∈D:=by
   have:=lcpOks n hn D TN.mem
   unfold lcpOk at this
   simp-iota only [qz,zS] at this
   exact this c hc q hqm
  obtain ⟨i1,i2,i3,i4⟩:=fold_near hn TN ps (lcp c q) hl fun x hx=>hp x (.tail _ hx)
  rw [List.foldl_cons,hqe]
  refine ⟨i1,i2.trans (lcp_pre1 c q),fun x hx=> ?_,fun d h1 h2=> ?_⟩
  ·rcases qH.mp hx with rfl|hx
   ·rw [hqe];exact i2.trans (lcp_pre2 c q)
   ·exact i3 x hx
  ·refine i4 d (lcp_max d c q h1 ?_) fun x hx=>h2 x (.tail _ hx)
   have:=h2 p (.head _)
   rwa [hqe] at this
structure DomN(rows:List (List Int))(D:List (List Nat))(n:Nat):Prop where
 tree:D∈trees n
 dom: ∀(v:Nat) c r,0<v→D[v]? =some c→rows[v]? =some r→ ∀j:Nat,j∈c↔j=v∨ ∀u∈r,∃cu,D[u.toNat]? =some cu∧j∈cu
theorem domN{rows:List (List Int)}(hW:Ways rows)(n:Nat):n<6→DomN rows (domsF rows n) n:=by
 revert rows hW n
 funext rows hW n
 induction n with
 |zero=>
  exact fun fz=>⟨vc.mpr rfl,fun v c r hv hc=>by
   match v,hv,hc with
   |v+1,_,hc=>cases hc⟩
 |succ n ihn=>
  revert n ihn;funext n ihn
  funext hn
  have ih:=ihn (by omega)
  have TN:=treeN (by omega) ih.tree
  have hZ: ∃r,rows[n+1]? =some r:=⟨_,qd (by rw [hW.len];omega)⟩
  revert hZ;funext ⟨r,hr⟩
  have hro:=hW.row _ _ (by omega) hr
  have hgd:rows.getD (n+1) []=r:=by rw [qi,hr];rfl
  refine hkX (Qo hro.1) ?_
  funext ⟨p0,pr,rfl⟩
  have hp0:=hro.2.2 p0 (.head _)
  have hZ: ∃q,(domsF rows n)[p0.toNat]? =some q:=⟨_,qd (by rw [TN.len];omega)⟩
  revert hZ;funext ⟨q,hq⟩
  have hqe:(domsF rows n).getD p0.toNat []=q:=by rw [qi,hq];rfl
  refine hkX (fold_near (by exact Nat.lt_of_succ_lt_succ hn) TN pr q (qk hq) fun x hx=>by have:=hro.2.2 x (.tail _ hx);omega) ?_
  funext ⟨i1,i2,i3,i4⟩
  have hnear:nearOf (domsF rows n) (p0::pr)=pr.foldl (fun c (p:Int)=>lcp c ((domsF rows n).getD p.toNat [])) q:=by rw [←hqe];rfl
  have hdf:domsF rows (n+1)=domsF rows n++ [nearOf (domsF rows n) (p0::pr)++ [n+1]]:=by rw [←hgd];rfl
  rw [←hnear] at i1 i2 i3 i4
  have hall: ∀u∈p0::pr,nearOf (domsF rows n) (p0::pr)<+:(domsF rows n).getD u.toNat []:=by
   funext u hu
   refine Or.elim (qH.mp hu) ?_ ?_
   ·funext rfl
    rw [hqe];exact i2
   ·funext hu
    exact i3 u hu
  refine ⟨?_,fun v c r hv hc hrv j=> ?_⟩
  ·rw [hdf]
   exact List.mem_flatMap.mpr ⟨_,ih.tree,qw.mpr ⟨_,i1,rfl⟩⟩
  ·rw [hdf] at hc ⊢
   by_cases hvn:v<n+1
   ·rw [qE (by rw [TN.len];exact hvn)] at hc
    rw [ih.dom v c r hv hc hrv j]
    have hrow:=hW.row v r hv hrv
    constructor
    ·rintro (h|h)
     ·exact .inl h
     ·refine .inr ?_
      funext u hu
      refine hkX (h u hu) ?_
      funext ⟨cu,e1,e2⟩
      exact ⟨cu,by rw [qE (by have:=hrow.2.2 u hu;rw [TN.len];exact zq (Ar.t1 this) hvn)];exact e1,e2⟩
    ·rintro (h|h)
     ·exact .inl h
     ·refine .inr ?_
      funext u hu
      refine hkX (h u hu) ?_
      funext ⟨cu,e1,e2⟩
      rw [qE (by have:=hrow.2.2 u hu;rw [TN.len];exact zq (Ar.t1 this) hvn)] at e1
      exact ⟨cu,e1,e2⟩
   ·have hlt:=(qr.mp hc).1
    rw [qm,TN.len] at hlt
    simp-iota only [qy,qP] at hlt
    obtain rfl:v=n+1:=by exact vC (jt hlt) (qQ hvn)
    rw [hr] at hrv
    cases hrv
    rw [zd (by rw [TN.len];omega),TN.len,Nat.sub_self] at hc
    cases hc
    rw [qO,vc]
    constructor
    ·rintro (h|h)
     ·refine .inr ?_
      funext u hu
      have hu0:=hro.2.2 u hu
      have hZ: ∃cu,(domsF rows n)[u.toNat]? =some cu:=⟨_,qd (by rw [TN.len];omega)⟩
      revert hZ;funext ⟨cu,hcu⟩
      refine ⟨cu,by rw [qE (by rw [TN.len];omega)];exact hcu,?_⟩
      have:=(hall u hu).subset h
      rwa [qi,hcu] at this
     ·exact .inl h
    ·rintro (h|h)
     ·exact .inr h
     ·refine .inl ?_
      have hin: ∀u∈p0::pr,∃cj,(domsF rows n)[j]? =some cj∧cj<+:(domsF rows n).getD u.toNat []:=by
       funext u hu
       have hu0:=hro.2.2 u hu
       refine hkX (h u hu) ?_
       funext ⟨cu,e1,e2⟩
       rw [qE (by rw [TN.len];omega)] at e1
       refine hkX (TN.pre _ _ e1 j e2) ?_
       funext ⟨cj,e3,e4⟩
       exact ⟨cj,e3,by rw [qi,e1];exact e4⟩
      refine hkX (hin p0 (.head _)) ?_
      funext ⟨cj,e3,e4⟩
      have hpre:cj<+:nearOf (domsF rows n) (p0::pr):=i4 cj (by rw [hqe] at e4;exact e4) fun u hu=>by
       refine hkX (hin u (.tail _ hu)) ?_
       funext ⟨cj',e5,e6⟩
       rw [e3] at e5;cases e5;exact e6
      exact hpre.subset (List.mem_of_getLast? (TN.last _ _ e3))
end
section
structure Loops(rows rows2:List (List Int))(D:List (List Nat)):Prop where
 len:rows2.length=6
 old: ∀(v:Nat) r r2,rows[v]? =some r→rows2[v]? =some r2→ ∀u∈r,u∈r2
 new: ∀(v:Nat) r r2,rows[v]? =some r→rows2[v]? =some r2→ ∀u∈r2,u∈r∨ ∃(e:Nat) (c:List Nat),u=e∧D[e]? =some c∧v∈c
theorem found_eq{rows rows2:List (List Int)}(hW:Ways rows)(LK:Loops rows rows2 (domsF rows 5)){j:Nat}{f:List Int}(hF:Found rows2 j f): ∀(x:Nat) c,(domsF rows 5)[x]? =some c→((x:Int)∈f↔j∉c):=by
 have DN:=domN hW 5 (by omega)
 have TN:=treeN (by omega) DN.tree
 have h0:(domsF rows 5)[0]? =some [0]:=by
  have:=(treeP DN.tree).zero
  exact this
 have sub: ∀v∈f,∀(n:Nat) c,v=n→(domsF rows 5)[n]? =some c→j∉c:=by
  refine hF.least (fun v=> ∀(n:Nat) c,v=n→(domsF rows 5)[n]? =some c→j∉c) ?_ ?_
  ·intro hj n c hn hc hm
   obtain rfl:n=0:=by omega
   rw [h0] at hc
   cases hc
   simp at hm
   exact hj (by omega)
  ·intro u v hu hv0 hv6 hvj hE n c hn hc hm
   subst hn
   obtain ⟨r2,hr2,hur⟩:=hE
   rw [vt] at hr2
   obtain ⟨r,hr⟩: ∃r,rows[n]? =some r:=⟨_,qd (by rw [hW.len];omega)⟩
   rcases LK.new n r r2 hr hr2 u hur with h|⟨e,ce,rfl,he,hnc⟩
   ·by_cases hn0:n=0
    ·subst hn0
     rw [hW.zero] at hr
     cases hr
     cases h
    ·rcases (DN.dom n c r (by exact jg hn0) hc hr j).mp hm with h1|h1
     ·exact hvj (by omega)
     ·obtain ⟨cu,e1,e2⟩:=h1 u h
      have hu0:=(hW.row n r (by exact jg hn0) hr).2.2 u h
      exact hu u.toNat cu (by omega) e1 e2
   ·obtain ⟨cn,e1,e2⟩:=TN.pre e ce he n hnc
    rw [hc] at e1
    cases e1
    exact hu e ce rfl he (e2.subset hm)
 intro x
 induction x using Nat.strongRecOn with
 |ind x ih=>
  intro c hc
  refine ⟨fun hm=>sub _ hm x c rfl hc,fun hj=> ?_⟩
  have hx6:=(qr.mp hc).1
  rw [TN.len] at hx6
  by_cases hx0:x=0
  ·subst hx0
   rw [h0] at hc
   cases hc
   have:j≠0:=fun e=>hj (by rw [e];exact .head _)
   exact hF.start (by omega)
  ·obtain ⟨r,hr⟩: ∃r,rows[x]? =some r:=⟨_,qd (by rw [hW.len];omega)⟩
   obtain ⟨r2,hr2⟩: ∃r,rows2[x]? =some r:=⟨_,qd (by rw [LK.len];omega)⟩
   have hro:=hW.row x r (by exact jg hx0) hr
   have hd:=DN.dom x c r (by exact jg hx0) hc hr j
   have hjx:j≠x:=fun e=>hj (hd.mpr (.inl e))
   have hex: ∃u∈r,∀cu,(domsF rows 5)[u.toNat]? =some cu→j∉cu:=by
    refine Qr fun hno=>hj (hd.mpr (.inr fun u hu=> ?_))
    have hu0:=hro.2.2 u hu
    obtain ⟨cu,hcu⟩: ∃cu,(domsF rows 5)[u.toNat]? =some cu:=⟨_,qd (by rw [TN.len];omega)⟩
    refine ⟨cu,hcu,Qr fun hn=>hno ⟨u,hu,fun cu' e=> ?_⟩⟩
    rw [hcu] at e;cases e;exact hn
   obtain ⟨u,hu,hnu⟩:=hex
   have hu0:=hro.2.2 u hu
   obtain ⟨cu,hcu⟩: ∃cu,(domsF rows 5)[u.toNat]? =some cu:=⟨_,qd (by rw [TN.len];omega)⟩
   have huf:=(ih u.toNat (by omega) cu hcu).mpr (hnu cu hcu)
   rw [vz hu0.1] at huf
   exact hF.step u x huf (by omega) (by omega) (by omega) ⟨r2,by rw [vt];exact hr2,LK.old x r r2 hr hr2 u hu⟩
theorem chain_range: ∀c∈chains,((zo 6).filter fun j=>c.contains j)=c:=by decide+kernel
theorem barr_eq{rows rows2:List (List Int)}(hW:Ways rows)(LK:Loops rows rows2 (domsF rows 5)){v:Nat}{r:List Int}{c:List Nat}(hc:(domsF rows 5)[v]? =some c)(hB:Barring rows2 6 v r):r=intL c:=by
 obtain ⟨fd,hf,rfl⟩:=hB
 have DN:=domN hW 5 (by omega)
 have hcc:=(treeP DN.tree).ch c (qk hc)
 have e:((zo 6).filter fun j=> !(fd j).any (· ==(v:Int)))=(zo 6).filter fun j=>c.contains j:=by
  refine List.filter_congr fun j hj=> ?_
  have hj6:=zW.mp hj
  have h1:=found_eq hW LK (hf j hj6) v c hc
  rw [vZ,zS,zY,Qw]
  constructor
  ·intro h
   refine Qr fun hn=> ?_
   exact h v (h1.mpr hn) (by simp)
  ·intro h y hy hb
   obtain rfl:y=v:=by simpa using hb
   exact (h1.mp hy) h
 rw [e,chain_range c hcc]
theorem Loops.refl{rows:List (List Int)}(hW:Ways rows)(D:List (List Nat)):Loops rows rows D:=⟨hW.len,fun v r r2 h1 h2 u hu=>by rw [h1] at h2;cases h2;exact hu,fun v r r2 h1 h2 u hu=>by rw [h1] at h2;cases h2;exact .inl hu⟩
end
section
noncomputable abbrev locU(x:TX)(lo wa na pi cu bk ab ho:Option Value):Asn:=loc27 x.sc x.ce x.k lo x.re (some (.int (x.bd:Nat) x.tB)) (some (.int x.size x.tz)) (some (.int (x.o:Nat) x.tO)) wa na pi cu bk ab ho none none none none none
noncomputable abbrev ledU(x:TX)(lo wa na pi cu bk ab ho st v:Option Value)(L:Led):Led:=(x.La,locU x lo wa na pi cu bk ab ho)::(x.C3,isCell v)::(x.C2,isCell st)::(x.C1,isCell (some (.str (sOf x.z) x.tZ)))::L
section
variable{b:qe}{w:World}{A:qq}{L L':Led}{R:Value→Led→Prop}{F:Frag}{x:TX}{ra aas:List Addr}{D:List (List Nat)}{Q:Flow→Led→Prop}{lo wa na pi cu bk st v:Option Value}
set_option maxHeartbeats 8000000 in
theorem law_15{ab:Addr}(hA:Rm 3 A)(hz:x.z∈zones)(hDc: ∀c∈D,c∈chains)(hD:D.length=6)(hab:Mm (ab,isL VR aas) L)(hal:aas.length=6)(haa: ∀(j:Nat) a c,aas[j]? =some a→D[j]? =some c→Mm (a,isL VI (intL c)) L)
  (q: ∀ah,W b w A (ledU x lo wa na pi cu bk (some (.ref ab)) (some (.ref ah)) st v ((ah,isL VS (D.map fun c=>sOf (hostL x.z c)))::L)) (execs ((bodyOf (stm 27)).drop 16) (envT x)) Q):
  W b w A (ledU x lo wa na pi cu bk (some (.ref ab)) none st v L) (execs ((bodyOf (stm 27)).drop 15) (envT x)) Q:=by
 revert b w A L x aas D Q lo wa na pi cu bk st v ab hA hz hDc hD hab hal haa q
 funext b w A L x aas D Q lo wa na pi cu bk st v ab hA hz hDc hD hab hal haa q
 have hzl:=(zone_ok hz).2.2
 refine W.asgC [(qb "zone",x.C1)] [qb ".0",qb "row"] (by kernel_rfl) (fun fz=>by kernel_rfl) (by kernel_rfl) (by kernel_rfl) ?_
 repeat tb_start
 refine ⟨fun acc k L2=>L2=(acc,isL VS ((D.take k).map fun c=>sOf (hostL x.z c)))::ledU x lo wa na pi cu bk (some (.ref ab)) none st v L,aas.length,⟨_,_,Walk.list (T:=VR) (ds:=aas) hA.handled (by tb_rel),⟨_,VS,fun acc=>⟨_,.all,rfl⟩⟩,?_,?_⟩,?_⟩
 ·funext acc j L2 rfl
  tb_rel
 ·funext acc C2 it P2 j v' L2 fr hj ⟨a,ha,rfl⟩ hfr rfl
  refine hkX (names2 hfr) ?_
  funext ⟨u1,u2,rfl⟩
  have hZ: ∃c,D[j]? =some c:=⟨_,qd (by rw [hD];omega)⟩
  revert hZ;funext ⟨c,hc⟩
  have hac:=haa j a c ha hc
  have hcc:=hDc c (qk hc)
  have hcl:=(chain_len c hcc).2
  have hcm:=chain_mem c hcc
  have hhl:=str_ok hz hcc
  repeat tb_start
  refine W.compL [] [qb ".0",qb "u"] (fun fz=>by kernel_rfl) (by kernel_rfl) (by kernel_rfl) ?_
  repeat tb_start
  funext sl
  refine W.partL (T:=VI) (ds:=intL c) (ds':=intL c.reverse) (by tb_rel) .head .none .none (.int _ _) (by simp) (by rw [qh];omega) (fun vs hv=>by have:=pick_rev hv;rwa [←Qj] at this) ⟨_,rfl⟩ ?_
  funext al
  have hZ: ∃G:Led,G=(al,isL VI (intL c.reverse))::(C2,loc [(qb ".0",u1),(qb "row",some (.ref a))])::(it,P2)::(acc,isL VS ((D.take j).map fun c=>sOf (hostL x.z c)))::ledU x lo wa na pi cu bk (some (.ref ab)) none st v L:=⟨_,rfl⟩
  revert hZ;funext ⟨G,hG⟩
  have mal:Mm (al,isL VI (intL c.reverse)) G:=by rw [hG];tb_rel
  refine ⟨fun acc2 k L2=>L2=(acc2,isL VS (((c.reverse.take k).map fun u=> [97+u]++ [46]).map sOf))::G,(intL c.reverse).length,⟨_,_,Walk.list (T:=VI) (ds:=intL c.reverse) hA.handled (by tb_rel),⟨_,VS,fun acc=>⟨_,.cons .head (.skip .all),by rw [hG];rfl⟩⟩,?_,?_⟩,?_⟩
  ·funext acc2 j L2 rfl
   tb_rel
  ·funext acc2 C3 it2 P3 m v' L2 fr hm ⟨d,hd,t2,rfl⟩ hfr rfl
   refine hkX (names2 hfr) ?_
   funext ⟨w1,w2,rfl⟩
   have hZ: ∃k,c.reverse[m]? =some k∧(k:Int)=d:=by
    rw [qp] at hd
    cases h:c.reverse[m]? with
    |none=>rw [h] at hd;cases hd
    |some p=>
     revert p;funext p h
     rw [h] at hd;cases hd;exact ⟨p,rfl,rfl⟩
   revert hZ;funext ⟨k,hk,rfl⟩
   have hk6:=hcm k (zN.mp (qk hk))
   repeat tb_start
   refine W.abc hk6 (fun fz=>by kernel_rfl) (fun fz=>by kernel_rfl) ?_
   funext t5
   repeat tb_start
   rw [lit_dot]
   refine W.addL (by simp) ?_
   funext t6
   refine W.append (T:=VS) (d:=sOf ([97+k]++ [46])) (by tb_rel) (by rw [qh,qh,qI,qZ];omega) ⟨t6,rfl⟩ ?_
   refine ⟨[(qb ".0",w1),(qb "u",some (.int (k:Nat) t2))],_,rfl,.all,?_⟩
   dsimp only
   rw [qV,hk,qB,qB]
   rfl
  ·funext acc2 L2 rfl
   rw [qh,zh]
   repeat tb_start
   refine W.joinL (ls:=c.reverse.map fun u=> [97+u]++ [46]) (by tb_rel) ?_ ?_
   ·have:((c.reverse.map fun u=> [97+u]++ [46]).map (·.length)).sum≤((c.reverse.map fun u=> [97+u]++ [46]).map (·.length)).length*2:=sum_le fun y hy=>by
     refine hkX (qw.mp hy) ?_
     funext ⟨l,hl,rfl⟩
     refine hkX (qw.mp hl) ?_
     funext ⟨u,_,rfl⟩
     simp
    rw [qh,qh,qZ] at this
    exact Ar.l1 hcl this rfl
   funext t3
   subst hG
   repeat tb_start
   have hh:(c.reverse.map fun u=> [97+u]++ [46]).flatten++x.z=hostL x.z c:=rfl
   refine W.addL (by rw [←qm,hh];omega) ?_
   funext t4
   rw [hh]
   refine W.append (T:=VS) (d:=sOf (hostL x.z c)) (by tb_rel) (by rw [qh,qI];exact Ar.m9 hal hj rfl) ⟨t4,rfl⟩ ?_
   refine ⟨[(qb ".0",u1),(qb "row",some (.ref a))],_,rfl,.cons (by tb_rel) (.cons (by tb_rel) (.skip (.skip .all))),?_⟩
   dsimp only
   rw [qV,hc,qB]
   rfl
 ·funext acc C2 fr L2 hfr rfl
  rw [hal,←hD,zh]
  repeat tb_start
  refine ⟨fr,_,.cons .head .all,?_⟩
  refine W.take (q acc) ?_
  iterate 4 refine .cons (by tb_rel) ?_
  exact .all
end
end
section
section
variable{b:qe}{w:World}{A:qq}{L L':Led}{R:Value→Led→Prop}{F:Frag}{x:TX}{ra aas:List Addr}{D:List (List Nat)}{Q:Flow→Led→Prop}{lo wa na pi cu bk st v:Option Value}{rows rows2:List (List Int)}
theorem ab_eq(hW:Ways rows)(LK:Loops rows rows2 (domsF rows 5)){ab:List (List Int)}(hl:ab.length=6)(h: ∀(v:Nat) r,ab[v]? =some r→Barring rows2 6 v r):ab=(domsF rows 5).map intL:=by
 have hD:=(treeP (domN hW 5 (by omega)).tree).len
 apply List.ext_getElem?
 intro v
 by_cases hv:v<6
 ·obtain ⟨r,hr⟩: ∃r,ab[v]? =some r:=⟨_,qd (by omega)⟩
  obtain ⟨c,hc⟩: ∃c,(domsF rows 5)[v]? =some c:=⟨_,qd (by omega)⟩
  rw [hr,qp,hc,barr_eq hW LK hc (h v r hr)];rfl
 ·rw [jO (by exact Ar.d2 hl (qQ hv)),jO (by rw [qh];exact Ar.d2 hD (qQ hv))]
theorem rows_int{as:List Addr}(j:Nat)(a:Addr)(c:List Nat)(h1:as[j]? =some a)(h2:D[j]? =some c):Mm (a,isL VI (intL c)) (rowsL as (D.map intL)):=rowsL_mem h1 (by rw [qp,h2];rfl)
set_option maxHeartbeats 8000000 in
theorem law_14{aw:Addr}(K:Kn b)(hA:Rm 4 A)(hW:Ways rows)(LK:Loops rows rows2 (domsF rows 5))(hL:Mm (aw,isL VR ra) L)(hr: ∀(v:Nat) a r,ra[v]? =some a→rows2[v]? =some r→Mm (a,isL VI r) L)(h1:ra.length=6)
  (q: ∀ab aas,aas.length=6→W b w A (ledU x lo (some (.ref aw)) na pi cu bk (some (.ref ab)) none st v ((ab,isL VR aas)::(rowsL aas ((domsF rows 5).map intL)++L))) (execs ((bodyOf (stm 27)).drop 15) (envT x)) Q):
  W b w A (ledU x lo (some (.ref aw)) na pi cu bk none none st v L) (execs ((bodyOf (stm 27)).drop 14) (envT x)) Q:=by
 refine W.asg (by kernel_rfl!) ?_
 repeat tb_start
 refine law_above_ok (ra:=ra) (rows:=rows2) K hA.le (by tb_rel) (fun v a r e1 e2=>by have:=hr v a r e1 e2;tb_rel) h1 LK.len fun a as ab g1 g2 g3=> ?_
 rw [ab_eq hW LK g2 g3]
 apply W.st
 ·kernel_rfl
 ·tb_rel
 ·tb_rel
 refine W.take (q a as g1) ?_
 iterate 4 refine .cons (by tb_rel) ?_
 exact .all
set_option maxHeartbeats 8000000 in
theorem law_11{aw:Addr}(K:Kn b)(hA:Rm 4 A)(hW:Ways rows)(hL:Mm (aw,isL VR ra) L)(hr: ∀(v:Nat) a r,ra[v]? =some a→rows[v]? =some r→Mm (a,isL VI r) L)(h1:ra.length=6)
  (q: ∀sa sas,sas.length=6→W b w A (ledU x lo (some (.ref aw)) na pi cu none none none (some (.ref sa)) none ((sa,isL VR sas)::(rowsL sas ((domsF rows 5).map intL)++L))) (execs ((bodyOf (stm 27)).drop 12) (envT x)) Q):
  W b w A (ledU x lo (some (.ref aw)) na pi cu none none none none none L) (execs ((bodyOf (stm 27)).drop 11) (envT x)) Q:=by
 refine W.asg (by kernel_rfl!) ?_
 repeat tb_start
 refine law_above_ok (ra:=ra) (rows:=rows) K hA.le (by tb_rel) (fun v a r e1 e2=>by have:=hr v a r e1 e2;tb_rel) h1 hW.len fun a as ab g1 g2 g3=> ?_
 rw [ab_eq hW (Loops.refl hW _) g2 g3]
 apply W.stc
 ·kernel_rfl
 ·tb_rel
 ·tb_rel
 refine W.take (q a as g1) ?_
 iterate 4 refine .cons (by tb_rel) ?_
 exact .all
end
end
section
structure LoopI(rows rows2:List (List Int))(D:List (List Nat))(i:Nat):Prop where
 len:rows2.length=6
 ext: ∀(u:Nat) r r2,rows[u]? =some r→rows2[u]? =some r2→ ∃ext:List Nat,r2=r++intL ext∧ext.Pairwise (· < ·)∧ ∀e∈ext,e≤i∧e<6∧ ∃c,D[e]? =some c∧u∈c
theorem LoopI.zero{rows:List (List Int)}(hW:Ways rows)(D:List (List Nat)):LoopI rows rows D 0:=⟨hW.len,fun u r r2 h1 h2=>⟨[],by rw [h1] at h2;cases h2;simp,.nil,fun e he=>nomatch he⟩⟩
theorem LoopI.skip{rows rows2:List (List Int)}{D:List (List Nat)}{i:Nat}(h:LoopI rows rows2 D i):LoopI rows rows2 D (i+1):=⟨h.len,fun u r r2 h1 h2=>by
 obtain ⟨ext,e1,e2,e3⟩:=h.ext u r r2 h1 h2
 exact ⟨ext,e1,e2,fun e he=>⟨by have:=(e3 e he).1;omega,(e3 e he).2⟩⟩⟩
theorem LoopI.add{rows rows2:List (List Int)}{D:List (List Nat)}{i u:Nat}{c:List Nat}{r2:List Int}(h:LoopI rows rows2 D i)(hi:i+1<6)(hc:D[i+1]? =some c)(hu:u∈c)(hr:rows2[u]? =some r2):LoopI rows (rows2.set u (r2++ [((i+1:Nat):Int)])) D (i+1):=⟨by rw [List.length_set];exact h.len,fun v r r' h1 h2=>by
 by_cases e:u=v
 ·subst e
  rw [List.getElem?_set] at h2
  have hlt:=(qr.mp hr).1
  rw [if_pos rfl,if_pos hlt] at h2
  cases h2
  obtain ⟨ext,e1,e2,e3⟩:=h.ext u r r2 h1 hr
  refine ⟨ext++ [i+1],by rw [e1];simp,?_,fun x hx=> ?_⟩
  ·rw [List.pairwise_append]
   refine ⟨e2,by simp,fun a ha b hb=> ?_⟩
   simp at hb
   have:=(e3 a ha).1
   exact qU (Qx this) hb.symm
  ·rcases qO.mp hx with hx|hx
   ·have:=e3 x hx
    exact ⟨by omega,this.2⟩
   ·simp at hx
    subst hx
    exact ⟨by omega,by omega,c,hc,hu⟩
 ·rw [List.getElem?_set,if_neg e] at h2
  exact h.skip.ext v r r' h1 h2⟩
theorem LoopI.loops{rows rows2:List (List Int)}{D:List (List Nat)}{i:Nat}(h:LoopI rows rows2 D i):Loops rows rows2 D:=⟨h.len,fun v r r2 h1 h2 u hu=>by
  obtain ⟨ext,e1,_⟩:=h.ext v r r2 h1 h2
  rw [e1];exact jB _ hu,fun v r r2 h1 h2 u hu=>by
  obtain ⟨ext,e1,e2,e3⟩:=h.ext v r r2 h1 h2
  rw [e1] at hu
  rcases qO.mp hu with hu|hu
  ·exact .inl hu
  ·obtain ⟨e,he,rfl⟩:=qw.mp hu
   obtain ⟨_,_,c,h5,h6⟩:=e3 e he
   exact .inr ⟨e,c,rfl,h5,h6⟩⟩
theorem chain_le_last: ∀c∈chains,∀v<6,c.getLast? =some v→ ∀u∈c,u≤v:=by decide+kernel
theorem LoopI.rows{rows rows2:List (List Int)}(hW:Ways rows){i:Nat}(h:LoopI rows rows2 (domsF rows 5) i){v:Nat}{r2:List Int}(hr:rows2[v]? =some r2): ∃r:List Nat,r2=intL r∧r.Pairwise (· < ·)∧ ∀p∈r,p<6:=by
 revert rows rows2 hW i h v r2 hr
 funext rows rows2 hW i h v r2 hr
 have hv:=(qr.mp hr).1
 rw [h.len] at hv
 have TP:=treeP (domN hW 5 (by omega)).tree
 have hZ: ∃r,rows[v]? =some r:=⟨_,qd (by rw [hW.len];omega)⟩
 revert hZ;funext ⟨r0,hr0⟩
 refine hkX (h.ext v r0 r2 hr0 hr) ?_
 funext ⟨ext,e1,e2,e3⟩
 have hro:r0.Pairwise (· < ·)∧ ∀p∈r0,0≤p∧p<v:=by
  by_cases h0:v=0
  ·subst h0
   rw [hW.zero] at hr0
   cases hr0
   exact ⟨.nil,fun p hp=>nomatch hp⟩
  ·exact (hW.row v r0 (by exact jg h0) hr0).2
 have hi:intL (r0.map QI)=r0:=by
  rw [intL,zf]
  conv=>rhs;rw [←List.map_id r0]
  exact jr fun p hp=>by
   have:=(hro.2 p hp).1
   simp-iota only [Function.comp,id];omega
 refine ⟨r0.map QI++ext,by rw [e1,show intL (r0.map QI++ext)=intL (r0.map QI)++intL ext from qB,hi],?_,?_⟩
 ·rw [List.pairwise_append]
  refine ⟨?_,e2,?_⟩
  ·rw [List.pairwise_map]
   exact hro.1.imp_of_mem fun {a b} ha hb hab=>by
    have:=(hro.2 a ha).1
    exact (Int.toNat_lt_toNat (jZ this hab)).mpr hab
  ·funext a ha e he
   refine hkX (qw.mp ha) ?_
   funext ⟨p,hp,rfl⟩
   have h1:=hro.2 p hp
   refine hkX (e3 e he) ?_
   funext ⟨_,h6,c,hc,huc⟩
   have:=chain_le_last c (TP.ch c (qk hc)) e h6 (TP.last _ _ hc) v huc
   exact Ar.t2 h1 this
 ·funext p hp
  refine Or.elim (qO.mp hp) ?_ ?_
  ·funext hp
   refine hkX (qw.mp hp) ?_
   funext ⟨q,hq,rfl⟩
   have:=hro.2 q hq
   exact zq (Ar.t1 this) hv
  ·funext hp
   exact (e3 p hp).2.1
section
variable{b:qe}{w:World}{A:qq}{L L':Led}{R:Value→Led→Prop}{F:Frag}{x:TX}{ra sas:List Addr}{Q:Flow→Led→Prop}{wa na pi cu bk st v:Option Value}{rows rows2:List (List Int)}
set_option maxHeartbeats 8000000 in
theorem law_13{aw sa:Addr}{lo:Int}{tlo:Tok}(K:Kn b)(hA:Rm 3 A)(hlo:0≤lo∧lo<20000)(hW:Ways rows)(hL:Mm (aw,isL VR ra) L)(h1:ra.length=6)(hsa:Mm (sa,isL VR sas) L)(hsl:sas.length=6)(hsr: ∀(j:Nat) a c,sas[j]? =some a→(domsF rows 5)[j]? =some c→Mm (a,isL VI (intL c)) L)
  (q: ∀rows2 bk v,LoopI rows rows2 (domsF rows 5) 5→W b w A (ledU x (some (.int lo tlo)) (some (.ref aw)) na pi cu bk none none (some (.ref sa)) v (rowsL ra rows2++L)) (execs ((bodyOf (stm 27)).drop 14) (envT x)) Q):
  W b w A (ledU x (some (.int lo tlo)) (some (.ref aw)) na pi cu bk none none (some (.ref sa)) v (rowsL ra rows++L)) (execs ((bodyOf (stm 27)).drop 13) (envT x)) Q:=by
 revert b w A L x ra sas Q na pi cu bk v rows aw sa lo tlo K hA hlo hW hL h1 hsa hsl hsr q
 funext b w A L x ra sas Q na pi cu bk v rows aw sa lo tlo K hA hlo hW hL h1 hsa hsl hsr q
 have TP:=treeP (domN hW 5 (by omega)).tree
 refine W.forG (fun fz=>by kernel_rfl) ?_
 repeat tb_start
 refine ⟨fun i L2=> ∃rows2 bk v,L2=ledU x (some (.int lo tlo)) (some (.ref aw)) na pi cu bk none none (some (.ref sa)) v (rowsL ra rows2++L)∧LoopI rows rows2 (domsF rows 5) i,5,_,_,Walk.range hA.handled (by decide) (by decide) (by decide) .head,⟨_,.skip .all,rows,bk,v,rfl,.zero hW _⟩,fun fz fz fz=>trivial,?_,?_⟩
 ·funext i v' L2 it P2 hi ⟨t1,rfl⟩ ⟨rows2,bk,v,rfl,hLI⟩
  rw [show (1+(i:Int))=((i+1:Nat):Int) by omega]
  have hZ: ∃c,(domsF rows 5)[i+1]? =some c:=⟨_,qd (by rw [TP.len];omega)⟩
  revert hZ;funext ⟨c,hc⟩
  have hZ: ∃a,sas[i+1]? =some a:=⟨_,qd (by omega)⟩
  revert hZ;funext ⟨a,ha⟩
  have hac:=hsr _ a c ha hc
  have hcc:=TP.ch c (qk hc)
  have hcl:=(chain_len c hcc).2
  have hcm:=chain_mem c hcc
  have hpw:(7:Int)^ i≠0∧0<(7:Int)^ i∧(7:Int)^ i<3000:=by
   match i,hi with
   |0,_|1,_|2,_|3,_|4,_=>decide
  repeat tb_start
  rw [show (((i+1:Nat):Int)-1)=((i:Nat):Int) by exact Int.sub_eq_iff_eq_add.mpr rfl]
  refine W.powI (n:=i) ⟨by decide,by decide⟩ rfl (by omega) ?_
  funext t2
  refine W.divI hpw.1 (PyProof.noPylong_small (by exact Ar.i1 (Int.le_of_lt hpw.2.1) (Int.lt_trans hpw.2.2 (by decide)))) ?_
  funext t3
  repeat tb_start
  have hb0:0≤(lo.fdiv (7^ i)).fmod 7:=jf _ (by decide)
  have hb7:(lo.fdiv (7^ i)).fmod 7<7:=vJ _ (by decide)
  generalize (lo.fdiv (7^ i)).fmod 7=back at hb0 hb7 ⊢
  have hZ: ∃n:Nat,back=n:=⟨back.toNat,by omega⟩
  revert hZ;funext ⟨bkn,rfl⟩
  refine W.itemL (T:=VR) (ds:=sas) (d:=a) (by tb_rel) (by omega) ha (fun fz=>by kernel_rfl) ?_
  funext _ rfl
  repeat tb_start
  refine W.lenL (T:=VI) (ds:=intL c) (by tb_rel) (by rw [qh];omega) ?_
  funext t5
  repeat tb_start
  refine ⟨fun hb=> ?_,fun hb=> ?_⟩
  ·have hlt:bkn<c.length:=by
    rw [qh] at hb
    have:=of_decide_eq_true hb
    exact zT.mp (of_decide_eq_true hb)
   have hZ: ∃u,c[bkn]? =some u:=⟨_,qd hlt⟩
   revert hZ;funext ⟨u,hu⟩
   have huc:=qk hu
   have hu6:=hcm u huc
   have hZ: ∃r,rows2[u]? =some r:=⟨_,qd (by rw [hLI.len];exact hu6)⟩
   revert hZ;funext ⟨r2,hr2⟩
   have hZ: ∃a,ra[u]? =some a:=⟨_,qd (by omega)⟩
   revert hZ;funext ⟨au,hau⟩
   have hr2l:r2.length≤100:=by
    refine hkX (hLI.rows hW hr2) ?_
    funext ⟨r,rfl,e2,e3⟩
    rw [qh]
    have:=nodup_len 6 r (e2.imp fun h=>qS h) e3
    omega
   have hup:=rowsL_set (r':=r2++ [((i+1:Nat):Int)]) hau hr2
   refine W.exprS ⟨by kernel_rfl,by kernel_rfl⟩ ?_
   repeat tb_start
   refine W.itemL (T:=VR) (ds:=sas) (d:=a) (by tb_rel) (by omega) ha (fun fz=>by kernel_rfl) ?_
   funext _ rfl
   repeat tb_start
   refine W.itemL (T:=VI) (ds:=intL c) (d:=(u:Int)) (by tb_rel) (by exact ql hlt (qg hcl (Ar.d rfl))) (by rw [qp,hu];rfl) (fun fz=>by kernel_rfl) ?_
   funext _ ⟨t6,rfl⟩
   refine W.itemL (T:=VR) (ds:=ra) (d:=au) (by tb_rel) (by omega) hau (fun fz=>by kernel_rfl) ?_
   funext _ rfl
   have hm2:Mm (au,isL VI r2) (rowsL ra rows2):=rowsL_mem hau hr2
   refine W.gmL (T:=VI) (ds:=r2) PySem.F.slot_list_append PySem.F.type_list_append (by tb_rel) ?_
   repeat tb_start
   refine W.append (T:=VI) (ds:=r2) (d:=((i+1:Nat):Int)) (by tb_rel) (by omega) ⟨t1,rfl⟩ ?_
   exact W.nil (W.nil ⟨_,.all,_,_,_,rfl,hLI.add (by omega) hc huc hr2⟩)
  ·exact W.nil ⟨_,.all,_,_,_,rfl,hLI.skip⟩
 ·funext L2 ⟨rows2,bk,v,rfl,hLI⟩
  exact q rows2 bk v hLI
end
end
section
theorem cutF_pre(rows:List (List Int))(n v:Nat)(hv:v<n+1): ∀k,(cutF rows (n+k))[v]? =(cutF rows n)[v]?
 |0=>rfl
 |k+1=>by
  show (cutF rows (n+k)++_)[v]? =_
  rw [qE (by rw [cutF_len];exact ql hv (jm (jk _ _)))]
  exact cutF_pre rows n v hv k
theorem cut_at{rows:List (List Int)}(hW:Ways rows){i:Nat}(hi:i<5): ∃(u0:Nat) (r:List Int) (c0 c:List Nat),rows[i+1]? =some ((u0:Int)::r)∧u0<6∧(domsF rows 5)[u0]? =some c0∧(domsF rows 5)[i+1]? =some c∧(cutF rows 5)[i+1]? =some (c0.filter fun u=> !c.contains u):=by
 revert rows hW i hi
 funext rows hW i hi
 have hZ: ∃r,rows[i+1]? =some r:=⟨_,qd (by rw [hW.len];omega)⟩
 revert hZ;funext ⟨r,hr⟩
 have hro:=hW.row _ _ (by omega) hr
 have hgd:rows.getD (i+1) []=r:=by rw [qi,hr];rfl
 have hD:=domsF_ok hW i (by omega)
 refine hkX (Qo hro.1) ?_
 funext ⟨p0,pr,rfl⟩
 have hp0:=hro.2.2 p0 (.head _)
 have hZ: ∃c,(domsF rows i)[p0.toNat]? =some c:=⟨_,qd (by rw [hD.len];omega)⟩
 revert hZ;funext ⟨c0,hc0⟩
 have hpre:=near_pre hD hro
 have hhd:headOf (domsF rows i) (p0::pr)=c0:=by
  show (domsF rows i).getD p0.toNat []=_
  rw [qi,hc0];rfl
 rw [hhd] at hpre
 have hnew:(domsF rows 5)[i+1]? =some (nearOf (domsF rows i) (p0::pr)++ [i+1]):=by
  rw [domsF_at rows (n:=i) (by omega),hgd]
 have hc5:(domsF rows 5)[p0.toNat]? =some c0:=by
  rw [show 5=i+(5-i) by exact (vA (qv hi)).symm,domsF_pre rows i _ (by omega)];exact hc0
 have hcut:(cutF rows 5)[i+1]? =some (c0.drop (nearOf (domsF rows i) (p0::pr)).length):=by
  rw [show 5=(i+1)+(4-i) by exact ((zG _ 1 _).trans (congrArg Nat.succ (vA (jt hi)))).symm,cutF_pre rows (i+1) _ (by omega)]
  show (cutF rows i++ [(headOf (domsF rows i) (rows.getD (i+1) [])).drop (nearOf (domsF rows i) (rows.getD (i+1) [])).length])[i+1]? =_
  rw [zd (by rw [cutF_len];omega),cutF_len,Nat.sub_self,hgd,hhd];rfl
 have hk0:=hD.ok _ _ hc0
 have hcl:=(chain_len c0 hk0.1).2
 have hlen:=hpre.length_le
 have hall:c0.all (· <i+1)=true:=all_le (okTo_lt hk0) (by exact Ar.t1 hp0)
 have hfil:=okCut c0 hk0.1 (nearOf (domsF rows i) (p0::pr)).length (by exact Qx (qg hlen hcl)) (i+1) (by omega) hall
 rw [←List.prefix_iff_eq_take.mp hpre] at hfil
 refine ⟨p0.toNat,pr,c0,_,by rw [vz hp0.1];exact hr,by omega,hc5,hnew,?_⟩
 rw [hfil];exact hcut
section
variable{b:qe}{w:World}{A:qq}{L L':Led}{R:Value→Led→Prop}{F:Frag}{x:TX}{ra sas:List Addr}{Q:Flow→Led→Prop}{lo wa na pi bk st v:Option Value}{rows:List (List Int)}
theorem eq_tup(w:World){s:qe}{a a':Addr}{c1 c2:Str}(hA:A.units<9500)(H:St b s L)(h1:Mm (a,isT VS [c1,c2]) L)(h2:Mm (a',isT VS [c1,c2]) L):SeqAt.EqAt A s (.ref a) (.ref a') true:=by
 revert b A L w s a a' c1 c2 hA H h1 h2
 funext b A L w s a a' c1 c2 hA H h1 h2
 have ec:cLine=9900:=by decide
 by_cases e:a=a'
 ·subst e;exact SeqAt.EqAt.same _
 ·refine SeqAt.EqAt.of_refs e ?_
  refine hkX (H.tup h1) ?_
  funext ⟨vs,n,ha,e1⟩
  refine hkX (H.tup h2) ?_
  funext ⟨us,n2,hb,e2⟩
  have la:=ha.len
  have lb:=hb.len
  have:=SeqAt.RcAt.tuples (A:=A) (s:=s) (items:=vs.toArray) (items2:=us.toArray) (e:=fun fz=>true) ⟨_,e1,rfl,_,rfl⟩ ⟨_,e2,rfl,_,rfl⟩ (by rw [ec];omega) fun j g1 g2=>by
   rw [qo] at g1 g2
   refine hkX (ha.get (qd (show j< [c1,c2].length by omega))) ?_
   funext ⟨v,hv,hT⟩
   refine hkX (hb.get (qd (show j< [c1,c2].length by omega))) ?_
   funext ⟨u,hu,hU⟩
   rw [qd g1] at hv
   rw [qd g2] at hu
   cases hv
   cases hu
   have:=(eqeS (b:=b) (w:=w) (L:=L)).run A.in1 s _ _ _ _ (by show A.units+1<cLine;rw [ec];omega) H hT hU
   simpa using this
  rw [qo,qo,la,lb] at this
  exact this
theorem W.neTT{l m:Addr}{as as':List Addr}{c:List Nat}(hA:A.units<9000)(hl:Mm (l,isL VR as) L)(hm:Mm (m,isL VR as') L)(h1:as.length=c.length)(h2:as'.length=c.length)
  (t1: ∀(j:Nat) a u,as[j]? =some a→c[j]? =some u→Mm (a,isT VS [sOf [46],sOf [97+u]]) L) (t2: ∀(j:Nat) a u,as'[j]? =some a→c[j]? =some u→Mm (a,isT VS [sOf [46],sOf [97+u]]) L) (h:R (.bool false) L):W b w A L (jd .NotEq (.ref l) (.ref m)) R:=W.mk fun s H=>by
 have ec:cLine=9900:=by decide
 obtain ⟨vs,n,ha,e1⟩:=H.lst hl
 obtain ⟨us,n2,hb,e2⟩:=H.lst hm
 have la:=ha.len
 have lb:=hb.len
 refine (SeqAt.RcNeAt.lists (items:=vs.toArray) (items2:=us.toArray) (e:=fun fz=>true) (listO_is e1) (listO_is e2) (by simp;omega) (by rw [ec];omega) fun j g1 g2=> ?_) pw w _ _ ⟨L,H,?_⟩
 ·rw [qo] at g1 g2
  obtain ⟨v,hv,hT⟩:=ha.get (qd (show j<as.length by omega))
  obtain ⟨u,hu,hU⟩:=hb.get (qd (show j<as'.length by omega))
  rw [qd g1] at hv
  rw [qd g2] at hu
  cases hv
  cases hu
  obtain ⟨k,hk⟩: ∃k,c[j]? =some k:=⟨_,qd (by exact qU g1 (la.trans h1))⟩
  have:=eq_tup w (A:=A.in1) (by show A.units+1<9500;omega) H (t1 j _ k (qd (show j<as.length by omega)) hk) (t2 j _ k (qd (show j<as'.length by omega)) hk)
  have h3:vs[j]= .ref (as[j]'(by omega)):=hT
  have h4:us[j]= .ref (as'[j]'(by omega)):=hU
  simp-iota only [List.getElem_toArray,h3,h4]
  exact this
 ·have:(!(zo vs.toArray.size).all fun fz=>true)=false:=by simp
  rw [this];exact h
set_option maxHeartbeats 8000000 in
theorem law_12{aw sa tc:Addr}{cs:List (Addr×List Addr)}(K:Kn b)(hA:Rm 3 A)(hW:Ways rows)(hL:Mm (aw,isL VR ra) L)(hr: ∀(v:Nat) a r,ra[v]? =some a→rows[v]? =some r→Mm (a,isL VI r) L)(h1:ra.length=6)
  (hsa:Mm (sa,isL VR sas) L) (hsl:sas.length=6) (hsr: ∀(j:Nat) a c,sas[j]? =some a→(domsF rows 5)[j]? =some c→Mm (a,isL VI (intL c)) L)
  (htc:Mm (tc,isL VR (cs.map (·.1))) L) (hcl:cs.length=6) (hcs: ∀(j:Nat) p c,cs[j]? =some p→(cutF rows 5)[j]? =some c→p.2.length=c.length∧Mm (p.1,isL VR p.2) L∧ ∀(m:Nat) a u,p.2[m]? =some a→c[m]? =some u→Mm (a,isT VS [sOf [46],sOf [97+u]]) L)
  (q: ∀v,W b w A (ledU x lo (some (.ref aw)) na pi (some (.ref tc)) none none none (some (.ref sa)) v L) (execs ((bodyOf (stm 27)).drop 13) (envT x)) Q):
  W b w A (ledU x lo (some (.ref aw)) na pi (some (.ref tc)) none none none (some (.ref sa)) v L) (execs ((bodyOf (stm 27)).drop 12) (envT x)) Q:=by
 revert b w A L x ra sas Q lo na pi v rows aw sa tc cs K hA hW hL hr h1 hsa hsl hsr htc hcl hcs q
 funext b w A L x ra sas Q lo na pi v rows aw sa tc cs K hA hW hL hr h1 hsa hsl hsr htc hcl hcs q
 have TP:=treeP (domN hW 5 (by omega)).tree
 refine W.forG (fun fz=>by kernel_rfl) ?_
 repeat tb_start
 refine ⟨fun i L2=> ∃v,L2=ledU x lo (some (.ref aw)) na pi (some (.ref tc)) none none none (some (.ref sa)) v L,5,_,_,Walk.range hA.handled (by decide) (by decide) (by decide) .head,⟨_,.skip .all,v,rfl⟩,fun fz fz fz=>trivial,?_,?_⟩
 ·funext i v' L2 it P2 hi ⟨t1,rfl⟩ ⟨v,rfl⟩
  rw [show (1+(i:Int))=((i+1:Nat):Int) by omega]
  refine hkX (cut_at hW hi) ?_
  funext ⟨u0,r,c0,c,g1,g2,g3,g4,g5⟩
  have hZ: ∃p,cs[i+1]? =some p:=⟨_,qd (by omega)⟩
  revert hZ;funext ⟨pc,hpc⟩
  refine hkX (hcs _ pc _ hpc g5) ?_
  funext ⟨k1,k2,k3⟩
  have hZ: ∃a,ra[i+1]? =some a:=⟨_,qd (by omega)⟩
  revert hZ;funext ⟨ar,har⟩
  have hmr:=hr _ ar _ har g1
  have hZ: ∃a,sas[u0]? =some a:=⟨_,qd (by omega)⟩
  revert hZ;funext ⟨s0,hs0⟩
  have hm0:=hsr _ s0 _ hs0 g3
  have hZ: ∃a,sas[i+1]? =some a:=⟨_,qd (by omega)⟩
  revert hZ;funext ⟨s1,hs1⟩
  have hm1:=hsr _ s1 _ hs1 g4
  have hcc:=TP.ch c0 (qk g3)
  have hcl6:=(chain_len c0 hcc).2
  have hcm:=chain_mem c0 hcc
  repeat tb_start
  refine W.itemL (T:=VR) (ds:=cs.map (·.1)) (d:=pc.1) (by tb_rel) (by omega) (by rw [qp,hpc];rfl) (fun fz=>by kernel_rfl) ?_
  funext _ rfl
  refine W.compL [(qb "v",x.C3),(qb "straight",x.C2)] [qb ".0",qb "u"] (fun fz=>by kernel_rfl) (by kernel_rfl) (by kernel_rfl) ?_
  repeat tb_start
  refine W.itemL (T:=VR) (ds:=ra) (d:=ar) (by tb_rel) (by omega) har (fun fz=>by kernel_rfl) ?_
  funext _ rfl
  repeat tb_start
  refine W.itemL (T:=VI) (ds:=(u0:Int)::r) (i:=0) (d:=(u0:Int)) (by tb_rel) (by omega) rfl (fun fz=>by kernel_rfl) ?_
  funext _ ⟨t2,rfl⟩
  refine W.itemL (T:=VR) (ds:=sas) (d:=s0) (by tb_rel) (by omega) hs0 (fun fz=>by kernel_rfl) ?_
  funext _ rfl
  have hZ: ∃G:Led,G=(it,P2)::ledU x lo (some (.ref aw)) na pi (some (.ref tc)) none none none (some (.ref sa)) (some (.int ((i+1:Nat):Int) t1)) L:=⟨_,rfl⟩
  revert hZ;funext ⟨G,hG⟩
  have mG: ∀{m:Addr×Asn},Mm m L→Mm m G:=fun h=>by rw [hG];tb_rel
  have msa:=mG hsa
  have mm0:=mG hm0
  have mm1:=mG hm1
  have mC2:Mm (x.C2,isCell (some (.ref sa))) G:=by rw [hG];tb_rel
  have mC3:Mm (x.C3,isCell (some (.int ((i+1:Nat):Int) t1))) G:=by rw [hG];tb_rel
  refine ⟨fun acc j L2=> ∃fr:List Addr,fr.length=((c0.take j).filter fun u=> !c.contains u).length∧L2=(acc,isL VR fr)::(tupsL fr ((c0.take j).filter fun u=> !c.contains u)++G),(intL c0).length,⟨_,_,Walk.list (T:=VI) (ds:=intL c0) hA.handled (by tb_rel),⟨_,VR,fun acc=>⟨_,.all,[],by simp,by rw [hG];simp [tupsL]⟩⟩,?_,?_⟩,?_⟩
  ·funext acc j L2 ⟨fr,_,rfl⟩
   tb_rel
  ·funext acc CC it2 P3 j v' L2 fr2 hj ⟨d,hd,t3,rfl⟩ hfr ⟨fr,hfl,rfl⟩
   refine hkX (names2 hfr) ?_
   funext ⟨w1,w2,rfl⟩
   have hZ: ∃k,c0[j]? =some k∧(k:Int)=d:=by
    rw [qp] at hd
    cases h:c0[j]? with
    |none=>rw [h] at hd;cases hd
    |some p=>
     revert p;funext p h
     rw [h] at hd;cases hd;exact ⟨p,rfl,rfl⟩
   revert hZ;funext ⟨k,hk,rfl⟩
   have hk6:=hcm k (qk hk)
   have hfle:fr.length≤100:=by
    rw [hfl]
    refine qg (jN _ _) ?_
    rw [qI];omega
   have hstep:(c0.take (j+1)).filter (fun u=> !c.contains u)=(c0.take j).filter (fun u=> !c.contains u)++(if c.contains k then [] else [k]):=by
    rw [qV,hk,vH,show (some k).toList= [k] from rfl,jl,List.filter_nil]
    cases c.contains k<;>rfl
   repeat tb_start
   refine W.itemL (T:=VR) (ds:=sas) (d:=s1) (by tb_rel) (by omega) hs1 (fun fz=>by kernel_rfl) ?_
   funext _ rfl
   repeat tb_start
   rw [any_int]
   refine ⟨fun hb=> ?_,fun hb=> ?_⟩
   ·rw [if_neg (by revert hb;cases c.contains k<;>simp)] at hstep
    repeat tb_start
    refine W.abc hk6 (fun fz=>by kernel_rfl) (fun fz=>by kernel_rfl) ?_
    funext t5
    rw [lit_dot]
    refine W.newT (T:=VS) (ds:= [sOf [46],sOf [97+k]]) (.cons ⟨_,rfl⟩ (.one ⟨_,rfl⟩)) (by simp) ?_
    funext ta
    refine W.append (T:=VR) (d:=ta) (by tb_rel) (by omega) rfl ?_
    refine ⟨[(qb ".0",w1),(qb "u",some (.int (k:Nat) t3))],(acc,isL VR (fr++ [ta]))::(tupsL (fr++ [ta]) ((c0.take (j+1)).filter fun u=> !c.contains u)++G),rfl,?_,fr++ [ta],by rw [hstep];simp [hfl],rfl⟩
    rw [hstep,tupsL_snoc hfl]
    exact .cons (by tb_rel) (.cons (by tb_rel) (.cons (by tb_rel) Take.mid))
   ·rw [if_pos (by revert hb;cases c.contains k<;>simp),za] at hstep
    exact ⟨[(qb ".0",w1),(qb "u",some (.int (k:Nat) t3))],_,rfl,.all,fr,by rw [hstep];exact hfl,by rw [hstep]⟩
  ·funext acc L2 ⟨fr,hfl,rfl⟩
   rw [qh,zh] at hfl ⊢
   have mk2:=mG k2
   refine W.neTT (as:=pc.2) (as':=fr) (c:=c0.filter fun u=> !c.contains u) hA.u1 (by tb_rel) .head k1 hfl (fun m a u e1 e2=>by have:=mG (k3 m a u e1 e2);tb_rel) (fun m a u e1 e2=>by have:=tupsL_mem e1 e2;tb_rel) ?_
   refine W.tb (W.no ?_)
   refine W.nil ⟨_,.skip ?_,some (.int ((i+1:Nat):Int) t1),rfl⟩
   rw [hG]
   exact .last (.skip .all)
 ·funext L2 ⟨v,rfl⟩
  exact q v
end
end
section
section
variable{b:qe}{w:World}{A:qq}{L L':Led}{R:Value→Led→Prop}{F:Frag}{ds:List Int}{m:Nat}
theorem lit_com:qb "com"=sOf comL:=by decide+kernel
theorem lit_x7:qb "x7"=sOf x7L:=by decide+kernel
set_option maxHeartbeats 8000000 in
set_option tactic.hygienic true in
theorem law_head(K:Kn b)(S:ScB b ds)(hm:3≤m)(hA:Rm (m+1) A)
  (h: ∀A' x lo tlo aw ra rows,Rm m A'→x.z∈zones→x.bd<7→x.o<7→0≤x.size∧x.size<1000→0≤lo∧lo<20000→Ways rows→ra.length=6→
   W b w A' (ledU x (some (.int lo tlo)) (some (.ref aw)) none none none none none none none none ((aw,isL VR ra)::(rowsL ra rows++L))) (execs ((bodyOf (stm 27)).drop 9) (envT x)) (FinQ R)):
  W b w A L (call (.ref 324) [.ref 325]) R:=by
 revert b w A L R ds m K S hm hA h
 funext b w A L R ds m K S hm hA h
 refine W.fnC (fd:=fd0 27 lawm 323) [(qb "script",.ref 325)] [(qb "script",.ref 325)] []
  [qb "cells",qb "k",qb "loops",qb "rest",qb "barred",qb "size",qb "other",qb "ways",qb "names",qb "piles",qb "cuts",qb "back",qb "above",qb "hosts",qb "path",qb "domain",qb "last",qb "guest",qb "near"]
  [(qb "script",some (.ref 325)),(qb "cells",none),(qb "k",none),(qb "loops",none),(qb "rest",none),(qb "barred",none),(qb "size",none),(qb "other",none),(qb "ways",none),(qb "names",none),(qb "piles",none),(qb "cuts",none),(qb "back",none),(qb "above",none),(qb "hosts",none),(qb "path",none),(qb "domain",none),(qb "last",none),(qb "guest",none),(qb "near",none)]
  (fun k=> [(qb "v",k+3),(qb "straight",k+2),(qb "zone",k+1)]) (fun k M=>(k+3,isCell none)::(k+2,isCell none)::(k+1,isCell none)::M) K (by tb_rel) hA rfl (fun fz fz=>zc (by kernel_rfl)) (by kernel_rfl) (by kernel_rfl) (by kernel_rfl) (fun fz=>by rfl) (fun fz fz=>by rfl) (fun fz=>by rfl) (fun fz=>by simp;exact ⟨by kernel_rfl,by kernel_rfl⟩) (by kernel_rfl) ?_
 funext La A' hA
 generalize hC3:La+3=C3
 generalize hC2:La+2=C2
 generalize hC1:La+1=C1
 refine W.asg (by kernel_rfl!) ?_
 repeat tb_start
 refine W.newL (T:=VI) (ds:= [7407,2785,45]) (.cons ⟨_,rfl⟩ (.cons ⟨_,rfl⟩ (.one ⟨_,rfl⟩))) (by simp) ?_
 funext ca
 repeat tb_start
 refine W.weak .head isW_of ?_
 refine W.forG (fun fz=>by kernel_rfl) ?_
 repeat tb_start
 refine W.lenB S ?_
 funext t1
 have hfew:=S.few
 repeat tb_start
 refine ⟨fun i L2=> ∃cs kv,L2=(ca,isW VI cs)::(La,loc27 (some (.ref 325)) (some (.ref ca)) kv none none none none none none none none none none none none none none none none none)::(C3,isCell none)::(C2,isCell none)::(C1,isCell none)::L∧cs.length=3,ds.length,_,_,Walk.range hA.handled (by decide) (by omega) (by omega) .head,⟨_,.skip .all,_,none,rfl,rfl⟩,fun fz fz fz=>trivial,?_,?_⟩
 ·funext i v' L2 it P2 hi ⟨t2,rfl⟩ ⟨cs,kv,rfl,hcl⟩
  rw [show (0+(i:Int))=i by omega]
  have hZ: ∃d,ds[i]? =some d:=⟨_,qd hi⟩
  revert hZ;funext ⟨d,hd⟩
  have hZ: ∃c,cs[i % 3]? =some c:=⟨_,qd (by exact qU (Nat.mod_lt _ (Ar.d rfl)) hcl.symm)⟩
  revert hZ;funext ⟨c,hc⟩
  repeat tb_start
  refine W.augSub (fun fz fz fz=>by kernel_rfl) ?_
  repeat tb_start
  have hmod:(i:Int).fmod 3=((i % 3:Nat):Int):=by
   rw [Int.fmod_eq_emod_of_nonneg _ (by decide)];omega
  rw [hmod]
  refine W.getW (T:=VI) (by tb_rel) (by exact ql (Nat.mod_lt _ (Ar.d rfl)) (Ar.d rfl)) hc ?_
  funext _ ⟨t3,rfl⟩
  repeat tb_start
  refine W.itemB S (by omega) hd (fun fz=>by kernel_rfl) ?_
  funext t4
  repeat tb_start
  rename_i t5
  refine W.setW (T:=VI) (ds:=cs) (d:=c+d) (by tb_rel) (by exact qU (Nat.mod_lt _ (Ar.d rfl)) hcl.symm) (by omega) ⟨t5,rfl⟩ ?_
  exact W.nil ⟨_,.all,cs.set (i % 3) (c+d),some (.int (i:Nat) t2),rfl,by rw [List.length_set];exact hcl⟩
 ·funext L2 ⟨cs,kv,rfl,hcl⟩
  have hZ: ∃c,cs[0]? =some c:=⟨_,qd (by omega)⟩
  revert hZ;funext ⟨c0,h0⟩
  have hZ: ∃c,cs[1]? =some c:=⟨_,qd (by omega)⟩
  revert hZ;funext ⟨c1,h1⟩
  have hZ: ∃c,cs[2]? =some c:=⟨_,qd (by omega)⟩
  revert hZ;funext ⟨c2,h2⟩
  repeat tb_start
  refine W.itemW (T:=VI) (i:=1) (by tb_rel) (by omega) h1 (fun fz=>by kernel_rfl) ?_
  funext _ ⟨t3,rfl⟩
  repeat tb_start
  refine W.itemW (T:=VI) (i:=2) (by tb_rel) (by omega) h2 (fun fz=>by kernel_rfl) ?_
  funext _ ⟨t4,rfl⟩
  repeat tb_start
  have hlo0:0≤c1.fmod 16807:=jf _ (by decide)
  have hlo1:c1.fmod 16807<16807:=vJ _ (by decide)
  generalize c1.fmod 16807=lo at hlo0 hlo1 ⊢
  have hre0:0≤c2.fmod 588:=jf _ (by decide)
  have hre1:c2.fmod 588<588:=vJ _ (by decide)
  generalize c2.fmod 588=re at hre0 hre1 ⊢
  have hZ: ∃n:Nat,re.fmod 7=n∧n<7:=⟨(re.fmod 7).toNat,by have:=jf re (b:=7) (by decide);omega,by have:=vJ re (b:=7) (by decide);exact Ar.i3 this rfl⟩
  revert hZ;funext ⟨bd,hbd,hb7⟩
  rw [hbd,lit_local,lit_com,lit_x7]
  refine W.newL (T:=VS) (ds:= [sOf loc5,sOf comL,sOf x7L]) (.cons ⟨_,rfl⟩ (.cons ⟨_,rfl⟩ (.one ⟨_,rfl⟩))) (by simp) ?_
  funext zl
  repeat tb_start
  have hZ: ∃n:Nat,(re.fdiv 7).fmod 3=n∧n<3:=⟨((re.fdiv 7).fmod 3).toNat,by have:=jf (re.fdiv 7) (b:=3) (by decide);omega,by have:=vJ (re.fdiv 7) (b:=3) (by decide);exact Ar.i3 this rfl⟩
  revert hZ;funext ⟨zn,hzn,hz3⟩
  rw [hzn]
  have hZ: ∃z,[sOf loc5,sOf comL,sOf x7L][zn]? =some (sOf z)∧z∈zones:=by
   match zn,hz3 with
   |0,_=>exact ⟨loc5,rfl,by decide⟩
   |1,_=>exact ⟨comL,rfl,by decide⟩
   |2,_=>exact ⟨x7L,rfl,by decide⟩
  revert hZ;funext ⟨z,hz,hzz⟩
  refine W.itemL (T:=VS) (ds:= [sOf loc5,sOf comL,sOf x7L]) (d:=sOf z) (by tb_rel) (by omega) hz (fun fz=>by kernel_rfl) ?_
  funext _ ⟨t6,rfl⟩
  repeat tb_start
  have hs0:0≤(re.fdiv 21).fmod 4:=jf _ (by decide)
  have hs1:(re.fdiv 21).fmod 4<4:=vJ _ (by decide)
  generalize (re.fdiv 21).fmod 4=size at hs0 hs1 ⊢
  have hfd:re.fdiv 84=re / 84:=Int.fdiv_eq_ediv_of_nonneg _ (by decide)
  have hZ: ∃n:Nat,re.fdiv 84=n∧n<7:=⟨(re.fdiv 84).toNat,by rw [hfd];exact Ar.t4 (Int.ediv_nonneg hre0 (by decide)),by rw [hfd];exact Ar.i3 (Int.ediv_lt_of_lt_mul (by decide) hre1) rfl⟩
  revert hZ;funext ⟨o,ho,ho7⟩
  rw [ho]
  refine W.itemW (T:=VI) (i:=0) (by tb_rel) (by omega) h0 (fun fz=>by kernel_rfl) ?_
  funext _ ⟨t9,rfl⟩
  repeat tb_start
  refine law_ways_ok K (hA.le hm) ?_
  funext aw ra rows hW hrl
  rename_i tlo q1 q2 tre q3 tba q4 q5 q6 q7 q8 q9 q10 q11 q12 q13 tsz q14 tot q15
  apply W.st
  ·kernel_rfl
  ·tb_rel
  ·tb_rel
  refine W.take (h A' ⟨some (.ref 325),some (.ref ca),kv,none,some (.int re tre),none,none,none,bd,o,size,tba,tot,tsz,t6,0,0,0,0,0,La,C1,C2,C3,z⟩ lo tlo aw ra rows hA hzz hb7 ho7 ⟨hs0,vI hs1 (by decide)⟩ ⟨hlo0,vI hlo1 (by decide)⟩ hW hrl) ?_
  iterate 4 refine .cons (by tb_rel) ?_
  refine .cons .head (.blk (by dl_step) (.skip (.skip .all)))
end
end
section
section
variable{b:qe}{w:World}{A:qq}{L L':Led}{R:Value→Led→Prop}{F:Frag}{x:TX}{ra aas:List Addr}{Q:Flow→Led→Prop}{lo na pi cu bk st v:Option Value}{rows:List (List Int)}{ds:List Int}
set_option maxHeartbeats 8000000 in
theorem law_9{aw:Addr}(K:Kn b)(hA:Rm 4 A)(hW:Ways rows)(hz:x.z∈zones)(hL:Mm (aw,isL VR ra) L)(hr: ∀(v:Nat) a r,ra[v]? =some a→rows[v]? =some r→Mm (a,isL VI r) L)(h1:ra.length=6)
  (q: ∀an,W b w A (ledU x lo (some (.ref aw)) (some (.ref an)) none none none none none none none ((an,isL VS ((domsF rows 5).map fun c=>sOf (hostL x.z c)))::L)) (execs ((bodyOf (stm 27)).drop 10) (envT x)) Q):
  W b w A (ledU x lo (some (.ref aw)) none none none none none none none none L) (execs ((bodyOf (stm 27)).drop 9) (envT x)) Q:=by
 refine W.asg (by kernel_rfl!) ?_
 repeat tb_start
 refine law_names_ok (ra:=ra) (rows:=rows) K hA.le (by tb_rel) (fun v a r e1 e2=>by have:=hr v a r e1 e2;tb_rel) h1 hW hz fun an=> ?_
 apply W.st
 ·kernel_rfl
 ·tb_rel
 ·tb_rel
 refine W.take (q an) ?_
 iterate 4 refine .cons (by tb_rel) ?_
 exact .all
set_option maxHeartbeats 8000000 in
theorem law_10{aw an:Addr}(KE:Ke F b)(hA:Rm 4 A)(hW:Ways rows)(hz:x.z∈zones)(hL:Mm (aw,isL VR ra) L)(hr: ∀(v:Nat) a r,ra[v]? =some a→rows[v]? =some r→Mm (a,isL VI r) L)(h1:ra.length=6)(hn:Mm (an,isL VS ((domsF rows 5).map fun c=>sOf (hostL x.z c))) L)
  (q: ∀tp tc (ps:List Pile) (cs:List (Addr×List Addr)),ps.length=6→cs.length=6→(∀(j:Nat) p c,ps[j]? =some p→(domsF rows 5)[j]? =some c→p.as.length=c.length)→(∀(j:Nat) p c,cs[j]? =some p→(cutF rows 5)[j]? =some c→p.2.length=c.length)→
   W b w A (ledU x lo (some (.ref aw)) (some (.ref an)) (some (.ref tp)) (some (.ref tc)) none none none none none ((tp,isL VR (ps.map (·.x)))::(tc,isL VR (cs.map (·.1)))::(pilesL (.int x.size x.tz) ps (domsF rows 5)++(cutsL cs (cutF rows 5)++L)))) (execs ((bodyOf (stm 27)).drop 11) (envT x)) Q):
  W b w A (ledU x lo (some (.ref aw)) (some (.ref an)) none none none none none none none L) (execs ((bodyOf (stm 27)).drop 10) (envT x)) Q:=by
 have K:=KE.n
 refine W.asgT (by kernel_rfl!) (by kernel_rfl!) ?_
 repeat tb_start
 refine law_piles_ok (ra:=ra) (rows:=rows) (z:=x.z) KE hA.le (by tb_rel) (fun v a r e1 e2=>by have:=hr v a r e1 e2;tb_rel) h1 hW hz (by tb_rel) fun t tp tc ps cs g1 g2 g3 g4=> ?_
 refine W.tgtT2 (T:=VR) hA.handled (by tb_rel) ?_
 rintro _ _ rfl rfl
 apply W.st
 ·kernel_rfl
 ·tb_rel
 ·tb_rel
 apply W.st
 ·kernel_rfl
 ·tb_rel
 ·tb_rel
 refine W.take (q tp tc ps cs g1 g2 g3 g4) ?_
 iterate 4 refine .cons (by tb_rel) ?_
 refine .cons (by tb_rel) (.cons (by tb_rel) (.skip .all))
end
end
section
section
variable{b:qe}{w:World}{A:qq}{L L':Led}{R:Value→Led→Prop}{F:Frag}{ds:List Int}
theorem sort_some{D:List (List Nat)}(h:D∈trees 5): ∃p,sortP 6 (ltAt ltN D)=some p∧(∀i∈p,i<6)∧p.length=6:=by
 revert D h
 funext D h
 have h:=pageOks D h 0 (by omega)
 unfold pageOk at h
 cases h1:sortP 6 (ltAt ltN D) with
 |none=>rw [h1] at h;cases h
 |some p=>
  revert p;funext p h1
  rw [h1] at h
  cases h2:sortP (keptD D 0).length (ltAt ltN (keptD D 0)) with
  |none=>rw [h2] at h;cases h
  |some p'=>
   revert p';funext p' h2
   rw [h2] at h
   simp only [qt,qz,decide_eq_true_eq,beq_iff_eq] at h
   exact ⟨p,rfl,h.1.1.1.1,h.1.1.1.2⟩
noncomputable def rowF(rows:List (List Int))(v:Nat):List Nat:=(rows.getD v []).map QI
set_option maxHeartbeats 16000000 in
theorem law_ok(KE:Ke F b)(KW:Kw w b)(KB:Kb b)(KQ:Kq F)(S:ScB b ds)(hA:Rm 10 A)(q: ∀L',R (.bool true) L'):W b w A L (call (.ref 324) [.ref 325]) R:=by
 have K:=KE.n
 refine law_head (m:=9) K S (by omega) hA fun A' x lo tlo aw ra rows hA hz hbd ho hsz hlo hW hrl=> ?_
 have DN:=domN hW 5 (by omega)
 have TP:=treeP DN.tree
 refine law_9 K hA.le hW hz .head (fun v a r e1 e2=> .tail (.inl (rowsL_mem e1 e2))) hrl fun an=> ?_
 refine law_10 KE hA.le hW hz (.tail .head) (fun v a r e1 e2=> .tail (.tail (.inl (rowsL_mem e1 e2)))) hrl .head fun tp tc ps cs g1 g2 g3 g4=> ?_
 have hpile: ∀{L1:Led} (_: ∀{m:Addr×Asn},Mm m (pilesL (.int x.size x.tz) ps (domsF rows 5))→Mm m L1) (j:Nat) p c,ps[j]? =some p→(domsF rows 5)[j]? =some c→Mm (p.x,isA p.dx VR p.as) L1∧Mm (p.dx,isAt (szAt (.int x.size x.tz))) L1∧Pairs L1 p.as (c.map fun u=>([46],[97+u])):=by
  intro L1 k j p c h1 h2
  have hcl:=(chain_len c (TP.ch c (qk h2))).2
  refine ⟨k (pilesL_mem h1 h2 .head),k (pilesL_mem h1 h2 (.tail .head)),Pairs.tups (g3 j p c h1 h2) (by omega) fun m a u e1 e2=>k (pilesL_mem h1 h2 (.tail (.tail (tupsL_mem e1 e2))))⟩
 have hcut: ∀{L1:Led} (_: ∀{m:Addr×Asn},Mm m (cutsL cs (cutF rows 5))→Mm m L1) (j:Nat) p c,cs[j]? =some p→(cutF rows 5)[j]? =some c→p.2.length=c.length∧Mm (p.1,isL VR p.2) L1∧ ∀(m:Nat) a u,p.2[m]? =some a→c[m]? =some u→Mm (a,isT VS [sOf [46],sOf [97+u]]) L1:=by
  intro L1 k j p c h1 h2
  exact ⟨g4 j p c h1 h2,k (cutsL_mem h1 h2 .head),fun m a u e1 e2=>k (cutsL_mem h1 h2 (.tail (tupsL_mem e1 e2)))⟩
 refine law_11 K hA.le hW (by tb_rel) (fun v a r e1 e2=>by have:=rowsL_mem e1 e2;tb_rel) hrl fun sa sas hsl=> ?_
 refine law_12 (cs:=cs) K hA.le hW (by tb_rel) (fun v a r e1 e2=>by have:=rowsL_mem e1 e2;tb_rel) hrl (by tb_rel) hsl (fun j a c e1 e2=>by have:=rows_int j a c e1 e2;tb_rel) (by tb_rel) g2 (hcut fun h=>by tb_rel) fun v=> ?_
 refine W.take (law_13 (rows:=rows) (tlo:=tlo) (v:=v) (bk:=none) (na:=some (.ref an)) (pi:=some (.ref tp)) (cu:=some (.ref tc)) (L:=(sa,isL VR sas)::(rowsL sas ((domsF rows 5).map intL)++((tp,isL VR (ps.map (·.x)))::(pilesL (.int x.size x.tz) ps (domsF rows 5)++((an,isL VS ((domsF rows 5).map fun c=>sOf (hostL x.z c)))::(aw,isL VR ra)::L))))) K hA.le hlo hW (by tb_rel) hrl (by tb_rel) hsl (fun j a c e1 e2=>by have:=rows_int j a c e1 e2;tb_rel) fun rows2 bk v hLI=> ?_) ?_
 ·refine law_14 (rows:=rows) (rows2:=rows2) K hA.le hW hLI.loops (by tb_rel) (fun v a r e1 e2=>by have:=rowsL_mem e1 e2;tb_rel) hrl fun ab aas hal=> ?_
  refine law_15 (D:=domsF rows 5) (aas:=aas) hA.le hz TP.ch TP.len (by tb_rel) hal (fun j a c e1 e2=>by have:=rows_int j a c e1 e2;tb_rel) fun ah=> ?_
  obtain ⟨p,hp1,hp2,hp3⟩:=sort_some DN.tree
  obtain ⟨LL,hLL⟩: ∃LL:Led,LL=(ah,isL VS ((domsF rows 5).map fun c=>sOf (hostL x.z c)))::(ab,isL VR aas)::(rowsL aas ((domsF rows 5).map intL)++(rowsL ra rows2++((sa,isL VR sas)::(rowsL sas ((domsF rows 5).map intL)++((tp,isL VR (ps.map (·.x)))::(pilesL (.int x.size x.tz) ps (domsF rows 5)++((an,isL VS ((domsF rows 5).map fun c=>sOf (hostL x.z c)))::(aw,isL VR ra)::L))))))):=⟨_,rfl⟩
  have hrow: ∀v<6,∃r,rows2[v]? =some (intL r)∧rowF rows2 v=r∧r.Pairwise (· < ·)∧ ∀p∈r,p<6:=by
   intro v hv
   obtain ⟨r2,hr2⟩: ∃r,rows2[v]? =some r:=⟨_,qd (by rw [hLI.len];exact hv)⟩
   obtain ⟨r,rfl,e2,e3⟩:=hLI.rows hW hr2
   refine ⟨r,hr2,?_,e2,e3⟩
   unfold rowF
   rw [qi,hr2,jG,intL,zf]
   conv=>rhs;rw [←List.map_id r]
   exact jr fun p fz=>by simp only [Function.comp,id];exact rfl
  obtain ⟨y,hy⟩: ∃y:TX,y=⟨x.sc,x.ce,x.k,some (.int lo tlo),x.re,some (.ref tc),bk,some (.ref sa),x.bd,x.o,x.size,x.tB,x.tO,x.tz,x.tZ,aw,an,tp,ab,ah,x.La,x.C1,x.C2,x.C3,x.z⟩:=⟨_,rfl⟩
  have T:LawT LL y ra aas (rowF rows2) (domsF rows 5) ps p:=by
   subst hy
   refine ⟨⟨?_,?_,?_,TP.len,TP.ch,hz,?_,g1,?_,?_,hp1,hp2,hp3⟩,?_,hal,?_,?_,DN.tree,hbd,ho,hsz⟩
   ·rw [hLL];tb_rel
   ·intro v hv
    obtain ⟨r,e1,e2,_⟩:=hrow v hv
    obtain ⟨a,ha⟩: ∃a,ra[v]? =some a:=⟨_,qd (by omega)⟩
    refine ⟨a,ha,?_⟩
    rw [e2,hLL]
    have:=rowsL_mem ha e1
    tb_rel
   ·intro v hv
    obtain ⟨r,e1,e2,e3,e4⟩:=hrow v hv
    rw [e2];exact ⟨e3,e4⟩
   ·rw [hLL];tb_rel
   ·rw [hLL];tb_rel
   ·exact hpile fun h=>by rw [hLL];tb_rel
   ·rw [hLL];tb_rel
   ·intro j a c e1 e2
    have:=rows_int j a c e1 e2
    rw [hLL];tb_rel
   ·rw [hLL];tb_rel
  obtain ⟨c5,hc5⟩: ∃c,(domsF rows 5)[5]? =some c:=⟨_,qd (by rw [TP.len];omega)⟩
  have main:W b w A' (ledT y v none none none none none LL) (execs ((bodyOf (stm 27)).drop 16) (envT y)) (FinQ R):=by
   refine law_16 KE hA.le T ?_
   refine law_17 KE hA.le T fun v pa=> ?_
   refine law_18 KE hA.le T fun td=> ?_
   refine law_19 KE hA.le T fun v=> ?_
   refine law_20 KE hA.le T hc5 fun tl=> ?_
   refine law_21 KE hA.le T hc5 fun gu ne=> ?_
   refine law_22 KE hA.le T hc5 ?_
   refine law_23 KE hA.le T ?_
   refine law_24 KE hA.le T hc5 ?_
   refine law_25 KE hA.le T ?_
   exact law_26 KE KW KB KQ hA.le T fun L'=>⟨_,.all,q _⟩
  subst hy
  subst hLL
  exact main
 ·iterate 4 refine .cons (by tb_rel) ?_
  refine .blk (by dl_step) ?_
  dl_keep
end
end
section
theorem strKeys_of{es:Array jz}(h:strKeysB es=true):StrKeys es:=fun e he=>by
 unfold strKeysB at h
 rw [Array.all_eq_true_iff_forall_mem] at h
 have:=h e he
 cases hk:e.key<;>rw [hk] at this<;>first|exact ⟨_,_,rfl⟩|cases this
theorem isStr_key{v:Value}(h: ∃x t,v= .str x t):Value.isStrOf (keyOf v) v=true:=by
 obtain ⟨x,t,rfl⟩:=h
 exact isStrOf_self x t
theorem asc_lt: ∀{l:List Nat} {x:Nat},ascB (x::l)=true→ ∀y∈l,x<y
 | [],_,_,y,h=>nomatch h
 |z::r,x,h,y,hy=>by
  have h:=QT.mp (show (decide (x<z)&&ascB (z::r))=true from h)
  rw [decide_eq_true_eq] at h
  rcases qH.mp hy with rfl|hy
  ·exact h.1
  ·exact zq h.1 (asc_lt h.2 y hy)
theorem asc_nd: ∀{l:List Nat},ascB l=true→l.Nodup
 | [],_=> .nil
 |x::r,h=>by
  refine zu.mpr ⟨fun hm=>zO _ (asc_lt h x hm),asc_nd ?_⟩
  cases r with
  |nil=>rfl
  |cons y r=>
   have h:=QT.mp (show (decide (x<y)&&ascB (y::r))=true from h)
   exact h.2
structure CodeT(F:Frag)(c P:Addr):Prop where
 code: ∃vs file tf flags tg inF text tt,F.lookup c=some {cls:= .type "code",data:= .fields vs}∧vs[11]? =some (.ref P)∧vs.getD 11 .none= .ref P∧vs.getD 18 .none= .str file tf∧vs.getD 7 .none= .int flags tg∧vs.getD 9 .none= .bool inF∧vs.getD 10 .none= .int text tt
 tab:F.lookup P=some {cls:= .none,data:= .fields #[]}
 ne:c≠P
structure Base(F:Frag)(P:Params):Prop where
 asc:ascB (F.map (·.1))=true
 fn:fns.map (fun p=>F.lookup p.1)=fns.map (fun p=>some (fnO p.2))
 code: ∀p∈fns,∃c vs t,p.2.code= .ref c∧F.lookup c=some {cls:= .type "code",data:= .fields vs}∧vs[1]? =some (.str p.2.qualname t)
 g3: ∃o es ep,F.lookup 3=some o∧o.cls= .type "dict"∧o.data= .dict es ep∧strKeysB es=true∧glob.map (fun p=>jy es p.1)=glob.map (fun p=>some p.2)∧bnames.map (fun p=>jy es p.1)=bnames.map (fun fz=>none)∧jy es "__builtins__"=some (.ref 4)
 m4: ∃o,F.lookup 4=some o∧o.cls= .type "module"∧o.dict=some QR∧o.data= .plain
 g0: ∃o es ep,F.lookup 0=some o∧o.cls= .type "dict"∧o.data= .dict es ep∧strKeysB es=true∧bnames.map (fun p=>jy es p.1)=bnames.map (fun p=>some p.2)
 re43: ∃v0 t0 v3 v4 t2 t6,F.lookup 43=some {cls:= .type "re.Pattern",dict:=none,data:= .fields #[v0,.int 256 t0,.int 0 t2,v3,v4,.ref 42,.int 0 t6],slots:=#[]}
 re42: ∃n,F.lookup 42=some {cls:= .type "tuple",dict:=none,data:= .seq ([14,8,1,2,4294967295,1,1,46,0,16,46,24,9,1,4294967295,13,4,8,0,0,1,6,5,1].map fun i=>Value.int i 0).toArray n,slots:=#[]}
 acc:Cls (liveF F) 151 [.type "list",.type "object"] accTab
 can:Cls (liveF F) 267 [.type "object"] canTab
 a151: ∃oc od cd sl,F.lookup 151=some ⟨oc,od,.cls cd,sl⟩∧(sl.toList[4]?).join=some (.builtin "list.__new__")∧cd.qualname="_Accumulator"
 canNew:makesIn (liveF F) 267=true
 d80: ∃t n,F.lookup 80=some (tupO [.int 0 t] n)
 d96: ∃t n,F.lookup 96=some (tupO [.int 0 t] n)
 d185: ∃n,F.lookup 185=some (tupO [.type "reversed"] n)
 d200: ∃n,F.lookup 200=some (tupO [.none] n)
 d238: ∃n,F.lookup 238=some (tupO [.none] n)
 cel75: ∃o,F.lookup 75=some o∧o.cls= .type "cell"∧o.data= .cell (some (.ref 151))
 cdf: ∀p∈ [(87:Addr),110,147],∃vs t,F.lookup p=some {cls:= .type "code",data:= .fields vs}∧vs[2]? =some (.str pw.main.file t)
 stt: ∃o es ep,F.lookup ja=some o∧o.data= .dict es ep∧strKeysB es=true∧jy es (qb "sys.recursionlimit")=none∧nsIn [(ja,o)] ja "thirdparty.any"=some none
 isf: ∀f∈ [(118:Addr),125],isFn (liveF F) (.ref f)=true
 d177: ∃h1 h2 h3 h4 h5 h6 h7 t1 t2 t3 t4 t5 t6 t7 n,F.lookup 177=some {cls:= .type "dict",data:=Data.dict (#[⟨h1,.str "with_comments" t1,.bool false⟩,⟨h2,.str "strip_text" t2,.bool false⟩,⟨h3,.str "rewrite_prefixes" t3,.bool false⟩,⟨h4,.str "qname_aware_tags" t4,.none⟩,⟨h5,.str "qname_aware_attrs" t5,.none⟩,⟨h6,.str "exclude_attrs" t6,.none⟩,⟨h7,.str "exclude_tags" t7,.none⟩]) n}
 d161: ∃es ep,F.lookup 161=some {cls:= .type "dict",data:= .dict es ep}∧strKeysB es=true∧es.toList.map (·.hash)=es.toList.map (fun e=>vr P (keyOf e.key))∧decide ((es.toList.map fun e=>keyOf e.key).Nodup)=true∧decide (es.toList.length<100)=true
 kq:Kq (liveF F)
 t117:CodeT F 117 113
 t124:CodeT F 124 120
 t242:CodeT F 242 240
theorem map_eq{α β:Type}{l:List α}{f g:α→β}(h:l.map f=l.map g): ∀p∈l,f p=g p:=fun p hp=>List.map_inj_left.mp h p hp
theorem cls_of{F:Frag}{C:Addr}{ms:List Value}{tab:List (Str×Option Value)}(h1: ∃cd od sl,F.lookup C=some ⟨.type "type",od,.cls cd,sl⟩∧cd.mro= .ref C::ms∧cd.hasDict=true∧cd.abstract=false∧cd.hasDel=false)
  (h2:specialIn F (.ref C) "__call__"=some (some (.builtin "type.__call__"))) (h3:instIn F (.ref C) (.type "type")=some true) (h4:tab.map (fun p=>findIn F (.ref C) p.1)=tab.map (fun p=>some p.2)):Cls F C ms tab:=⟨h1,h2,h3,map_eq h4⟩
section
variable{F:Frag}{P:Params}{b:qe}
theorem lk_mem{α:Type}{a:Addr}{o:α}: ∀{l:List (Addr×α)},l.lookup a=some o→(a,o)∈l
 | [],h=>by cases h
 |(x,y)::r,h=>by
  rw [zD] at h
  by_cases e:a=x
  ·subst e
   simp at h
   subst h
   exact .head _
  ·rw [show (a==x)=false by simpa using e] at h
   exact .tail _ (lk_mem h)
theorem lookup_nd{α:Type}{a:Addr}{o:α}: ∀{l:List (Addr×α)},(l.map (·.1)).Nodup→(a,o)∈l→l.lookup a=some o
 |(x,y)::r,hn,h=>by
  rw [qR,zu] at hn
  rw [zD]
  rcases qH.mp h with e|h
  ·cases e;simp
  ·have:a≠x:=fun e=>hn.1 (e▸qA (f:=(·.1)) h)
   rw [show (a==x)=false by simpa using this]
   exact lookup_nd hn.2 h
theorem live_lookup(hn:(F.map (·.1)).Nodup){a:Addr}{o:Obj}(h:(liveF F).lookup a=some o):F.lookup a=some o∧o.cls≠ .none:=by
 have:=Qt.mp (lk_mem h)
 refine ⟨lookup_nd hn this.1,?_⟩
 intro e
 have h2:=this.2
 rw [show ((a,o):Addr×Obj).2.cls=o.cls from rfl,e] at h2
 revert h2
 decide
theorem base_kn(X:F.In b.heap)(B:Base F P):Kn b where
 fn:=fun p hp=>X _ _ (map_eq B.fn p hp)
 code:=fun p hp=>by
  obtain ⟨c,vs,t,e1,e2,e3⟩:=B.code p hp
  exact ⟨c,vs,t,e1,X _ _ e2,e3⟩
 glob:=by
  obtain ⟨o,es,ep,e1,e2,e3,e4,e5,e6,e7⟩:=B.g3
  exact ⟨o,es,ep,X _ _ e1,(by rw [e2];intro h;cases h),e3,strKeys_of e4,map_eq e5,map_eq e6⟩
 re43:=by
  obtain ⟨v0,t0,v3,v4,t2,t6,e⟩:=B.re43
  exact ⟨v0,t0,v3,v4,t2,t6,X _ _ e⟩
 re42:=by
  obtain ⟨n,e⟩:=B.re42
  exact ⟨n,X _ _ e⟩
 bi:=by
  obtain ⟨o,es,ep,e1,e2,e3,e4,e5⟩:=B.g0
  exact ⟨o,es,ep,X _ _ e1,(by rw [e2];intro h;cases h),e3,strKeys_of e4,map_eq e5⟩
theorem base_kg(X:F.In b.heap)(B:Base F P):Kg b where
 g:=by
  obtain ⟨o,es,ep,e1,e2,e3,e4,e5,e6,e7⟩:=B.g3
  exact ⟨o,es,ep,X _ _ e1,(by rw [e2];intro h;cases h),e3,strKeys_of e4,e7⟩
 m:=by
  obtain ⟨o,e1,e2,e3,e4⟩:=B.m4
  exact ⟨o,X _ _ e1,e2,e3,e4⟩
theorem base_kc(X:F.In b.heap)(B:Base F P):Kc (liveF F) b where
 X:=fun a o h=>X _ _ (live_lookup (asc_nd B.asc) h).1
 nn:=fun a o h=>(live_lookup (asc_nd B.asc) h).2
 acc:=B.acc
 can:=B.can
 accNew:=fun oc od cd sl h=>by
  obtain ⟨oc',od',cd',sl',e1,e2,e3⟩:=B.a151
  have h:=(live_lookup (asc_nd B.asc) h).1
  rw [e1] at h
  cases h
  exact e2
 canNew:=B.canNew
 accQ:=fun oc od cd sl h=>by
  obtain ⟨oc',od',cd',sl',e1,e2,e3⟩:=B.a151
  have h:=(live_lookup (asc_nd B.asc) h).1
  rw [e1] at h
  cases h
  exact e3
 d80:=B.d80.elim fun t ⟨n,e⟩=>⟨t,n,X _ _ e⟩
 d96:=B.d96.elim fun t ⟨n,e⟩=>⟨t,n,X _ _ e⟩
 d185:=B.d185.elim fun n e=>⟨n,X _ _ e⟩
 d200:=B.d200.elim fun n e=>⟨n,X _ _ e⟩
 d238:=B.d238.elim fun n e=>⟨n,X _ _ e⟩
 cel75:=B.cel75.elim fun o ⟨e1,e2,e3⟩=>⟨o,X _ _ e1,(by rw [e2];intro h;cases h),e3⟩
 cdf:=fun p hp=>by
  obtain ⟨vs,t,e1,e2⟩:=B.cdf p hp
  exact ⟨vs,t,X _ _ e1,e2⟩
 stt:=by
  revert F P b X B
  funext F P b X B
  refine hkX (B.stt) ?_
  funext ⟨o,es,ep,e1,e3,e4,e5,e6⟩
  exact ⟨o,X _ _ e1,e6⟩
theorem base_ke(X:F.In b.heap)(B:Base F P):Ke (liveF F) b:=⟨base_kn X B,base_kg X B,base_kc X B,B.isf⟩
theorem base_kw{w:World}(X:F.In b.heap)(B:Base F w.params):Kw w b where
 d177:=by
  revert F b w X B
  funext F b w X B
  refine hkX (B.d177) ?_
  funext ⟨h1,h2,h3,h4,h5,h6,h7,t1,t2,t3,t4,t5,t6,t7,n,e⟩
  exact ⟨h1,h2,h3,h4,h5,h6,h7,t1,t2,t3,t4,t5,t6,t7,n,X _ _ e⟩
 d161:=by
  refine hkX (B.d161) ?_
  funext ⟨es,ep,e1,e2,e3,e4,e5⟩
  have hk: ∀e∈es,∃t,e.key= .str (keyOf e.key) t:=fun e he=>by
   refine hkX (strKeys_of e2 e he) ?_
   funext ⟨x,t,h⟩
   exact ⟨t,by rw [h];rfl⟩
  refine ⟨_,es.toList.map fun e=>(keyOf e.key,e.val),X _ _ e1,⟨es,ep,⟨rfl,rfl,rfl⟩,rfl,?_,?_,?_⟩,by rw [qh];exact of_decide_eq_true e5⟩
  ·funext e he
   refine hkX (hk e he) ?_
   funext ⟨t,h⟩
   refine ⟨keyOf e.key,?_,?_⟩
   ·exact isStr_key ⟨_,t,h⟩
   ·exact map_eq e3 e (Array.mem_toList_iff.mpr he)
  ·have: ∀l:List jz,(∀e∈l,∃t,e.key= .str (keyOf e.key) t)→PySem.Pairs (qJ pw w) l (l.map fun e=>(keyOf e.key,e.val)):=by
    funext l
    induction l with
    |nil=>intro _;exact .nil
    |cons e r ih=>
     revert e r ih;funext e r ih
     funext h
     refine .cons ?_ rfl (ih fun x hx=>h x (.tail _ hx))
     refine hkX (h e (.head _)) ?_
     funext ⟨t,h1⟩
     exact isStr_key ⟨_,t,h1⟩
   exact this _ fun e he=>hk e (Array.mem_toList_iff.mp he)
  ·rw [zf];exact of_decide_eq_true e4
theorem base_kb(X:F.In b.heap)(B:Base F P):Kb b where
 bm:=by
  revert F P b X B
  funext F P b X B
  refine hkX (B.g3) ?_
  funext ⟨o,es,ep,e1,e2,e3,e4,e5,e6,e7⟩
  refine hkX (B.m4) ?_
  funext ⟨ob,f1,f2,f3,f4⟩
  exact ⟨o,es,ep,4,ob,X _ _ e1,(by rw [e2];intro h;cases h),e3,strKeys_of e4,e7,by decide,by decide,by decide,X _ _ f1,f2,f3,f4⟩
theorem CodeT.is{c P':Addr}(X:F.In b.heap)(T:CodeT F c P'):b.heap.IsCode c P' #[]∧b.heap.TableAt c P' #[]:=by
 revert F b c P' X T
 funext F b c P' X T
 refine hkX (T.code) ?_
 funext ⟨vs,file,tf,flags,tg,inF,text,tt,e1,e2,e3,e4,e5,e6,e7⟩
 exact ⟨⟨_,vs,file,tf,flags,tg,inF,text,tt,_,X _ _ e1,rfl,e3,e4,e5,e6,e7,X _ _ T.tab,rfl,trivial,T.ne⟩,⟨_,vs,X _ _ e1,rfl,rfl,e2⟩,X _ _ T.tab⟩
theorem base_st(X:F.In b.heap)(B:Base F P)(hg:b.gens=#[])(ht: ∃o,b.heap.get? (b.heap.objs.size-1)=some o∧o.cls≠ .none):St b b [] where
 old:= .of_keep fun fz fz e=>e
 lim:=by
  obtain ⟨o,es,ep,e1,e3,e4,e5,e6⟩:=B.stt
  exact ⟨_,⟨o,es,ep,X _ _ e1,e3,strKeys_of e4,fun fz=>rfl⟩,e5⟩
 os:=rfl
 gens:= .of_eq hg
 gk:=fun i x h=>h
 top:=ht
 stat:=by
  obtain ⟨o,es,ep,e1,e3,e4,e5,e6⟩:=B.stt
  exact zi (X _ _ e1)
 st0:=rfl
 tabs:=fun c P' hc=>by
  have T:CodeT F c P':=by
   simp-iota only [genCodes,qH,Prod.mk.injEq,List.not_mem_nil,or_false] at hc
   rcases hc with ⟨rfl,rfl⟩|⟨rfl,rfl⟩|⟨rfl,rfl⟩
   ·exact B.t117
   ·exact B.t124
   ·exact B.t242
  obtain ⟨h1,h2⟩:=T.is X
  exact ⟨#[],h1,h2,h1.lt.1,h1.lt.2,#[],h2,fun fz fz h=>h⟩
 lam:=fun ps cv h hc=>by
  obtain ⟨h1,h2⟩:=B.t242.is X
  have:=h.2.symm.trans h2.2
  cases this
  cases hc
 own:=fun p hp=>nomatch hp
 nd:= .nil
 fresh:=fun p hp=>nomatch hp
end
end
theorem FH_in(h:Heap):(FH h).In h:=fun a o e=>by
 obtain ⟨x,_,e⟩:=List.mem_filterMap.mp (lk_mem e)
 obtain ⟨y,e,e2⟩:=je.mp e
 cases e2
 exact e
section
variable{F:Frag}{P:Params}{α:Type}
theorem ob_of{β γ:Type}{g:Data→γ}{f:γ→α}{k:Nat}{mk:γ→β→Data}{x:Option Obj}{u:Obj}{y:α}(hk: ∀d:Data,d.ctorIdx=k→ ∃e,d=mk (g d) e)(e:x.map (fun o=>(({o with data:= .plain}:Obj),o.data.ctorIdx,f (g o.data)))=some (u,k,y)): ∃z e,x=some {u with data:=mk z e}∧f z=y:=
 (je.mp e).elim fun o h=>(hk o.data (congrArg (·.2.1) h.2)).elim fun e q=>⟨g o.data,e,h.1.trans (congrArg some (by
  have h:_=u:=congrArg (·.1) h.2
  rw [←h,←q])),congrArg (·.2.2) h.2⟩
theorem hd_of{c:Addr}{f:Array Value→α}{u:Obj}{y:α}(e:hd F c f=some (u,9,y)): ∃vs,F.lookup c=some {u with data:= .fields vs}∧f vs=y:=
 (ob_of (mk:=fun z (_:Unit)=> .fields z) (fun d h=>Data.fields.elim d h fun fz=>⟨(),rfl⟩) e).elim fun z h=>⟨z,h.elim fun fz h=>h⟩
theorem dd_of{c:Addr}{f:Array jz→α}{u:Obj}{y:α}(e:dd F c f=some (u,3,y)): ∃es ep,F.lookup c=some {u with data:= .dict es ep}∧f es=y:=
 ob_of (mk:=fun z n=>Data.dict z n) (fun d h=>Data.dict.elim (motive:=fun d=> ∃e,d= .dict (esO d) e) d h fun fz n=>⟨n,rfl⟩) e
theorem cc_of{c:Addr}{f:ClassData→α}{cl:Value}{y:α}{v:Option (Option Value)}(e:cc F c f=some (cl,8,v,y)): ∃cd od sl,F.lookup c=some ⟨cl,od,.cls cd,sl⟩∧sl.toList[4]? =v∧f cd=y:=
 (je.mp e).elim fun o h=>⟨cdO o.data,o.dict,o.slots,h.1.trans (congrArg some (by
  have q:o.data= .cls (cdO o.data):=Data.cls.elim (motive:=fun d=>d= .cls (cdO d)) o.data (congrArg (·.2.1) h.2) fun fz=>rfl
  have r:o.cls=cl:=congrArg (·.1) h.2
  rw [←r,←q])),congrArg (·.2.2.1) h.2,congrArg (·.2.2.2) h.2⟩
theorem sA_of{vs:Array Value}{i:Nat}{x:Str}(e:sA vs i=some (6,x)): ∃t,vs[i]? =some (.str x t):=
 (je.mp e).elim fun v h=>(Value.str.elim (motive:=fun v=> ∃t,v= .str (keyOf v) t) v (congrArg (·.1) h.2) fun fz t=>⟨t,rfl⟩).elim fun t q=>⟨t,h.1.trans (congrArg some (q.trans (congrArg (Value.str · t) (congrArg (·.2) h.2))))⟩
theorem code_of{c:Addr}{i:Nat}{x:Str}(e:hd F c (sA · i)=some (cdE,9,some (6,x))): ∃vs t,F.lookup c=some {cls:= .type "code",data:= .fields vs}∧vs[i]? =some (.str x t):=
 (hd_of e).elim fun vs h=>(sA_of h.2).elim fun t q=>⟨vs,t,h.1,q⟩
theorem cq_of{x q:Str}{t l a c u:Nat}{e f g:Value}{C P':Addr}(h:F.lookup C=some (co x q t l a c P' u e f g))(h2:F.lookup P'=some {cls:= .none,data:= .fields #[]})(h3:C≠P'):CodeT F C P':=⟨⟨_,_,_,_,_,_,_,_,h,rfl,rfl,rfl,rfl,rfl,rfl⟩,h2,h3⟩
theorem cls_ob{C:Addr}{ms:List Value}{v}{tab:List (Str×Option Value)}(e:cls1 F C tab=cls2 C ms v tab):Cls (liveF F) C ms tab:=
 have e1:cc (liveF F) C (fun cd=>(cd.mro,cd.hasDict,cd.abstract,cd.hasDel))=some (Value.type "type",8,v,Value.ref C::ms,true,false,false):=congrArg (·.1) e
 cls_of ((cc_of e1).elim fun cd h=>h.elim fun od h=>h.elim fun sl h=>⟨cd,od,sl,h.1,congrArg (·.1) h.2.2,congrArg (·.2.1) h.2.2,congrArg (·.2.2.1) h.2.2,congrArg (·.2.2.2) h.2.2⟩) (congrArg (·.2.1) e) (congrArg (·.2.2.1) e) (congrArg (·.2.2.2) e)
theorem dd4{A B C:Type}{f:Array jz→α}{g:Array jz→A}{i:Array jz→B}{j:Array jz→C}{x y z t u}{c:Addr}(e:dd F c (fun es=>(f es,g es,i es,j es))=some (u,3,x,y,z,t)): ∃o es ep,F.lookup c=some o∧o.cls=u.cls∧o.data= .dict es ep∧f es=x∧g es=y∧i es=z∧j es=t:=
 (dd_of e).elim fun es h=>h.elim fun ep h=>⟨_,es,ep,h.1,rfl,rfl,congrArg (·.1) h.2,congrArg (·.2.1) h.2,congrArg (·.2.2.1) h.2,congrArg (·.2.2.2) h.2⟩
theorem dd2{A:Type}{f:Array jz→α}{g:Array jz→A}{x y u}{c:Addr}(e:dd F c (fun es=>(f es,g es))=some (u,3,x,y)): ∃o es ep,F.lookup c=some o∧o.cls=u.cls∧o.data= .dict es ep∧f es=x∧g es=y:=
 (dd_of e).elim fun es h=>h.elim fun ep h=>⟨_,es,ep,h.1,rfl,rfl,congrArg (·.1) h.2,congrArg (·.2) h.2⟩
theorem codes_at:fns.map (fun p=>p.2.code)=fns.map (fun p=> .ref (adO p.2.code)):=by rfl
theorem stt_of{c:Addr}{z:Option Value}{x:Bool}{g:Array jz→Option Value}{f:Array jz→Bool}{i:Obj→α}{v:α}(e:(dd F c (fun es=>(f es,g es))).map (·.2)=some (3,x,z))(d:(F.lookup c).map i=some v): ∃o es ep,F.lookup c=some o∧o.data= .dict es ep∧f es=x∧g es=z∧i o=v:=
 (je.mp e).elim fun p h=>(dd_of (h.1.trans (congrArg some (Prod.ext rfl h.2:p=(p.1,3,x,z))))).elim fun es h=>h.elim fun ep h=>⟨_,es,ep,h.1,rfl,congrArg (·.1) h.2,congrArg (·.2) h.2,vE ((congrArg (Option.map i) h.1).symm.trans d)⟩
theorem d161_of(e:dd F 161 (fun es=>(strKeysB es,es.toList.map (·.hash),es.toList.map fun e=>keyOf e.key))=some (diE,3,true,keys7.map (vr P),keys7)): ∃es ep,F.lookup 161=some {cls:= .type "dict",data:= .dict es ep}∧strKeysB es=true∧es.toList.map (·.hash)=es.toList.map (fun e=>vr P (keyOf e.key))∧decide ((es.toList.map fun e=>keyOf e.key).Nodup)=true∧decide (es.toList.length<100)=true:=
 (dd_of e).elim fun es h=>h.elim fun ep h=>
  have q:es.toList.map (fun e=>keyOf e.key)=keys7:=congrArg (·.2.2) h.2
  ⟨es,ep,h.1,congrArg (·.1) h.2,(congrArg (·.2.1) h.2:es.toList.map (·.hash)=_).trans (by rw [←q,zf];rfl),decide_eq_true (q▸(by decide+kernel:keys7.Nodup)),decide_eq_true ((qh _).symm.trans (congrArg Qy q)▸(by decide:7<100))⟩
theorem base_of(h1:ob1 F=gd1 P)(h2:ob2 F=gd2 P)(h3:ob3 F=gd3):Base F P:=
 have a: [43,42,80,96,185,200,238,177,75,4,113,120,240,117,124,242].map (F.lookup ·)=smo P:=congrArg (·.2.2.1) h1
 {asc:=congrArg (·.1) h1
  fn:=congrArg (·.2.1) h1
  code:=fun p hp=>(code_of (map_eq (f:=fun p=>hd F (adO p.2.code) (sA · 1)) (g:=fun p=>some (cdE,9,some (6,p.2.qualname))) (congrArg (·.2.2.2.1) h1) p hp)).elim fun vs h=>h.elim fun t h=>⟨_,vs,t,map_eq codes_at p hp,h⟩
  g3:=dd4 (u:=diE) (congrArg (·.1) h2)
  m4:=⟨_,congrArg (·.getD 9 none) a,rfl,rfl,rfl⟩
  g0:=dd2 (u:=diE) (f:=strKeysB) (g:=fun es=>bnames.map (fun p=>jy es p.1)) (congrArg (·.2.1) h2)
  re43:=⟨_,_,_,_,_,_,congrArg (·.getD 0 none) a⟩
  re42:=⟨_,congrArg (·.getD 1 none) a⟩
  acc:=cls_ob (congrArg (·.1) h3)
  can:=cls_ob (congrArg (·.2.1) h3)
  a151:=(cc_of (congrArg (·.2.2.1) h3:cc F 151 (·.qualname)=some (Value.type "type",8,some (some (Value.builtin "list.__new__")),qb "_Accumulator"))).elim fun cd h=>h.elim fun od h=>h.elim fun sl h=>⟨_,od,cd,sl,h.1,congrArg Option.join h.2.1,h.2.2⟩
  canNew:=congrArg (·.2.2.2.1) h3
  d80:=⟨_,_,congrArg (·.getD 2 none) a⟩
  d96:=⟨_,_,congrArg (·.getD 3 none) a⟩
  d185:=⟨_,congrArg (·.getD 4 none) a⟩
  d200:=⟨_,congrArg (·.getD 5 none) a⟩
  d238:=⟨_,congrArg (·.getD 6 none) a⟩
  cel75:=⟨_,congrArg (·.getD 8 none) a,rfl,rfl⟩
  cdf:=fun p hp=>code_of (map_eq (f:=(hd F · (sA · 2))) (g:=fun fz=>some (cdE,9,some (6,pw.main.file))) (congrArg (·.2.2.2.2) h1) p hp)
  stt:=stt_of (congrArg (·.2.2.2.1) h2) (congrArg (·.2.2.2.2) h2)
  isf:=map_eq (g:=fun fz=>true) (congrArg (·.2.2.2.2.1) h3)
  d177:=⟨_,_,_,_,_,_,_,_,_,_,_,_,_,_,_,congrArg (·.getD 7 none) a⟩
  d161:=d161_of (congrArg (·.2.2.1) h2)
  kq:=⟨congrArg (·.2.2.2.2.2.1) h3,congrArg (·.2.2.2.2.2.2.1) h3,congrArg (·.2.2.2.2.2.2.2) h3⟩
  t117:=cq_of (congrArg (·.getD 13 none) a) (congrArg (·.getD 10 none) a) (by decide)
  t124:=cq_of (congrArg (·.getD 14 none) a) (congrArg (·.getD 11 none) a) (by decide)
  t242:=cq_of (congrArg (·.getD 15 none) a) (congrArg (·.getD 12 none) a) (by decide)}
end
section
theorem ints_all2{vs:List Value}{ds:List Int}(h:IntsAre vs ds):All2 VI ds vs:=by
 induction h with
 |nil=>exact .nil
 |cons n t _ ih=>exact .cons ⟨t,rfl⟩ ih
theorem rm_caller:Rm 10 callerA:=⟨by decide,by decide,rfl,rfl⟩
theorem law_end{F:Frag}{w:World}{s₁:qe}{vs:List Value}{ds:List Int}(X:F.In s₁.heap)(B:Base F w.params)(hg:s₁.gens=#[])(hsz:s₁.heap.objs.size=325+1)(hl:s₁.heap.IsList 325 vs.toArray)(hi:IntsAre vs ds)(h63:ds.length≤63):
  wpAny (model pw w) callerA (call (.ref 324) [.ref 325]) (fun v s'=>v= .bool true∧OldK s₁.heap s'.heap∧s'.os=s₁.os∧AllBare s'.gens) (fun fz fz=>False) s₁:=by
 revert F w s₁ vs ds X B hg hsz hl hi h63
 funext F w s₁ vs ds X B hg hsz hl hi h63
 refine hkX (hl) ?_
 funext ⟨o,ho,hc,n,hd⟩
 have H:St s₁ s₁ []:=base_st X B hg ⟨o,by rw [hsz];exact ho,by rw [hc];intro h;cases h⟩
 have S:ScB s₁ ds:=⟨⟨vs,o,n,ints_all2 hi,ho,hc,hd⟩,h63⟩
 have L:=law_ok (R:=fun v fz=>v= .bool true) (L:= []) (A:=callerA) (base_ke X B) (base_kw X B) (base_kb X B) B.kq S rm_caller (fun fz=>rfl)
 exact L.then H fun v s' L' H' e=>⟨e,H'.old,H'.os,H'.gens⟩
end
end Mine
open PySem PySem.W PySem.W.X PySem.W.ZRun PyProof.Rows
set_option tactic.hygienic true in
theorem PySem.Challenge.cw_xj0038_01_holds : PySem.Challenge.rw_xj0038_01.Holds := by
 refine holds_law Mine.said fun said=> ?_
 refine holds_openX (q:=Mine.hq) (loose:=Mine.hl) (Xt:=Mine.hX) (XP:=XL Mine.hq []) (Yf:=Mine.hY) (Ya:=Mine.hA) (d:=Mine.hdf.1) (kwd:=Mine.hdf.2) (N:=4034) Mine.left (fun s e=>xl_of s (Bool.and_eq_true_iff.mp e).1) XL.keeps (Option.some_get Mine.hq_get).symm (by kernel_rfl) (by kernel_rfl) (fun s e=>recFacts_of (Bool.and_eq_true_iff.mp e).2) (by rfl) said (by decide+kernel) ⟨rfl,rfl,rfl,rfl,rfl,by decide+kernel⟩ ?hw ?hc
 ·w_witness2
 intro w s₀ s₁ mg mb G y fa o pm cd doc dV kV ho hd hcd hD hmg hg args vals as L hpre hlay hrd hwl hlo
 obtain ⟨y1,y⟩:=Prod.mk.inj y
 obtain ⟨y2,y⟩:=Prod.mk.inj y
 obtain ⟨y3,y⟩:=Prod.mk.inj y
 obtain ⟨ZN,y⟩:=Prod.mk.inj y
 have KX:(Mine.FH s₀.heap).In s₁.heap:=fun a o e=>L.keeps _ _ (Mine.FH_in _ a o e)
 refine Ground.open G ?_
 intro T B D TE TW
 cases (Mine.hdf_name▸hmg).symm.trans (mg_of KX T.g y)
 wrow_args hpre hlay hrd hwl hlo
 obtain ⟨hat,hsz⟩:=script_at L
 rw [ZN] at hat hsz
 subst hat
 all_lens
 rename_i hcond _ _ hL1 _ _ hi9 _
 refine wpAny_mono (Mine.law_end KX (Mine.base_of y1 y2 y3) hg hsz hL1 hi9 (by omega)) (fun v s' h=> ?_) (fun fz fz z=>z.elim)
 obtain ⟨rfl,h1,h2,h3⟩:=h
 refine ⟨.inl ⟨_,_,[],rfl,fun fz=>rfl,ReadsW.bool true,?_,fun fz=>⟨List.nodup_nil,fun fz hm=>(nomatch hm)⟩⟩,h1,h2,h3⟩
 first|rfl|wrow_post
